import JvmDerived
import JvmDerived.Pilot.@@N@@Statement
import JvmDerived.Pilot.@@N@@Code
set_option linter.unusedVariables false
set_option linter.unusedSimpArgs false
namespace Jvm.Pilot.@@N@@
open Jvm Jvm.ClassFile Sem Op Lib Jvm.Free Jvm.Stand Jvm.LawKit Jvm.RoadKit Bundle Jvm.Pilot.@@N@@.Jvm.D
abbrev o_K : Type := Program × Launch × Env × Room × State × MethodId × Array Value × List Frame × Method × Code × State × Nat
/-- from heap h, with k cells and n slots made so far, at pc with locals Ls and stack St, the invocation comes to its end, and Q holds of what it returns and of the heap -/
def o_Go (κ : o_K) (Q : Option Value → Heap → Prop) (h : Heap) (k n pc : Nat) (Ls : List Slot) (St : List Value) : Prop :=
  match κ with
  | (p, l, e, R, s, m, args, below, meth, c, Z, n0) =>
    ∀ (T : State) (locs : List Loc), Stand p l e R s m args below meth c T locs k n → Fr n0 locs → T.heap = h →
      ∃ (s₂ : State) (o : Outcome), Steps p.tables e below (T.setTop (mkF m pc Ls.toArray St)) s₂ ∧ s₂.status = .running ∧ Ended s₂ below o ∧
        ∃ v L, o = .returned v ∧ (Q v s₂.heap ∧ Fr n0 L) ∧ FrameEnd s o s₂ L R.cells R.slots
/-- the standing facts of one invocation of y -/
def o_Bo (κ : o_K) (l : Launch) (Z : State) (n0 : Nat) (R : Room) (y : MethodName) (bytes : ByteArray) (ml : Nat) (ret : Option FieldType) : Prop :=
  ∃ (p : Program) (e : Env) (s : State) (m : MethodId) (args : Array Value) (below : List Frame) (meth : Method) (c : Code), κ = (p, l, e, R, s, m, args, below, meth, c, Z, n0) ∧ p.tables.exec = Jvm.exec ∧ Z.Warmed39 s.vm ∧ c.code = bytes ∧ c.maxLocals = ml ∧ s.vm.findClass y.cls = some m.cls ∧ meth.sig.returnType = ret ∧ meth.locks = false ∧ meth.name = y.name
/-- the contract of y at the arguments 'as' and the heap h -/
def o_C (l : Launch) (Z : State) (n0 : Nat) (y : MethodName) (bytes : ByteArray) (ml : Nat) (ret : Option FieldType) (rm : Room) (as : List Value) (h : Heap) (Q : Option Value → Heap → Prop) : Prop :=
  ∀ ws : List Jvm.Cond, MetFree l y (head1 (Jvm.Cond.code y bytes ml ret :: ws) rm) (fun a U => a = as.toArray ∧ Z.Warmed39 U.vm ∧ U.heap = h) (fun _ _ _ _ _ => True) (fun _ U o U' => ∃ v L, o = .returned v ∧ (Q v U'.heap ∧ Fr n0 L) ∧ FrameEnd U o U' L rm.cells rm.slots)
theorem o_lt {a b : Nat} (h : a < b) : a < b := h
theorem o_le {a b : Nat} (h : a ≤ b) : a ≤ b := h
theorem o_ne {a b : Nat} (h : a ≠ b) : a ≠ b := h
section Fw
variable {κ : o_K} {l : Launch} {Z : State} {n0 : Nat} {R : Room} {y : MethodName} {bytes : ByteArray} {ml : Nat} {ret : Option FieldType} {Q : Option Value → Heap → Prop} {h : Heap} {k n pc : Nat} {Ls : List Slot} {St : List Value} {a0 : Array Value}
theorem o_body {rm : Room} {as : List Value} (hpn : plainFor y = true) (hef : argsToLocals as.toArray ml = Ls.toArray) (H : ∀ κ, o_Bo κ l Z n0 rm y bytes ml ret → o_Go κ Q h 0 0 0 Ls []) : o_C l Z n0 y bytes ml ret rm as h Q := by
  intro ws
  refine MetFree.of_bodySF hpn hisR ?_
  intro p e s m args below meth c s₁ Bd hml0 hP hK
  obtain ⟨rfl, hZ, hh⟩ := hP
  have X0 : Stand p l e rm s m as.toArray below meth c s₁ [] 0 0 := Stand.of_body Bd
  have e0 : s₁.heap = h := by rw [← hh, Bd.state]; rfl
  have hown := findClass_of_methodNamed Bd.named
  have hnm := (name_of_methodNamed Bd.named Bd.method).1
  obtain ⟨s₂, o, st, r1, r2, v, L, rfl, ⟨q, N⟩, fe⟩ := H (p, l, e, rm, s, m, as.toArray, below, meth, c, Z, n0) ⟨p, e, s, m, _, below, meth, c, rfl, Bd.exec, hZ, Bd.bytes, hml0, hown, Bd.returns, Bd.notSynchronized, hnm⟩ s₁ [] X0 (Fr.nil _) e0
  refine ⟨s₂, _, ?_, r1, r2, v, L, rfl, ⟨q, N⟩, fe⟩
  exact castTop (g' := mkF m 0 Ls.toArray []) (by unfold entryFrame; rw [hef]) st
theorem o_C.imp {rm : Room} {as : List Value} {Q' : Option Value → Heap → Prop} (C : o_C l Z n0 y bytes ml ret rm as h Q) (H : ∀ v h', Q v h' → Q' v h') : o_C l Z n0 y bytes ml ret rm as h Q' := by
  intro ws p e ha hc hk s m args below hf happ hP hK
  obtain ⟨n, o, h1, h2, h3, v, L, e1, ⟨q, N⟩, fe⟩ := C ws p e ha hc hk s m args below hf happ hP hK
  exact ⟨n, o, h1, h2, h3, v, L, e1, ⟨H _ _ q, N⟩, fe⟩
theorem o_imp {Q' : Option Value → Heap → Prop} (H : ∀ v h', Q v h' → Q' v h') (G : o_Go κ Q h k n pc Ls St) : o_Go κ Q' h k n pc Ls St := by
  obtain ⟨p, l, e, R, s, m, args, below, meth, c, Z, n0⟩ := κ
  intro T locs X N eT
  obtain ⟨s₂, o, st, r1, r2, v, L, e1, ⟨q, N⟩, fe⟩ := G T locs X N eT
  exact ⟨s₂, o, st, r1, r2, v, L, e1, ⟨H _ _ q, N⟩, fe⟩
theorem o_mono {k' n' : Nat} (hk : k ≤ k') (hn : n ≤ n') (G : o_Go κ Q h k' n' pc Ls St) : o_Go κ Q h k n pc Ls St := by
  obtain ⟨p, l, e, R, s, m, args, below, meth, c, Z, n0⟩ := κ
  intro T locs X N eT
  exact G T locs (X.more hk hn) N eT
theorem o_sim (B : o_Bo κ l Z n0 R y bytes ml ret) {pc' : Nat} {Ls' : List Slot} {St' : List Value} (f : ∀ (p : Program) (e : Env) (m : MethodId) (below : List Frame) (c : Code) (T target : State), At T m c below → p.tables.exec = Jvm.exec → c.code = bytes → Steps p.tables e below (T.setTop (mkF m pc' Ls'.toArray St')) target → Steps p.tables e below (T.setTop (mkF m pc Ls.toArray St)) target) (K : o_Go κ Q h k n pc' Ls' St') : o_Go κ Q h k n pc Ls St := by
  obtain ⟨p, e, s, m, args, below, meth, c, rfl, hx, hZ, hby, hml, hown, hret, hlk, hnm⟩ := B
  intro T locs X N eT
  obtain ⟨s₂, o, st, r⟩ := K T locs X N eT
  exact ⟨s₂, o, f p e m below c T s₂ X.here hx hby st, r⟩
theorem o_get {i : Nat} {x : Slot} (hl : Ls[i]? = some x) : Ls.toArray[i]? = some x := by simpa using hl
def o_ok1 : Slot → Bool
  | .unset => true
  | .val w => w.category == 1
  | .second => false
theorem o_ok1_spec {o : Slot} (ho : o_ok1 o = true) : o = .unset ∨ ∃ w, o = .val w ∧ w.category = 1 := by
  cases o <;> simp [o_ok1] at ho ⊢; exact ho
theorem o_store1 {i : Nat} {o : Slot} {v : Value} (hold : Ls[i]? = some o) (ho : o_ok1 o = true) (hv : v.category = 1) : storeLocals Ls.toArray i v = some (Ls.set i (.val v)).toArray := by
  rw [XS.store1 (o_get hold) (o_ok1_spec ho) hv]; simp
def o_okl : Slot → Slot → Bool
  | .second, _ => false
  | _, .val w => w.category == 1
  | _, _ => true
theorem o_storel {i : Nat} {o o' : Slot} {v : Value} (hold : Ls[i]? = some o) (hold' : Ls[i + 1]? = some o') (ho : o_okl o o' = true) (hv : v.category = 2) : storeLocals Ls.toArray i v = some ((Ls.set i (.val v)).set (i + 1) .second).toArray := by
  obtain ⟨hi, hget⟩ := List.getElem?_eq_some_iff.mp hold
  obtain ⟨hi', hget'⟩ := List.getElem?_eq_some_iff.mp hold'
  have hne : i ≠ i + 1 := by omega
  have hne' : i + 1 ≠ i := by omega
  cases o with
  | second => simp [o_okl] at ho
  | unset =>
    cases o' with
    | val w =>
      have hw : w.category = 1 := by simpa [o_okl] using ho
      simp [storeLocals, storeSelf, setAt, hi, hi', hget, hget', hv, hw, List.getElem?_set, hne, hold, hold']
    | _ => simp [storeLocals, storeSelf, setAt, hi, hi', hget, hget', hv, List.getElem?_set, hne, hold, hold']
  | val u =>
    by_cases hu : u.category = 2
    · cases o' with
      | val w =>
        have hw : w.category = 1 := by simpa [o_okl] using ho
        simp [storeLocals, storeSelf, setAt, hi, hi', hget, hget', hv, hu, hw, List.getElem?_set, hne, hne', hold, hold', List.set_comm _ _ hne', List.set_set]
      | _ => simp [storeLocals, storeSelf, setAt, hi, hi', hget, hget', hv, hu, List.getElem?_set, hne, hne', hold, hold', List.set_comm _ _ hne', List.set_set]
    · cases o' with
      | val w =>
        have hw : w.category = 1 := by simpa [o_okl] using ho
        simp [storeLocals, storeSelf, setAt, hi, hi', hget, hget', hv, hu, hw, List.getElem?_set, hne, hold, hold']
      | _ => simp [storeLocals, storeSelf, setAt, hi, hi', hget, hget', hv, hu, List.getElem?_set, hne, hold, hold']
theorem o_iloadN (B : o_Bo κ l Z n0 R y bytes ml ret) {i : Fin 4} {x : Int32} (hd : decode bytes pc = .ok (.iload_n i, 1)) (hl : Ls[i.val]? = some (.val (.int x))) (K : o_Go κ Q h k n (pc + 1) Ls (.int x :: St)) : o_Go κ Q h k n pc Ls (St) := o_sim B (fun p e m below c T target X hx hby st => XS.iloadN X hx rfl (hb hby hd) (o_get hl) st) K
theorem o_iload (B : o_Bo κ l Z n0 R y bytes ml ret) {i : Nat} {x : Int32} (hd : decode bytes pc = .ok (.iload i, 2)) (hl : Ls[i]? = some (.val (.int x))) (K : o_Go κ Q h k n (pc + 2) Ls (.int x :: St)) : o_Go κ Q h k n pc Ls (St) := o_sim B (fun p e m below c T target X hx hby st => XS.iload X hx rfl (hb hby hd) (o_get hl) st) K
theorem o_lloadN (B : o_Bo κ l Z n0 R y bytes ml ret) {i : Fin 4} {x : Int64} (hd : decode bytes pc = .ok (.lload_n i, 1)) (hl : Ls[i.val]? = some (.val (.long x))) (K : o_Go κ Q h k n (pc + 1) Ls (.long x :: St)) : o_Go κ Q h k n pc Ls (St) := o_sim B (fun p e m below c T target X hx hby st => XT.lloadN X hx rfl (hb hby hd) (o_get hl) st) K
theorem o_lload (B : o_Bo κ l Z n0 R y bytes ml ret) {i : Nat} {x : Int64} (hd : decode bytes pc = .ok (.lload i, 2)) (hl : Ls[i]? = some (.val (.long x))) (K : o_Go κ Q h k n (pc + 2) Ls (.long x :: St)) : o_Go κ Q h k n pc Ls (St) := o_sim B (fun p e m below c T target X hx hby st => XT.lload X hx rfl (hb hby hd) (o_get hl) st) K
theorem o_aloadN (B : o_Bo κ l Z n0 R y bytes ml ret) {i : Fin 4} {v : Value} (hd : decode bytes pc = .ok (.aload_n i, 1)) (hl : Ls[i.val]? = some (.val v)) (hv : v.isRef = true) (K : o_Go κ Q h k n (pc + 1) Ls (v :: St)) : o_Go κ Q h k n pc Ls (St) := o_sim B (fun p e m below c T target X hx hby st => XS.aloadN X hx rfl (hb hby hd) (o_get hl) hv st) K
theorem o_aload (B : o_Bo κ l Z n0 R y bytes ml ret) {i : Nat} {v : Value} (hd : decode bytes pc = .ok (.aload i, 2)) (hl : Ls[i]? = some (.val v)) (hv : v.isRef = true) (K : o_Go κ Q h k n (pc + 2) Ls (v :: St)) : o_Go κ Q h k n pc Ls (St) := o_sim B (fun p e m below c T target X hx hby st => XS.aload X hx rfl (hb hby hd) (o_get hl) hv st) K
theorem o_istoreN (B : o_Bo κ l Z n0 R y bytes ml ret) {i : Fin 4} {x : Int32} {o : Slot} (hd : decode bytes pc = .ok (.istore_n i, 1)) (hold : Ls[i.val]? = some o) (ho : o_ok1 o = true) (K : o_Go κ Q h k n (pc + 1) (Ls.set i.val (.val (.int x))) (St)) : o_Go κ Q h k n pc Ls (.int x :: St) := o_sim B (fun p e m below c T target X hx hby st => XS.istoreN X hx rfl (hb hby hd) rfl (o_store1 hold ho rfl) st) K
theorem o_istore (B : o_Bo κ l Z n0 R y bytes ml ret) {i : Nat} {x : Int32} {o : Slot} (hd : decode bytes pc = .ok (.istore i, 2)) (hold : Ls[i]? = some o) (ho : o_ok1 o = true) (K : o_Go κ Q h k n (pc + 2) (Ls.set i (.val (.int x))) (St)) : o_Go κ Q h k n pc Ls (.int x :: St) := o_sim B (fun p e m below c T target X hx hby st => XS.istore X hx rfl (hb hby hd) rfl (o_store1 hold ho rfl) st) K
theorem o_astoreN (B : o_Bo κ l Z n0 R y bytes ml ret) {i : Fin 4} {v : Value} {o : Slot} (hd : decode bytes pc = .ok (.astore_n i, 1)) (hv : v.isRef = true) (hold : Ls[i.val]? = some o) (ho : o_ok1 o = true) (K : o_Go κ Q h k n (pc + 1) (Ls.set i.val (.val v)) (St)) : o_Go κ Q h k n pc Ls (v :: St) := o_sim B (fun p e m below c T target X hx hby st => XS.astoreN X hx rfl (hb hby hd) rfl hv (o_store1 hold ho (by cases v <;> simp [Value.isRef] at hv <;> rfl)) st) K
theorem o_astore (B : o_Bo κ l Z n0 R y bytes ml ret) {i : Nat} {v : Value} {o : Slot} (hd : decode bytes pc = .ok (.astore i, 2)) (hv : v.isRef = true) (hold : Ls[i]? = some o) (ho : o_ok1 o = true) (K : o_Go κ Q h k n (pc + 2) (Ls.set i (.val v)) (St)) : o_Go κ Q h k n pc Ls (v :: St) := o_sim B (fun p e m below c T target X hx hby st => XS.astore X hx rfl (hb hby hd) rfl hv (o_store1 hold ho (by cases v <;> simp [Value.isRef] at hv <;> rfl)) st) K
theorem o_lstoreN (B : o_Bo κ l Z n0 R y bytes ml ret) {i : Fin 4} {x : Int64} {o o2 : Slot} (hd : decode bytes pc = .ok (.lstore_n i, 1)) (hold : Ls[i.val]? = some o) (hold2 : Ls[i.val + 1]? = some o2) (ho : o_okl o o2 = true) (K : o_Go κ Q h k n (pc + 1) ((Ls.set i.val (.val (.long x))).set (i.val + 1) .second) (St)) : o_Go κ Q h k n pc Ls (.long x :: St) := o_sim B (fun p e m below c T target X hx hby st => XT.lstoreN X hx rfl (hb hby hd) rfl (o_storel hold hold2 ho rfl) st) K
theorem o_lstore (B : o_Bo κ l Z n0 R y bytes ml ret) {i : Nat} {x : Int64} {o o2 : Slot} (hd : decode bytes pc = .ok (.lstore i, 2)) (hold : Ls[i]? = some o) (hold2 : Ls[i + 1]? = some o2) (ho : o_okl o o2 = true) (K : o_Go κ Q h k n (pc + 2) ((Ls.set i (.val (.long x))).set (i + 1) .second) (St)) : o_Go κ Q h k n pc Ls (.long x :: St) := o_sim B (fun p e m below c T target X hx hby st => XT.lstore X hx rfl (hb hby hd) rfl (o_storel hold hold2 ho rfl) st) K
theorem o_iinc (B : o_Bo κ l Z n0 R y bytes ml ret) {i : Nat} {cst : Int} {x : Int32} (v : Int32) (hd : decode bytes pc = .ok (.iinc i cst, 3)) (hv : Int32.ofInt cst = v) (hl : Ls[i]? = some (.val (.int x))) (K : o_Go κ Q h k n (pc + 3) (Ls.set i (.val (.int (x + v)))) (St)) : o_Go κ Q h k n pc Ls (St) := o_sim B (fun p e m below c T target X hx hby st => XT.iincV X hx rfl v (hb hby hd) hv (o_get hl) (o_store1 hl rfl rfl) st) K
theorem o_iconst (B : o_Bo κ l Z n0 R y bytes ml ret) {i : Int} (v : Int32) (hd : decode bytes pc = .ok (.iconst i, 1)) (hv : Int32.ofInt i = v) (K : o_Go κ Q h k n (pc + 1) Ls (.int v :: St)) : o_Go κ Q h k n pc Ls (St) := o_sim B (fun p e m below c T target X hx hby st => XT.iconstV X hx rfl v (hb hby hd) hv st) K
theorem o_bipush (B : o_Bo κ l Z n0 R y bytes ml ret) {i : Int} (v : Int32) (hd : decode bytes pc = .ok (.bipush i, 2)) (hv : (Int8.ofInt i).toInt32 = v) (K : o_Go κ Q h k n (pc + 2) Ls (.int v :: St)) : o_Go κ Q h k n pc Ls (St) := o_sim B (fun p e m below c T target X hx hby st => XT.bipushV X hx rfl v (hb hby hd) hv st) K
theorem o_sipush (B : o_Bo κ l Z n0 R y bytes ml ret) {i : Int} (v : Int32) (hd : decode bytes pc = .ok (.sipush i, 3)) (hv : (Int16.ofInt i).toInt32 = v) (K : o_Go κ Q h k n (pc + 3) Ls (.int v :: St)) : o_Go κ Q h k n pc Ls (St) := o_sim B (fun p e m below c T target X hx hby st => XT.sipushV X hx rfl v (hb hby hd) hv st) K
theorem o_lconst (B : o_Bo κ l Z n0 R y bytes ml ret) {i : Fin 2} (v : Int64) (hd : decode bytes pc = .ok (.lconst i, 1)) (hv : Int64.ofNat i = v) (K : o_Go κ Q h k n (pc + 1) Ls (.long v :: St)) : o_Go κ Q h k n pc Ls (St) := o_sim B (fun p e m below c T target X hx hby st => XT.lconstV X hx rfl v (hb hby hd) hv st) K
theorem o_aconst_null (B : o_Bo κ l Z n0 R y bytes ml ret)  (hd : decode bytes pc = .ok (.aconst_null, 1)) (K : o_Go κ Q h k n (pc + 1) Ls (.null :: St)) : o_Go κ Q h k n pc Ls (St) := o_sim B (fun p e m below c T target X hx hby st => XS.aconstNull X hx rfl (hb hby hd) st) K
theorem o_iadd (B : o_Bo κ l Z n0 R y bytes ml ret) {x y : Int32} (hd : decode bytes pc = .ok (.iadd, 1)) (K : o_Go κ Q h k n (pc + 1) Ls (.int (x + y) :: St)) : o_Go κ Q h k n pc Ls (.int y :: .int x :: St) := o_sim B (fun p e m below c T target X hx hby st => XS.iadd X hx rfl (hb hby hd) rfl st) K
theorem o_isub (B : o_Bo κ l Z n0 R y bytes ml ret) {x y : Int32} (hd : decode bytes pc = .ok (.isub, 1)) (K : o_Go κ Q h k n (pc + 1) Ls (.int (x - y) :: St)) : o_Go κ Q h k n pc Ls (.int y :: .int x :: St) := o_sim B (fun p e m below c T target X hx hby st => XS.isub X hx rfl (hb hby hd) rfl st) K
theorem o_iand (B : o_Bo κ l Z n0 R y bytes ml ret) {x y : Int32} (hd : decode bytes pc = .ok (.iand, 1)) (K : o_Go κ Q h k n (pc + 1) Ls (.int (x &&& y) :: St)) : o_Go κ Q h k n pc Ls (.int y :: .int x :: St) := o_sim B (fun p e m below c T target X hx hby st => XS.iand X hx rfl (hb hby hd) rfl st) K
theorem o_imul (B : o_Bo κ l Z n0 R y bytes ml ret) {x y : Int32} (hd : decode bytes pc = .ok (.imul, 1)) (K : o_Go κ Q h k n (pc + 1) Ls (.int (x * y) :: St)) : o_Go κ Q h k n pc Ls (.int y :: .int x :: St) := o_sim B (fun p e m below c T target X hx hby st => XS.imul X hx rfl (hb hby hd) rfl st) K
theorem o_ior (B : o_Bo κ l Z n0 R y bytes ml ret) {x y : Int32} (hd : decode bytes pc = .ok (.ior, 1)) (K : o_Go κ Q h k n (pc + 1) Ls (.int (x ||| y) :: St)) : o_Go κ Q h k n pc Ls (.int y :: .int x :: St) := o_sim B (fun p e m below c T target X hx hby st => XT.ior X hx rfl (hb hby hd) rfl st) K
theorem o_ixor (B : o_Bo κ l Z n0 R y bytes ml ret) {x y : Int32} (hd : decode bytes pc = .ok (.ixor, 1)) (K : o_Go κ Q h k n (pc + 1) Ls (.int (x ^^^ y) :: St)) : o_Go κ Q h k n pc Ls (.int y :: .int x :: St) := o_sim B (fun p e m below c T target X hx hby st => XT.ixor X hx rfl (hb hby hd) rfl st) K
theorem o_ishl (B : o_Bo κ l Z n0 R y bytes ml ret) {x y : Int32} (hd : decode bytes pc = .ok (.ishl, 1)) (K : o_Go κ Q h k n (pc + 1) Ls (.int (x <<< (y &&& 31)) :: St)) : o_Go κ Q h k n pc Ls (.int y :: .int x :: St) := o_sim B (fun p e m below c T target X hx hby st => XT.ishl X hx rfl (hb hby hd) rfl st) K
theorem o_ishr (B : o_Bo κ l Z n0 R y bytes ml ret) {x y : Int32} (hd : decode bytes pc = .ok (.ishr, 1)) (K : o_Go κ Q h k n (pc + 1) Ls (.int (x >>> (y &&& 31)) :: St)) : o_Go κ Q h k n pc Ls (.int y :: .int x :: St) := o_sim B (fun p e m below c T target X hx hby st => XT.ishr X hx rfl (hb hby hd) rfl st) K
theorem o_iushr (B : o_Bo κ l Z n0 R y bytes ml ret) {x y : Int32} (hd : decode bytes pc = .ok (.iushr, 1)) (K : o_Go κ Q h k n (pc + 1) Ls (.int (XT.ushr x y) :: St)) : o_Go κ Q h k n pc Ls (.int y :: .int x :: St) := o_sim B (fun p e m below c T target X hx hby st => XT.iushr X hx rfl (hb hby hd) rfl st) K
theorem o_idiv (B : o_Bo κ l Z n0 R y bytes ml ret) {x y : Int32} (hd : decode bytes pc = .ok (.idiv, 1)) (hy : y ≠ 0) (K : o_Go κ Q h k n (pc + 1) Ls (.int (x / y) :: St)) : o_Go κ Q h k n pc Ls (.int y :: .int x :: St) := o_sim B (fun p e m below c T target X hx hby st => XS.idiv X hx rfl (hb hby hd) rfl hy st) K
theorem o_irem (B : o_Bo κ l Z n0 R y bytes ml ret) {x y : Int32} (hd : decode bytes pc = .ok (.irem, 1)) (hy : y ≠ 0) (K : o_Go κ Q h k n (pc + 1) Ls (.int (x % y) :: St)) : o_Go κ Q h k n pc Ls (.int y :: .int x :: St) := o_sim B (fun p e m below c T target X hx hby st => XS.irem X hx rfl (hb hby hd) rfl hy (by rw [irem_eq_mod]; exact st)) K
theorem o_ineg (B : o_Bo κ l Z n0 R y bytes ml ret) {x : Int32} (hd : decode bytes pc = .ok (.ineg, 1)) (K : o_Go κ Q h k n (pc + 1) Ls (.int (-x) :: St)) : o_Go κ Q h k n pc Ls (.int x :: St) := o_sim B (fun p e m below c T target X hx hby st => XS.ineg X hx rfl (hb hby hd) rfl st) K
theorem o_ladd (B : o_Bo κ l Z n0 R y bytes ml ret) {x y : Int64} (hd : decode bytes pc = .ok (.ladd, 1)) (K : o_Go κ Q h k n (pc + 1) Ls (.long (x + y) :: St)) : o_Go κ Q h k n pc Ls (.long y :: .long x :: St) := o_sim B (fun p e m below c T target X hx hby st => XT.ladd X hx rfl (hb hby hd) rfl st) K
theorem o_lsub (B : o_Bo κ l Z n0 R y bytes ml ret) {x y : Int64} (hd : decode bytes pc = .ok (.lsub, 1)) (K : o_Go κ Q h k n (pc + 1) Ls (.long (x - y) :: St)) : o_Go κ Q h k n pc Ls (.long y :: .long x :: St) := o_sim B (fun p e m below c T target X hx hby st => XT.lsub X hx rfl (hb hby hd) rfl st) K
theorem o_lmul (B : o_Bo κ l Z n0 R y bytes ml ret) {x y : Int64} (hd : decode bytes pc = .ok (.lmul, 1)) (K : o_Go κ Q h k n (pc + 1) Ls (.long (x * y) :: St)) : o_Go κ Q h k n pc Ls (.long y :: .long x :: St) := o_sim B (fun p e m below c T target X hx hby st => XT.lmul X hx rfl (hb hby hd) rfl st) K
theorem o_land (B : o_Bo κ l Z n0 R y bytes ml ret) {x y : Int64} (hd : decode bytes pc = .ok (.land, 1)) (K : o_Go κ Q h k n (pc + 1) Ls (.long (x &&& y) :: St)) : o_Go κ Q h k n pc Ls (.long y :: .long x :: St) := o_sim B (fun p e m below c T target X hx hby st => XT.land X hx rfl (hb hby hd) rfl st) K
theorem o_lor (B : o_Bo κ l Z n0 R y bytes ml ret) {x y : Int64} (hd : decode bytes pc = .ok (.lor, 1)) (K : o_Go κ Q h k n (pc + 1) Ls (.long (x ||| y) :: St)) : o_Go κ Q h k n pc Ls (.long y :: .long x :: St) := o_sim B (fun p e m below c T target X hx hby st => XT.lor X hx rfl (hb hby hd) rfl st) K
theorem o_lxor (B : o_Bo κ l Z n0 R y bytes ml ret) {x y : Int64} (hd : decode bytes pc = .ok (.lxor, 1)) (K : o_Go κ Q h k n (pc + 1) Ls (.long (x ^^^ y) :: St)) : o_Go κ Q h k n pc Ls (.long y :: .long x :: St) := o_sim B (fun p e m below c T target X hx hby st => XT.lxor X hx rfl (hb hby hd) rfl st) K
theorem o_lshl (B : o_Bo κ l Z n0 R y bytes ml ret) {x : Int64} {y : Int32} (hd : decode bytes pc = .ok (.lshl, 1)) (K : o_Go κ Q h k n (pc + 1) Ls (.long (x <<< (y.toInt64 &&& 63)) :: St)) : o_Go κ Q h k n pc Ls (.int y :: .long x :: St) := o_sim B (fun p e m below c T target X hx hby st => XT.lshl X hx rfl (hb hby hd) rfl st) K
theorem o_lshr (B : o_Bo κ l Z n0 R y bytes ml ret) {x : Int64} {y : Int32} (hd : decode bytes pc = .ok (.lshr, 1)) (K : o_Go κ Q h k n (pc + 1) Ls (.long (x >>> (y.toInt64 &&& 63)) :: St)) : o_Go κ Q h k n pc Ls (.int y :: .long x :: St) := o_sim B (fun p e m below c T target X hx hby st => XT.lshr X hx rfl (hb hby hd) rfl st) K
theorem o_lushr (B : o_Bo κ l Z n0 R y bytes ml ret) {x : Int64} {y : Int32} (hd : decode bytes pc = .ok (.lushr, 1)) (K : o_Go κ Q h k n (pc + 1) Ls (.long (XT.ushrL x y) :: St)) : o_Go κ Q h k n pc Ls (.int y :: .long x :: St) := o_sim B (fun p e m below c T target X hx hby st => XT.lushr X hx rfl (hb hby hd) rfl st) K
theorem o_ldiv (B : o_Bo κ l Z n0 R y bytes ml ret) {x y : Int64} (hd : decode bytes pc = .ok (.ldiv, 1)) (hy : y ≠ 0) (K : o_Go κ Q h k n (pc + 1) Ls (.long (x / y) :: St)) : o_Go κ Q h k n pc Ls (.long y :: .long x :: St) := o_sim B (fun p e m below c T target X hx hby st => XT.ldiv X hx rfl (hb hby hd) rfl hy st) K
theorem o_lrem (B : o_Bo κ l Z n0 R y bytes ml ret) {x y : Int64} (hd : decode bytes pc = .ok (.lrem, 1)) (hy : y ≠ 0) (K : o_Go κ Q h k n (pc + 1) Ls (.long (x - (x / y) * y) :: St)) : o_Go κ Q h k n pc Ls (.long y :: .long x :: St) := o_sim B (fun p e m below c T target X hx hby st => XT.lrem X hx rfl (hb hby hd) rfl hy st) K
theorem o_lneg (B : o_Bo κ l Z n0 R y bytes ml ret) {x : Int64} (hd : decode bytes pc = .ok (.lneg, 1)) (K : o_Go κ Q h k n (pc + 1) Ls (.long (-x) :: St)) : o_Go κ Q h k n pc Ls (.long x :: St) := o_sim B (fun p e m below c T target X hx hby st => XT.lneg X hx rfl (hb hby hd) rfl st) K
theorem o_i2l (B : o_Bo κ l Z n0 R y bytes ml ret) {x : Int32} (hd : decode bytes pc = .ok (.i2l, 1)) (K : o_Go κ Q h k n (pc + 1) Ls (.long x.toInt64 :: St)) : o_Go κ Q h k n pc Ls (.int x :: St) := o_sim B (fun p e m below c T target X hx hby st => XT.i2l X hx rfl (hb hby hd) rfl st) K
theorem o_l2i (B : o_Bo κ l Z n0 R y bytes ml ret) {x : Int64} (hd : decode bytes pc = .ok (.l2i, 1)) (K : o_Go κ Q h k n (pc + 1) Ls (.int x.toInt32 :: St)) : o_Go κ Q h k n pc Ls (.long x :: St) := o_sim B (fun p e m below c T target X hx hby st => XT.l2i X hx rfl (hb hby hd) rfl st) K
theorem o_lcmp (B : o_Bo κ l Z n0 R y bytes ml ret) {x y : Int64} (hd : decode bytes pc = .ok (.lcmp, 1)) (K : o_Go κ Q h k n (pc + 1) Ls (.int (XT.cmpL x y) :: St)) : o_Go κ Q h k n pc Ls (.long y :: .long x :: St) := o_sim B (fun p e m below c T target X hx hby st => XT.lcmp X hx rfl (hb hby hd) rfl st) K
theorem o_dup (B : o_Bo κ l Z n0 R y bytes ml ret) {v : Value} (hd : decode bytes pc = .ok (.dup, 1)) (hv : v.category = 1) (K : o_Go κ Q h k n (pc + 1) Ls (v :: v :: St)) : o_Go κ Q h k n pc Ls (v :: St) := o_sim B (fun p e m below c T target X hx hby st => XS.dup X hx rfl (hb hby hd) rfl hv st) K
theorem o_pop (B : o_Bo κ l Z n0 R y bytes ml ret) {v : Value} (hd : decode bytes pc = .ok (.pop, 1)) (hv : v.category = 1) (K : o_Go κ Q h k n (pc + 1) Ls (St)) : o_Go κ Q h k n pc Ls (v :: St) := o_sim B (fun p e m below c T target X hx hby st => XT.pop X hx rfl (hb hby hd) rfl hv st) K
theorem o_dup_x1 (B : o_Bo κ l Z n0 R y bytes ml ret) {v w : Value} (hd : decode bytes pc = .ok (.dup_x1, 1)) (hv : v.category = 1) (hw : w.category = 1) (K : o_Go κ Q h k n (pc + 1) Ls (v :: w :: v :: St)) : o_Go κ Q h k n pc Ls (v :: w :: St) := o_sim B (fun p e m below c T target X hx hby st => XT.dupX1 X hx rfl (hb hby hd) rfl hv hw st) K
theorem o_dup2 (B : o_Bo κ l Z n0 R y bytes ml ret) {v w : Value} (hd : decode bytes pc = .ok (.dup2, 1)) (hv : v.category = 1) (hw : w.category = 1) (K : o_Go κ Q h k n (pc + 1) Ls (v :: w :: v :: w :: St)) : o_Go κ Q h k n pc Ls (v :: w :: St) := o_sim B (fun p e m below c T target X hx hby st => XT.dup2 X hx rfl (hb hby hd) rfl hv hw st) K
theorem o_dup2L (B : o_Bo κ l Z n0 R y bytes ml ret) {x : Int64} (hd : decode bytes pc = .ok (.dup2, 1)) (K : o_Go κ Q h k n (pc + 1) Ls (.long x :: .long x :: St)) : o_Go κ Q h k n pc Ls (.long x :: St) := o_sim B (fun p e m below c T target X hx hby st => XT.dup2L X hx rfl (hb hby hd) rfl st) K
theorem o_goto (B : o_Bo κ l Z n0 R y bytes ml ret) {o : Int} {pc' : Nat} (hd : decode bytes pc = .ok (.goto o, 3)) (ho : 0 ≤ (pc : Int) + o) (hp : ((pc : Int) + o).toNat = pc') (K : o_Go κ Q h k n pc' Ls St) : o_Go κ Q h k n pc Ls St := o_sim B (fun p e m below c T target X hx hby st => XS.goto X hx rfl (pc0 := pc) rfl (hb hby hd) ho hp st) K
theorem o_if_eq (B : o_Bo κ l Z n0 R y bytes ml ret) {o : Int} {pc' : Nat} {x : Int32} (hd : decode bytes pc = .ok (.ifCond .eq o, 3)) (ho : 0 ≤ (pc : Int) + o) (hp : ((pc : Int) + o).toNat = pc') (K1 : x = 0 → o_Go κ Q h k n pc' Ls St) (K2 : ¬ x = 0 → o_Go κ Q h k n (pc + 3) Ls St) : o_Go κ Q h k n pc Ls (.int x :: St) := by
  by_cases hc : x = 0
  · exact o_sim B (fun p e m below c T target X hx hby st => XS.ifYes X hx rfl (pc0 := pc) rfl (hb hby hd) rfl (XT.i0_eq_t hc) ho hp st) (K1 hc)
  · exact o_sim B (fun p e m below c T target X hx hby st => XS.ifNo X hx rfl (hb hby hd) rfl (XT.i0_eq_f hc) st) (K2 hc)
theorem o_icmp_eq (B : o_Bo κ l Z n0 R y bytes ml ret) {o : Int} {pc' : Nat} {x w : Int32} (hd : decode bytes pc = .ok (.if_icmp .eq o, 3)) (ho : 0 ≤ (pc : Int) + o) (hp : ((pc : Int) + o).toNat = pc') (K1 : x = w → o_Go κ Q h k n pc' Ls St) (K2 : ¬ x = w → o_Go κ Q h k n (pc + 3) Ls St) : o_Go κ Q h k n pc Ls (.int w :: .int x :: St) := by
  by_cases hc : x = w
  · exact o_sim B (fun p e m below c T target X hx hby st => XS.icmpYes X hx rfl (pc0 := pc) rfl (hb hby hd) rfl (XT.ii_eq_t hc) ho hp st) (K1 hc)
  · exact o_sim B (fun p e m below c T target X hx hby st => XS.icmpNo X hx rfl (hb hby hd) rfl (XT.ii_eq_f hc) st) (K2 hc)
theorem o_lif_eq (B : o_Bo κ l Z n0 R y bytes ml ret) {o : Int} {pc' : Nat} {x w : Int64} (hd : decode bytes pc = .ok (.ifCond .eq o, 3)) (ho : 0 ≤ (pc : Int) + o) (hp : ((pc : Int) + o).toNat = pc') (K1 : x = w → o_Go κ Q h k n pc' Ls St) (K2 : ¬ x = w → o_Go κ Q h k n (pc + 3) Ls St) : o_Go κ Q h k n pc Ls (.int (XT.cmpL x w) :: St) := by
  by_cases hc : x = w
  · exact o_sim B (fun p e m below c T target X hx hby st => XS.ifYes X hx rfl (pc0 := pc) rfl (hb hby hd) rfl (XT.ll_eq_t hc) ho hp st) (K1 hc)
  · exact o_sim B (fun p e m below c T target X hx hby st => XS.ifNo X hx rfl (hb hby hd) rfl (XT.ll_eq_f hc) st) (K2 hc)
theorem o_if_ne (B : o_Bo κ l Z n0 R y bytes ml ret) {o : Int} {pc' : Nat} {x : Int32} (hd : decode bytes pc = .ok (.ifCond .ne o, 3)) (ho : 0 ≤ (pc : Int) + o) (hp : ((pc : Int) + o).toNat = pc') (K1 : ¬ x = 0 → o_Go κ Q h k n pc' Ls St) (K2 : x = 0 → o_Go κ Q h k n (pc + 3) Ls St) : o_Go κ Q h k n pc Ls (.int x :: St) := by
  by_cases hc : x = 0
  · exact o_sim B (fun p e m below c T target X hx hby st => XS.ifNo X hx rfl (hb hby hd) rfl (XT.i0_ne_f hc) st) (K2 hc)
  · exact o_sim B (fun p e m below c T target X hx hby st => XS.ifYes X hx rfl (pc0 := pc) rfl (hb hby hd) rfl (XT.i0_ne_t hc) ho hp st) (K1 hc)
theorem o_icmp_ne (B : o_Bo κ l Z n0 R y bytes ml ret) {o : Int} {pc' : Nat} {x w : Int32} (hd : decode bytes pc = .ok (.if_icmp .ne o, 3)) (ho : 0 ≤ (pc : Int) + o) (hp : ((pc : Int) + o).toNat = pc') (K1 : ¬ x = w → o_Go κ Q h k n pc' Ls St) (K2 : x = w → o_Go κ Q h k n (pc + 3) Ls St) : o_Go κ Q h k n pc Ls (.int w :: .int x :: St) := by
  by_cases hc : x = w
  · exact o_sim B (fun p e m below c T target X hx hby st => XS.icmpNo X hx rfl (hb hby hd) rfl (XT.ii_ne_f hc) st) (K2 hc)
  · exact o_sim B (fun p e m below c T target X hx hby st => XS.icmpYes X hx rfl (pc0 := pc) rfl (hb hby hd) rfl (XT.ii_ne_t hc) ho hp st) (K1 hc)
theorem o_lif_ne (B : o_Bo κ l Z n0 R y bytes ml ret) {o : Int} {pc' : Nat} {x w : Int64} (hd : decode bytes pc = .ok (.ifCond .ne o, 3)) (ho : 0 ≤ (pc : Int) + o) (hp : ((pc : Int) + o).toNat = pc') (K1 : ¬ x = w → o_Go κ Q h k n pc' Ls St) (K2 : x = w → o_Go κ Q h k n (pc + 3) Ls St) : o_Go κ Q h k n pc Ls (.int (XT.cmpL x w) :: St) := by
  by_cases hc : x = w
  · exact o_sim B (fun p e m below c T target X hx hby st => XS.ifNo X hx rfl (hb hby hd) rfl (XT.ll_ne_f hc) st) (K2 hc)
  · exact o_sim B (fun p e m below c T target X hx hby st => XS.ifYes X hx rfl (pc0 := pc) rfl (hb hby hd) rfl (XT.ll_ne_t hc) ho hp st) (K1 hc)
theorem o_if_lt (B : o_Bo κ l Z n0 R y bytes ml ret) {o : Int} {pc' : Nat} {x : Int32} (hd : decode bytes pc = .ok (.ifCond .lt o, 3)) (ho : 0 ≤ (pc : Int) + o) (hp : ((pc : Int) + o).toNat = pc') (K1 : x < 0 → o_Go κ Q h k n pc' Ls St) (K2 : ¬ x < 0 → o_Go κ Q h k n (pc + 3) Ls St) : o_Go κ Q h k n pc Ls (.int x :: St) := by
  by_cases hc : x < 0
  · exact o_sim B (fun p e m below c T target X hx hby st => XS.ifYes X hx rfl (pc0 := pc) rfl (hb hby hd) rfl (XT.i0_lt_t hc) ho hp st) (K1 hc)
  · exact o_sim B (fun p e m below c T target X hx hby st => XS.ifNo X hx rfl (hb hby hd) rfl (XT.i0_lt_f hc) st) (K2 hc)
theorem o_icmp_lt (B : o_Bo κ l Z n0 R y bytes ml ret) {o : Int} {pc' : Nat} {x w : Int32} (hd : decode bytes pc = .ok (.if_icmp .lt o, 3)) (ho : 0 ≤ (pc : Int) + o) (hp : ((pc : Int) + o).toNat = pc') (K1 : x < w → o_Go κ Q h k n pc' Ls St) (K2 : ¬ x < w → o_Go κ Q h k n (pc + 3) Ls St) : o_Go κ Q h k n pc Ls (.int w :: .int x :: St) := by
  by_cases hc : x < w
  · exact o_sim B (fun p e m below c T target X hx hby st => XS.icmpYes X hx rfl (pc0 := pc) rfl (hb hby hd) rfl (XT.ii_lt_t hc) ho hp st) (K1 hc)
  · exact o_sim B (fun p e m below c T target X hx hby st => XS.icmpNo X hx rfl (hb hby hd) rfl (XT.ii_lt_f hc) st) (K2 hc)
theorem o_lif_lt (B : o_Bo κ l Z n0 R y bytes ml ret) {o : Int} {pc' : Nat} {x w : Int64} (hd : decode bytes pc = .ok (.ifCond .lt o, 3)) (ho : 0 ≤ (pc : Int) + o) (hp : ((pc : Int) + o).toNat = pc') (K1 : x < w → o_Go κ Q h k n pc' Ls St) (K2 : ¬ x < w → o_Go κ Q h k n (pc + 3) Ls St) : o_Go κ Q h k n pc Ls (.int (XT.cmpL x w) :: St) := by
  by_cases hc : x < w
  · exact o_sim B (fun p e m below c T target X hx hby st => XS.ifYes X hx rfl (pc0 := pc) rfl (hb hby hd) rfl (XT.ll_lt_t hc) ho hp st) (K1 hc)
  · exact o_sim B (fun p e m below c T target X hx hby st => XS.ifNo X hx rfl (hb hby hd) rfl (XT.ll_lt_f hc) st) (K2 hc)
theorem o_if_ge (B : o_Bo κ l Z n0 R y bytes ml ret) {o : Int} {pc' : Nat} {x : Int32} (hd : decode bytes pc = .ok (.ifCond .ge o, 3)) (ho : 0 ≤ (pc : Int) + o) (hp : ((pc : Int) + o).toNat = pc') (K1 : ¬ x < 0 → o_Go κ Q h k n pc' Ls St) (K2 : x < 0 → o_Go κ Q h k n (pc + 3) Ls St) : o_Go κ Q h k n pc Ls (.int x :: St) := by
  by_cases hc : x < 0
  · exact o_sim B (fun p e m below c T target X hx hby st => XS.ifNo X hx rfl (hb hby hd) rfl (XT.i0_ge_f hc) st) (K2 hc)
  · exact o_sim B (fun p e m below c T target X hx hby st => XS.ifYes X hx rfl (pc0 := pc) rfl (hb hby hd) rfl (XT.i0_ge_t hc) ho hp st) (K1 hc)
theorem o_icmp_ge (B : o_Bo κ l Z n0 R y bytes ml ret) {o : Int} {pc' : Nat} {x w : Int32} (hd : decode bytes pc = .ok (.if_icmp .ge o, 3)) (ho : 0 ≤ (pc : Int) + o) (hp : ((pc : Int) + o).toNat = pc') (K1 : ¬ x < w → o_Go κ Q h k n pc' Ls St) (K2 : x < w → o_Go κ Q h k n (pc + 3) Ls St) : o_Go κ Q h k n pc Ls (.int w :: .int x :: St) := by
  by_cases hc : x < w
  · exact o_sim B (fun p e m below c T target X hx hby st => XS.icmpNo X hx rfl (hb hby hd) rfl (XT.ii_ge_f hc) st) (K2 hc)
  · exact o_sim B (fun p e m below c T target X hx hby st => XS.icmpYes X hx rfl (pc0 := pc) rfl (hb hby hd) rfl (XT.ii_ge_t hc) ho hp st) (K1 hc)
theorem o_lif_ge (B : o_Bo κ l Z n0 R y bytes ml ret) {o : Int} {pc' : Nat} {x w : Int64} (hd : decode bytes pc = .ok (.ifCond .ge o, 3)) (ho : 0 ≤ (pc : Int) + o) (hp : ((pc : Int) + o).toNat = pc') (K1 : ¬ x < w → o_Go κ Q h k n pc' Ls St) (K2 : x < w → o_Go κ Q h k n (pc + 3) Ls St) : o_Go κ Q h k n pc Ls (.int (XT.cmpL x w) :: St) := by
  by_cases hc : x < w
  · exact o_sim B (fun p e m below c T target X hx hby st => XS.ifNo X hx rfl (hb hby hd) rfl (XT.ll_ge_f hc) st) (K2 hc)
  · exact o_sim B (fun p e m below c T target X hx hby st => XS.ifYes X hx rfl (pc0 := pc) rfl (hb hby hd) rfl (XT.ll_ge_t hc) ho hp st) (K1 hc)
theorem o_if_gt (B : o_Bo κ l Z n0 R y bytes ml ret) {o : Int} {pc' : Nat} {x : Int32} (hd : decode bytes pc = .ok (.ifCond .gt o, 3)) (ho : 0 ≤ (pc : Int) + o) (hp : ((pc : Int) + o).toNat = pc') (K1 : 0 < x → o_Go κ Q h k n pc' Ls St) (K2 : ¬ 0 < x → o_Go κ Q h k n (pc + 3) Ls St) : o_Go κ Q h k n pc Ls (.int x :: St) := by
  by_cases hc : 0 < x
  · exact o_sim B (fun p e m below c T target X hx hby st => XS.ifYes X hx rfl (pc0 := pc) rfl (hb hby hd) rfl (XT.i0_gt_t hc) ho hp st) (K1 hc)
  · exact o_sim B (fun p e m below c T target X hx hby st => XS.ifNo X hx rfl (hb hby hd) rfl (XT.i0_gt_f hc) st) (K2 hc)
theorem o_icmp_gt (B : o_Bo κ l Z n0 R y bytes ml ret) {o : Int} {pc' : Nat} {x w : Int32} (hd : decode bytes pc = .ok (.if_icmp .gt o, 3)) (ho : 0 ≤ (pc : Int) + o) (hp : ((pc : Int) + o).toNat = pc') (K1 : w < x → o_Go κ Q h k n pc' Ls St) (K2 : ¬ w < x → o_Go κ Q h k n (pc + 3) Ls St) : o_Go κ Q h k n pc Ls (.int w :: .int x :: St) := by
  by_cases hc : w < x
  · exact o_sim B (fun p e m below c T target X hx hby st => XS.icmpYes X hx rfl (pc0 := pc) rfl (hb hby hd) rfl (XT.ii_gt_t hc) ho hp st) (K1 hc)
  · exact o_sim B (fun p e m below c T target X hx hby st => XS.icmpNo X hx rfl (hb hby hd) rfl (XT.ii_gt_f hc) st) (K2 hc)
theorem o_lif_gt (B : o_Bo κ l Z n0 R y bytes ml ret) {o : Int} {pc' : Nat} {x w : Int64} (hd : decode bytes pc = .ok (.ifCond .gt o, 3)) (ho : 0 ≤ (pc : Int) + o) (hp : ((pc : Int) + o).toNat = pc') (K1 : w < x → o_Go κ Q h k n pc' Ls St) (K2 : ¬ w < x → o_Go κ Q h k n (pc + 3) Ls St) : o_Go κ Q h k n pc Ls (.int (XT.cmpL x w) :: St) := by
  by_cases hc : w < x
  · exact o_sim B (fun p e m below c T target X hx hby st => XS.ifYes X hx rfl (pc0 := pc) rfl (hb hby hd) rfl (XT.ll_gt_t hc) ho hp st) (K1 hc)
  · exact o_sim B (fun p e m below c T target X hx hby st => XS.ifNo X hx rfl (hb hby hd) rfl (XT.ll_gt_f hc) st) (K2 hc)
theorem o_if_le (B : o_Bo κ l Z n0 R y bytes ml ret) {o : Int} {pc' : Nat} {x : Int32} (hd : decode bytes pc = .ok (.ifCond .le o, 3)) (ho : 0 ≤ (pc : Int) + o) (hp : ((pc : Int) + o).toNat = pc') (K1 : ¬ 0 < x → o_Go κ Q h k n pc' Ls St) (K2 : 0 < x → o_Go κ Q h k n (pc + 3) Ls St) : o_Go κ Q h k n pc Ls (.int x :: St) := by
  by_cases hc : 0 < x
  · exact o_sim B (fun p e m below c T target X hx hby st => XS.ifNo X hx rfl (hb hby hd) rfl (XT.i0_le_f hc) st) (K2 hc)
  · exact o_sim B (fun p e m below c T target X hx hby st => XS.ifYes X hx rfl (pc0 := pc) rfl (hb hby hd) rfl (XT.i0_le_t hc) ho hp st) (K1 hc)
theorem o_icmp_le (B : o_Bo κ l Z n0 R y bytes ml ret) {o : Int} {pc' : Nat} {x w : Int32} (hd : decode bytes pc = .ok (.if_icmp .le o, 3)) (ho : 0 ≤ (pc : Int) + o) (hp : ((pc : Int) + o).toNat = pc') (K1 : ¬ w < x → o_Go κ Q h k n pc' Ls St) (K2 : w < x → o_Go κ Q h k n (pc + 3) Ls St) : o_Go κ Q h k n pc Ls (.int w :: .int x :: St) := by
  by_cases hc : w < x
  · exact o_sim B (fun p e m below c T target X hx hby st => XS.icmpNo X hx rfl (hb hby hd) rfl (XT.ii_le_f hc) st) (K2 hc)
  · exact o_sim B (fun p e m below c T target X hx hby st => XS.icmpYes X hx rfl (pc0 := pc) rfl (hb hby hd) rfl (XT.ii_le_t hc) ho hp st) (K1 hc)
theorem o_lif_le (B : o_Bo κ l Z n0 R y bytes ml ret) {o : Int} {pc' : Nat} {x w : Int64} (hd : decode bytes pc = .ok (.ifCond .le o, 3)) (ho : 0 ≤ (pc : Int) + o) (hp : ((pc : Int) + o).toNat = pc') (K1 : ¬ w < x → o_Go κ Q h k n pc' Ls St) (K2 : w < x → o_Go κ Q h k n (pc + 3) Ls St) : o_Go κ Q h k n pc Ls (.int (XT.cmpL x w) :: St) := by
  by_cases hc : w < x
  · exact o_sim B (fun p e m below c T target X hx hby st => XS.ifNo X hx rfl (hb hby hd) rfl (XT.ll_le_f hc) st) (K2 hc)
  · exact o_sim B (fun p e m below c T target X hx hby st => XS.ifYes X hx rfl (pc0 := pc) rfl (hb hby hd) rfl (XT.ll_le_t hc) ho hp st) (K1 hc)
theorem o_ifnull_N (B : o_Bo κ l Z n0 R y bytes ml ret) {o : Int} {pc' : Nat} (hd : decode bytes pc = .ok (.ifnull o, 3)) (ho : 0 ≤ (pc : Int) + o) (hp : ((pc : Int) + o).toNat = pc') (K : o_Go κ Q h k n pc' Ls St) : o_Go κ Q h k n pc Ls (.null :: St) := o_sim B (fun p e m below c T target X hx hby st => XS.ifnullYes X hx rfl (pc0 := pc) rfl (hb hby hd) rfl ho hp st) K
theorem o_ifnull_R (B : o_Bo κ l Z n0 R y bytes ml ret) {o : Int} {b : Addr} (hd : decode bytes pc = .ok (.ifnull o, 3)) (K : o_Go κ Q h k n (pc + 3) Ls St) : o_Go κ Q h k n pc Ls (.ref b :: St) := o_sim B (fun p e m below c T target X hx hby st => XS.ifnullNo X hx rfl (hb hby hd) rfl st) K
theorem o_ifnonnull_R (B : o_Bo κ l Z n0 R y bytes ml ret) {o : Int} {pc' : Nat} {b : Addr} (hd : decode bytes pc = .ok (.ifnonnull o, 3)) (ho : 0 ≤ (pc : Int) + o) (hp : ((pc : Int) + o).toNat = pc') (K : o_Go κ Q h k n pc' Ls St) : o_Go κ Q h k n pc Ls (.ref b :: St) := o_sim B (fun p e m below c T target X hx hby st => XT.ifnonnullYes X hx rfl (pc0 := pc) rfl (hb hby hd) rfl ho hp st) K
theorem o_ifnonnull_N (B : o_Bo κ l Z n0 R y bytes ml ret) {o : Int} (hd : decode bytes pc = .ok (.ifnonnull o, 3)) (K : o_Go κ Q h k n (pc + 3) Ls St) : o_Go κ Q h k n pc Ls (.null :: St) := o_sim B (fun p e m below c T target X hx hby st => XT.ifnonnullNo X hx rfl (hb hby hd) rfl st) K
theorem o_acmp_eq (B : o_Bo κ l Z n0 R y bytes ml ret) {o : Int} {pc' : Nat} {v w : Value} (hv : v.isRef = true) (hw : w.isRef = true) (hd : decode bytes pc = .ok (.if_acmp .eq o, 3)) (ho : 0 ≤ (pc : Int) + o) (hp : ((pc : Int) + o).toNat = pc') (K1 : v = w → o_Go κ Q h k n pc' Ls St) (K2 : ¬ v = w → o_Go κ Q h k n (pc + 3) Ls St) : o_Go κ Q h k n pc Ls (w :: v :: St) := by
  by_cases hc : v = w
  · exact o_sim B (fun p e m below c T target X hx hby st => XT.acmpYes X hx rfl (pc0 := pc) rfl (hb hby hd) rfl hv hw (by simp [XT.acmp, hc]) ho hp st) (K1 hc)
  · exact o_sim B (fun p e m below c T target X hx hby st => XT.acmpNo X hx rfl (hb hby hd) rfl hv hw (by simp [XT.acmp, hc]) st) (K2 hc)
theorem o_acmp_ne (B : o_Bo κ l Z n0 R y bytes ml ret) {o : Int} {pc' : Nat} {v w : Value} (hv : v.isRef = true) (hw : w.isRef = true) (hd : decode bytes pc = .ok (.if_acmp .ne o, 3)) (ho : 0 ≤ (pc : Int) + o) (hp : ((pc : Int) + o).toNat = pc') (K1 : ¬ v = w → o_Go κ Q h k n pc' Ls St) (K2 : v = w → o_Go κ Q h k n (pc + 3) Ls St) : o_Go κ Q h k n pc Ls (w :: v :: St) := by
  by_cases hc : v = w
  · exact o_sim B (fun p e m below c T target X hx hby st => XT.acmpNo X hx rfl (hb hby hd) rfl hv hw (by simp [XT.acmp, hc]) st) (K2 hc)
  · exact o_sim B (fun p e m below c T target X hx hby st => XT.acmpYes X hx rfl (pc0 := pc) rfl (hb hby hd) rfl hv hw (by simp [XT.acmp, hc]) ho hp st) (K1 hc)
theorem o_ldc (B : o_Bo κ l Z n0 R y bytes ml ret) {idx : Nat} {x : Int32} (hd : decode bytes pc = .ok (.ldc idx, 2)) (w : (Cond.constant y.cls idx x).before a0 Z = true) (K : o_Go κ Q h k n (pc + 2) Ls (.int x :: St)) : o_Go κ Q h k n pc Ls St := by
  obtain ⟨p, e, s, m, args, below, meth, c, rfl, hx, hZ, hby, hml, hown, hret, hlk, hnm⟩ := B
  intro T locs X N eT
  obtain ⟨s₂, o, st, r⟩ := K T locs X N eT
  exact ⟨s₂, o, Stand.ldcI X hx hown (mv hZ w) rfl (hb hby hd) st, r⟩
theorem o_ldc_w (B : o_Bo κ l Z n0 R y bytes ml ret) {idx : Nat} {x : Int32} (hd : decode bytes pc = .ok (.ldc_w idx, 3)) (w : (Cond.constant y.cls idx x).before a0 Z = true) (K : o_Go κ Q h k n (pc + 3) Ls (.int x :: St)) : o_Go κ Q h k n pc Ls St := by
  obtain ⟨p, e, s, m, args, below, meth, c, rfl, hx, hZ, hby, hml, hown, hret, hlk, hnm⟩ := B
  intro T locs X N eT
  obtain ⟨s₂, o, st, r⟩ := K T locs X N eT
  exact ⟨s₂, o, Stand.ldcWI X hx hown (mv hZ w) rfl (hb hby hd) st, r⟩
theorem o_ldc2_w (B : o_Bo κ l Z n0 R y bytes ml ret) {idx : Nat} {x : Int64} (hd : decode bytes pc = .ok (.ldc2_w idx, 3)) (w : (Cond.constantLong y.cls idx x).before a0 Z = true) (K : o_Go κ Q h k n (pc + 3) Ls (.long x :: St)) : o_Go κ Q h k n pc Ls St := by
  obtain ⟨p, e, s, m, args, below, meth, c, rfl, hx, hZ, hby, hml, hown, hret, hlk, hnm⟩ := B
  intro T locs X N eT
  obtain ⟨s₂, o, st, r⟩ := K T locs X N eT
  exact ⟨s₂, o, Stand.ldc2J X hx hown (mv hZ w) rfl (hb hby hd) st, r⟩
theorem o_out (B : o_Bo κ l Z n0 R y bytes ml ret) {v : Option Value} (hv : ret = none → v = none) (hk : k ≤ R.cells) (hn : n ≤ R.slots) (q : Q v h)
    (f : ∀ (p : Program) (e : Env) (s : State) (m : MethodId) (args : Array Value) (below : List Frame) (meth : Method) (c : Code) (T : State) (locs : List Loc), Stand p l e R s m args below meth c T locs k n → p.tables.exec = Jvm.exec → c.code = bytes → meth.sig.returnType = ret → ∀ fs : List Frame, (∀ (f : JFrame) (acts : List Action), f.method = m → f.locked = none → f.entered = [] → (doReturn e (T.setTop f) acts v).1 = T.setFrames fs) → Steps p.tables e below (T.setTop (mkF m pc Ls.toArray St)) (T.setFrames fs)) : o_Go κ Q h k n pc Ls St := by
  obtain ⟨p, e, s, m, args, below, meth, c, rfl, hx, hZ, hby, hml, hown, hret, hlk, hnm⟩ := B
  intro T locs X N eT
  obtain ⟨fs, hr, hrun, hended, hW, hsame⟩ := X.leave (v := v) (fun hh => hv (hret.symm.trans hh)) hlk
  refine ⟨_, _, f p e s m args below meth c T locs X hx hby hret fs hr, hrun, hended, _, _, rfl, ⟨?_, N⟩, ⟨_, rfl⟩, hW, hsame.mono hk hn⟩
  have e1 : (T.setFrames fs).heap = h := eT
  rw [e1]; exact q
theorem o_ireturn (B : o_Bo κ l Z n0 R y bytes ml (some .int)) {x : Int32} (hd : decode bytes pc = .ok (.ireturn, 1)) (hk : k ≤ R.cells) (hn : n ≤ R.slots) (q : Q (some (.int x)) h) : o_Go κ Q h k n pc Ls (.int x :: St) :=
  o_out B (fun hh => by cases hh) hk hn q fun p e s m args below meth c T locs X hx hby hret fs hr => retOut X hx hret rfl (Or.inl ⟨rfl, Or.inl rfl, _, rfl⟩) (hb hby hd) hr
theorem o_zreturn (B : o_Bo κ l Z n0 R y bytes ml (some .boolean)) {x : Int32} (hd : decode bytes pc = .ok (.ireturn, 1)) (hk : k ≤ R.cells) (hn : n ≤ R.slots) (q : Q (some (.int (nar .boolean x))) h) : o_Go κ Q h k n pc Ls (.int x :: St) :=
  o_out B (fun hh => by cases hh) hk hn q fun p e s m args below meth c T locs X hx hby hret fs hr => retN X hx hret (by simp) (hb hby hd) hr
theorem o_lreturn (B : o_Bo κ l Z n0 R y bytes ml (some .long)) {x : Int64} (hd : decode bytes pc = .ok (.lreturn, 1)) (hk : k ≤ R.cells) (hn : n ≤ R.slots) (q : Q (some (.long x)) h) : o_Go κ Q h k n pc Ls (.long x :: St) :=
  o_out B (fun hh => by cases hh) hk hn q fun p e s m args below meth c T locs X hx hby hret fs hr => retOut X hx hret rfl (Or.inr (Or.inl ⟨rfl, rfl, _, rfl⟩)) (hb hby hd) hr
theorem o_areturn {t : FieldType} (B : o_Bo κ l Z n0 R y bytes ml (some t)) {v : Value} (ht : t.isReference = true) (hn' : narrow t v = v) (hv : v.isRef = true) (hd : decode bytes pc = .ok (.areturn, 1)) (hk : k ≤ R.cells) (hn : n ≤ R.slots) (q : Q (some v) h) : o_Go κ Q h k n pc Ls (v :: St) :=
  o_out B (fun hh => by cases hh) hk hn q fun p e s m args below meth c T locs X hx hby hret fs hr => retOut X hx hret hn' (Or.inr (Or.inr (Or.inr (Or.inr ⟨rfl, ht, hv⟩)))) (hb hby hd) hr
theorem o_return (B : o_Bo κ l Z n0 R y bytes ml none) (hd : decode bytes pc = .ok (.return_, 1)) (hk : k ≤ R.cells) (hn : n ≤ R.slots) (q : Q none h) : o_Go κ Q h k n pc Ls [] :=
  o_out B (fun _ => rfl) hk hn q fun p e s m args below meth c T locs X hx hby hret fs hr => X.returnOut hx hret (hb hby hd) hr
theorem o_getF (B : o_Bo κ l Z n0 R y bytes ml ret) {O nm d : String} {idx : Nat} {a : Addr} {v : Value} (hd : decode bytes pc = .ok (.getfield idx, 3)) (w : (Cond.fieldLink y.cls idx O nm d).before a0 Z = true) (F : Fld Z h a O nm d v) (K : o_Go κ Q h k n (pc + 3) Ls (v :: St)) : o_Go κ Q h k n pc Ls (.ref a :: St) := by
  obtain ⟨p, e, s, m, args, below, meth, c, rfl, hx, hZ, hby, hml, hown, hret, hlk, hnm⟩ := B
  intro T locs X N eT
  obtain ⟨T', X', e', st'⟩ := getF X hx hZ hown (host := "") (Or.inl w) Via.refl eT F (g := mkF m pc Ls.toArray (.ref a :: St)) rfl rfl (hb hby hd)
  obtain ⟨s₂, o, st, r⟩ := K T' locs X' N e'
  exact ⟨s₂, o, st' _ st, r⟩
theorem o_putF (B : o_Bo κ l Z n0 R y bytes ml ret) {O nm d C : String} {idx kk : Nat} {a : Addr} {v old : Value} {ty : FieldType} (hd : decode bytes pc = .ok (.putfield idx, 3)) (w : (Cond.fieldLink y.cls idx O nm d).before a0 Z = true) (F : Fld Z h a O nm d old) (E : Exa Z h a C) (L : (Cond.lays C O nm d).before a0 Z = true ∨ ((Cond.laysFinal C O nm d).before a0 Z = true ∧ y.cls = O ∧ y.name = "<init>")) (wi : (Cond.instantiable C kk).before a0 Z = true)
    (hty : parseFieldDescriptor d = some ty) (hn : narrow ty v = v) (hf : fits ty v = true) (ge : n0 ≤ a) (K : ∀ h', Wr h h' a (Jvm.RoadKit.slotOf Z O nm d) v → o_Go κ Q h' k n (pc + 3) Ls St) : o_Go κ Q h k n pc Ls (v :: .ref a :: St) := by
  obtain ⟨p, e, s, m, args, below, meth, c, rfl, hx, hZ, hby, hml, hown, hret, hlk, hnm⟩ := B
  intro T locs X N eT
  have L' : (Cond.lays C O nm d).before a0 Z = true ∨ ((Cond.laysFinal C O nm d).before a0 Z = true ∧ y.cls = O ∧ meth.name = "<init>") := L.imp id fun q => ⟨q.1, q.2.1, hnm.trans q.2.2⟩
  obtain ⟨T', h', X', e', W, st'⟩ := putF X hx hZ hown (host := "") (Or.inl w) Via.refl eT F E L' wi hty hn hf (g := mkF m pc Ls.toArray (v :: .ref a :: St)) rfl rfl (hb hby hd)
  obtain ⟨s₂, o, st, r⟩ := K h' W T' _ X' (Fr.snoc X' N ge) e'
  exact ⟨s₂, o, st' _ st, r⟩
theorem o_getS (B : o_Bo κ l Z n0 R y bytes ml ret) {O nm d : String} {idx : Nat} {v : Value} (hd : decode bytes pc = .ok (.getstatic idx, 3)) (w : (Cond.fieldLink y.cls idx O nm d).before a0 Z = true) (F : Sta Z h O nm d v) (K : o_Go κ Q h k n (pc + 3) Ls (v :: St)) : o_Go κ Q h k n pc Ls St := by
  obtain ⟨p, e, s, m, args, below, meth, c, rfl, hx, hZ, hby, hml, hown, hret, hlk, hnm⟩ := B
  intro T locs X N eT
  obtain ⟨T', X', e', st'⟩ := getS (host := "") X hx hZ hown w Via.refl eT F (g := mkF m pc Ls.toArray St) rfl (hb hby hd)
  obtain ⟨s₂, o, st, r⟩ := K T' locs X' N e'
  exact ⟨s₂, o, st' _ st, r⟩
theorem o_new (B : o_Bo κ l Z n0 R y bytes ml ret) {C : String} {idx nn : Nat} (hd : decode bytes pc = .ok (.new idx, 3)) (w : (Cond.classLink y.cls idx C).before a0 Z = true) (wi : (Cond.instantiable C nn).before a0 Z = true) (wz : (Cond.initialized C).before a0 Z = true) (hc : k + 1 ≤ R.cells) (hl : n + nn ≤ R.slots)
    (K : ∀ h', Ext h h' → Exa Z h' h.size C → (∀ {O nm d : String} {ty : FieldType}, Laid Z a0 C O nm d → parseFieldDescriptor d = some ty → Fld Z h' h.size O nm d (defaultValue ty)) → o_Go κ Q h' (k + 1) (n + nn) (pc + 3) Ls (.ref h.size :: St)) : o_Go κ Q h k n pc Ls St := by
  obtain ⟨p, e, s, m, args, below, meth, c, rfl, hx, hZ, hby, hml, hown, hret, hlk, hnm⟩ := B
  intro T locs X N eT
  obtain ⟨T', h', X', e', E, A, D, -, st'⟩ := newO X hx hZ hown w wi wz eT (g := mkF m pc Ls.toArray St) rfl (hb hby hd) hc hl
  obtain ⟨s₂, o, st, r⟩ := K h' E A (fun L q => D L q) T' _ X' N e'
  exact ⟨s₂, o, st' _ st, r⟩
theorem o_initO (B : o_Bo κ l Z n0 R y bytes ml ret) {idx W : Nat} {a : Addr} (hd : decode bytes pc = .ok (.invokespecial idx, 3)) (w1 : (Cond.methodLink y.cls idx Lib.objectInit).before a0 Z = true) (w2 : (Cond.instanceMethod Lib.objectInit).before a0 Z = true) (w3 : (Cond.code Lib.objectInit ⟨#[0xb1]⟩ 1 none).before a0 Z = true)
    (hf : 1 ≤ R.frames) (hW : (St.map fun v => v.category).sum ≤ W) (hl : W + 12 ≤ R.locals) (hLs : Ls.length = ml) (K : o_Go κ Q h k n (pc + 3) Ls St) : o_Go κ Q h k n pc Ls (.ref a :: St) := by
  obtain ⟨p, e, s, m, args, below, meth, c, rfl, hx, hZ, hby, hml, hown, hret, hlk, hnm⟩ := B
  intro T locs X N eT
  obtain ⟨T', X', e', st'⟩ := initO X hx hZ hown w1 w2 w3 eT (g := mkF m pc Ls.toArray (.ref a :: St)) rfl (by rw [hml, ← hLs]; simp) rfl (hb hby hd) hf (W := W) (by simpa using hW) hl
  obtain ⟨s₂, o, st, r⟩ := K T' _ X' N e'
  exact ⟨s₂, o, st' _ st, r⟩
/-- an array of the component type ty that holds the list vs -/
def o_AR (Z : State) (h : Heap) (a : Addr) (ty : FieldType) (vs : List Value) : Prop := ∃ c : Cell, Arr Z h a c ty ∧ c.slots = vs.toArray ∧ vs.length < 2 ^ 31
abbrev o_IA (Z : State) (h : Heap) (a : Addr) (L : List Int32) : Prop := o_AR Z h a .int (L.map Value.int)
abbrev o_LA (Z : State) (h : Heap) (a : Addr) (L : List Int64) : Prop := o_AR Z h a .long (L.map Value.long)
abbrev o_ZA (Z : State) (h : Heap) (a : Addr) (L : List Int32) : Prop := o_AR Z h a .boolean (L.map Value.int)
theorem o_AR.lt {h : Heap} {a : Addr} {ty : FieldType} {vs : List Value} (A : o_AR Z h a ty vs) : a < h.size := by obtain ⟨c, A, -⟩ := A; exact A.lt
theorem o_AR.ext {h h' : Heap} {a : Addr} {ty : FieldType} {vs : List Value} (A : o_AR Z h a ty vs) (E : Ext h h') : o_AR Z h' a ty vs := by obtain ⟨c, A, r⟩ := A; exact ⟨c, A.ext E, r⟩
theorem o_AR.other {h h' : Heap} {a b : Addr} {sl : Nat} {v : Value} {ty : FieldType} {vs : List Value} (A : o_AR Z h a ty vs) (W : Wr h h' b sl v) (q : a ≠ b) : o_AR Z h' a ty vs := by obtain ⟨c, A, r⟩ := A; exact ⟨c, A.other W q, r⟩
theorem o_AR.keep {h h' : Heap} {a : Addr} {ws : List Addr} {ty : FieldType} {vs : List Value} (A : o_AR Z h a ty vs) (K : Keep h h' ws) (q : a ∉ ws) : o_AR Z h' a ty vs := by obtain ⟨c, A, r⟩ := A; exact ⟨c, ⟨K.2.1 a c A.1 q, A.2⟩, r⟩
theorem o_AR.same {h h' : Heap} {a : Addr} {i : Nat} {v : Value} {ty : FieldType} {vs : List Value} (A : o_AR Z h a ty vs) (W : Wr h h' a i v) : o_AR Z h' a ty (vs.set i v) := by
  obtain ⟨c, A, e, q⟩ := A
  exact ⟨_, A.same W, by simp [Cell.setSlot, e], by simpa using q⟩
theorem o_IA.same {h h' : Heap} {a : Addr} {i : Nat} {x : Int32} {L : List Int32} (A : o_IA Z h a L) (W : Wr h h' a i (.int x)) : o_IA Z h' a (L.set i x) := by
  have := o_AR.same A W; rwa [← List.map_set] at this
theorem o_LA.same {h h' : Heap} {a : Addr} {i : Nat} {x : Int64} {L : List Int64} (A : o_LA Z h a L) (W : Wr h h' a i (.long x)) : o_LA Z h' a (L.set i x) := by
  have := o_AR.same A W; rwa [← List.map_set] at this
theorem o_ZA.same {h h' : Heap} {a : Addr} {i : Nat} {x : Int32} {L : List Int32} (A : o_ZA Z h a L) (W : Wr h h' a i (.int x)) : o_ZA Z h' a (L.set i x) := by
  have := o_AR.same A W; rwa [← List.map_set] at this
theorem o_IA.len {h : Heap} {a : Addr} {L : List Int32} (A : o_IA Z h a L) : L.length < 2 ^ 31 := by obtain ⟨c, A, e, q⟩ := A; simpa using q
theorem o_LA.len {h : Heap} {a : Addr} {L : List Int64} (A : o_LA Z h a L) : L.length < 2 ^ 31 := by obtain ⟨c, A, e, q⟩ := A; simpa using q
theorem o_nat {i N : Nat} (hi : i < N) (hN : N < 2 ^ 31) : (Int32.ofNat i).toNatClampNeg = i ∧ ¬ (Int32.ofNat i < 0) := by
  have e : (Int32.ofNat i).toInt = i := Int32.toInt_ofNat_of_lt (by omega)
  refine ⟨by simp only [Int32.toNatClampNeg, e]; rfl, ?_⟩
  rw [Int32.lt_iff_toInt_lt, e]; show ¬ (i : Int) < 0; omega
theorem o_in {c : Cell} {vs : List Value} {i : Nat} {j : Int32} (es : c.slots = vs.toArray) (q : vs.length < 2 ^ 31) (hj : j = Int32.ofNat i) (hi : i < vs.length) : ¬ (j < 0 ∨ c.slots.size ≤ j.toNatClampNeg) ∧ j.toNatClampNeg = i := by
  subst hj
  obtain ⟨h1, h2⟩ := o_nat hi q
  refine ⟨?_, h1⟩
  rintro (g | g)
  · exact h2 g
  · rw [h1, es] at g; simp at g; omega
theorem o_iaload (B : o_Bo κ l Z n0 R y bytes ml ret) {a : Addr} {vs : List Value} {j : Int32} {v : Value} (i : Nat) (hd : decode bytes pc = .ok (.iaload, 1)) (A : o_AR Z h a .int vs) (hj : j = Int32.ofNat i) (hv : vs[i]? = some v) (K : o_Go κ Q h k n (pc + 1) Ls (v :: St)) : o_Go κ Q h k n pc Ls (.int j :: .ref a :: St) := by
  obtain ⟨p, e, s, m, args, below, meth, c, rfl, hx, hZ, hby, hml, hown, hret, hlk, hnm⟩ := B
  intro T locs X N eT
  obtain ⟨cl, A, es, q⟩ := A
  obtain ⟨hi, hget⟩ := List.getElem?_eq_some_iff.mp hv
  obtain ⟨h1, h2⟩ := o_in es q hj hi
  obtain ⟨s₂, o, st, r⟩ := K T _ X N eT
  exact ⟨s₂, o, X.iaload hx (by rw [eT]; exact A.1) (State.isArrayOf_alike hZ.alike A.2.1) A.2.2 h1 (by rw [h2, es]; simpa using hv) (g := mkF m pc Ls.toArray (.int j :: .ref a :: St)) rfl rfl (hb hby hd) _ st, r⟩
theorem o_laload (B : o_Bo κ l Z n0 R y bytes ml ret) {a : Addr} {vs : List Value} {j : Int32} {v : Value} (i : Nat) (hd : decode bytes pc = .ok (.laload, 1)) (A : o_AR Z h a .long vs) (hj : j = Int32.ofNat i) (hv : vs[i]? = some v) (K : o_Go κ Q h k n (pc + 1) Ls (v :: St)) : o_Go κ Q h k n pc Ls (.int j :: .ref a :: St) := by
  obtain ⟨p, e, s, m, args, below, meth, c, rfl, hx, hZ, hby, hml, hown, hret, hlk, hnm⟩ := B
  intro T locs X N eT
  obtain ⟨cl, A, es, q⟩ := A
  obtain ⟨hi, hget⟩ := List.getElem?_eq_some_iff.mp hv
  obtain ⟨h1, h2⟩ := o_in es q hj hi
  obtain ⟨s₂, o, st, r⟩ := K T _ X N eT
  exact ⟨s₂, o, X.laload hx (by rw [eT]; exact A.1) (State.isArrayOf_alike hZ.alike A.2.1) A.2.2 h1 (by rw [h2, es]; simpa using hv) (g := mkF m pc Ls.toArray (.int j :: .ref a :: St)) rfl rfl (hb hby hd) _ st, r⟩
theorem o_baload (B : o_Bo κ l Z n0 R y bytes ml ret) {a : Addr} {vs : List Value} {j : Int32} {v : Value} (i : Nat) (hd : decode bytes pc = .ok (.baload, 1)) (A : o_AR Z h a .boolean vs) (hj : j = Int32.ofNat i) (hv : vs[i]? = some v) (K : o_Go κ Q h k n (pc + 1) Ls (v :: St)) : o_Go κ Q h k n pc Ls (.int j :: .ref a :: St) := by
  obtain ⟨p, e, s, m, args, below, meth, c, rfl, hx, hZ, hby, hml, hown, hret, hlk, hnm⟩ := B
  intro T locs X N eT
  obtain ⟨cl, A, es, q⟩ := A
  obtain ⟨hi, hget⟩ := List.getElem?_eq_some_iff.mp hv
  obtain ⟨h1, h2⟩ := o_in es q hj hi
  obtain ⟨s₂, o, st, r⟩ := K T _ X N eT
  exact ⟨s₂, o, X.baloadBooleans hx (by rw [eT]; exact A.1) (State.isArrayOf_alike hZ.alike A.2.1) A.2.2 h1 (by rw [h2, es]; simpa using hv) (g := mkF m pc Ls.toArray (.int j :: .ref a :: St)) rfl rfl (hb hby hd) _ st, r⟩
theorem o_aaload (B : o_Bo κ l Z n0 R y bytes ml ret) {ty : FieldType} {a : Addr} {vs : List Value} {j : Int32} {v : Value} (i : Nat) (hty : ty.isReference = true) (hd : decode bytes pc = .ok (.aaload, 1)) (A : o_AR Z h a ty vs) (hj : j = Int32.ofNat i) (hv : vs[i]? = some v) (K : o_Go κ Q h k n (pc + 1) Ls (v :: St)) : o_Go κ Q h k n pc Ls (.int j :: .ref a :: St) := by
  obtain ⟨p, e, s, m, args, below, meth, c, rfl, hx, hZ, hby, hml, hown, hret, hlk, hnm⟩ := B
  intro T locs X N eT
  obtain ⟨cl, A, es, q⟩ := A
  obtain ⟨hi, hget⟩ := List.getElem?_eq_some_iff.mp hv
  obtain ⟨h1, h2⟩ := o_in es q hj hi
  obtain ⟨s₂, o, st, r⟩ := K T _ X N eT
  exact ⟨s₂, o, X.aaload hx (by rw [eT]; exact A.1) (State.isArrayOf_alike hZ.alike A.2.1) hty A.2.2 h1 (by rw [h2, es]; simpa using hv) (g := mkF m pc Ls.toArray (.int j :: .ref a :: St)) rfl rfl (hb hby hd) _ st, r⟩
theorem o_arraylength (B : o_Bo κ l Z n0 R y bytes ml ret) {ty : FieldType} {a : Addr} {vs : List Value} (hd : decode bytes pc = .ok (.arraylength, 1)) (A : o_AR Z h a ty vs) (K : o_Go κ Q h k n (pc + 1) Ls (.int (Int32.ofNat vs.length) :: St)) : o_Go κ Q h k n pc Ls (.ref a :: St) := by
  obtain ⟨p, e, s, m, args, below, meth, c, rfl, hx, hZ, hby, hml, hown, hret, hlk, hnm⟩ := B
  intro T locs X N eT
  obtain ⟨cl, A, es, q⟩ := A
  obtain ⟨s₂, o, st, r⟩ := K T _ X N eT
  have ez : cl.slots.size.toInt32 = Int32.ofNat vs.length := by rw [es]; simp
  exact ⟨s₂, o, X.arraylength hx (by rw [eT]; exact A.1) (State.isArrayOf_alike hZ.alike A.2.1) (g := mkF m pc Ls.toArray (.ref a :: St)) rfl rfl (hb hby hd) _ (by rw [ez]; exact st), r⟩
theorem o_iastore (B : o_Bo κ l Z n0 R y bytes ml ret) {a : Addr} {vs : List Value} {j : Int32} {x : Int32} (i : Nat) (hd : decode bytes pc = .ok (.iastore, 1)) (A : o_AR Z h a .int vs) (hj : j = Int32.ofNat i) (hi : i < vs.length) (ge : n0 ≤ a) (K : ∀ h', Wr h h' a i (.int x) → o_Go κ Q h' k n (pc + 1) Ls St) : o_Go κ Q h k n pc Ls (.int x :: .int j :: .ref a :: St) := by
  obtain ⟨p, e, s, m, args, below, meth, c, rfl, hx, hZ, hby, hml, hown, hret, hlk, hnm⟩ := B
  intro T locs X N eT
  obtain ⟨cl, A, es, q⟩ := A
  obtain ⟨h1, h2⟩ := o_in es q hj hi
  obtain ⟨T', h', X', e', W, st'⟩ := stI X hx hZ eT A h1 (g := mkF m pc Ls.toArray (.int x :: .int j :: .ref a :: St)) rfl rfl (hb hby hd)
  have W' := W
  rw [h2] at W'
  obtain ⟨s₂, o, st, r⟩ := K h' W' T' _ X' (Fr.snoc X' N ge) e'
  exact ⟨s₂, o, st' _ st, r⟩
theorem o_lastore (B : o_Bo κ l Z n0 R y bytes ml ret) {a : Addr} {vs : List Value} {j : Int32} {x : Int64} (i : Nat) (hd : decode bytes pc = .ok (.lastore, 1)) (A : o_AR Z h a .long vs) (hj : j = Int32.ofNat i) (hi : i < vs.length) (ge : n0 ≤ a) (K : ∀ h', Wr h h' a i (.long x) → o_Go κ Q h' k n (pc + 1) Ls St) : o_Go κ Q h k n pc Ls (.long x :: .int j :: .ref a :: St) := by
  obtain ⟨p, e, s, m, args, below, meth, c, rfl, hx, hZ, hby, hml, hown, hret, hlk, hnm⟩ := B
  intro T locs X N eT
  obtain ⟨cl, A, es, q⟩ := A
  obtain ⟨h1, h2⟩ := o_in es q hj hi
  obtain ⟨T', h', X', e', W, st'⟩ := stJ X hx hZ eT A h1 (g := mkF m pc Ls.toArray (.long x :: .int j :: .ref a :: St)) rfl rfl (hb hby hd)
  have W' := W
  rw [h2] at W'
  obtain ⟨s₂, o, st, r⟩ := K h' W' T' _ X' (Fr.snoc X' N ge) e'
  exact ⟨s₂, o, st' _ st, r⟩
theorem o_bastore (B : o_Bo κ l Z n0 R y bytes ml ret) {a : Addr} {vs : List Value} {j : Int32} {x : Int32} (i : Nat) (hd : decode bytes pc = .ok (.bastore, 1)) (A : o_AR Z h a .boolean vs) (hj : j = Int32.ofNat i) (hi : i < vs.length) (ge : n0 ≤ a) (K : ∀ h', Wr h h' a i (.int (nar .boolean x)) → o_Go κ Q h' k n (pc + 1) Ls St) : o_Go κ Q h k n pc Ls (.int x :: .int j :: .ref a :: St) := by
  obtain ⟨p, e, s, m, args, below, meth, c, rfl, hx, hZ, hby, hml, hown, hret, hlk, hnm⟩ := B
  intro T locs X N eT
  obtain ⟨cl, A, es, q⟩ := A
  obtain ⟨h1, h2⟩ := o_in es q hj hi
  obtain ⟨T', h', X', e', W, st'⟩ := stZ X hx hZ eT A h1 (g := mkF m pc Ls.toArray (.int x :: .int j :: .ref a :: St)) rfl rfl (hb hby hd)
  have W' := W
  rw [h2] at W'
  obtain ⟨s₂, o, st, r⟩ := K h' W' T' _ X' (Fr.snoc X' N ge) e'
  exact ⟨s₂, o, st' _ st, r⟩
theorem o_newarray (B : o_Bo κ l Z n0 R y bytes ml ret) {aty : ArrayType} {cnt : Int32} (cN cap : Nat) (hd : decode bytes pc = .ok (.newarray aty, 2)) (w : (Cond.arrayClass (newarray.typeOf aty)).before a0 Z = true) (hcnt : cnt = Int32.ofNat cN) (hcap : cN ≤ cap) (hbig : cap * 8 ≤ 536870912) (hc : k + 1 ≤ R.cells) (hl : n + cap ≤ R.slots)
    (K : ∀ h', Ext h h' → h.size < h'.size → o_AR Z h' h.size (newarray.typeOf aty) (List.replicate cN (defaultValue (newarray.typeOf aty))) → o_Go κ Q h' (k + 1) (n + cap) (pc + 2) Ls (.ref h.size :: St)) : o_Go κ Q h k n pc Ls (.int cnt :: St) := by
  obtain ⟨p, e, s, m, args, below, meth, c, rfl, hx, hZ, hby, hml, hown, hret, hlk, hnm⟩ := B
  intro T locs X N eT
  obtain ⟨h1, h2⟩ := o_nat (i := cN) (N := cN + 1) (by omega) (by omega)
  obtain ⟨T', h', cA, X', e', E, A, st'⟩ := newP X hx hZ w eT (g := mkF m pc Ls.toArray (.int cnt :: St)) rfl (hb hby hd) rfl (by rw [hcnt]; exact h2) (cap := cap) (by rw [hcnt, h1]; exact hcap) hbig hc hl
  obtain ⟨s₂, o, st, r⟩ := K h' E A.lt ⟨_, A, by simp [newA, hcnt, h1], by simp; omega⟩ T' _ X' N e'
  exact ⟨s₂, o, st' _ st, r⟩
theorem o_iadd_c (B : o_Bo κ l Z n0 R y bytes ml ret) {x y : Int32} (z : Int32) (hd : decode bytes pc = .ok (.iadd, 1)) (hz : x + y = z) (K : o_Go κ Q h k n (pc + 1) Ls (.int z :: St)) : o_Go κ Q h k n pc Ls (.int y :: .int x :: St) := o_iadd B hd (hz.symm ▸ K)
theorem o_isub_c (B : o_Bo κ l Z n0 R y bytes ml ret) {x y : Int32} (z : Int32) (hd : decode bytes pc = .ok (.isub, 1)) (hz : x - y = z) (K : o_Go κ Q h k n (pc + 1) Ls (.int z :: St)) : o_Go κ Q h k n pc Ls (.int y :: .int x :: St) := o_isub B hd (hz.symm ▸ K)
theorem o_iand_c (B : o_Bo κ l Z n0 R y bytes ml ret) {x y : Int32} (z : Int32) (hd : decode bytes pc = .ok (.iand, 1)) (hz : x &&& y = z) (K : o_Go κ Q h k n (pc + 1) Ls (.int z :: St)) : o_Go κ Q h k n pc Ls (.int y :: .int x :: St) := o_iand B hd (hz.symm ▸ K)
theorem o_imul_c (B : o_Bo κ l Z n0 R y bytes ml ret) {x y : Int32} (z : Int32) (hd : decode bytes pc = .ok (.imul, 1)) (hz : x * y = z) (K : o_Go κ Q h k n (pc + 1) Ls (.int z :: St)) : o_Go κ Q h k n pc Ls (.int y :: .int x :: St) := o_imul B hd (hz.symm ▸ K)
theorem o_ior_c (B : o_Bo κ l Z n0 R y bytes ml ret) {x y : Int32} (z : Int32) (hd : decode bytes pc = .ok (.ior, 1)) (hz : x ||| y = z) (K : o_Go κ Q h k n (pc + 1) Ls (.int z :: St)) : o_Go κ Q h k n pc Ls (.int y :: .int x :: St) := o_ior B hd (hz.symm ▸ K)
theorem o_ixor_c (B : o_Bo κ l Z n0 R y bytes ml ret) {x y : Int32} (z : Int32) (hd : decode bytes pc = .ok (.ixor, 1)) (hz : x ^^^ y = z) (K : o_Go κ Q h k n (pc + 1) Ls (.int z :: St)) : o_Go κ Q h k n pc Ls (.int y :: .int x :: St) := o_ixor B hd (hz.symm ▸ K)
theorem o_ishl_c (B : o_Bo κ l Z n0 R y bytes ml ret) {x y : Int32} (z : Int32) (hd : decode bytes pc = .ok (.ishl, 1)) (hz : x <<< (y &&& 31) = z) (K : o_Go κ Q h k n (pc + 1) Ls (.int z :: St)) : o_Go κ Q h k n pc Ls (.int y :: .int x :: St) := o_ishl B hd (hz.symm ▸ K)
theorem o_ishr_c (B : o_Bo κ l Z n0 R y bytes ml ret) {x y : Int32} (z : Int32) (hd : decode bytes pc = .ok (.ishr, 1)) (hz : x >>> (y &&& 31) = z) (K : o_Go κ Q h k n (pc + 1) Ls (.int z :: St)) : o_Go κ Q h k n pc Ls (.int y :: .int x :: St) := o_ishr B hd (hz.symm ▸ K)
theorem o_iushr_c (B : o_Bo κ l Z n0 R y bytes ml ret) {x y : Int32} (z : Int32) (hd : decode bytes pc = .ok (.iushr, 1)) (hz : XT.ushr x y = z) (K : o_Go κ Q h k n (pc + 1) Ls (.int z :: St)) : o_Go κ Q h k n pc Ls (.int y :: .int x :: St) := o_iushr B hd (hz.symm ▸ K)
theorem o_idiv_c (B : o_Bo κ l Z n0 R y bytes ml ret) {x y : Int32} (z : Int32) (hd : decode bytes pc = .ok (.idiv, 1)) (hy : y ≠ 0) (hz : x / y = z) (K : o_Go κ Q h k n (pc + 1) Ls (.int z :: St)) : o_Go κ Q h k n pc Ls (.int y :: .int x :: St) := o_idiv B hd hy (hz.symm ▸ K)
theorem o_irem_c (B : o_Bo κ l Z n0 R y bytes ml ret) {x y : Int32} (z : Int32) (hd : decode bytes pc = .ok (.irem, 1)) (hy : y ≠ 0) (hz : x % y = z) (K : o_Go κ Q h k n (pc + 1) Ls (.int z :: St)) : o_Go κ Q h k n pc Ls (.int y :: .int x :: St) := o_irem B hd hy (hz.symm ▸ K)
theorem o_arraylen (B : o_Bo κ l Z n0 R y bytes ml ret) {ty : FieldType} {a : Addr} {vs : List Value} (z : Int32) (hd : decode bytes pc = .ok (.arraylength, 1)) (A : o_AR Z h a ty vs) (hz : Int32.ofNat vs.length = z) (K : o_Go κ Q h k n (pc + 1) Ls (.int z :: St)) : o_Go κ Q h k n pc Ls (.ref a :: St) := o_arraylength B hd A (hz.symm ▸ K)
theorem o_callS (B : o_Bo κ l Z n0 R y bytes ml ret) {yc : MethodName} {bc : ByteArray} {mc : Nat} {rc : Option FieldType} {rm : Room} {as rest : List Value} {Qc : Option Value → Heap → Prop} {idx : Nat} (W : Nat) (hd : decode bytes pc = .ok (.invokestatic idx, 3))
    (w1 : (Cond.methodLink y.cls idx yc).before a0 Z = true) (w2 : (Cond.static yc).before a0 Z = true) (w3 : (Cond.initialized yc.cls).before a0 Z = true) (w4 : (Cond.code yc bc mc rc).before a0 Z = true) (hy : yc.cls ≠ "java/lang/invoke/MethodHandle" ∧ yc.cls ≠ "java/lang/invoke/VarHandle") {ps : List FieldType} {r0 : Option FieldType} (pd : parseMethodDescriptor yc.desc = some ⟨ps, r0⟩) (hlen : as.length = ps.length)
    (hW : (rest.map fun v => v.category).sum ≤ W) (hf : rm.frames + 1 ≤ R.frames) (hl : W + (mc + 11) + rm.locals ≤ R.locals) (hc : k + rm.cells ≤ R.cells) (hs : n + rm.slots ≤ R.slots) (hLs : Ls.length = ml)
    (C : o_C l Z n0 yc bc mc rc rm as h Qc) (K : ∀ v h', Qc v h' → o_Go κ Q h' (k + rm.cells) (n + rm.slots) (pc + 3) Ls (v.toList ++ rest)) : o_Go κ Q h k n pc Ls (as.reverse ++ rest) := by
  obtain ⟨p, e, s, m, args, below, meth, c, rfl, hx, hZ, hby, hml, hown, hret, hlk, hnm⟩ := B
  intro T locs X N eT
  obtain ⟨v, vm1, ⟨T', L', k', n'⟩, -, X', ⟨Lc, hQ, l', y', z'⟩, st'⟩ := Jvm.LawKit.callS X hx (y := yc) hown (mvT hZ w1) (mvT hZ w2) (mvT hZ w3) (mvT hZ w4) hy (backOf (W := W) (Q := fun v h L => Qc v h ∧ Fr n0 L) (C []) hZ w4 w3 hf hl) (g := mkF m pc Ls.toArray (as.reverse ++ rest)) rfl (by rw [hml, ← hLs]; simp) (argsL := as) (rest := rest) (lenOf pd hlen) rfl (by simpa using hW) (hb hby hd) (fun _ _ => ⟨rfl, eT, hc, hs⟩)
  dsimp only [Pt.U, Pt.locs, Pt.cells, Pt.slots] at X' l' y' z' st' hQ
  subst l' y' z'
  obtain ⟨hq, Nc⟩ := hQ
  obtain ⟨s₂, o, st, r⟩ := K v T'.heap hq T' _ X' (Fr.app N Nc) rfl
  exact ⟨s₂, o, st' _ st, r⟩
theorem o_callN (B : o_Bo κ l Z n0 R y bytes ml ret) {yc : MethodName} {bc : ByteArray} {mc : Nat} {rm : Room} {as rest : List Value} {a : Addr} {Qc : Option Value → Heap → Prop} {idx : Nat} (W : Nat) (hd : decode bytes pc = .ok (.invokespecial idx, 3)) (hin : yc.name = "<init>")
    (w1 : (Cond.methodLink y.cls idx yc).before a0 Z = true) (w2 : (Cond.instanceMethod yc).before a0 Z = true) (w3 : (Cond.initialized yc.cls).before a0 Z = true) (w4 : (Cond.code yc bc mc none).before a0 Z = true) (hy : yc.cls ≠ "java/lang/invoke/MethodHandle" ∧ yc.cls ≠ "java/lang/invoke/VarHandle") {ps : List FieldType} {r0 : Option FieldType} (pd : parseMethodDescriptor yc.desc = some ⟨ps, r0⟩) (hlen : as.length = ps.length)
    (hW : (rest.map fun v => v.category).sum ≤ W) (hf : rm.frames + 1 ≤ R.frames) (hl : W + (mc + 11) + rm.locals ≤ R.locals) (hc : k + rm.cells ≤ R.cells) (hs : n + rm.slots ≤ R.slots) (hLs : Ls.length = ml)
    (C : o_C l Z n0 yc bc mc none rm (.ref a :: as) h Qc) (K : ∀ v h', Qc v h' → o_Go κ Q h' (k + rm.cells) (n + rm.slots) (pc + 3) Ls (v.toList ++ rest)) : o_Go κ Q h k n pc Ls (as.reverse ++ .ref a :: rest) := by
  obtain ⟨p, e, s, m, args, below, meth, c, rfl, hx, hZ, hby, hml, hown, hret, hlk, hnm⟩ := B
  intro T locs X N eT
  obtain ⟨v, vm1, ⟨T', L', k', n'⟩, -, X', ⟨Lc, hQ, l', y', z'⟩, st'⟩ := X.specialBack hx (y := yc) hin hown (mvT hZ w1) (mvT hZ w2) (mvT hZ w4) hy (backOf (W := W) (Q := fun v h L => Qc v h ∧ Fr n0 L) (C []) hZ w4 w3 hf hl) (g := mkF m pc Ls.toArray (as.reverse ++ .ref a :: rest)) rfl (by rw [hml, ← hLs]; simp) (Steps.refl _) (a := a) (argsL := as) (rest := rest) (lenOf pd hlen) rfl (by simpa using hW) (hb hby hd) (fun _ _ => ⟨rfl, eT, hc, hs⟩)
  dsimp only [Pt.U, Pt.locs, Pt.cells, Pt.slots] at X' l' y' z' st' hQ
  subst l' y' z'
  obtain ⟨hq, Nc⟩ := hQ
  obtain ⟨s₂, o, st, r⟩ := K v T'.heap hq T' _ X' (Fr.app N Nc) rfl
  exact ⟨s₂, o, st'.trans st, r⟩
theorem o_callV (B : o_Bo κ l Z n0 R y bytes ml ret) {yc : MethodName} {Cn : String} {bc : ByteArray} {mc : Nat} {rc : Option FieldType} {rm : Room} {as rest : List Value} {a : Addr} {Qc : Option Value → Heap → Prop} {idx : Nat} (W : Nat) (hd : decode bytes pc = .ok (.invokevirtual idx, 3))
    (w1 : (Cond.methodLink y.cls idx yc).before a0 Z = true) (w2 : (Cond.declares yc).before a0 Z = true) (w5 : (Cond.selects Cn yc yc).before a0 Z = true) (w6 : (Cond.instanceMethod yc).before a0 Z = true) (w3 : (Cond.initialized yc.cls).before a0 Z = true) (w4 : (Cond.code yc bc mc rc).before a0 Z = true) (hy : yc.cls ≠ "java/lang/invoke/MethodHandle" ∧ yc.cls ≠ "java/lang/invoke/VarHandle") {ps : List FieldType} {r0 : Option FieldType} (pd : parseMethodDescriptor yc.desc = some ⟨ps, r0⟩) (hlen : as.length = ps.length)
    (hW : (rest.map fun v => v.category).sum ≤ W) (hf : rm.frames + 1 ≤ R.frames) (hl : W + (mc + 11) + rm.locals ≤ R.locals) (hc : k + rm.cells ≤ R.cells) (hs : n + rm.slots ≤ R.slots) (hLs : Ls.length = ml) (E : Exa Z h a Cn)
    (C : o_C l Z n0 yc bc mc rc rm (.ref a :: as) h Qc) (K : ∀ v h', Qc v h' → o_Go κ Q h' (k + rm.cells) (n + rm.slots) (pc + 3) Ls (v.toList ++ rest)) : o_Go κ Q h k n pc Ls (as.reverse ++ .ref a :: rest) := by
  obtain ⟨p, e, s, m, args, below, meth, c, rfl, hx, hZ, hby, hml, hown, hret, hlk, hnm⟩ := B
  intro T locs X N eT
  obtain ⟨cq, kq, qa, qb, qc⟩ := isOf hZ eT E
  obtain ⟨v, vm1, ⟨T', L', k', n'⟩, -, X', ⟨Lc, hQ, l', y', z'⟩, st'⟩ := X.virtualBack hx (y := yc) (z := yc) hown (mvT hZ w1) (mvT hZ w2) (notFace_of_selects (args := #[]) (mvT hZ w5)) (mvT hZ w5) (mvT hZ w6) hy (backOf (W := W) (Q := fun v h L => Qc v h ∧ Fr n0 L) (C []) hZ w4 w3 hf hl) qa qc (g := mkF m pc Ls.toArray (as.reverse ++ .ref a :: rest)) rfl (by rw [hml, ← hLs]; simp) (Steps.refl _) (argsL := as) (rest := rest) (lenOf pd hlen) rfl (by simpa using hW) (hb hby hd) (fun _ _ => ⟨rfl, eT, hc, hs⟩)
  dsimp only [Pt.U, Pt.locs, Pt.cells, Pt.slots] at X' l' y' z' st' hQ
  subst l' y' z'
  obtain ⟨hq, Nc⟩ := hQ
  obtain ⟨s₂, o, st, r⟩ := K v T'.heap hq T' _ X' (Fr.app N Nc) rfl
  exact ⟨s₂, o, st'.trans st, r⟩
theorem o_callS0 (B : o_Bo κ l Z n0 R y bytes ml ret) {yc : MethodName} {bc : ByteArray} {mc : Nat} {rc : Option FieldType} {rm : Room} {rest : List Value} {Qc : Option Value → Heap → Prop} {idx : Nat} (W : Nat) (hd : decode bytes pc = .ok (.invokestatic idx, 3)) (w1 : (Cond.methodLink y.cls idx yc).before a0 Z = true) (w2 : (Cond.static yc).before a0 Z = true) (w3 : (Cond.initialized yc.cls).before a0 Z = true) (w4 : (Cond.code yc bc mc rc).before a0 Z = true) (hy : yc.cls ≠ "java/lang/invoke/MethodHandle" ∧ yc.cls ≠ "java/lang/invoke/VarHandle") {ps : List FieldType} {r0 : Option FieldType} (pd : parseMethodDescriptor yc.desc = some ⟨ps, r0⟩) (hlen : 0 = ps.length) (hW : (rest.map fun v => v.category).sum ≤ W) (hf : rm.frames + 1 ≤ R.frames) (hl : W + (mc + 11) + rm.locals ≤ R.locals) (hc : k + rm.cells ≤ R.cells) (hs : n + rm.slots ≤ R.slots) (hLs : Ls.length = ml) (C : o_C l Z n0 yc bc mc rc rm [] h Qc) (K : ∀ v h', Qc v h' → o_Go κ Q h' (k + rm.cells) (n + rm.slots) (pc + 3) Ls (v.toList ++ rest)) : o_Go κ Q h k n pc Ls (rest) := o_callS B W hd w1 w2 w3 w4 hy pd (as := []) hlen hW hf hl hc hs hLs C K
theorem o_callN0 (B : o_Bo κ l Z n0 R y bytes ml ret) {yc : MethodName} {bc : ByteArray} {mc : Nat} {rm : Room} {rest : List Value} {a : Addr} {Qc : Option Value → Heap → Prop} {idx : Nat} (W : Nat) (hd : decode bytes pc = .ok (.invokespecial idx, 3)) (hin : yc.name = "<init>") (w1 : (Cond.methodLink y.cls idx yc).before a0 Z = true) (w2 : (Cond.instanceMethod yc).before a0 Z = true) (w3 : (Cond.initialized yc.cls).before a0 Z = true) (w4 : (Cond.code yc bc mc none).before a0 Z = true) (hy : yc.cls ≠ "java/lang/invoke/MethodHandle" ∧ yc.cls ≠ "java/lang/invoke/VarHandle") {ps : List FieldType} {r0 : Option FieldType} (pd : parseMethodDescriptor yc.desc = some ⟨ps, r0⟩) (hlen : 0 = ps.length) (hW : (rest.map fun v => v.category).sum ≤ W) (hf : rm.frames + 1 ≤ R.frames) (hl : W + (mc + 11) + rm.locals ≤ R.locals) (hc : k + rm.cells ≤ R.cells) (hs : n + rm.slots ≤ R.slots) (hLs : Ls.length = ml) (C : o_C l Z n0 yc bc mc none rm (.ref a :: []) h Qc) (K : ∀ v h', Qc v h' → o_Go κ Q h' (k + rm.cells) (n + rm.slots) (pc + 3) Ls (v.toList ++ rest)) : o_Go κ Q h k n pc Ls (.ref a :: rest) := o_callN B W hd hin w1 w2 w3 w4 hy pd (as := []) hlen hW hf hl hc hs hLs C K
theorem o_callV0 (B : o_Bo κ l Z n0 R y bytes ml ret) {yc : MethodName} {Cn : String} {bc : ByteArray} {mc : Nat} {rc : Option FieldType} {rm : Room} {rest : List Value} {a : Addr} {Qc : Option Value → Heap → Prop} {idx : Nat} (W : Nat) (hd : decode bytes pc = .ok (.invokevirtual idx, 3)) (w1 : (Cond.methodLink y.cls idx yc).before a0 Z = true) (w2 : (Cond.declares yc).before a0 Z = true) (w5 : (Cond.selects Cn yc yc).before a0 Z = true) (w6 : (Cond.instanceMethod yc).before a0 Z = true) (w3 : (Cond.initialized yc.cls).before a0 Z = true) (w4 : (Cond.code yc bc mc rc).before a0 Z = true) (hy : yc.cls ≠ "java/lang/invoke/MethodHandle" ∧ yc.cls ≠ "java/lang/invoke/VarHandle") {ps : List FieldType} {r0 : Option FieldType} (pd : parseMethodDescriptor yc.desc = some ⟨ps, r0⟩) (hlen : 0 = ps.length) (hW : (rest.map fun v => v.category).sum ≤ W) (hf : rm.frames + 1 ≤ R.frames) (hl : W + (mc + 11) + rm.locals ≤ R.locals) (hc : k + rm.cells ≤ R.cells) (hs : n + rm.slots ≤ R.slots) (hLs : Ls.length = ml) (E : Exa Z h a Cn) (C : o_C l Z n0 yc bc mc rc rm (.ref a :: []) h Qc) (K : ∀ v h', Qc v h' → o_Go κ Q h' (k + rm.cells) (n + rm.slots) (pc + 3) Ls (v.toList ++ rest)) : o_Go κ Q h k n pc Ls (.ref a :: rest) := o_callV B W hd w1 w2 w5 w6 w3 w4 hy pd (as := []) hlen hW hf hl hc hs hLs E C K
theorem o_callS1 (B : o_Bo κ l Z n0 R y bytes ml ret) {yc : MethodName} {bc : ByteArray} {mc : Nat} {rc : Option FieldType} {rm : Room} {v0 : Value} {rest : List Value} {Qc : Option Value → Heap → Prop} {idx : Nat} (W : Nat) (hd : decode bytes pc = .ok (.invokestatic idx, 3)) (w1 : (Cond.methodLink y.cls idx yc).before a0 Z = true) (w2 : (Cond.static yc).before a0 Z = true) (w3 : (Cond.initialized yc.cls).before a0 Z = true) (w4 : (Cond.code yc bc mc rc).before a0 Z = true) (hy : yc.cls ≠ "java/lang/invoke/MethodHandle" ∧ yc.cls ≠ "java/lang/invoke/VarHandle") {ps : List FieldType} {r0 : Option FieldType} (pd : parseMethodDescriptor yc.desc = some ⟨ps, r0⟩) (hlen : 1 = ps.length) (hW : (rest.map fun v => v.category).sum ≤ W) (hf : rm.frames + 1 ≤ R.frames) (hl : W + (mc + 11) + rm.locals ≤ R.locals) (hc : k + rm.cells ≤ R.cells) (hs : n + rm.slots ≤ R.slots) (hLs : Ls.length = ml) (C : o_C l Z n0 yc bc mc rc rm [v0] h Qc) (K : ∀ v h', Qc v h' → o_Go κ Q h' (k + rm.cells) (n + rm.slots) (pc + 3) Ls (v.toList ++ rest)) : o_Go κ Q h k n pc Ls (v0 :: rest) := o_callS B W hd w1 w2 w3 w4 hy pd (as := [v0]) hlen hW hf hl hc hs hLs C K
theorem o_callN1 (B : o_Bo κ l Z n0 R y bytes ml ret) {yc : MethodName} {bc : ByteArray} {mc : Nat} {rm : Room} {v0 : Value} {rest : List Value} {a : Addr} {Qc : Option Value → Heap → Prop} {idx : Nat} (W : Nat) (hd : decode bytes pc = .ok (.invokespecial idx, 3)) (hin : yc.name = "<init>") (w1 : (Cond.methodLink y.cls idx yc).before a0 Z = true) (w2 : (Cond.instanceMethod yc).before a0 Z = true) (w3 : (Cond.initialized yc.cls).before a0 Z = true) (w4 : (Cond.code yc bc mc none).before a0 Z = true) (hy : yc.cls ≠ "java/lang/invoke/MethodHandle" ∧ yc.cls ≠ "java/lang/invoke/VarHandle") {ps : List FieldType} {r0 : Option FieldType} (pd : parseMethodDescriptor yc.desc = some ⟨ps, r0⟩) (hlen : 1 = ps.length) (hW : (rest.map fun v => v.category).sum ≤ W) (hf : rm.frames + 1 ≤ R.frames) (hl : W + (mc + 11) + rm.locals ≤ R.locals) (hc : k + rm.cells ≤ R.cells) (hs : n + rm.slots ≤ R.slots) (hLs : Ls.length = ml) (C : o_C l Z n0 yc bc mc none rm (.ref a :: [v0]) h Qc) (K : ∀ v h', Qc v h' → o_Go κ Q h' (k + rm.cells) (n + rm.slots) (pc + 3) Ls (v.toList ++ rest)) : o_Go κ Q h k n pc Ls (v0 :: .ref a :: rest) := o_callN B W hd hin w1 w2 w3 w4 hy pd (as := [v0]) hlen hW hf hl hc hs hLs C K
theorem o_callV1 (B : o_Bo κ l Z n0 R y bytes ml ret) {yc : MethodName} {Cn : String} {bc : ByteArray} {mc : Nat} {rc : Option FieldType} {rm : Room} {v0 : Value} {rest : List Value} {a : Addr} {Qc : Option Value → Heap → Prop} {idx : Nat} (W : Nat) (hd : decode bytes pc = .ok (.invokevirtual idx, 3)) (w1 : (Cond.methodLink y.cls idx yc).before a0 Z = true) (w2 : (Cond.declares yc).before a0 Z = true) (w5 : (Cond.selects Cn yc yc).before a0 Z = true) (w6 : (Cond.instanceMethod yc).before a0 Z = true) (w3 : (Cond.initialized yc.cls).before a0 Z = true) (w4 : (Cond.code yc bc mc rc).before a0 Z = true) (hy : yc.cls ≠ "java/lang/invoke/MethodHandle" ∧ yc.cls ≠ "java/lang/invoke/VarHandle") {ps : List FieldType} {r0 : Option FieldType} (pd : parseMethodDescriptor yc.desc = some ⟨ps, r0⟩) (hlen : 1 = ps.length) (hW : (rest.map fun v => v.category).sum ≤ W) (hf : rm.frames + 1 ≤ R.frames) (hl : W + (mc + 11) + rm.locals ≤ R.locals) (hc : k + rm.cells ≤ R.cells) (hs : n + rm.slots ≤ R.slots) (hLs : Ls.length = ml) (E : Exa Z h a Cn) (C : o_C l Z n0 yc bc mc rc rm (.ref a :: [v0]) h Qc) (K : ∀ v h', Qc v h' → o_Go κ Q h' (k + rm.cells) (n + rm.slots) (pc + 3) Ls (v.toList ++ rest)) : o_Go κ Q h k n pc Ls (v0 :: .ref a :: rest) := o_callV B W hd w1 w2 w5 w6 w3 w4 hy pd (as := [v0]) hlen hW hf hl hc hs hLs E C K
theorem o_callS2 (B : o_Bo κ l Z n0 R y bytes ml ret) {yc : MethodName} {bc : ByteArray} {mc : Nat} {rc : Option FieldType} {rm : Room} {v0 v1 : Value} {rest : List Value} {Qc : Option Value → Heap → Prop} {idx : Nat} (W : Nat) (hd : decode bytes pc = .ok (.invokestatic idx, 3)) (w1 : (Cond.methodLink y.cls idx yc).before a0 Z = true) (w2 : (Cond.static yc).before a0 Z = true) (w3 : (Cond.initialized yc.cls).before a0 Z = true) (w4 : (Cond.code yc bc mc rc).before a0 Z = true) (hy : yc.cls ≠ "java/lang/invoke/MethodHandle" ∧ yc.cls ≠ "java/lang/invoke/VarHandle") {ps : List FieldType} {r0 : Option FieldType} (pd : parseMethodDescriptor yc.desc = some ⟨ps, r0⟩) (hlen : 2 = ps.length) (hW : (rest.map fun v => v.category).sum ≤ W) (hf : rm.frames + 1 ≤ R.frames) (hl : W + (mc + 11) + rm.locals ≤ R.locals) (hc : k + rm.cells ≤ R.cells) (hs : n + rm.slots ≤ R.slots) (hLs : Ls.length = ml) (C : o_C l Z n0 yc bc mc rc rm [v0, v1] h Qc) (K : ∀ v h', Qc v h' → o_Go κ Q h' (k + rm.cells) (n + rm.slots) (pc + 3) Ls (v.toList ++ rest)) : o_Go κ Q h k n pc Ls (v1 :: v0 :: rest) := o_callS B W hd w1 w2 w3 w4 hy pd (as := [v0, v1]) hlen hW hf hl hc hs hLs C K
theorem o_callN2 (B : o_Bo κ l Z n0 R y bytes ml ret) {yc : MethodName} {bc : ByteArray} {mc : Nat} {rm : Room} {v0 v1 : Value} {rest : List Value} {a : Addr} {Qc : Option Value → Heap → Prop} {idx : Nat} (W : Nat) (hd : decode bytes pc = .ok (.invokespecial idx, 3)) (hin : yc.name = "<init>") (w1 : (Cond.methodLink y.cls idx yc).before a0 Z = true) (w2 : (Cond.instanceMethod yc).before a0 Z = true) (w3 : (Cond.initialized yc.cls).before a0 Z = true) (w4 : (Cond.code yc bc mc none).before a0 Z = true) (hy : yc.cls ≠ "java/lang/invoke/MethodHandle" ∧ yc.cls ≠ "java/lang/invoke/VarHandle") {ps : List FieldType} {r0 : Option FieldType} (pd : parseMethodDescriptor yc.desc = some ⟨ps, r0⟩) (hlen : 2 = ps.length) (hW : (rest.map fun v => v.category).sum ≤ W) (hf : rm.frames + 1 ≤ R.frames) (hl : W + (mc + 11) + rm.locals ≤ R.locals) (hc : k + rm.cells ≤ R.cells) (hs : n + rm.slots ≤ R.slots) (hLs : Ls.length = ml) (C : o_C l Z n0 yc bc mc none rm (.ref a :: [v0, v1]) h Qc) (K : ∀ v h', Qc v h' → o_Go κ Q h' (k + rm.cells) (n + rm.slots) (pc + 3) Ls (v.toList ++ rest)) : o_Go κ Q h k n pc Ls (v1 :: v0 :: .ref a :: rest) := o_callN B W hd hin w1 w2 w3 w4 hy pd (as := [v0, v1]) hlen hW hf hl hc hs hLs C K
theorem o_callV2 (B : o_Bo κ l Z n0 R y bytes ml ret) {yc : MethodName} {Cn : String} {bc : ByteArray} {mc : Nat} {rc : Option FieldType} {rm : Room} {v0 v1 : Value} {rest : List Value} {a : Addr} {Qc : Option Value → Heap → Prop} {idx : Nat} (W : Nat) (hd : decode bytes pc = .ok (.invokevirtual idx, 3)) (w1 : (Cond.methodLink y.cls idx yc).before a0 Z = true) (w2 : (Cond.declares yc).before a0 Z = true) (w5 : (Cond.selects Cn yc yc).before a0 Z = true) (w6 : (Cond.instanceMethod yc).before a0 Z = true) (w3 : (Cond.initialized yc.cls).before a0 Z = true) (w4 : (Cond.code yc bc mc rc).before a0 Z = true) (hy : yc.cls ≠ "java/lang/invoke/MethodHandle" ∧ yc.cls ≠ "java/lang/invoke/VarHandle") {ps : List FieldType} {r0 : Option FieldType} (pd : parseMethodDescriptor yc.desc = some ⟨ps, r0⟩) (hlen : 2 = ps.length) (hW : (rest.map fun v => v.category).sum ≤ W) (hf : rm.frames + 1 ≤ R.frames) (hl : W + (mc + 11) + rm.locals ≤ R.locals) (hc : k + rm.cells ≤ R.cells) (hs : n + rm.slots ≤ R.slots) (hLs : Ls.length = ml) (E : Exa Z h a Cn) (C : o_C l Z n0 yc bc mc rc rm (.ref a :: [v0, v1]) h Qc) (K : ∀ v h', Qc v h' → o_Go κ Q h' (k + rm.cells) (n + rm.slots) (pc + 3) Ls (v.toList ++ rest)) : o_Go κ Q h k n pc Ls (v1 :: v0 :: .ref a :: rest) := o_callV B W hd w1 w2 w5 w6 w3 w4 hy pd (as := [v0, v1]) hlen hW hf hl hc hs hLs E C K
theorem o_callS3 (B : o_Bo κ l Z n0 R y bytes ml ret) {yc : MethodName} {bc : ByteArray} {mc : Nat} {rc : Option FieldType} {rm : Room} {v0 v1 v2 : Value} {rest : List Value} {Qc : Option Value → Heap → Prop} {idx : Nat} (W : Nat) (hd : decode bytes pc = .ok (.invokestatic idx, 3)) (w1 : (Cond.methodLink y.cls idx yc).before a0 Z = true) (w2 : (Cond.static yc).before a0 Z = true) (w3 : (Cond.initialized yc.cls).before a0 Z = true) (w4 : (Cond.code yc bc mc rc).before a0 Z = true) (hy : yc.cls ≠ "java/lang/invoke/MethodHandle" ∧ yc.cls ≠ "java/lang/invoke/VarHandle") {ps : List FieldType} {r0 : Option FieldType} (pd : parseMethodDescriptor yc.desc = some ⟨ps, r0⟩) (hlen : 3 = ps.length) (hW : (rest.map fun v => v.category).sum ≤ W) (hf : rm.frames + 1 ≤ R.frames) (hl : W + (mc + 11) + rm.locals ≤ R.locals) (hc : k + rm.cells ≤ R.cells) (hs : n + rm.slots ≤ R.slots) (hLs : Ls.length = ml) (C : o_C l Z n0 yc bc mc rc rm [v0, v1, v2] h Qc) (K : ∀ v h', Qc v h' → o_Go κ Q h' (k + rm.cells) (n + rm.slots) (pc + 3) Ls (v.toList ++ rest)) : o_Go κ Q h k n pc Ls (v2 :: v1 :: v0 :: rest) := o_callS B W hd w1 w2 w3 w4 hy pd (as := [v0, v1, v2]) hlen hW hf hl hc hs hLs C K
theorem o_callN3 (B : o_Bo κ l Z n0 R y bytes ml ret) {yc : MethodName} {bc : ByteArray} {mc : Nat} {rm : Room} {v0 v1 v2 : Value} {rest : List Value} {a : Addr} {Qc : Option Value → Heap → Prop} {idx : Nat} (W : Nat) (hd : decode bytes pc = .ok (.invokespecial idx, 3)) (hin : yc.name = "<init>") (w1 : (Cond.methodLink y.cls idx yc).before a0 Z = true) (w2 : (Cond.instanceMethod yc).before a0 Z = true) (w3 : (Cond.initialized yc.cls).before a0 Z = true) (w4 : (Cond.code yc bc mc none).before a0 Z = true) (hy : yc.cls ≠ "java/lang/invoke/MethodHandle" ∧ yc.cls ≠ "java/lang/invoke/VarHandle") {ps : List FieldType} {r0 : Option FieldType} (pd : parseMethodDescriptor yc.desc = some ⟨ps, r0⟩) (hlen : 3 = ps.length) (hW : (rest.map fun v => v.category).sum ≤ W) (hf : rm.frames + 1 ≤ R.frames) (hl : W + (mc + 11) + rm.locals ≤ R.locals) (hc : k + rm.cells ≤ R.cells) (hs : n + rm.slots ≤ R.slots) (hLs : Ls.length = ml) (C : o_C l Z n0 yc bc mc none rm (.ref a :: [v0, v1, v2]) h Qc) (K : ∀ v h', Qc v h' → o_Go κ Q h' (k + rm.cells) (n + rm.slots) (pc + 3) Ls (v.toList ++ rest)) : o_Go κ Q h k n pc Ls (v2 :: v1 :: v0 :: .ref a :: rest) := o_callN B W hd hin w1 w2 w3 w4 hy pd (as := [v0, v1, v2]) hlen hW hf hl hc hs hLs C K
theorem o_callV3 (B : o_Bo κ l Z n0 R y bytes ml ret) {yc : MethodName} {Cn : String} {bc : ByteArray} {mc : Nat} {rc : Option FieldType} {rm : Room} {v0 v1 v2 : Value} {rest : List Value} {a : Addr} {Qc : Option Value → Heap → Prop} {idx : Nat} (W : Nat) (hd : decode bytes pc = .ok (.invokevirtual idx, 3)) (w1 : (Cond.methodLink y.cls idx yc).before a0 Z = true) (w2 : (Cond.declares yc).before a0 Z = true) (w5 : (Cond.selects Cn yc yc).before a0 Z = true) (w6 : (Cond.instanceMethod yc).before a0 Z = true) (w3 : (Cond.initialized yc.cls).before a0 Z = true) (w4 : (Cond.code yc bc mc rc).before a0 Z = true) (hy : yc.cls ≠ "java/lang/invoke/MethodHandle" ∧ yc.cls ≠ "java/lang/invoke/VarHandle") {ps : List FieldType} {r0 : Option FieldType} (pd : parseMethodDescriptor yc.desc = some ⟨ps, r0⟩) (hlen : 3 = ps.length) (hW : (rest.map fun v => v.category).sum ≤ W) (hf : rm.frames + 1 ≤ R.frames) (hl : W + (mc + 11) + rm.locals ≤ R.locals) (hc : k + rm.cells ≤ R.cells) (hs : n + rm.slots ≤ R.slots) (hLs : Ls.length = ml) (E : Exa Z h a Cn) (C : o_C l Z n0 yc bc mc rc rm (.ref a :: [v0, v1, v2]) h Qc) (K : ∀ v h', Qc v h' → o_Go κ Q h' (k + rm.cells) (n + rm.slots) (pc + 3) Ls (v.toList ++ rest)) : o_Go κ Q h k n pc Ls (v2 :: v1 :: v0 :: .ref a :: rest) := o_callV B W hd w1 w2 w5 w6 w3 w4 hy pd (as := [v0, v1, v2]) hlen hW hf hl hc hs hLs E C K
theorem o_callS4 (B : o_Bo κ l Z n0 R y bytes ml ret) {yc : MethodName} {bc : ByteArray} {mc : Nat} {rc : Option FieldType} {rm : Room} {v0 v1 v2 v3 : Value} {rest : List Value} {Qc : Option Value → Heap → Prop} {idx : Nat} (W : Nat) (hd : decode bytes pc = .ok (.invokestatic idx, 3)) (w1 : (Cond.methodLink y.cls idx yc).before a0 Z = true) (w2 : (Cond.static yc).before a0 Z = true) (w3 : (Cond.initialized yc.cls).before a0 Z = true) (w4 : (Cond.code yc bc mc rc).before a0 Z = true) (hy : yc.cls ≠ "java/lang/invoke/MethodHandle" ∧ yc.cls ≠ "java/lang/invoke/VarHandle") {ps : List FieldType} {r0 : Option FieldType} (pd : parseMethodDescriptor yc.desc = some ⟨ps, r0⟩) (hlen : 4 = ps.length) (hW : (rest.map fun v => v.category).sum ≤ W) (hf : rm.frames + 1 ≤ R.frames) (hl : W + (mc + 11) + rm.locals ≤ R.locals) (hc : k + rm.cells ≤ R.cells) (hs : n + rm.slots ≤ R.slots) (hLs : Ls.length = ml) (C : o_C l Z n0 yc bc mc rc rm [v0, v1, v2, v3] h Qc) (K : ∀ v h', Qc v h' → o_Go κ Q h' (k + rm.cells) (n + rm.slots) (pc + 3) Ls (v.toList ++ rest)) : o_Go κ Q h k n pc Ls (v3 :: v2 :: v1 :: v0 :: rest) := o_callS B W hd w1 w2 w3 w4 hy pd (as := [v0, v1, v2, v3]) hlen hW hf hl hc hs hLs C K
theorem o_callN4 (B : o_Bo κ l Z n0 R y bytes ml ret) {yc : MethodName} {bc : ByteArray} {mc : Nat} {rm : Room} {v0 v1 v2 v3 : Value} {rest : List Value} {a : Addr} {Qc : Option Value → Heap → Prop} {idx : Nat} (W : Nat) (hd : decode bytes pc = .ok (.invokespecial idx, 3)) (hin : yc.name = "<init>") (w1 : (Cond.methodLink y.cls idx yc).before a0 Z = true) (w2 : (Cond.instanceMethod yc).before a0 Z = true) (w3 : (Cond.initialized yc.cls).before a0 Z = true) (w4 : (Cond.code yc bc mc none).before a0 Z = true) (hy : yc.cls ≠ "java/lang/invoke/MethodHandle" ∧ yc.cls ≠ "java/lang/invoke/VarHandle") {ps : List FieldType} {r0 : Option FieldType} (pd : parseMethodDescriptor yc.desc = some ⟨ps, r0⟩) (hlen : 4 = ps.length) (hW : (rest.map fun v => v.category).sum ≤ W) (hf : rm.frames + 1 ≤ R.frames) (hl : W + (mc + 11) + rm.locals ≤ R.locals) (hc : k + rm.cells ≤ R.cells) (hs : n + rm.slots ≤ R.slots) (hLs : Ls.length = ml) (C : o_C l Z n0 yc bc mc none rm (.ref a :: [v0, v1, v2, v3]) h Qc) (K : ∀ v h', Qc v h' → o_Go κ Q h' (k + rm.cells) (n + rm.slots) (pc + 3) Ls (v.toList ++ rest)) : o_Go κ Q h k n pc Ls (v3 :: v2 :: v1 :: v0 :: .ref a :: rest) := o_callN B W hd hin w1 w2 w3 w4 hy pd (as := [v0, v1, v2, v3]) hlen hW hf hl hc hs hLs C K
theorem o_callV4 (B : o_Bo κ l Z n0 R y bytes ml ret) {yc : MethodName} {Cn : String} {bc : ByteArray} {mc : Nat} {rc : Option FieldType} {rm : Room} {v0 v1 v2 v3 : Value} {rest : List Value} {a : Addr} {Qc : Option Value → Heap → Prop} {idx : Nat} (W : Nat) (hd : decode bytes pc = .ok (.invokevirtual idx, 3)) (w1 : (Cond.methodLink y.cls idx yc).before a0 Z = true) (w2 : (Cond.declares yc).before a0 Z = true) (w5 : (Cond.selects Cn yc yc).before a0 Z = true) (w6 : (Cond.instanceMethod yc).before a0 Z = true) (w3 : (Cond.initialized yc.cls).before a0 Z = true) (w4 : (Cond.code yc bc mc rc).before a0 Z = true) (hy : yc.cls ≠ "java/lang/invoke/MethodHandle" ∧ yc.cls ≠ "java/lang/invoke/VarHandle") {ps : List FieldType} {r0 : Option FieldType} (pd : parseMethodDescriptor yc.desc = some ⟨ps, r0⟩) (hlen : 4 = ps.length) (hW : (rest.map fun v => v.category).sum ≤ W) (hf : rm.frames + 1 ≤ R.frames) (hl : W + (mc + 11) + rm.locals ≤ R.locals) (hc : k + rm.cells ≤ R.cells) (hs : n + rm.slots ≤ R.slots) (hLs : Ls.length = ml) (E : Exa Z h a Cn) (C : o_C l Z n0 yc bc mc rc rm (.ref a :: [v0, v1, v2, v3]) h Qc) (K : ∀ v h', Qc v h' → o_Go κ Q h' (k + rm.cells) (n + rm.slots) (pc + 3) Ls (v.toList ++ rest)) : o_Go κ Q h k n pc Ls (v3 :: v2 :: v1 :: v0 :: .ref a :: rest) := o_callV B W hd w1 w2 w5 w6 w3 w4 hy pd (as := [v0, v1, v2, v3]) hlen hW hf hl hc hs hLs E C K
theorem o_callS5 (B : o_Bo κ l Z n0 R y bytes ml ret) {yc : MethodName} {bc : ByteArray} {mc : Nat} {rc : Option FieldType} {rm : Room} {v0 v1 v2 v3 v4 : Value} {rest : List Value} {Qc : Option Value → Heap → Prop} {idx : Nat} (W : Nat) (hd : decode bytes pc = .ok (.invokestatic idx, 3)) (w1 : (Cond.methodLink y.cls idx yc).before a0 Z = true) (w2 : (Cond.static yc).before a0 Z = true) (w3 : (Cond.initialized yc.cls).before a0 Z = true) (w4 : (Cond.code yc bc mc rc).before a0 Z = true) (hy : yc.cls ≠ "java/lang/invoke/MethodHandle" ∧ yc.cls ≠ "java/lang/invoke/VarHandle") {ps : List FieldType} {r0 : Option FieldType} (pd : parseMethodDescriptor yc.desc = some ⟨ps, r0⟩) (hlen : 5 = ps.length) (hW : (rest.map fun v => v.category).sum ≤ W) (hf : rm.frames + 1 ≤ R.frames) (hl : W + (mc + 11) + rm.locals ≤ R.locals) (hc : k + rm.cells ≤ R.cells) (hs : n + rm.slots ≤ R.slots) (hLs : Ls.length = ml) (C : o_C l Z n0 yc bc mc rc rm [v0, v1, v2, v3, v4] h Qc) (K : ∀ v h', Qc v h' → o_Go κ Q h' (k + rm.cells) (n + rm.slots) (pc + 3) Ls (v.toList ++ rest)) : o_Go κ Q h k n pc Ls (v4 :: v3 :: v2 :: v1 :: v0 :: rest) := o_callS B W hd w1 w2 w3 w4 hy pd (as := [v0, v1, v2, v3, v4]) hlen hW hf hl hc hs hLs C K
theorem o_callN5 (B : o_Bo κ l Z n0 R y bytes ml ret) {yc : MethodName} {bc : ByteArray} {mc : Nat} {rm : Room} {v0 v1 v2 v3 v4 : Value} {rest : List Value} {a : Addr} {Qc : Option Value → Heap → Prop} {idx : Nat} (W : Nat) (hd : decode bytes pc = .ok (.invokespecial idx, 3)) (hin : yc.name = "<init>") (w1 : (Cond.methodLink y.cls idx yc).before a0 Z = true) (w2 : (Cond.instanceMethod yc).before a0 Z = true) (w3 : (Cond.initialized yc.cls).before a0 Z = true) (w4 : (Cond.code yc bc mc none).before a0 Z = true) (hy : yc.cls ≠ "java/lang/invoke/MethodHandle" ∧ yc.cls ≠ "java/lang/invoke/VarHandle") {ps : List FieldType} {r0 : Option FieldType} (pd : parseMethodDescriptor yc.desc = some ⟨ps, r0⟩) (hlen : 5 = ps.length) (hW : (rest.map fun v => v.category).sum ≤ W) (hf : rm.frames + 1 ≤ R.frames) (hl : W + (mc + 11) + rm.locals ≤ R.locals) (hc : k + rm.cells ≤ R.cells) (hs : n + rm.slots ≤ R.slots) (hLs : Ls.length = ml) (C : o_C l Z n0 yc bc mc none rm (.ref a :: [v0, v1, v2, v3, v4]) h Qc) (K : ∀ v h', Qc v h' → o_Go κ Q h' (k + rm.cells) (n + rm.slots) (pc + 3) Ls (v.toList ++ rest)) : o_Go κ Q h k n pc Ls (v4 :: v3 :: v2 :: v1 :: v0 :: .ref a :: rest) := o_callN B W hd hin w1 w2 w3 w4 hy pd (as := [v0, v1, v2, v3, v4]) hlen hW hf hl hc hs hLs C K
theorem o_callV5 (B : o_Bo κ l Z n0 R y bytes ml ret) {yc : MethodName} {Cn : String} {bc : ByteArray} {mc : Nat} {rc : Option FieldType} {rm : Room} {v0 v1 v2 v3 v4 : Value} {rest : List Value} {a : Addr} {Qc : Option Value → Heap → Prop} {idx : Nat} (W : Nat) (hd : decode bytes pc = .ok (.invokevirtual idx, 3)) (w1 : (Cond.methodLink y.cls idx yc).before a0 Z = true) (w2 : (Cond.declares yc).before a0 Z = true) (w5 : (Cond.selects Cn yc yc).before a0 Z = true) (w6 : (Cond.instanceMethod yc).before a0 Z = true) (w3 : (Cond.initialized yc.cls).before a0 Z = true) (w4 : (Cond.code yc bc mc rc).before a0 Z = true) (hy : yc.cls ≠ "java/lang/invoke/MethodHandle" ∧ yc.cls ≠ "java/lang/invoke/VarHandle") {ps : List FieldType} {r0 : Option FieldType} (pd : parseMethodDescriptor yc.desc = some ⟨ps, r0⟩) (hlen : 5 = ps.length) (hW : (rest.map fun v => v.category).sum ≤ W) (hf : rm.frames + 1 ≤ R.frames) (hl : W + (mc + 11) + rm.locals ≤ R.locals) (hc : k + rm.cells ≤ R.cells) (hs : n + rm.slots ≤ R.slots) (hLs : Ls.length = ml) (E : Exa Z h a Cn) (C : o_C l Z n0 yc bc mc rc rm (.ref a :: [v0, v1, v2, v3, v4]) h Qc) (K : ∀ v h', Qc v h' → o_Go κ Q h' (k + rm.cells) (n + rm.slots) (pc + 3) Ls (v.toList ++ rest)) : o_Go κ Q h k n pc Ls (v4 :: v3 :: v2 :: v1 :: v0 :: .ref a :: rest) := o_callV B W hd w1 w2 w5 w6 w3 w4 hy pd (as := [v0, v1, v2, v3, v4]) hlen hW hf hl hc hs hLs E C K
theorem o_callS6 (B : o_Bo κ l Z n0 R y bytes ml ret) {yc : MethodName} {bc : ByteArray} {mc : Nat} {rc : Option FieldType} {rm : Room} {v0 v1 v2 v3 v4 v5 : Value} {rest : List Value} {Qc : Option Value → Heap → Prop} {idx : Nat} (W : Nat) (hd : decode bytes pc = .ok (.invokestatic idx, 3)) (w1 : (Cond.methodLink y.cls idx yc).before a0 Z = true) (w2 : (Cond.static yc).before a0 Z = true) (w3 : (Cond.initialized yc.cls).before a0 Z = true) (w4 : (Cond.code yc bc mc rc).before a0 Z = true) (hy : yc.cls ≠ "java/lang/invoke/MethodHandle" ∧ yc.cls ≠ "java/lang/invoke/VarHandle") {ps : List FieldType} {r0 : Option FieldType} (pd : parseMethodDescriptor yc.desc = some ⟨ps, r0⟩) (hlen : 6 = ps.length) (hW : (rest.map fun v => v.category).sum ≤ W) (hf : rm.frames + 1 ≤ R.frames) (hl : W + (mc + 11) + rm.locals ≤ R.locals) (hc : k + rm.cells ≤ R.cells) (hs : n + rm.slots ≤ R.slots) (hLs : Ls.length = ml) (C : o_C l Z n0 yc bc mc rc rm [v0, v1, v2, v3, v4, v5] h Qc) (K : ∀ v h', Qc v h' → o_Go κ Q h' (k + rm.cells) (n + rm.slots) (pc + 3) Ls (v.toList ++ rest)) : o_Go κ Q h k n pc Ls (v5 :: v4 :: v3 :: v2 :: v1 :: v0 :: rest) := o_callS B W hd w1 w2 w3 w4 hy pd (as := [v0, v1, v2, v3, v4, v5]) hlen hW hf hl hc hs hLs C K
theorem o_callN6 (B : o_Bo κ l Z n0 R y bytes ml ret) {yc : MethodName} {bc : ByteArray} {mc : Nat} {rm : Room} {v0 v1 v2 v3 v4 v5 : Value} {rest : List Value} {a : Addr} {Qc : Option Value → Heap → Prop} {idx : Nat} (W : Nat) (hd : decode bytes pc = .ok (.invokespecial idx, 3)) (hin : yc.name = "<init>") (w1 : (Cond.methodLink y.cls idx yc).before a0 Z = true) (w2 : (Cond.instanceMethod yc).before a0 Z = true) (w3 : (Cond.initialized yc.cls).before a0 Z = true) (w4 : (Cond.code yc bc mc none).before a0 Z = true) (hy : yc.cls ≠ "java/lang/invoke/MethodHandle" ∧ yc.cls ≠ "java/lang/invoke/VarHandle") {ps : List FieldType} {r0 : Option FieldType} (pd : parseMethodDescriptor yc.desc = some ⟨ps, r0⟩) (hlen : 6 = ps.length) (hW : (rest.map fun v => v.category).sum ≤ W) (hf : rm.frames + 1 ≤ R.frames) (hl : W + (mc + 11) + rm.locals ≤ R.locals) (hc : k + rm.cells ≤ R.cells) (hs : n + rm.slots ≤ R.slots) (hLs : Ls.length = ml) (C : o_C l Z n0 yc bc mc none rm (.ref a :: [v0, v1, v2, v3, v4, v5]) h Qc) (K : ∀ v h', Qc v h' → o_Go κ Q h' (k + rm.cells) (n + rm.slots) (pc + 3) Ls (v.toList ++ rest)) : o_Go κ Q h k n pc Ls (v5 :: v4 :: v3 :: v2 :: v1 :: v0 :: .ref a :: rest) := o_callN B W hd hin w1 w2 w3 w4 hy pd (as := [v0, v1, v2, v3, v4, v5]) hlen hW hf hl hc hs hLs C K
theorem o_callV6 (B : o_Bo κ l Z n0 R y bytes ml ret) {yc : MethodName} {Cn : String} {bc : ByteArray} {mc : Nat} {rc : Option FieldType} {rm : Room} {v0 v1 v2 v3 v4 v5 : Value} {rest : List Value} {a : Addr} {Qc : Option Value → Heap → Prop} {idx : Nat} (W : Nat) (hd : decode bytes pc = .ok (.invokevirtual idx, 3)) (w1 : (Cond.methodLink y.cls idx yc).before a0 Z = true) (w2 : (Cond.declares yc).before a0 Z = true) (w5 : (Cond.selects Cn yc yc).before a0 Z = true) (w6 : (Cond.instanceMethod yc).before a0 Z = true) (w3 : (Cond.initialized yc.cls).before a0 Z = true) (w4 : (Cond.code yc bc mc rc).before a0 Z = true) (hy : yc.cls ≠ "java/lang/invoke/MethodHandle" ∧ yc.cls ≠ "java/lang/invoke/VarHandle") {ps : List FieldType} {r0 : Option FieldType} (pd : parseMethodDescriptor yc.desc = some ⟨ps, r0⟩) (hlen : 6 = ps.length) (hW : (rest.map fun v => v.category).sum ≤ W) (hf : rm.frames + 1 ≤ R.frames) (hl : W + (mc + 11) + rm.locals ≤ R.locals) (hc : k + rm.cells ≤ R.cells) (hs : n + rm.slots ≤ R.slots) (hLs : Ls.length = ml) (E : Exa Z h a Cn) (C : o_C l Z n0 yc bc mc rc rm (.ref a :: [v0, v1, v2, v3, v4, v5]) h Qc) (K : ∀ v h', Qc v h' → o_Go κ Q h' (k + rm.cells) (n + rm.slots) (pc + 3) Ls (v.toList ++ rest)) : o_Go κ Q h k n pc Ls (v5 :: v4 :: v3 :: v2 :: v1 :: v0 :: .ref a :: rest) := o_callV B W hd w1 w2 w5 w6 w3 w4 hy pd (as := [v0, v1, v2, v3, v4, v5]) hlen hW hf hl hc hs hLs E C K
theorem o_callS7 (B : o_Bo κ l Z n0 R y bytes ml ret) {yc : MethodName} {bc : ByteArray} {mc : Nat} {rc : Option FieldType} {rm : Room} {v0 v1 v2 v3 v4 v5 v6 : Value} {rest : List Value} {Qc : Option Value → Heap → Prop} {idx : Nat} (W : Nat) (hd : decode bytes pc = .ok (.invokestatic idx, 3)) (w1 : (Cond.methodLink y.cls idx yc).before a0 Z = true) (w2 : (Cond.static yc).before a0 Z = true) (w3 : (Cond.initialized yc.cls).before a0 Z = true) (w4 : (Cond.code yc bc mc rc).before a0 Z = true) (hy : yc.cls ≠ "java/lang/invoke/MethodHandle" ∧ yc.cls ≠ "java/lang/invoke/VarHandle") {ps : List FieldType} {r0 : Option FieldType} (pd : parseMethodDescriptor yc.desc = some ⟨ps, r0⟩) (hlen : 7 = ps.length) (hW : (rest.map fun v => v.category).sum ≤ W) (hf : rm.frames + 1 ≤ R.frames) (hl : W + (mc + 11) + rm.locals ≤ R.locals) (hc : k + rm.cells ≤ R.cells) (hs : n + rm.slots ≤ R.slots) (hLs : Ls.length = ml) (C : o_C l Z n0 yc bc mc rc rm [v0, v1, v2, v3, v4, v5, v6] h Qc) (K : ∀ v h', Qc v h' → o_Go κ Q h' (k + rm.cells) (n + rm.slots) (pc + 3) Ls (v.toList ++ rest)) : o_Go κ Q h k n pc Ls (v6 :: v5 :: v4 :: v3 :: v2 :: v1 :: v0 :: rest) := o_callS B W hd w1 w2 w3 w4 hy pd (as := [v0, v1, v2, v3, v4, v5, v6]) hlen hW hf hl hc hs hLs C K
theorem o_callN7 (B : o_Bo κ l Z n0 R y bytes ml ret) {yc : MethodName} {bc : ByteArray} {mc : Nat} {rm : Room} {v0 v1 v2 v3 v4 v5 v6 : Value} {rest : List Value} {a : Addr} {Qc : Option Value → Heap → Prop} {idx : Nat} (W : Nat) (hd : decode bytes pc = .ok (.invokespecial idx, 3)) (hin : yc.name = "<init>") (w1 : (Cond.methodLink y.cls idx yc).before a0 Z = true) (w2 : (Cond.instanceMethod yc).before a0 Z = true) (w3 : (Cond.initialized yc.cls).before a0 Z = true) (w4 : (Cond.code yc bc mc none).before a0 Z = true) (hy : yc.cls ≠ "java/lang/invoke/MethodHandle" ∧ yc.cls ≠ "java/lang/invoke/VarHandle") {ps : List FieldType} {r0 : Option FieldType} (pd : parseMethodDescriptor yc.desc = some ⟨ps, r0⟩) (hlen : 7 = ps.length) (hW : (rest.map fun v => v.category).sum ≤ W) (hf : rm.frames + 1 ≤ R.frames) (hl : W + (mc + 11) + rm.locals ≤ R.locals) (hc : k + rm.cells ≤ R.cells) (hs : n + rm.slots ≤ R.slots) (hLs : Ls.length = ml) (C : o_C l Z n0 yc bc mc none rm (.ref a :: [v0, v1, v2, v3, v4, v5, v6]) h Qc) (K : ∀ v h', Qc v h' → o_Go κ Q h' (k + rm.cells) (n + rm.slots) (pc + 3) Ls (v.toList ++ rest)) : o_Go κ Q h k n pc Ls (v6 :: v5 :: v4 :: v3 :: v2 :: v1 :: v0 :: .ref a :: rest) := o_callN B W hd hin w1 w2 w3 w4 hy pd (as := [v0, v1, v2, v3, v4, v5, v6]) hlen hW hf hl hc hs hLs C K
theorem o_callV7 (B : o_Bo κ l Z n0 R y bytes ml ret) {yc : MethodName} {Cn : String} {bc : ByteArray} {mc : Nat} {rc : Option FieldType} {rm : Room} {v0 v1 v2 v3 v4 v5 v6 : Value} {rest : List Value} {a : Addr} {Qc : Option Value → Heap → Prop} {idx : Nat} (W : Nat) (hd : decode bytes pc = .ok (.invokevirtual idx, 3)) (w1 : (Cond.methodLink y.cls idx yc).before a0 Z = true) (w2 : (Cond.declares yc).before a0 Z = true) (w5 : (Cond.selects Cn yc yc).before a0 Z = true) (w6 : (Cond.instanceMethod yc).before a0 Z = true) (w3 : (Cond.initialized yc.cls).before a0 Z = true) (w4 : (Cond.code yc bc mc rc).before a0 Z = true) (hy : yc.cls ≠ "java/lang/invoke/MethodHandle" ∧ yc.cls ≠ "java/lang/invoke/VarHandle") {ps : List FieldType} {r0 : Option FieldType} (pd : parseMethodDescriptor yc.desc = some ⟨ps, r0⟩) (hlen : 7 = ps.length) (hW : (rest.map fun v => v.category).sum ≤ W) (hf : rm.frames + 1 ≤ R.frames) (hl : W + (mc + 11) + rm.locals ≤ R.locals) (hc : k + rm.cells ≤ R.cells) (hs : n + rm.slots ≤ R.slots) (hLs : Ls.length = ml) (E : Exa Z h a Cn) (C : o_C l Z n0 yc bc mc rc rm (.ref a :: [v0, v1, v2, v3, v4, v5, v6]) h Qc) (K : ∀ v h', Qc v h' → o_Go κ Q h' (k + rm.cells) (n + rm.slots) (pc + 3) Ls (v.toList ++ rest)) : o_Go κ Q h k n pc Ls (v6 :: v5 :: v4 :: v3 :: v2 :: v1 :: v0 :: .ref a :: rest) := o_callV B W hd w1 w2 w5 w6 w3 w4 hy pd (as := [v0, v1, v2, v3, v4, v5, v6]) hlen hW hf hl hc hs hLs E C K
end Fw
section Pats
variable {κ : o_K} {l : Launch} {Z : State} {n0 : Nat} {R : Room} {y : MethodName} {bytes : ByteArray} {ml : Nat} {ret : Option FieldType} {Q : Option Value → Heap → Prop} {h : Heap} {k n pc : Nat} {St : List Value}
theorem o_astore_15_11 (B : o_Bo κ l Z n0 R y bytes ml ret) {s0 s1 s2 s3 s4 s5 s6 s7 s8 s9 s10 s11 s12 s13 s14 : Slot} {v : Value} (hd : decode bytes pc = .ok (.astore 11, 2)) (hv : v.isRef = true) (ho : o_ok1 s11 = true) (K : o_Go κ Q h k n (pc + 2) [s0, s1, s2, s3, s4, s5, s6, s7, s8, s9, s10, .val v, s12, s13, s14] St) : o_Go κ Q h k n pc [s0, s1, s2, s3, s4, s5, s6, s7, s8, s9, s10, s11, s12, s13, s14] (v :: St) := o_astore B hd hv rfl ho K
theorem o_iinc_4_2 (B : o_Bo κ l Z n0 R y bytes ml ret) {s0 s1 s3 : Slot} {x : Int32} {cst : Int} (v z : Int32) (hd : decode bytes pc = .ok (.iinc 2 cst, 3)) (hv : Int32.ofInt cst = v) (hz : x + v = z) (K : o_Go κ Q h k n (pc + 3) [s0, s1, .val (.int z), s3] St) : o_Go κ Q h k n pc [s0, s1, .val (.int x), s3] St := o_iinc B v hd hv rfl (hz.symm ▸ K)
theorem o_iinc_4_3 (B : o_Bo κ l Z n0 R y bytes ml ret) {s0 s1 s2 : Slot} {x : Int32} {cst : Int} (v z : Int32) (hd : decode bytes pc = .ok (.iinc 3 cst, 3)) (hv : Int32.ofInt cst = v) (hz : x + v = z) (K : o_Go κ Q h k n (pc + 3) [s0, s1, s2, .val (.int z)] St) : o_Go κ Q h k n pc [s0, s1, s2, .val (.int x)] St := o_iinc B v hd hv rfl (hz.symm ▸ K)
theorem o_istoreN_4_2 (B : o_Bo κ l Z n0 R y bytes ml ret) {s0 s1 s2 s3 : Slot} {x : Int32} (hd : decode bytes pc = .ok (.istore_n 2, 1)) (ho : o_ok1 s2 = true) (K : o_Go κ Q h k n (pc + 1) [s0, s1, .val (.int x), s3] St) : o_Go κ Q h k n pc [s0, s1, s2, s3] (.int x :: St) := o_istoreN B hd rfl ho K
theorem o_istoreN_4_3 (B : o_Bo κ l Z n0 R y bytes ml ret) {s0 s1 s2 s3 : Slot} {x : Int32} (hd : decode bytes pc = .ok (.istore_n 3, 1)) (ho : o_ok1 s3 = true) (K : o_Go κ Q h k n (pc + 1) [s0, s1, s2, .val (.int x)] St) : o_Go κ Q h k n pc [s0, s1, s2, s3] (.int x :: St) := o_istoreN B hd rfl ho K
theorem o_istore_15_5 (B : o_Bo κ l Z n0 R y bytes ml ret) {s0 s1 s2 s3 s4 s5 s6 s7 s8 s9 s10 s11 s12 s13 s14 : Slot} {x : Int32} (hd : decode bytes pc = .ok (.istore 5, 2)) (ho : o_ok1 s5 = true) (K : o_Go κ Q h k n (pc + 2) [s0, s1, s2, s3, s4, .val (.int x), s6, s7, s8, s9, s10, s11, s12, s13, s14] St) : o_Go κ Q h k n pc [s0, s1, s2, s3, s4, s5, s6, s7, s8, s9, s10, s11, s12, s13, s14] (.int x :: St) := o_istore B hd rfl ho K
theorem o_istore_15_6 (B : o_Bo κ l Z n0 R y bytes ml ret) {s0 s1 s2 s3 s4 s5 s6 s7 s8 s9 s10 s11 s12 s13 s14 : Slot} {x : Int32} (hd : decode bytes pc = .ok (.istore 6, 2)) (ho : o_ok1 s6 = true) (K : o_Go κ Q h k n (pc + 2) [s0, s1, s2, s3, s4, s5, .val (.int x), s7, s8, s9, s10, s11, s12, s13, s14] St) : o_Go κ Q h k n pc [s0, s1, s2, s3, s4, s5, s6, s7, s8, s9, s10, s11, s12, s13, s14] (.int x :: St) := o_istore B hd rfl ho K
theorem o_istore_15_7 (B : o_Bo κ l Z n0 R y bytes ml ret) {s0 s1 s2 s3 s4 s5 s6 s7 s8 s9 s10 s11 s12 s13 s14 : Slot} {x : Int32} (hd : decode bytes pc = .ok (.istore 7, 2)) (ho : o_ok1 s7 = true) (K : o_Go κ Q h k n (pc + 2) [s0, s1, s2, s3, s4, s5, s6, .val (.int x), s8, s9, s10, s11, s12, s13, s14] St) : o_Go κ Q h k n pc [s0, s1, s2, s3, s4, s5, s6, s7, s8, s9, s10, s11, s12, s13, s14] (.int x :: St) := o_istore B hd rfl ho K
theorem o_istore_15_8 (B : o_Bo κ l Z n0 R y bytes ml ret) {s0 s1 s2 s3 s4 s5 s6 s7 s8 s9 s10 s11 s12 s13 s14 : Slot} {x : Int32} (hd : decode bytes pc = .ok (.istore 8, 2)) (ho : o_ok1 s8 = true) (K : o_Go κ Q h k n (pc + 2) [s0, s1, s2, s3, s4, s5, s6, s7, .val (.int x), s9, s10, s11, s12, s13, s14] St) : o_Go κ Q h k n pc [s0, s1, s2, s3, s4, s5, s6, s7, s8, s9, s10, s11, s12, s13, s14] (.int x :: St) := o_istore B hd rfl ho K
theorem o_istore_15_9 (B : o_Bo κ l Z n0 R y bytes ml ret) {s0 s1 s2 s3 s4 s5 s6 s7 s8 s9 s10 s11 s12 s13 s14 : Slot} {x : Int32} (hd : decode bytes pc = .ok (.istore 9, 2)) (ho : o_ok1 s9 = true) (K : o_Go κ Q h k n (pc + 2) [s0, s1, s2, s3, s4, s5, s6, s7, s8, .val (.int x), s10, s11, s12, s13, s14] St) : o_Go κ Q h k n pc [s0, s1, s2, s3, s4, s5, s6, s7, s8, s9, s10, s11, s12, s13, s14] (.int x :: St) := o_istore B hd rfl ho K
theorem o_istore_15_10 (B : o_Bo κ l Z n0 R y bytes ml ret) {s0 s1 s2 s3 s4 s5 s6 s7 s8 s9 s10 s11 s12 s13 s14 : Slot} {x : Int32} (hd : decode bytes pc = .ok (.istore 10, 2)) (ho : o_ok1 s10 = true) (K : o_Go κ Q h k n (pc + 2) [s0, s1, s2, s3, s4, s5, s6, s7, s8, s9, .val (.int x), s11, s12, s13, s14] St) : o_Go κ Q h k n pc [s0, s1, s2, s3, s4, s5, s6, s7, s8, s9, s10, s11, s12, s13, s14] (.int x :: St) := o_istore B hd rfl ho K
theorem o_istore_15_12 (B : o_Bo κ l Z n0 R y bytes ml ret) {s0 s1 s2 s3 s4 s5 s6 s7 s8 s9 s10 s11 s12 s13 s14 : Slot} {x : Int32} (hd : decode bytes pc = .ok (.istore 12, 2)) (ho : o_ok1 s12 = true) (K : o_Go κ Q h k n (pc + 2) [s0, s1, s2, s3, s4, s5, s6, s7, s8, s9, s10, s11, .val (.int x), s13, s14] St) : o_Go κ Q h k n pc [s0, s1, s2, s3, s4, s5, s6, s7, s8, s9, s10, s11, s12, s13, s14] (.int x :: St) := o_istore B hd rfl ho K
theorem o_istore_15_13 (B : o_Bo κ l Z n0 R y bytes ml ret) {s0 s1 s2 s3 s4 s5 s6 s7 s8 s9 s10 s11 s12 s13 s14 : Slot} {x : Int32} (hd : decode bytes pc = .ok (.istore 13, 2)) (ho : o_ok1 s13 = true) (K : o_Go κ Q h k n (pc + 2) [s0, s1, s2, s3, s4, s5, s6, s7, s8, s9, s10, s11, s12, .val (.int x), s14] St) : o_Go κ Q h k n pc [s0, s1, s2, s3, s4, s5, s6, s7, s8, s9, s10, s11, s12, s13, s14] (.int x :: St) := o_istore B hd rfl ho K
theorem o_istore_15_14 (B : o_Bo κ l Z n0 R y bytes ml ret) {s0 s1 s2 s3 s4 s5 s6 s7 s8 s9 s10 s11 s12 s13 s14 : Slot} {x : Int32} (hd : decode bytes pc = .ok (.istore 14, 2)) (ho : o_ok1 s14 = true) (K : o_Go κ Q h k n (pc + 2) [s0, s1, s2, s3, s4, s5, s6, s7, s8, s9, s10, s11, s12, s13, .val (.int x)] St) : o_Go κ Q h k n pc [s0, s1, s2, s3, s4, s5, s6, s7, s8, s9, s10, s11, s12, s13, s14] (.int x :: St) := o_istore B hd rfl ho K
end Pats
theorem own_add {x y : Int32} (h1 : -2147483648 ≤ x.toInt + y.toInt) (h2 : x.toInt + y.toInt < 2147483648) : (x + y).toInt = x.toInt + y.toInt := by
  rw [Int32.toInt_add]; apply Int.bmod_eq_of_le <;> omega
theorem own_sub {x y : Int32} (h1 : -2147483648 ≤ x.toInt - y.toInt) (h2 : x.toInt - y.toInt < 2147483648) : (x - y).toInt = x.toInt - y.toInt := by
  rw [Int32.toInt_sub]; apply Int.bmod_eq_of_le <;> omega
theorem own_gap (x : Int32) : 0 ≤ (x &&& 268435455).toInt ∧ (x &&& 268435455).toInt < 268435456 := by
  have e : (x &&& 268435455).toBitVec.toNat = x.toBitVec.toNat % 2 ^ 28 := by
    rw [Int32.toBitVec_and, BitVec.toNat_and]
    exact Nat.and_two_pow_sub_one_eq_mod _ 28
  have l : (x &&& 268435455).toBitVec.toNat < 2 ^ 28 := by rw [e]; exact Nat.mod_lt _ (by decide)
  have e2 : (x &&& 268435455).toInt = (x &&& 268435455).toBitVec.toNat := by
    show (x &&& 268435455).toBitVec.toInt = _
    rw [BitVec.toInt_eq_toNat_of_lt (by omega)]
  omega
theorem own_k (x : Int32) : x &&& 3 = 0 ∨ x &&& 3 = 1 ∨ x &&& 3 = 2 ∨ x &&& 3 = 3 := by
  have e : (x &&& 3).toBitVec.toNat = x.toBitVec.toNat % 2 ^ 2 := by
    rw [Int32.toBitVec_and, BitVec.toNat_and]
    exact Nat.and_two_pow_sub_one_eq_mod _ 2
  have l : (x &&& 3).toBitVec.toNat < 4 := by rw [e]; exact Nat.mod_lt _ (by decide)
  have key : ∀ q : Nat, q < 4 → (x &&& 3).toBitVec.toNat = q → x &&& 3 = Int32.ofNat q := fun q hq h => by
    apply Int32.toBitVec_inj.mp; apply BitVec.eq_of_toNat_eq; rw [h]
    show q = (BitVec.ofNat 32 q).toNat
    rw [BitVec.toNat_ofNat]; omega
  have h4 : ∀ q : Nat, q < 4 → q = 0 ∨ q = 1 ∨ q = 2 ∨ q = 3 := by omega
  rcases h4 _ l with q | q | q | q
  · exact Or.inl (key 0 (by decide) q)
  · exact Or.inr (Or.inl (key 1 (by decide) q))
  · exact Or.inr (Or.inr (Or.inl (key 2 (by decide) q)))
  · exact Or.inr (Or.inr (Or.inr (key 3 (by decide) q)))
theorem pn0 : plainFor Jvm.Pilot.@@N@@.x = true := by first | exact plainFor_of_name (by first | (simp [x, plainName, overriddenIn]; done) | decide +kernel) | decide +kernel
theorem d1_0 : decode method_2_code 0 = .ok (.iload_n 0, 1) := by decide +kernel
theorem d1_1 : decode method_2_code 1 = .ok (.iconst 1, 1) := by decide +kernel
theorem d1_2 : decode method_2_code 2 = .ok (.iand, 1) := by decide +kernel
theorem d1_3 : decode method_2_code 3 = .ok (.ifCond .ne 7, 3) := by decide +kernel
theorem d1_6 : decode method_2_code 6 = .ok (.iconst 0, 1) := by decide +kernel
theorem d1_7 : decode method_2_code 7 = .ok (.goto 9, 3) := by decide +kernel
theorem d1_10 : decode method_2_code 10 = .ok (.iload_n 0, 1) := by decide +kernel
theorem d1_11 : decode method_2_code 11 = .ok (.iconst 1, 1) := by decide +kernel
theorem d1_12 : decode method_2_code 12 = .ok (.iushr, 1) := by decide +kernel
theorem d1_13 : decode method_2_code 13 = .ok (.ldc 7, 2) := by decide +kernel
theorem d1_15 : decode method_2_code 15 = .ok (.iand, 1) := by decide +kernel
theorem d1_16 : decode method_2_code 16 = .ok (.ireturn, 1) := by decide +kernel
abbrev oy1 : MethodName := ⟨"com/example/tuplewise/tuplewise/engine/ParameterSetsAdvancePinLaw", "gap", "(I)I"⟩
theorem pn1 : plainFor oy1 = true := by first | exact plainFor_of_name (by first | (simp [plainName, overriddenIn]; done) | decide +kernel) | decide +kernel
theorem pd1 : parseMethodDescriptor oy1.desc = some ⟨[.int], some .int⟩ := by decide +kernel
theorem d2_0 : decode method_3_code 0 = .ok (.iload_n 0, 1) := by decide +kernel
theorem d2_1 : decode method_3_code 1 = .ok (.iconst 3, 1) := by decide +kernel
theorem d2_2 : decode method_3_code 2 = .ok (.if_icmp .ne 33, 3) := by decide +kernel
theorem d2_5 : decode method_3_code 5 = .ok (.iload 4, 2) := by decide +kernel
theorem d2_7 : decode method_3_code 7 = .ok (.iload_n 1, 1) := by decide +kernel
theorem d2_8 : decode method_3_code 8 = .ok (.iconst 1, 1) := by decide +kernel
theorem d2_9 : decode method_3_code 9 = .ok (.isub, 1) := by decide +kernel
theorem d2_10 : decode method_3_code 10 = .ok (.if_icmp .ge 5, 3) := by decide +kernel
theorem d2_13 : decode method_3_code 13 = .ok (.iconst 2, 1) := by decide +kernel
theorem d2_14 : decode method_3_code 14 = .ok (.ireturn, 1) := by decide +kernel
theorem d2_15 : decode method_3_code 15 = .ok (.iload_n 3, 1) := by decide +kernel
theorem d2_16 : decode method_3_code 16 = .ok (.iload_n 1, 1) := by decide +kernel
theorem d2_17 : decode method_3_code 17 = .ok (.iconst 2, 1) := by decide +kernel
theorem d2_18 : decode method_3_code 18 = .ok (.isub, 1) := by decide +kernel
theorem d2_19 : decode method_3_code 19 = .ok (.if_icmp .ge 5, 3) := by decide +kernel
theorem d2_22 : decode method_3_code 22 = .ok (.iconst 1, 1) := by decide +kernel
theorem d2_23 : decode method_3_code 23 = .ok (.ireturn, 1) := by decide +kernel
theorem d2_24 : decode method_3_code 24 = .ok (.iload_n 2, 1) := by decide +kernel
theorem d2_25 : decode method_3_code 25 = .ok (.iload_n 1, 1) := by decide +kernel
theorem d2_26 : decode method_3_code 26 = .ok (.iconst 3, 1) := by decide +kernel
theorem d2_27 : decode method_3_code 27 = .ok (.isub, 1) := by decide +kernel
theorem d2_28 : decode method_3_code 28 = .ok (.if_icmp .ge 5, 3) := by decide +kernel
theorem d2_31 : decode method_3_code 31 = .ok (.iconst 0, 1) := by decide +kernel
theorem d2_32 : decode method_3_code 32 = .ok (.ireturn, 1) := by decide +kernel
theorem d2_33 : decode method_3_code 33 = .ok (.iconst (-1), 1) := by decide +kernel
theorem d2_34 : decode method_3_code 34 = .ok (.ireturn, 1) := by decide +kernel
theorem d2_35 : decode method_3_code 35 = .ok (.iload_n 0, 1) := by decide +kernel
theorem d2_36 : decode method_3_code 36 = .ok (.iconst 2, 1) := by decide +kernel
theorem d2_37 : decode method_3_code 37 = .ok (.if_icmp .ne 23, 3) := by decide +kernel
theorem d2_40 : decode method_3_code 40 = .ok (.iload_n 3, 1) := by decide +kernel
theorem d2_41 : decode method_3_code 41 = .ok (.iload_n 1, 1) := by decide +kernel
theorem d2_42 : decode method_3_code 42 = .ok (.iconst 1, 1) := by decide +kernel
theorem d2_43 : decode method_3_code 43 = .ok (.isub, 1) := by decide +kernel
theorem d2_44 : decode method_3_code 44 = .ok (.if_icmp .ge 5, 3) := by decide +kernel
theorem d2_47 : decode method_3_code 47 = .ok (.iconst 1, 1) := by decide +kernel
theorem d2_48 : decode method_3_code 48 = .ok (.ireturn, 1) := by decide +kernel
theorem d2_49 : decode method_3_code 49 = .ok (.iload_n 2, 1) := by decide +kernel
theorem d2_50 : decode method_3_code 50 = .ok (.iload_n 1, 1) := by decide +kernel
theorem d2_51 : decode method_3_code 51 = .ok (.iconst 2, 1) := by decide +kernel
theorem d2_52 : decode method_3_code 52 = .ok (.isub, 1) := by decide +kernel
theorem d2_53 : decode method_3_code 53 = .ok (.if_icmp .ge 5, 3) := by decide +kernel
theorem d2_56 : decode method_3_code 56 = .ok (.iconst 0, 1) := by decide +kernel
theorem d2_57 : decode method_3_code 57 = .ok (.ireturn, 1) := by decide +kernel
theorem d2_58 : decode method_3_code 58 = .ok (.iconst (-1), 1) := by decide +kernel
theorem d2_59 : decode method_3_code 59 = .ok (.ireturn, 1) := by decide +kernel
theorem d2_60 : decode method_3_code 60 = .ok (.iload_n 0, 1) := by decide +kernel
theorem d2_61 : decode method_3_code 61 = .ok (.iconst 1, 1) := by decide +kernel
theorem d2_62 : decode method_3_code 62 = .ok (.if_icmp .ne 14, 3) := by decide +kernel
theorem d2_65 : decode method_3_code 65 = .ok (.iload_n 2, 1) := by decide +kernel
theorem d2_66 : decode method_3_code 66 = .ok (.iload_n 1, 1) := by decide +kernel
theorem d2_67 : decode method_3_code 67 = .ok (.iconst 1, 1) := by decide +kernel
theorem d2_68 : decode method_3_code 68 = .ok (.isub, 1) := by decide +kernel
theorem d2_69 : decode method_3_code 69 = .ok (.if_icmp .ge 5, 3) := by decide +kernel
theorem d2_72 : decode method_3_code 72 = .ok (.iconst 0, 1) := by decide +kernel
theorem d2_73 : decode method_3_code 73 = .ok (.ireturn, 1) := by decide +kernel
theorem d2_74 : decode method_3_code 74 = .ok (.iconst (-1), 1) := by decide +kernel
theorem d2_75 : decode method_3_code 75 = .ok (.ireturn, 1) := by decide +kernel
theorem d2_76 : decode method_3_code 76 = .ok (.iconst (-1), 1) := by decide +kernel
theorem d2_77 : decode method_3_code 77 = .ok (.ireturn, 1) := by decide +kernel
abbrev oy2 : MethodName := ⟨"com/example/tuplewise/tuplewise/engine/ParameterSetsAdvancePinLaw", "expectedIndex", "(IIIII)I"⟩
theorem pn2 : plainFor oy2 = true := by first | exact plainFor_of_name (by first | (simp [plainName, overriddenIn]; done) | decide +kernel) | decide +kernel
theorem pd2 : parseMethodDescriptor oy2.desc = some ⟨[.int, .int, .int, .int, .int], some .int⟩ := by decide +kernel
theorem d3_0 : decode prog_23_method_13_code 0 = .ok (.aload_n 0, 1) := by decide +kernel
theorem d3_1 : decode prog_23_method_13_code 1 = .ok (.arraylength, 1) := by decide +kernel
theorem d3_2 : decode prog_23_method_13_code 2 = .ok (.iconst 1, 1) := by decide +kernel
theorem d3_3 : decode prog_23_method_13_code 3 = .ok (.isub, 1) := by decide +kernel
theorem d3_4 : decode prog_23_method_13_code 4 = .ok (.istore_n 2, 1) := by decide +kernel
theorem d3_5 : decode prog_23_method_13_code 5 = .ok (.iload_n 2, 1) := by decide +kernel
theorem d3_6 : decode prog_23_method_13_code 6 = .ok (.ifCond .lt 21, 3) := by decide +kernel
theorem d3_9 : decode prog_23_method_13_code 9 = .ok (.aload_n 0, 1) := by decide +kernel
theorem d3_10 : decode prog_23_method_13_code 10 = .ok (.iload_n 2, 1) := by decide +kernel
theorem d3_11 : decode prog_23_method_13_code 11 = .ok (.iaload, 1) := by decide +kernel
theorem d3_12 : decode prog_23_method_13_code 12 = .ok (.iload_n 1, 1) := by decide +kernel
theorem d3_13 : decode prog_23_method_13_code 13 = .ok (.aload_n 0, 1) := by decide +kernel
theorem d3_14 : decode prog_23_method_13_code 14 = .ok (.arraylength, 1) := by decide +kernel
theorem d3_15 : decode prog_23_method_13_code 15 = .ok (.isub, 1) := by decide +kernel
theorem d3_16 : decode prog_23_method_13_code 16 = .ok (.iload_n 2, 1) := by decide +kernel
theorem d3_17 : decode prog_23_method_13_code 17 = .ok (.iadd, 1) := by decide +kernel
theorem d3_18 : decode prog_23_method_13_code 18 = .ok (.if_icmp .ne 9, 3) := by decide +kernel
theorem d3_21 : decode prog_23_method_13_code 21 = .ok (.iinc 2 (-1), 3) := by decide +kernel
theorem d3_24 : decode prog_23_method_13_code 24 = .ok (.goto (-19), 3) := by decide +kernel
theorem d3_27 : decode prog_23_method_13_code 27 = .ok (.iload_n 2, 1) := by decide +kernel
theorem d3_28 : decode prog_23_method_13_code 28 = .ok (.ifCond .ge 5, 3) := by decide +kernel
theorem d3_31 : decode prog_23_method_13_code 31 = .ok (.iconst (-1), 1) := by decide +kernel
theorem d3_32 : decode prog_23_method_13_code 32 = .ok (.ireturn, 1) := by decide +kernel
theorem d3_33 : decode prog_23_method_13_code 33 = .ok (.aload_n 0, 1) := by decide +kernel
theorem d3_34 : decode prog_23_method_13_code 34 = .ok (.iload_n 2, 1) := by decide +kernel
theorem d3_35 : decode prog_23_method_13_code 35 = .ok (.dup2, 1) := by decide +kernel
theorem d3_36 : decode prog_23_method_13_code 36 = .ok (.iaload, 1) := by decide +kernel
theorem d3_37 : decode prog_23_method_13_code 37 = .ok (.iconst 1, 1) := by decide +kernel
theorem d3_38 : decode prog_23_method_13_code 38 = .ok (.iadd, 1) := by decide +kernel
theorem d3_39 : decode prog_23_method_13_code 39 = .ok (.iastore, 1) := by decide +kernel
theorem d3_40 : decode prog_23_method_13_code 40 = .ok (.iload_n 2, 1) := by decide +kernel
theorem d3_41 : decode prog_23_method_13_code 41 = .ok (.iconst 1, 1) := by decide +kernel
theorem d3_42 : decode prog_23_method_13_code 42 = .ok (.iadd, 1) := by decide +kernel
theorem d3_43 : decode prog_23_method_13_code 43 = .ok (.istore_n 3, 1) := by decide +kernel
theorem d3_44 : decode prog_23_method_13_code 44 = .ok (.iload_n 3, 1) := by decide +kernel
theorem d3_45 : decode prog_23_method_13_code 45 = .ok (.aload_n 0, 1) := by decide +kernel
theorem d3_46 : decode prog_23_method_13_code 46 = .ok (.arraylength, 1) := by decide +kernel
theorem d3_47 : decode prog_23_method_13_code 47 = .ok (.if_icmp .ge 19, 3) := by decide +kernel
theorem d3_50 : decode prog_23_method_13_code 50 = .ok (.aload_n 0, 1) := by decide +kernel
theorem d3_51 : decode prog_23_method_13_code 51 = .ok (.iload_n 3, 1) := by decide +kernel
theorem d3_52 : decode prog_23_method_13_code 52 = .ok (.aload_n 0, 1) := by decide +kernel
theorem d3_53 : decode prog_23_method_13_code 53 = .ok (.iload_n 3, 1) := by decide +kernel
theorem d3_54 : decode prog_23_method_13_code 54 = .ok (.iconst 1, 1) := by decide +kernel
theorem d3_55 : decode prog_23_method_13_code 55 = .ok (.isub, 1) := by decide +kernel
theorem d3_56 : decode prog_23_method_13_code 56 = .ok (.iaload, 1) := by decide +kernel
theorem d3_57 : decode prog_23_method_13_code 57 = .ok (.iconst 1, 1) := by decide +kernel
theorem d3_58 : decode prog_23_method_13_code 58 = .ok (.iadd, 1) := by decide +kernel
theorem d3_59 : decode prog_23_method_13_code 59 = .ok (.iastore, 1) := by decide +kernel
theorem d3_60 : decode prog_23_method_13_code 60 = .ok (.iinc 3 1, 3) := by decide +kernel
theorem d3_63 : decode prog_23_method_13_code 63 = .ok (.goto (-19), 3) := by decide +kernel
theorem d3_66 : decode prog_23_method_13_code 66 = .ok (.iload_n 2, 1) := by decide +kernel
theorem d3_67 : decode prog_23_method_13_code 67 = .ok (.ireturn, 1) := by decide +kernel
abbrev oy3 : MethodName := ⟨"com/example/tuplewise/tuplewise/engine/ParameterSets", "advance", "([II)I"⟩
theorem pn3 : plainFor oy3 = true := by first | exact plainFor_of_name (by first | (simp [plainName, overriddenIn]; done) | decide +kernel) | decide +kernel
theorem pd3 : parseMethodDescriptor oy3.desc = some ⟨[(.array .int), .int], some .int⟩ := by decide +kernel
theorem d4_0 : decode method_4_code 0 = .ok (.iload_n 1, 1) := by decide +kernel
theorem d4_1 : decode method_4_code 1 = .ok (.ifCond .lt 8, 3) := by decide +kernel
theorem d4_4 : decode method_4_code 4 = .ok (.iload_n 0, 1) := by decide +kernel
theorem d4_5 : decode method_4_code 5 = .ok (.iload_n 1, 1) := by decide +kernel
theorem d4_6 : decode method_4_code 6 = .ok (.if_icmp .ge 7, 3) := by decide +kernel
theorem d4_9 : decode method_4_code 9 = .ok (.iload_n 2, 1) := by decide +kernel
theorem d4_10 : decode method_4_code 10 = .ok (.goto 10, 3) := by decide +kernel
theorem d4_13 : decode method_4_code 13 = .ok (.iload_n 3, 1) := by decide +kernel
theorem d4_14 : decode method_4_code 14 = .ok (.iconst 1, 1) := by decide +kernel
theorem d4_15 : decode method_4_code 15 = .ok (.iadd, 1) := by decide +kernel
theorem d4_16 : decode method_4_code 16 = .ok (.iload_n 0, 1) := by decide +kernel
theorem d4_17 : decode method_4_code 17 = .ok (.iload_n 1, 1) := by decide +kernel
theorem d4_18 : decode method_4_code 18 = .ok (.isub, 1) := by decide +kernel
theorem d4_19 : decode method_4_code 19 = .ok (.iadd, 1) := by decide +kernel
theorem d4_20 : decode method_4_code 20 = .ok (.ireturn, 1) := by decide +kernel
abbrev oy4 : MethodName := ⟨"com/example/tuplewise/tuplewise/engine/ParameterSetsAdvancePinLaw", "expect", "(IIII)I"⟩
theorem pn4 : plainFor oy4 = true := by first | exact plainFor_of_name (by first | (simp [plainName, overriddenIn]; done) | decide +kernel) | decide +kernel
theorem pd4 : parseMethodDescriptor oy4.desc = some ⟨[.int, .int, .int, .int], some .int⟩ := by decide +kernel
abbrev orm1 : Room := { frames := 0, cells := 0, slots := 0, locals := 0 }
abbrev orm2 : Room := { frames := 0, cells := 0, slots := 0, locals := 0 }
abbrev orm3 : Room := { frames := 0, cells := 0, slots := 0, locals := 0 }
abbrev orm4 : Room := { frames := 0, cells := 0, slots := 0, locals := 0 }
set_option maxRecDepth 65536 in
set_option maxHeartbeats 40000000 in
theorem oc1 (l : Launch) (Z : State) (a0 : Array Value) (hw : ∀ d ∈ tables_1, d.before a0 Z = true) (n0 : Nat) (h : Heap) (x : Int32) : o_C l Z n0 oy1 method_2_code 1 (some .int) orm1 [(.int x)] h (fun v h' => (∃ g : Int32, 0 ≤ g.toInt ∧ g.toInt < 268435456 ∧ v = some (.int g)) ∧ h' = h) := by
  refine o_body (Ls := [.val (.int x)]) pn1 (by first | (simp [argsToLocals, Value.category]; done) | rfl) (fun κ B => ?_)
  refine o_iloadN (pc := 0) B d1_0 rfl ?_
  refine o_iconst (pc := 1) B (1 : Int32) d1_1 (by decide) ?_
  refine o_iand (pc := 2) B d1_2 ?_
  refine o_if_ne (pc := 3) (pc' := 10) B d1_3 (by decide) (by decide) (fun hc3 => ?_) (fun hc3 => ?_)
  · refine o_iloadN (pc := 10) B d1_10 rfl ?_
    refine o_iconst (pc := 11) B (1 : Int32) d1_11 (by decide) ?_
    refine o_iushr (pc := 12) B d1_12 ?_
    refine o_ldc (pc := 13) B (x := (268435455 : Int32)) d1_13 (hw _ (List.mem_of_getElem? (i := 4) rfl)) ?_
    refine o_iand (pc := 15) B d1_15 ?_
    exact o_ireturn (pc := 16) B d1_16 (by decide) (by decide) (⟨⟨_, (own_gap _).1, (own_gap _).2, rfl⟩, rfl⟩)
  refine o_iconst (pc := 6) B (0 : Int32) d1_6 (by decide) ?_
  refine o_goto (pc := 7) (pc' := 16) B d1_7 (by decide) (by decide) ?_
  exact o_ireturn (pc := 16) B d1_16 (by decide) (by decide) (⟨⟨_, by decide, by decide, rfl⟩, rfl⟩)
set_option maxRecDepth 65536 in
set_option maxHeartbeats 40000000 in
theorem oc4a (l : Launch) (Z : State) (a0 : Array Value) (hw : ∀ d ∈ tables_1, d.before a0 Z = true) (n0 : Nat) (h : Heap) (j r pj pr : Int32) (hc : r < 0 ∨ j < r) : o_C l Z n0 oy4 method_4_code 4 (some .int) orm4 [(.int j), (.int r), (.int pj), (.int pr)] h (fun v h' => v = some (.int pj) ∧ h' = h) := by
  refine o_body (Ls := [.val (.int j), .val (.int r), .val (.int pj), .val (.int pr)]) pn4 (by first | (simp [argsToLocals, Value.category]; done) | rfl) (fun κ B => ?_)
  refine o_iloadN (pc := 0) B d4_0 rfl ?_
  refine o_if_lt (pc := 1) (pc' := 9) B d4_1 (by decide) (by decide) (fun hc1 => ?_) (fun hc1 => ?_)
  · refine o_iloadN (pc := 9) B d4_9 rfl ?_
    refine o_goto (pc := 10) (pc' := 20) B d4_10 (by decide) (by decide) ?_
    exact o_ireturn (pc := 20) B d4_20 (by decide) (by decide) (⟨rfl, rfl⟩)
  refine o_iloadN (pc := 4) B d4_4 rfl ?_
  refine o_iloadN (pc := 5) B d4_5 rfl ?_
  refine o_icmp_ge (pc := 6) (pc' := 13) B d4_6 (by decide) (by decide) (fun hc6 => False.elim (hc.elim hc1 hc6)) (fun hc6 => ?_)
  refine o_iloadN (pc := 9) B d4_9 rfl ?_
  refine o_goto (pc := 10) (pc' := 20) B d4_10 (by decide) (by decide) ?_
  exact o_ireturn (pc := 20) B d4_20 (by decide) (by decide) (⟨rfl, rfl⟩)
set_option maxRecDepth 65536 in
set_option maxHeartbeats 40000000 in
theorem oc4b (l : Launch) (Z : State) (a0 : Array Value) (hw : ∀ d ∈ tables_1, d.before a0 Z = true) (n0 : Nat) (h : Heap) (j r pj pr e : Int32) (hr : ¬ r < 0) (hj : ¬ j < r) (he : pr + 1 + (j - r) = e) : o_C l Z n0 oy4 method_4_code 4 (some .int) orm4 [(.int j), (.int r), (.int pj), (.int pr)] h (fun v h' => v = some (.int e) ∧ h' = h) := by
  refine o_body (Ls := [.val (.int j), .val (.int r), .val (.int pj), .val (.int pr)]) pn4 (by first | (simp [argsToLocals, Value.category]; done) | rfl) (fun κ B => ?_)
  refine o_iloadN (pc := 0) B d4_0 rfl ?_
  refine o_if_lt (pc := 1) (pc' := 9) B d4_1 (by decide) (by decide) (fun hc1 => False.elim (hr hc1)) (fun hc1 => ?_)
  refine o_iloadN (pc := 4) B d4_4 rfl ?_
  refine o_iloadN (pc := 5) B d4_5 rfl ?_
  refine o_icmp_ge (pc := 6) (pc' := 13) B d4_6 (by decide) (by decide) (fun hc6 => ?_) (fun hc6 => False.elim (hj hc6))
  refine o_iloadN (pc := 13) B d4_13 rfl ?_
  refine o_iconst (pc := 14) B (1 : Int32) d4_14 (by decide) ?_
  refine o_iadd (pc := 15) B d4_15 ?_
  refine o_iloadN (pc := 16) B d4_16 rfl ?_
  refine o_iloadN (pc := 17) B d4_17 rfl ?_
  refine o_isub (pc := 18) B d4_18 ?_
  refine o_iadd (pc := 19) B d4_19 ?_
  exact o_ireturn (pc := 20) B d4_20 (by decide) (by decide) (⟨by rw [he], rfl⟩)
set_option maxRecDepth 65536 in
set_option maxHeartbeats 40000000 in
theorem oc2_0m (l : Launch) (Z : State) (a0 : Array Value) (hw : ∀ d ∈ tables_1, d.before a0 Z = true) (n0 : Nat) (h : Heap) (n p0 p1 p2 : Int32) : o_C l Z n0 oy2 method_3_code 5 (some .int) orm2 [(.int 0), (.int n), (.int p0), (.int p1), (.int p2)] h (fun v h' => v = some (.int (-1)) ∧ h' = h) := by
  refine o_body (Ls := [.val (.int 0), .val (.int n), .val (.int p0), .val (.int p1), .val (.int p2)]) pn2 (by first | (simp [argsToLocals, Value.category]; done) | rfl) (fun κ B => ?_)
  refine o_iloadN (pc := 0) B d2_0 rfl ?_
  refine o_iconst (pc := 1) B (3 : Int32) d2_1 (by decide) ?_
  refine o_icmp_ne (pc := 2) (pc' := 35) B d2_2 (by decide) (by decide) (fun hc2 => ?_) (fun hc2 => False.elim (by revert hc2; decide))
  refine o_iloadN (pc := 35) B d2_35 rfl ?_
  refine o_iconst (pc := 36) B (2 : Int32) d2_36 (by decide) ?_
  refine o_icmp_ne (pc := 37) (pc' := 60) B d2_37 (by decide) (by decide) (fun hc37 => ?_) (fun hc37 => False.elim (by revert hc37; decide))
  refine o_iloadN (pc := 60) B d2_60 rfl ?_
  refine o_iconst (pc := 61) B (1 : Int32) d2_61 (by decide) ?_
  refine o_icmp_ne (pc := 62) (pc' := 76) B d2_62 (by decide) (by decide) (fun hc62 => ?_) (fun hc62 => False.elim (by revert hc62; decide))
  refine o_iconst (pc := 76) B (-1 : Int32) d2_76 (by decide) ?_
  exact o_ireturn (pc := 77) B d2_77 (by decide) (by decide) (⟨rfl, rfl⟩)
set_option maxRecDepth 65536 in
set_option maxHeartbeats 40000000 in
theorem oc2_10 (l : Launch) (Z : State) (a0 : Array Value) (hw : ∀ d ∈ tables_1, d.before a0 Z = true) (n0 : Nat) (h : Heap) (n p0 p1 p2 : Int32) (t : p0 < n - 1) : o_C l Z n0 oy2 method_3_code 5 (some .int) orm2 [(.int 1), (.int n), (.int p0), (.int p1), (.int p2)] h (fun v h' => v = some (.int 0) ∧ h' = h) := by
  refine o_body (Ls := [.val (.int 1), .val (.int n), .val (.int p0), .val (.int p1), .val (.int p2)]) pn2 (by first | (simp [argsToLocals, Value.category]; done) | rfl) (fun κ B => ?_)
  refine o_iloadN (pc := 0) B d2_0 rfl ?_
  refine o_iconst (pc := 1) B (3 : Int32) d2_1 (by decide) ?_
  refine o_icmp_ne (pc := 2) (pc' := 35) B d2_2 (by decide) (by decide) (fun hc2 => ?_) (fun hc2 => False.elim (by revert hc2; decide))
  refine o_iloadN (pc := 35) B d2_35 rfl ?_
  refine o_iconst (pc := 36) B (2 : Int32) d2_36 (by decide) ?_
  refine o_icmp_ne (pc := 37) (pc' := 60) B d2_37 (by decide) (by decide) (fun hc37 => ?_) (fun hc37 => False.elim (by revert hc37; decide))
  refine o_iloadN (pc := 60) B d2_60 rfl ?_
  refine o_iconst (pc := 61) B (1 : Int32) d2_61 (by decide) ?_
  refine o_icmp_ne (pc := 62) (pc' := 76) B d2_62 (by decide) (by decide) (fun hc62 => False.elim (by revert hc62; decide)) (fun hc62 => ?_)
  refine o_iloadN (pc := 65) B d2_65 rfl ?_
  refine o_iloadN (pc := 66) B d2_66 rfl ?_
  refine o_iconst (pc := 67) B (1 : Int32) d2_67 (by decide) ?_
  refine o_isub (pc := 68) B d2_68 ?_
  refine o_icmp_ge (pc := 69) (pc' := 74) B d2_69 (by decide) (by decide) (fun hc69 => False.elim (hc69 t)) (fun hc69 => ?_)
  refine o_iconst (pc := 72) B (0 : Int32) d2_72 (by decide) ?_
  exact o_ireturn (pc := 73) B d2_73 (by decide) (by decide) (⟨rfl, rfl⟩)
set_option maxRecDepth 65536 in
set_option maxHeartbeats 40000000 in
theorem oc2_1m (l : Launch) (Z : State) (a0 : Array Value) (hw : ∀ d ∈ tables_1, d.before a0 Z = true) (n0 : Nat) (h : Heap) (n p0 p1 p2 : Int32) (f0 : ¬ p0 < n - 1) : o_C l Z n0 oy2 method_3_code 5 (some .int) orm2 [(.int 1), (.int n), (.int p0), (.int p1), (.int p2)] h (fun v h' => v = some (.int (-1)) ∧ h' = h) := by
  refine o_body (Ls := [.val (.int 1), .val (.int n), .val (.int p0), .val (.int p1), .val (.int p2)]) pn2 (by first | (simp [argsToLocals, Value.category]; done) | rfl) (fun κ B => ?_)
  refine o_iloadN (pc := 0) B d2_0 rfl ?_
  refine o_iconst (pc := 1) B (3 : Int32) d2_1 (by decide) ?_
  refine o_icmp_ne (pc := 2) (pc' := 35) B d2_2 (by decide) (by decide) (fun hc2 => ?_) (fun hc2 => False.elim (by revert hc2; decide))
  refine o_iloadN (pc := 35) B d2_35 rfl ?_
  refine o_iconst (pc := 36) B (2 : Int32) d2_36 (by decide) ?_
  refine o_icmp_ne (pc := 37) (pc' := 60) B d2_37 (by decide) (by decide) (fun hc37 => ?_) (fun hc37 => False.elim (by revert hc37; decide))
  refine o_iloadN (pc := 60) B d2_60 rfl ?_
  refine o_iconst (pc := 61) B (1 : Int32) d2_61 (by decide) ?_
  refine o_icmp_ne (pc := 62) (pc' := 76) B d2_62 (by decide) (by decide) (fun hc62 => False.elim (by revert hc62; decide)) (fun hc62 => ?_)
  refine o_iloadN (pc := 65) B d2_65 rfl ?_
  refine o_iloadN (pc := 66) B d2_66 rfl ?_
  refine o_iconst (pc := 67) B (1 : Int32) d2_67 (by decide) ?_
  refine o_isub (pc := 68) B d2_68 ?_
  refine o_icmp_ge (pc := 69) (pc' := 74) B d2_69 (by decide) (by decide) (fun hc69 => ?_) (fun hc69 => False.elim (f0 hc69))
  refine o_iconst (pc := 74) B (-1 : Int32) d2_74 (by decide) ?_
  exact o_ireturn (pc := 75) B d2_75 (by decide) (by decide) (⟨rfl, rfl⟩)
set_option maxRecDepth 65536 in
set_option maxHeartbeats 40000000 in
theorem oc2_21 (l : Launch) (Z : State) (a0 : Array Value) (hw : ∀ d ∈ tables_1, d.before a0 Z = true) (n0 : Nat) (h : Heap) (n p0 p1 p2 : Int32) (t : p1 < n - 1) : o_C l Z n0 oy2 method_3_code 5 (some .int) orm2 [(.int 2), (.int n), (.int p0), (.int p1), (.int p2)] h (fun v h' => v = some (.int 1) ∧ h' = h) := by
  refine o_body (Ls := [.val (.int 2), .val (.int n), .val (.int p0), .val (.int p1), .val (.int p2)]) pn2 (by first | (simp [argsToLocals, Value.category]; done) | rfl) (fun κ B => ?_)
  refine o_iloadN (pc := 0) B d2_0 rfl ?_
  refine o_iconst (pc := 1) B (3 : Int32) d2_1 (by decide) ?_
  refine o_icmp_ne (pc := 2) (pc' := 35) B d2_2 (by decide) (by decide) (fun hc2 => ?_) (fun hc2 => False.elim (by revert hc2; decide))
  refine o_iloadN (pc := 35) B d2_35 rfl ?_
  refine o_iconst (pc := 36) B (2 : Int32) d2_36 (by decide) ?_
  refine o_icmp_ne (pc := 37) (pc' := 60) B d2_37 (by decide) (by decide) (fun hc37 => False.elim (by revert hc37; decide)) (fun hc37 => ?_)
  refine o_iloadN (pc := 40) B d2_40 rfl ?_
  refine o_iloadN (pc := 41) B d2_41 rfl ?_
  refine o_iconst (pc := 42) B (1 : Int32) d2_42 (by decide) ?_
  refine o_isub (pc := 43) B d2_43 ?_
  refine o_icmp_ge (pc := 44) (pc' := 49) B d2_44 (by decide) (by decide) (fun hc44 => False.elim (hc44 t)) (fun hc44 => ?_)
  refine o_iconst (pc := 47) B (1 : Int32) d2_47 (by decide) ?_
  exact o_ireturn (pc := 48) B d2_48 (by decide) (by decide) (⟨rfl, rfl⟩)
set_option maxRecDepth 65536 in
set_option maxHeartbeats 40000000 in
theorem oc2_20 (l : Launch) (Z : State) (a0 : Array Value) (hw : ∀ d ∈ tables_1, d.before a0 Z = true) (n0 : Nat) (h : Heap) (n p0 p1 p2 : Int32) (f1 : ¬ p1 < n - 1) (t : p0 < n - 2) : o_C l Z n0 oy2 method_3_code 5 (some .int) orm2 [(.int 2), (.int n), (.int p0), (.int p1), (.int p2)] h (fun v h' => v = some (.int 0) ∧ h' = h) := by
  refine o_body (Ls := [.val (.int 2), .val (.int n), .val (.int p0), .val (.int p1), .val (.int p2)]) pn2 (by first | (simp [argsToLocals, Value.category]; done) | rfl) (fun κ B => ?_)
  refine o_iloadN (pc := 0) B d2_0 rfl ?_
  refine o_iconst (pc := 1) B (3 : Int32) d2_1 (by decide) ?_
  refine o_icmp_ne (pc := 2) (pc' := 35) B d2_2 (by decide) (by decide) (fun hc2 => ?_) (fun hc2 => False.elim (by revert hc2; decide))
  refine o_iloadN (pc := 35) B d2_35 rfl ?_
  refine o_iconst (pc := 36) B (2 : Int32) d2_36 (by decide) ?_
  refine o_icmp_ne (pc := 37) (pc' := 60) B d2_37 (by decide) (by decide) (fun hc37 => False.elim (by revert hc37; decide)) (fun hc37 => ?_)
  refine o_iloadN (pc := 40) B d2_40 rfl ?_
  refine o_iloadN (pc := 41) B d2_41 rfl ?_
  refine o_iconst (pc := 42) B (1 : Int32) d2_42 (by decide) ?_
  refine o_isub (pc := 43) B d2_43 ?_
  refine o_icmp_ge (pc := 44) (pc' := 49) B d2_44 (by decide) (by decide) (fun hc44 => ?_) (fun hc44 => False.elim (f1 hc44))
  refine o_iloadN (pc := 49) B d2_49 rfl ?_
  refine o_iloadN (pc := 50) B d2_50 rfl ?_
  refine o_iconst (pc := 51) B (2 : Int32) d2_51 (by decide) ?_
  refine o_isub (pc := 52) B d2_52 ?_
  refine o_icmp_ge (pc := 53) (pc' := 58) B d2_53 (by decide) (by decide) (fun hc53 => False.elim (hc53 t)) (fun hc53 => ?_)
  refine o_iconst (pc := 56) B (0 : Int32) d2_56 (by decide) ?_
  exact o_ireturn (pc := 57) B d2_57 (by decide) (by decide) (⟨rfl, rfl⟩)
set_option maxRecDepth 65536 in
set_option maxHeartbeats 40000000 in
theorem oc2_2m (l : Launch) (Z : State) (a0 : Array Value) (hw : ∀ d ∈ tables_1, d.before a0 Z = true) (n0 : Nat) (h : Heap) (n p0 p1 p2 : Int32) (f1 : ¬ p1 < n - 1) (f0 : ¬ p0 < n - 2) : o_C l Z n0 oy2 method_3_code 5 (some .int) orm2 [(.int 2), (.int n), (.int p0), (.int p1), (.int p2)] h (fun v h' => v = some (.int (-1)) ∧ h' = h) := by
  refine o_body (Ls := [.val (.int 2), .val (.int n), .val (.int p0), .val (.int p1), .val (.int p2)]) pn2 (by first | (simp [argsToLocals, Value.category]; done) | rfl) (fun κ B => ?_)
  refine o_iloadN (pc := 0) B d2_0 rfl ?_
  refine o_iconst (pc := 1) B (3 : Int32) d2_1 (by decide) ?_
  refine o_icmp_ne (pc := 2) (pc' := 35) B d2_2 (by decide) (by decide) (fun hc2 => ?_) (fun hc2 => False.elim (by revert hc2; decide))
  refine o_iloadN (pc := 35) B d2_35 rfl ?_
  refine o_iconst (pc := 36) B (2 : Int32) d2_36 (by decide) ?_
  refine o_icmp_ne (pc := 37) (pc' := 60) B d2_37 (by decide) (by decide) (fun hc37 => False.elim (by revert hc37; decide)) (fun hc37 => ?_)
  refine o_iloadN (pc := 40) B d2_40 rfl ?_
  refine o_iloadN (pc := 41) B d2_41 rfl ?_
  refine o_iconst (pc := 42) B (1 : Int32) d2_42 (by decide) ?_
  refine o_isub (pc := 43) B d2_43 ?_
  refine o_icmp_ge (pc := 44) (pc' := 49) B d2_44 (by decide) (by decide) (fun hc44 => ?_) (fun hc44 => False.elim (f1 hc44))
  refine o_iloadN (pc := 49) B d2_49 rfl ?_
  refine o_iloadN (pc := 50) B d2_50 rfl ?_
  refine o_iconst (pc := 51) B (2 : Int32) d2_51 (by decide) ?_
  refine o_isub (pc := 52) B d2_52 ?_
  refine o_icmp_ge (pc := 53) (pc' := 58) B d2_53 (by decide) (by decide) (fun hc53 => ?_) (fun hc53 => False.elim (f0 hc53))
  refine o_iconst (pc := 58) B (-1 : Int32) d2_58 (by decide) ?_
  exact o_ireturn (pc := 59) B d2_59 (by decide) (by decide) (⟨rfl, rfl⟩)
set_option maxRecDepth 65536 in
set_option maxHeartbeats 40000000 in
theorem oc2_32 (l : Launch) (Z : State) (a0 : Array Value) (hw : ∀ d ∈ tables_1, d.before a0 Z = true) (n0 : Nat) (h : Heap) (n p0 p1 p2 : Int32) (t : p2 < n - 1) : o_C l Z n0 oy2 method_3_code 5 (some .int) orm2 [(.int 3), (.int n), (.int p0), (.int p1), (.int p2)] h (fun v h' => v = some (.int 2) ∧ h' = h) := by
  refine o_body (Ls := [.val (.int 3), .val (.int n), .val (.int p0), .val (.int p1), .val (.int p2)]) pn2 (by first | (simp [argsToLocals, Value.category]; done) | rfl) (fun κ B => ?_)
  refine o_iloadN (pc := 0) B d2_0 rfl ?_
  refine o_iconst (pc := 1) B (3 : Int32) d2_1 (by decide) ?_
  refine o_icmp_ne (pc := 2) (pc' := 35) B d2_2 (by decide) (by decide) (fun hc2 => False.elim (by revert hc2; decide)) (fun hc2 => ?_)
  refine o_iload (pc := 5) B d2_5 rfl ?_
  refine o_iloadN (pc := 7) B d2_7 rfl ?_
  refine o_iconst (pc := 8) B (1 : Int32) d2_8 (by decide) ?_
  refine o_isub (pc := 9) B d2_9 ?_
  refine o_icmp_ge (pc := 10) (pc' := 15) B d2_10 (by decide) (by decide) (fun hc10 => False.elim (hc10 t)) (fun hc10 => ?_)
  refine o_iconst (pc := 13) B (2 : Int32) d2_13 (by decide) ?_
  exact o_ireturn (pc := 14) B d2_14 (by decide) (by decide) (⟨rfl, rfl⟩)
set_option maxRecDepth 65536 in
set_option maxHeartbeats 40000000 in
theorem oc2_31 (l : Launch) (Z : State) (a0 : Array Value) (hw : ∀ d ∈ tables_1, d.before a0 Z = true) (n0 : Nat) (h : Heap) (n p0 p1 p2 : Int32) (f2 : ¬ p2 < n - 1) (t : p1 < n - 2) : o_C l Z n0 oy2 method_3_code 5 (some .int) orm2 [(.int 3), (.int n), (.int p0), (.int p1), (.int p2)] h (fun v h' => v = some (.int 1) ∧ h' = h) := by
  refine o_body (Ls := [.val (.int 3), .val (.int n), .val (.int p0), .val (.int p1), .val (.int p2)]) pn2 (by first | (simp [argsToLocals, Value.category]; done) | rfl) (fun κ B => ?_)
  refine o_iloadN (pc := 0) B d2_0 rfl ?_
  refine o_iconst (pc := 1) B (3 : Int32) d2_1 (by decide) ?_
  refine o_icmp_ne (pc := 2) (pc' := 35) B d2_2 (by decide) (by decide) (fun hc2 => False.elim (by revert hc2; decide)) (fun hc2 => ?_)
  refine o_iload (pc := 5) B d2_5 rfl ?_
  refine o_iloadN (pc := 7) B d2_7 rfl ?_
  refine o_iconst (pc := 8) B (1 : Int32) d2_8 (by decide) ?_
  refine o_isub (pc := 9) B d2_9 ?_
  refine o_icmp_ge (pc := 10) (pc' := 15) B d2_10 (by decide) (by decide) (fun hc10 => ?_) (fun hc10 => False.elim (f2 hc10))
  refine o_iloadN (pc := 15) B d2_15 rfl ?_
  refine o_iloadN (pc := 16) B d2_16 rfl ?_
  refine o_iconst (pc := 17) B (2 : Int32) d2_17 (by decide) ?_
  refine o_isub (pc := 18) B d2_18 ?_
  refine o_icmp_ge (pc := 19) (pc' := 24) B d2_19 (by decide) (by decide) (fun hc19 => False.elim (hc19 t)) (fun hc19 => ?_)
  refine o_iconst (pc := 22) B (1 : Int32) d2_22 (by decide) ?_
  exact o_ireturn (pc := 23) B d2_23 (by decide) (by decide) (⟨rfl, rfl⟩)
set_option maxRecDepth 65536 in
set_option maxHeartbeats 40000000 in
theorem oc2_30 (l : Launch) (Z : State) (a0 : Array Value) (hw : ∀ d ∈ tables_1, d.before a0 Z = true) (n0 : Nat) (h : Heap) (n p0 p1 p2 : Int32) (f2 : ¬ p2 < n - 1) (f1 : ¬ p1 < n - 2) (t : p0 < n - 3) : o_C l Z n0 oy2 method_3_code 5 (some .int) orm2 [(.int 3), (.int n), (.int p0), (.int p1), (.int p2)] h (fun v h' => v = some (.int 0) ∧ h' = h) := by
  refine o_body (Ls := [.val (.int 3), .val (.int n), .val (.int p0), .val (.int p1), .val (.int p2)]) pn2 (by first | (simp [argsToLocals, Value.category]; done) | rfl) (fun κ B => ?_)
  refine o_iloadN (pc := 0) B d2_0 rfl ?_
  refine o_iconst (pc := 1) B (3 : Int32) d2_1 (by decide) ?_
  refine o_icmp_ne (pc := 2) (pc' := 35) B d2_2 (by decide) (by decide) (fun hc2 => False.elim (by revert hc2; decide)) (fun hc2 => ?_)
  refine o_iload (pc := 5) B d2_5 rfl ?_
  refine o_iloadN (pc := 7) B d2_7 rfl ?_
  refine o_iconst (pc := 8) B (1 : Int32) d2_8 (by decide) ?_
  refine o_isub (pc := 9) B d2_9 ?_
  refine o_icmp_ge (pc := 10) (pc' := 15) B d2_10 (by decide) (by decide) (fun hc10 => ?_) (fun hc10 => False.elim (f2 hc10))
  refine o_iloadN (pc := 15) B d2_15 rfl ?_
  refine o_iloadN (pc := 16) B d2_16 rfl ?_
  refine o_iconst (pc := 17) B (2 : Int32) d2_17 (by decide) ?_
  refine o_isub (pc := 18) B d2_18 ?_
  refine o_icmp_ge (pc := 19) (pc' := 24) B d2_19 (by decide) (by decide) (fun hc19 => ?_) (fun hc19 => False.elim (f1 hc19))
  refine o_iloadN (pc := 24) B d2_24 rfl ?_
  refine o_iloadN (pc := 25) B d2_25 rfl ?_
  refine o_iconst (pc := 26) B (3 : Int32) d2_26 (by decide) ?_
  refine o_isub (pc := 27) B d2_27 ?_
  refine o_icmp_ge (pc := 28) (pc' := 33) B d2_28 (by decide) (by decide) (fun hc28 => False.elim (hc28 t)) (fun hc28 => ?_)
  refine o_iconst (pc := 31) B (0 : Int32) d2_31 (by decide) ?_
  exact o_ireturn (pc := 32) B d2_32 (by decide) (by decide) (⟨rfl, rfl⟩)
set_option maxRecDepth 65536 in
set_option maxHeartbeats 40000000 in
theorem oc2_3m (l : Launch) (Z : State) (a0 : Array Value) (hw : ∀ d ∈ tables_1, d.before a0 Z = true) (n0 : Nat) (h : Heap) (n p0 p1 p2 : Int32) (f2 : ¬ p2 < n - 1) (f1 : ¬ p1 < n - 2) (f0 : ¬ p0 < n - 3) : o_C l Z n0 oy2 method_3_code 5 (some .int) orm2 [(.int 3), (.int n), (.int p0), (.int p1), (.int p2)] h (fun v h' => v = some (.int (-1)) ∧ h' = h) := by
  refine o_body (Ls := [.val (.int 3), .val (.int n), .val (.int p0), .val (.int p1), .val (.int p2)]) pn2 (by first | (simp [argsToLocals, Value.category]; done) | rfl) (fun κ B => ?_)
  refine o_iloadN (pc := 0) B d2_0 rfl ?_
  refine o_iconst (pc := 1) B (3 : Int32) d2_1 (by decide) ?_
  refine o_icmp_ne (pc := 2) (pc' := 35) B d2_2 (by decide) (by decide) (fun hc2 => False.elim (by revert hc2; decide)) (fun hc2 => ?_)
  refine o_iload (pc := 5) B d2_5 rfl ?_
  refine o_iloadN (pc := 7) B d2_7 rfl ?_
  refine o_iconst (pc := 8) B (1 : Int32) d2_8 (by decide) ?_
  refine o_isub (pc := 9) B d2_9 ?_
  refine o_icmp_ge (pc := 10) (pc' := 15) B d2_10 (by decide) (by decide) (fun hc10 => ?_) (fun hc10 => False.elim (f2 hc10))
  refine o_iloadN (pc := 15) B d2_15 rfl ?_
  refine o_iloadN (pc := 16) B d2_16 rfl ?_
  refine o_iconst (pc := 17) B (2 : Int32) d2_17 (by decide) ?_
  refine o_isub (pc := 18) B d2_18 ?_
  refine o_icmp_ge (pc := 19) (pc' := 24) B d2_19 (by decide) (by decide) (fun hc19 => ?_) (fun hc19 => False.elim (f1 hc19))
  refine o_iloadN (pc := 24) B d2_24 rfl ?_
  refine o_iloadN (pc := 25) B d2_25 rfl ?_
  refine o_iconst (pc := 26) B (3 : Int32) d2_26 (by decide) ?_
  refine o_isub (pc := 27) B d2_27 ?_
  refine o_icmp_ge (pc := 28) (pc' := 33) B d2_28 (by decide) (by decide) (fun hc28 => ?_) (fun hc28 => False.elim (f0 hc28))
  refine o_iconst (pc := 33) B (-1 : Int32) d2_33 (by decide) ?_
  exact o_ireturn (pc := 34) B d2_34 (by decide) (by decide) (⟨rfl, rfl⟩)
set_option maxRecDepth 65536 in
set_option maxHeartbeats 40000000 in
theorem oc3_0m (l : Launch) (Z : State) (a0 : Array Value) (hw : ∀ d ∈ tables_1, d.before a0 Z = true) (n0 : Nat) (h : Heap) (a : Addr) (n : Int32) (ga : n0 ≤ a) (A : o_IA Z h a []) : o_C l Z n0 oy3 prog_23_method_13_code 4 (some .int) orm3 [(.ref a), (.int n)] h (fun v h' => v = some (.int (-1)) ∧ o_IA Z h' a [] ∧ Keep h h' [a]) := by
  refine o_body (Ls := [.val (.ref a), .val (.int n), .unset, .unset]) pn3 (by first | (simp [argsToLocals, Value.category]; done) | rfl) (fun κ B => ?_)
  refine o_aloadN (pc := 0) B d3_0 rfl rfl ?_
  refine o_arraylen (pc := 1) B (0 : Int32) d3_1 (A) (rfl) ?_
  refine o_iconst (pc := 2) B (1 : Int32) d3_2 (by decide) ?_
  refine o_isub_c (pc := 3) B (-1 : Int32) d3_3 (by decide) ?_
  refine o_istoreN_4_2 (pc := 4) B d3_4 rfl ?_
  refine o_iloadN (pc := 5) B d3_5 rfl ?_
  refine o_if_lt (pc := 6) (pc' := 27) B d3_6 (by decide) (by decide) (fun hc6 => ?_) (fun hc6 => False.elim (by revert hc6; decide))
  refine o_iloadN (pc := 27) B d3_27 rfl ?_
  refine o_if_ge (pc := 28) (pc' := 33) B d3_28 (by decide) (by decide) (fun hc28 => False.elim (by revert hc28; decide)) (fun hc28 => ?_)
  refine o_iconst (pc := 31) B (-1 : Int32) d3_31 (by decide) ?_
  exact o_ireturn (pc := 32) B d3_32 (by decide) (by decide) (⟨rfl, A, Keep.refl _ _⟩)
set_option maxRecDepth 65536 in
set_option maxHeartbeats 40000000 in
theorem oc3_10 (l : Launch) (Z : State) (a0 : Array Value) (hw : ∀ d ∈ tables_1, d.before a0 Z = true) (n0 : Nat) (h : Heap) (a : Addr) (p0 n : Int32) (ga : n0 ≤ a) (A : o_IA Z h a [p0]) (ne : ¬ p0 = n - 1 + 0) : o_C l Z n0 oy3 prog_23_method_13_code 4 (some .int) orm3 [(.ref a), (.int n)] h (fun v h' => v = some (.int 0) ∧ o_IA Z h' a [p0 + 1] ∧ Keep h h' [a]) := by
  refine o_body (Ls := [.val (.ref a), .val (.int n), .unset, .unset]) pn3 (by first | (simp [argsToLocals, Value.category]; done) | rfl) (fun κ B => ?_)
  refine o_aloadN (pc := 0) B d3_0 rfl rfl ?_
  refine o_arraylen (pc := 1) B (1 : Int32) d3_1 (A) (rfl) ?_
  refine o_iconst (pc := 2) B (1 : Int32) d3_2 (by decide) ?_
  refine o_isub_c (pc := 3) B (0 : Int32) d3_3 (by decide) ?_
  refine o_istoreN_4_2 (pc := 4) B d3_4 rfl ?_
  refine o_iloadN (pc := 5) B d3_5 rfl ?_
  refine o_if_lt (pc := 6) (pc' := 27) B d3_6 (by decide) (by decide) (fun hc6 => False.elim (by revert hc6; decide)) (fun hc6 => ?_)
  refine o_aloadN (pc := 9) B d3_9 rfl rfl ?_
  refine o_iloadN (pc := 10) B d3_10 rfl ?_
  refine o_iaload (pc := 11) B (0) d3_11 (A) (by decide) (rfl) ?_
  refine o_iloadN (pc := 12) B d3_12 rfl ?_
  refine o_aloadN (pc := 13) B d3_13 rfl rfl ?_
  refine o_arraylen (pc := 14) B (1 : Int32) d3_14 (A) (rfl) ?_
  refine o_isub (pc := 15) B d3_15 ?_
  refine o_iloadN (pc := 16) B d3_16 rfl ?_
  refine o_iadd (pc := 17) B d3_17 ?_
  refine o_icmp_ne (pc := 18) (pc' := 27) B d3_18 (by decide) (by decide) (fun hc18 => ?_) (fun hc18 => False.elim (ne hc18))
  refine o_iloadN (pc := 27) B d3_27 rfl ?_
  refine o_if_ge (pc := 28) (pc' := 33) B d3_28 (by decide) (by decide) (fun hc28 => ?_) (fun hc28 => False.elim (by revert hc28; decide))
  refine o_aloadN (pc := 33) B d3_33 rfl rfl ?_
  refine o_iloadN (pc := 34) B d3_34 rfl ?_
  refine o_dup2 (pc := 35) B d3_35 rfl rfl ?_
  refine o_iaload (pc := 36) B (0) d3_36 (A) (by decide) (rfl) ?_
  refine o_iconst (pc := 37) B (1 : Int32) d3_37 (by decide) ?_
  refine o_iadd (pc := 38) B d3_38 ?_
  refine o_iastore (pc := 39) B (0) d3_39 (A) (by decide) (by show 0 < 1; decide) (ga) ?_
  intro h1 W1
  have A1 : o_IA Z h1 a [p0 + 1] := o_IA.same A W1
  have K1 : Keep h h1 [a] := (Keep.refl h [a]).wr W1 (Or.inl (List.mem_cons_self ..))
  refine o_iloadN (pc := 40) B d3_40 rfl ?_
  refine o_iconst (pc := 41) B (1 : Int32) d3_41 (by decide) ?_
  refine o_iadd_c (pc := 42) B (1 : Int32) d3_42 (by decide) ?_
  refine o_istoreN_4_3 (pc := 43) B d3_43 rfl ?_
  refine o_iloadN (pc := 44) B d3_44 rfl ?_
  refine o_aloadN (pc := 45) B d3_45 rfl rfl ?_
  refine o_arraylen (pc := 46) B (1 : Int32) d3_46 (A1) (rfl) ?_
  refine o_icmp_ge (pc := 47) (pc' := 66) B d3_47 (by decide) (by decide) (fun hc47 => ?_) (fun hc47 => False.elim (by revert hc47; decide))
  refine o_iloadN (pc := 66) B d3_66 rfl ?_
  exact o_ireturn (pc := 67) B d3_67 (by decide) (by decide) (⟨rfl, A1, K1⟩)
set_option maxRecDepth 65536 in
set_option maxHeartbeats 40000000 in
theorem oc3_1m (l : Launch) (Z : State) (a0 : Array Value) (hw : ∀ d ∈ tables_1, d.before a0 Z = true) (n0 : Nat) (h : Heap) (a : Addr) (p0 n : Int32) (ga : n0 ≤ a) (A : o_IA Z h a [p0]) (e0 : p0 = n - 1 + 0) : o_C l Z n0 oy3 prog_23_method_13_code 4 (some .int) orm3 [(.ref a), (.int n)] h (fun v h' => v = some (.int (-1)) ∧ o_IA Z h' a [p0] ∧ Keep h h' [a]) := by
  refine o_body (Ls := [.val (.ref a), .val (.int n), .unset, .unset]) pn3 (by first | (simp [argsToLocals, Value.category]; done) | rfl) (fun κ B => ?_)
  refine o_aloadN (pc := 0) B d3_0 rfl rfl ?_
  refine o_arraylen (pc := 1) B (1 : Int32) d3_1 (A) (rfl) ?_
  refine o_iconst (pc := 2) B (1 : Int32) d3_2 (by decide) ?_
  refine o_isub_c (pc := 3) B (0 : Int32) d3_3 (by decide) ?_
  refine o_istoreN_4_2 (pc := 4) B d3_4 rfl ?_
  refine o_iloadN (pc := 5) B d3_5 rfl ?_
  refine o_if_lt (pc := 6) (pc' := 27) B d3_6 (by decide) (by decide) (fun hc6 => False.elim (by revert hc6; decide)) (fun hc6 => ?_)
  refine o_aloadN (pc := 9) B d3_9 rfl rfl ?_
  refine o_iloadN (pc := 10) B d3_10 rfl ?_
  refine o_iaload (pc := 11) B (0) d3_11 (A) (by decide) (rfl) ?_
  refine o_iloadN (pc := 12) B d3_12 rfl ?_
  refine o_aloadN (pc := 13) B d3_13 rfl rfl ?_
  refine o_arraylen (pc := 14) B (1 : Int32) d3_14 (A) (rfl) ?_
  refine o_isub (pc := 15) B d3_15 ?_
  refine o_iloadN (pc := 16) B d3_16 rfl ?_
  refine o_iadd (pc := 17) B d3_17 ?_
  refine o_icmp_ne (pc := 18) (pc' := 27) B d3_18 (by decide) (by decide) (fun hc18 => False.elim (hc18 e0)) (fun hc18 => ?_)
  refine o_iinc_4_2 (pc := 21) B (-1 : Int32) (-1 : Int32) d3_21 (by decide) (by decide) ?_
  refine o_goto (pc := 24) (pc' := 5) B d3_24 (by decide) (by decide) ?_
  refine o_iloadN (pc := 5) B d3_5 rfl ?_
  refine o_if_lt (pc := 6) (pc' := 27) B d3_6 (by decide) (by decide) (fun hc6 => ?_) (fun hc6 => False.elim (by revert hc6; decide))
  refine o_iloadN (pc := 27) B d3_27 rfl ?_
  refine o_if_ge (pc := 28) (pc' := 33) B d3_28 (by decide) (by decide) (fun hc28 => False.elim (by revert hc28; decide)) (fun hc28 => ?_)
  refine o_iconst (pc := 31) B (-1 : Int32) d3_31 (by decide) ?_
  exact o_ireturn (pc := 32) B d3_32 (by decide) (by decide) (⟨rfl, A, Keep.refl _ _⟩)
set_option maxRecDepth 65536 in
set_option maxHeartbeats 40000000 in
theorem oc3_21 (l : Launch) (Z : State) (a0 : Array Value) (hw : ∀ d ∈ tables_1, d.before a0 Z = true) (n0 : Nat) (h : Heap) (a : Addr) (p0 p1 n : Int32) (ga : n0 ≤ a) (A : o_IA Z h a [p0, p1]) (ne : ¬ p1 = n - 2 + 1) : o_C l Z n0 oy3 prog_23_method_13_code 4 (some .int) orm3 [(.ref a), (.int n)] h (fun v h' => v = some (.int 1) ∧ o_IA Z h' a [p0, p1 + 1] ∧ Keep h h' [a]) := by
  refine o_body (Ls := [.val (.ref a), .val (.int n), .unset, .unset]) pn3 (by first | (simp [argsToLocals, Value.category]; done) | rfl) (fun κ B => ?_)
  refine o_aloadN (pc := 0) B d3_0 rfl rfl ?_
  refine o_arraylen (pc := 1) B (2 : Int32) d3_1 (A) (rfl) ?_
  refine o_iconst (pc := 2) B (1 : Int32) d3_2 (by decide) ?_
  refine o_isub_c (pc := 3) B (1 : Int32) d3_3 (by decide) ?_
  refine o_istoreN_4_2 (pc := 4) B d3_4 rfl ?_
  refine o_iloadN (pc := 5) B d3_5 rfl ?_
  refine o_if_lt (pc := 6) (pc' := 27) B d3_6 (by decide) (by decide) (fun hc6 => False.elim (by revert hc6; decide)) (fun hc6 => ?_)
  refine o_aloadN (pc := 9) B d3_9 rfl rfl ?_
  refine o_iloadN (pc := 10) B d3_10 rfl ?_
  refine o_iaload (pc := 11) B (1) d3_11 (A) (by decide) (rfl) ?_
  refine o_iloadN (pc := 12) B d3_12 rfl ?_
  refine o_aloadN (pc := 13) B d3_13 rfl rfl ?_
  refine o_arraylen (pc := 14) B (2 : Int32) d3_14 (A) (rfl) ?_
  refine o_isub (pc := 15) B d3_15 ?_
  refine o_iloadN (pc := 16) B d3_16 rfl ?_
  refine o_iadd (pc := 17) B d3_17 ?_
  refine o_icmp_ne (pc := 18) (pc' := 27) B d3_18 (by decide) (by decide) (fun hc18 => ?_) (fun hc18 => False.elim (ne hc18))
  refine o_iloadN (pc := 27) B d3_27 rfl ?_
  refine o_if_ge (pc := 28) (pc' := 33) B d3_28 (by decide) (by decide) (fun hc28 => ?_) (fun hc28 => False.elim (by revert hc28; decide))
  refine o_aloadN (pc := 33) B d3_33 rfl rfl ?_
  refine o_iloadN (pc := 34) B d3_34 rfl ?_
  refine o_dup2 (pc := 35) B d3_35 rfl rfl ?_
  refine o_iaload (pc := 36) B (1) d3_36 (A) (by decide) (rfl) ?_
  refine o_iconst (pc := 37) B (1 : Int32) d3_37 (by decide) ?_
  refine o_iadd (pc := 38) B d3_38 ?_
  refine o_iastore (pc := 39) B (1) d3_39 (A) (by decide) (by show 1 < 2; decide) (ga) ?_
  intro h1 W1
  have A1 : o_IA Z h1 a [p0, p1 + 1] := o_IA.same A W1
  have K1 : Keep h h1 [a] := (Keep.refl h [a]).wr W1 (Or.inl (List.mem_cons_self ..))
  refine o_iloadN (pc := 40) B d3_40 rfl ?_
  refine o_iconst (pc := 41) B (1 : Int32) d3_41 (by decide) ?_
  refine o_iadd_c (pc := 42) B (2 : Int32) d3_42 (by decide) ?_
  refine o_istoreN_4_3 (pc := 43) B d3_43 rfl ?_
  refine o_iloadN (pc := 44) B d3_44 rfl ?_
  refine o_aloadN (pc := 45) B d3_45 rfl rfl ?_
  refine o_arraylen (pc := 46) B (2 : Int32) d3_46 (A1) (rfl) ?_
  refine o_icmp_ge (pc := 47) (pc' := 66) B d3_47 (by decide) (by decide) (fun hc47 => ?_) (fun hc47 => False.elim (by revert hc47; decide))
  refine o_iloadN (pc := 66) B d3_66 rfl ?_
  exact o_ireturn (pc := 67) B d3_67 (by decide) (by decide) (⟨rfl, A1, K1⟩)
set_option maxRecDepth 65536 in
set_option maxHeartbeats 40000000 in
theorem oc3_20 (l : Launch) (Z : State) (a0 : Array Value) (hw : ∀ d ∈ tables_1, d.before a0 Z = true) (n0 : Nat) (h : Heap) (a : Addr) (p0 p1 n : Int32) (ga : n0 ≤ a) (A : o_IA Z h a [p0, p1]) (e1 : p1 = n - 2 + 1) (ne : ¬ p0 = n - 2 + 0) : o_C l Z n0 oy3 prog_23_method_13_code 4 (some .int) orm3 [(.ref a), (.int n)] h (fun v h' => v = some (.int 0) ∧ o_IA Z h' a [p0 + 1, p0 + 1 + 1] ∧ Keep h h' [a]) := by
  refine o_body (Ls := [.val (.ref a), .val (.int n), .unset, .unset]) pn3 (by first | (simp [argsToLocals, Value.category]; done) | rfl) (fun κ B => ?_)
  refine o_aloadN (pc := 0) B d3_0 rfl rfl ?_
  refine o_arraylen (pc := 1) B (2 : Int32) d3_1 (A) (rfl) ?_
  refine o_iconst (pc := 2) B (1 : Int32) d3_2 (by decide) ?_
  refine o_isub_c (pc := 3) B (1 : Int32) d3_3 (by decide) ?_
  refine o_istoreN_4_2 (pc := 4) B d3_4 rfl ?_
  refine o_iloadN (pc := 5) B d3_5 rfl ?_
  refine o_if_lt (pc := 6) (pc' := 27) B d3_6 (by decide) (by decide) (fun hc6 => False.elim (by revert hc6; decide)) (fun hc6 => ?_)
  refine o_aloadN (pc := 9) B d3_9 rfl rfl ?_
  refine o_iloadN (pc := 10) B d3_10 rfl ?_
  refine o_iaload (pc := 11) B (1) d3_11 (A) (by decide) (rfl) ?_
  refine o_iloadN (pc := 12) B d3_12 rfl ?_
  refine o_aloadN (pc := 13) B d3_13 rfl rfl ?_
  refine o_arraylen (pc := 14) B (2 : Int32) d3_14 (A) (rfl) ?_
  refine o_isub (pc := 15) B d3_15 ?_
  refine o_iloadN (pc := 16) B d3_16 rfl ?_
  refine o_iadd (pc := 17) B d3_17 ?_
  refine o_icmp_ne (pc := 18) (pc' := 27) B d3_18 (by decide) (by decide) (fun hc18 => False.elim (hc18 e1)) (fun hc18 => ?_)
  refine o_iinc_4_2 (pc := 21) B (-1 : Int32) (0 : Int32) d3_21 (by decide) (by decide) ?_
  refine o_goto (pc := 24) (pc' := 5) B d3_24 (by decide) (by decide) ?_
  refine o_iloadN (pc := 5) B d3_5 rfl ?_
  refine o_if_lt (pc := 6) (pc' := 27) B d3_6 (by decide) (by decide) (fun hc6 => False.elim (by revert hc6; decide)) (fun hc6 => ?_)
  refine o_aloadN (pc := 9) B d3_9 rfl rfl ?_
  refine o_iloadN (pc := 10) B d3_10 rfl ?_
  refine o_iaload (pc := 11) B (0) d3_11 (A) (by decide) (rfl) ?_
  refine o_iloadN (pc := 12) B d3_12 rfl ?_
  refine o_aloadN (pc := 13) B d3_13 rfl rfl ?_
  refine o_arraylen (pc := 14) B (2 : Int32) d3_14 (A) (rfl) ?_
  refine o_isub (pc := 15) B d3_15 ?_
  refine o_iloadN (pc := 16) B d3_16 rfl ?_
  refine o_iadd (pc := 17) B d3_17 ?_
  refine o_icmp_ne (pc := 18) (pc' := 27) B d3_18 (by decide) (by decide) (fun hc18 => ?_) (fun hc18 => False.elim (ne hc18))
  refine o_iloadN (pc := 27) B d3_27 rfl ?_
  refine o_if_ge (pc := 28) (pc' := 33) B d3_28 (by decide) (by decide) (fun hc28 => ?_) (fun hc28 => False.elim (by revert hc28; decide))
  refine o_aloadN (pc := 33) B d3_33 rfl rfl ?_
  refine o_iloadN (pc := 34) B d3_34 rfl ?_
  refine o_dup2 (pc := 35) B d3_35 rfl rfl ?_
  refine o_iaload (pc := 36) B (0) d3_36 (A) (by decide) (rfl) ?_
  refine o_iconst (pc := 37) B (1 : Int32) d3_37 (by decide) ?_
  refine o_iadd (pc := 38) B d3_38 ?_
  refine o_iastore (pc := 39) B (0) d3_39 (A) (by decide) (by show 0 < 2; decide) (ga) ?_
  intro h1 W1
  have A1 : o_IA Z h1 a [p0 + 1, p1] := o_IA.same A W1
  have K1 : Keep h h1 [a] := (Keep.refl h [a]).wr W1 (Or.inl (List.mem_cons_self ..))
  refine o_iloadN (pc := 40) B d3_40 rfl ?_
  refine o_iconst (pc := 41) B (1 : Int32) d3_41 (by decide) ?_
  refine o_iadd_c (pc := 42) B (1 : Int32) d3_42 (by decide) ?_
  refine o_istoreN_4_3 (pc := 43) B d3_43 rfl ?_
  refine o_iloadN (pc := 44) B d3_44 rfl ?_
  refine o_aloadN (pc := 45) B d3_45 rfl rfl ?_
  refine o_arraylen (pc := 46) B (2 : Int32) d3_46 (A1) (rfl) ?_
  refine o_icmp_ge (pc := 47) (pc' := 66) B d3_47 (by decide) (by decide) (fun hc47 => False.elim (by revert hc47; decide)) (fun hc47 => ?_)
  refine o_aloadN (pc := 50) B d3_50 rfl rfl ?_
  refine o_iloadN (pc := 51) B d3_51 rfl ?_
  refine o_aloadN (pc := 52) B d3_52 rfl rfl ?_
  refine o_iloadN (pc := 53) B d3_53 rfl ?_
  refine o_iconst (pc := 54) B (1 : Int32) d3_54 (by decide) ?_
  refine o_isub_c (pc := 55) B (0 : Int32) d3_55 (by decide) ?_
  refine o_iaload (pc := 56) B (0) d3_56 (A1) (by decide) (rfl) ?_
  refine o_iconst (pc := 57) B (1 : Int32) d3_57 (by decide) ?_
  refine o_iadd (pc := 58) B d3_58 ?_
  refine o_iastore (pc := 59) B (1) d3_59 (A1) (by decide) (by show 1 < 2; decide) (ga) ?_
  intro h2 W2
  have A2 : o_IA Z h2 a [p0 + 1, p0 + 1 + 1] := o_IA.same A1 W2
  have K2 : Keep h h2 [a] := K1.wr W2 (Or.inl (List.mem_cons_self ..))
  refine o_iinc_4_3 (pc := 60) B (1 : Int32) (2 : Int32) d3_60 (by decide) (by decide) ?_
  refine o_goto (pc := 63) (pc' := 44) B d3_63 (by decide) (by decide) ?_
  refine o_iloadN (pc := 44) B d3_44 rfl ?_
  refine o_aloadN (pc := 45) B d3_45 rfl rfl ?_
  refine o_arraylen (pc := 46) B (2 : Int32) d3_46 (A2) (rfl) ?_
  refine o_icmp_ge (pc := 47) (pc' := 66) B d3_47 (by decide) (by decide) (fun hc47 => ?_) (fun hc47 => False.elim (by revert hc47; decide))
  refine o_iloadN (pc := 66) B d3_66 rfl ?_
  exact o_ireturn (pc := 67) B d3_67 (by decide) (by decide) (⟨rfl, A2, K2⟩)
set_option maxRecDepth 65536 in
set_option maxHeartbeats 40000000 in
theorem oc3_2m (l : Launch) (Z : State) (a0 : Array Value) (hw : ∀ d ∈ tables_1, d.before a0 Z = true) (n0 : Nat) (h : Heap) (a : Addr) (p0 p1 n : Int32) (ga : n0 ≤ a) (A : o_IA Z h a [p0, p1]) (e1 : p1 = n - 2 + 1) (e0 : p0 = n - 2 + 0) : o_C l Z n0 oy3 prog_23_method_13_code 4 (some .int) orm3 [(.ref a), (.int n)] h (fun v h' => v = some (.int (-1)) ∧ o_IA Z h' a [p0, p1] ∧ Keep h h' [a]) := by
  refine o_body (Ls := [.val (.ref a), .val (.int n), .unset, .unset]) pn3 (by first | (simp [argsToLocals, Value.category]; done) | rfl) (fun κ B => ?_)
  refine o_aloadN (pc := 0) B d3_0 rfl rfl ?_
  refine o_arraylen (pc := 1) B (2 : Int32) d3_1 (A) (rfl) ?_
  refine o_iconst (pc := 2) B (1 : Int32) d3_2 (by decide) ?_
  refine o_isub_c (pc := 3) B (1 : Int32) d3_3 (by decide) ?_
  refine o_istoreN_4_2 (pc := 4) B d3_4 rfl ?_
  refine o_iloadN (pc := 5) B d3_5 rfl ?_
  refine o_if_lt (pc := 6) (pc' := 27) B d3_6 (by decide) (by decide) (fun hc6 => False.elim (by revert hc6; decide)) (fun hc6 => ?_)
  refine o_aloadN (pc := 9) B d3_9 rfl rfl ?_
  refine o_iloadN (pc := 10) B d3_10 rfl ?_
  refine o_iaload (pc := 11) B (1) d3_11 (A) (by decide) (rfl) ?_
  refine o_iloadN (pc := 12) B d3_12 rfl ?_
  refine o_aloadN (pc := 13) B d3_13 rfl rfl ?_
  refine o_arraylen (pc := 14) B (2 : Int32) d3_14 (A) (rfl) ?_
  refine o_isub (pc := 15) B d3_15 ?_
  refine o_iloadN (pc := 16) B d3_16 rfl ?_
  refine o_iadd (pc := 17) B d3_17 ?_
  refine o_icmp_ne (pc := 18) (pc' := 27) B d3_18 (by decide) (by decide) (fun hc18 => False.elim (hc18 e1)) (fun hc18 => ?_)
  refine o_iinc_4_2 (pc := 21) B (-1 : Int32) (0 : Int32) d3_21 (by decide) (by decide) ?_
  refine o_goto (pc := 24) (pc' := 5) B d3_24 (by decide) (by decide) ?_
  refine o_iloadN (pc := 5) B d3_5 rfl ?_
  refine o_if_lt (pc := 6) (pc' := 27) B d3_6 (by decide) (by decide) (fun hc6 => False.elim (by revert hc6; decide)) (fun hc6 => ?_)
  refine o_aloadN (pc := 9) B d3_9 rfl rfl ?_
  refine o_iloadN (pc := 10) B d3_10 rfl ?_
  refine o_iaload (pc := 11) B (0) d3_11 (A) (by decide) (rfl) ?_
  refine o_iloadN (pc := 12) B d3_12 rfl ?_
  refine o_aloadN (pc := 13) B d3_13 rfl rfl ?_
  refine o_arraylen (pc := 14) B (2 : Int32) d3_14 (A) (rfl) ?_
  refine o_isub (pc := 15) B d3_15 ?_
  refine o_iloadN (pc := 16) B d3_16 rfl ?_
  refine o_iadd (pc := 17) B d3_17 ?_
  refine o_icmp_ne (pc := 18) (pc' := 27) B d3_18 (by decide) (by decide) (fun hc18 => False.elim (hc18 e0)) (fun hc18 => ?_)
  refine o_iinc_4_2 (pc := 21) B (-1 : Int32) (-1 : Int32) d3_21 (by decide) (by decide) ?_
  refine o_goto (pc := 24) (pc' := 5) B d3_24 (by decide) (by decide) ?_
  refine o_iloadN (pc := 5) B d3_5 rfl ?_
  refine o_if_lt (pc := 6) (pc' := 27) B d3_6 (by decide) (by decide) (fun hc6 => ?_) (fun hc6 => False.elim (by revert hc6; decide))
  refine o_iloadN (pc := 27) B d3_27 rfl ?_
  refine o_if_ge (pc := 28) (pc' := 33) B d3_28 (by decide) (by decide) (fun hc28 => False.elim (by revert hc28; decide)) (fun hc28 => ?_)
  refine o_iconst (pc := 31) B (-1 : Int32) d3_31 (by decide) ?_
  exact o_ireturn (pc := 32) B d3_32 (by decide) (by decide) (⟨rfl, A, Keep.refl _ _⟩)
set_option maxRecDepth 65536 in
set_option maxHeartbeats 40000000 in
theorem oc3_32 (l : Launch) (Z : State) (a0 : Array Value) (hw : ∀ d ∈ tables_1, d.before a0 Z = true) (n0 : Nat) (h : Heap) (a : Addr) (p0 p1 p2 n : Int32) (ga : n0 ≤ a) (A : o_IA Z h a [p0, p1, p2]) (ne : ¬ p2 = n - 3 + 2) : o_C l Z n0 oy3 prog_23_method_13_code 4 (some .int) orm3 [(.ref a), (.int n)] h (fun v h' => v = some (.int 2) ∧ o_IA Z h' a [p0, p1, p2 + 1] ∧ Keep h h' [a]) := by
  refine o_body (Ls := [.val (.ref a), .val (.int n), .unset, .unset]) pn3 (by first | (simp [argsToLocals, Value.category]; done) | rfl) (fun κ B => ?_)
  refine o_aloadN (pc := 0) B d3_0 rfl rfl ?_
  refine o_arraylen (pc := 1) B (3 : Int32) d3_1 (A) (rfl) ?_
  refine o_iconst (pc := 2) B (1 : Int32) d3_2 (by decide) ?_
  refine o_isub_c (pc := 3) B (2 : Int32) d3_3 (by decide) ?_
  refine o_istoreN_4_2 (pc := 4) B d3_4 rfl ?_
  refine o_iloadN (pc := 5) B d3_5 rfl ?_
  refine o_if_lt (pc := 6) (pc' := 27) B d3_6 (by decide) (by decide) (fun hc6 => False.elim (by revert hc6; decide)) (fun hc6 => ?_)
  refine o_aloadN (pc := 9) B d3_9 rfl rfl ?_
  refine o_iloadN (pc := 10) B d3_10 rfl ?_
  refine o_iaload (pc := 11) B (2) d3_11 (A) (by decide) (rfl) ?_
  refine o_iloadN (pc := 12) B d3_12 rfl ?_
  refine o_aloadN (pc := 13) B d3_13 rfl rfl ?_
  refine o_arraylen (pc := 14) B (3 : Int32) d3_14 (A) (rfl) ?_
  refine o_isub (pc := 15) B d3_15 ?_
  refine o_iloadN (pc := 16) B d3_16 rfl ?_
  refine o_iadd (pc := 17) B d3_17 ?_
  refine o_icmp_ne (pc := 18) (pc' := 27) B d3_18 (by decide) (by decide) (fun hc18 => ?_) (fun hc18 => False.elim (ne hc18))
  refine o_iloadN (pc := 27) B d3_27 rfl ?_
  refine o_if_ge (pc := 28) (pc' := 33) B d3_28 (by decide) (by decide) (fun hc28 => ?_) (fun hc28 => False.elim (by revert hc28; decide))
  refine o_aloadN (pc := 33) B d3_33 rfl rfl ?_
  refine o_iloadN (pc := 34) B d3_34 rfl ?_
  refine o_dup2 (pc := 35) B d3_35 rfl rfl ?_
  refine o_iaload (pc := 36) B (2) d3_36 (A) (by decide) (rfl) ?_
  refine o_iconst (pc := 37) B (1 : Int32) d3_37 (by decide) ?_
  refine o_iadd (pc := 38) B d3_38 ?_
  refine o_iastore (pc := 39) B (2) d3_39 (A) (by decide) (by show 2 < 3; decide) (ga) ?_
  intro h1 W1
  have A1 : o_IA Z h1 a [p0, p1, p2 + 1] := o_IA.same A W1
  have K1 : Keep h h1 [a] := (Keep.refl h [a]).wr W1 (Or.inl (List.mem_cons_self ..))
  refine o_iloadN (pc := 40) B d3_40 rfl ?_
  refine o_iconst (pc := 41) B (1 : Int32) d3_41 (by decide) ?_
  refine o_iadd_c (pc := 42) B (3 : Int32) d3_42 (by decide) ?_
  refine o_istoreN_4_3 (pc := 43) B d3_43 rfl ?_
  refine o_iloadN (pc := 44) B d3_44 rfl ?_
  refine o_aloadN (pc := 45) B d3_45 rfl rfl ?_
  refine o_arraylen (pc := 46) B (3 : Int32) d3_46 (A1) (rfl) ?_
  refine o_icmp_ge (pc := 47) (pc' := 66) B d3_47 (by decide) (by decide) (fun hc47 => ?_) (fun hc47 => False.elim (by revert hc47; decide))
  refine o_iloadN (pc := 66) B d3_66 rfl ?_
  exact o_ireturn (pc := 67) B d3_67 (by decide) (by decide) (⟨rfl, A1, K1⟩)
set_option maxRecDepth 65536 in
set_option maxHeartbeats 40000000 in
theorem oc3_31 (l : Launch) (Z : State) (a0 : Array Value) (hw : ∀ d ∈ tables_1, d.before a0 Z = true) (n0 : Nat) (h : Heap) (a : Addr) (p0 p1 p2 n : Int32) (ga : n0 ≤ a) (A : o_IA Z h a [p0, p1, p2]) (e2 : p2 = n - 3 + 2) (ne : ¬ p1 = n - 3 + 1) : o_C l Z n0 oy3 prog_23_method_13_code 4 (some .int) orm3 [(.ref a), (.int n)] h (fun v h' => v = some (.int 1) ∧ o_IA Z h' a [p0, p1 + 1, p1 + 1 + 1] ∧ Keep h h' [a]) := by
  refine o_body (Ls := [.val (.ref a), .val (.int n), .unset, .unset]) pn3 (by first | (simp [argsToLocals, Value.category]; done) | rfl) (fun κ B => ?_)
  refine o_aloadN (pc := 0) B d3_0 rfl rfl ?_
  refine o_arraylen (pc := 1) B (3 : Int32) d3_1 (A) (rfl) ?_
  refine o_iconst (pc := 2) B (1 : Int32) d3_2 (by decide) ?_
  refine o_isub_c (pc := 3) B (2 : Int32) d3_3 (by decide) ?_
  refine o_istoreN_4_2 (pc := 4) B d3_4 rfl ?_
  refine o_iloadN (pc := 5) B d3_5 rfl ?_
  refine o_if_lt (pc := 6) (pc' := 27) B d3_6 (by decide) (by decide) (fun hc6 => False.elim (by revert hc6; decide)) (fun hc6 => ?_)
  refine o_aloadN (pc := 9) B d3_9 rfl rfl ?_
  refine o_iloadN (pc := 10) B d3_10 rfl ?_
  refine o_iaload (pc := 11) B (2) d3_11 (A) (by decide) (rfl) ?_
  refine o_iloadN (pc := 12) B d3_12 rfl ?_
  refine o_aloadN (pc := 13) B d3_13 rfl rfl ?_
  refine o_arraylen (pc := 14) B (3 : Int32) d3_14 (A) (rfl) ?_
  refine o_isub (pc := 15) B d3_15 ?_
  refine o_iloadN (pc := 16) B d3_16 rfl ?_
  refine o_iadd (pc := 17) B d3_17 ?_
  refine o_icmp_ne (pc := 18) (pc' := 27) B d3_18 (by decide) (by decide) (fun hc18 => False.elim (hc18 e2)) (fun hc18 => ?_)
  refine o_iinc_4_2 (pc := 21) B (-1 : Int32) (1 : Int32) d3_21 (by decide) (by decide) ?_
  refine o_goto (pc := 24) (pc' := 5) B d3_24 (by decide) (by decide) ?_
  refine o_iloadN (pc := 5) B d3_5 rfl ?_
  refine o_if_lt (pc := 6) (pc' := 27) B d3_6 (by decide) (by decide) (fun hc6 => False.elim (by revert hc6; decide)) (fun hc6 => ?_)
  refine o_aloadN (pc := 9) B d3_9 rfl rfl ?_
  refine o_iloadN (pc := 10) B d3_10 rfl ?_
  refine o_iaload (pc := 11) B (1) d3_11 (A) (by decide) (rfl) ?_
  refine o_iloadN (pc := 12) B d3_12 rfl ?_
  refine o_aloadN (pc := 13) B d3_13 rfl rfl ?_
  refine o_arraylen (pc := 14) B (3 : Int32) d3_14 (A) (rfl) ?_
  refine o_isub (pc := 15) B d3_15 ?_
  refine o_iloadN (pc := 16) B d3_16 rfl ?_
  refine o_iadd (pc := 17) B d3_17 ?_
  refine o_icmp_ne (pc := 18) (pc' := 27) B d3_18 (by decide) (by decide) (fun hc18 => ?_) (fun hc18 => False.elim (ne hc18))
  refine o_iloadN (pc := 27) B d3_27 rfl ?_
  refine o_if_ge (pc := 28) (pc' := 33) B d3_28 (by decide) (by decide) (fun hc28 => ?_) (fun hc28 => False.elim (by revert hc28; decide))
  refine o_aloadN (pc := 33) B d3_33 rfl rfl ?_
  refine o_iloadN (pc := 34) B d3_34 rfl ?_
  refine o_dup2 (pc := 35) B d3_35 rfl rfl ?_
  refine o_iaload (pc := 36) B (1) d3_36 (A) (by decide) (rfl) ?_
  refine o_iconst (pc := 37) B (1 : Int32) d3_37 (by decide) ?_
  refine o_iadd (pc := 38) B d3_38 ?_
  refine o_iastore (pc := 39) B (1) d3_39 (A) (by decide) (by show 1 < 3; decide) (ga) ?_
  intro h1 W1
  have A1 : o_IA Z h1 a [p0, p1 + 1, p2] := o_IA.same A W1
  have K1 : Keep h h1 [a] := (Keep.refl h [a]).wr W1 (Or.inl (List.mem_cons_self ..))
  refine o_iloadN (pc := 40) B d3_40 rfl ?_
  refine o_iconst (pc := 41) B (1 : Int32) d3_41 (by decide) ?_
  refine o_iadd_c (pc := 42) B (2 : Int32) d3_42 (by decide) ?_
  refine o_istoreN_4_3 (pc := 43) B d3_43 rfl ?_
  refine o_iloadN (pc := 44) B d3_44 rfl ?_
  refine o_aloadN (pc := 45) B d3_45 rfl rfl ?_
  refine o_arraylen (pc := 46) B (3 : Int32) d3_46 (A1) (rfl) ?_
  refine o_icmp_ge (pc := 47) (pc' := 66) B d3_47 (by decide) (by decide) (fun hc47 => False.elim (by revert hc47; decide)) (fun hc47 => ?_)
  refine o_aloadN (pc := 50) B d3_50 rfl rfl ?_
  refine o_iloadN (pc := 51) B d3_51 rfl ?_
  refine o_aloadN (pc := 52) B d3_52 rfl rfl ?_
  refine o_iloadN (pc := 53) B d3_53 rfl ?_
  refine o_iconst (pc := 54) B (1 : Int32) d3_54 (by decide) ?_
  refine o_isub_c (pc := 55) B (1 : Int32) d3_55 (by decide) ?_
  refine o_iaload (pc := 56) B (1) d3_56 (A1) (by decide) (rfl) ?_
  refine o_iconst (pc := 57) B (1 : Int32) d3_57 (by decide) ?_
  refine o_iadd (pc := 58) B d3_58 ?_
  refine o_iastore (pc := 59) B (2) d3_59 (A1) (by decide) (by show 2 < 3; decide) (ga) ?_
  intro h2 W2
  have A2 : o_IA Z h2 a [p0, p1 + 1, p1 + 1 + 1] := o_IA.same A1 W2
  have K2 : Keep h h2 [a] := K1.wr W2 (Or.inl (List.mem_cons_self ..))
  refine o_iinc_4_3 (pc := 60) B (1 : Int32) (3 : Int32) d3_60 (by decide) (by decide) ?_
  refine o_goto (pc := 63) (pc' := 44) B d3_63 (by decide) (by decide) ?_
  refine o_iloadN (pc := 44) B d3_44 rfl ?_
  refine o_aloadN (pc := 45) B d3_45 rfl rfl ?_
  refine o_arraylen (pc := 46) B (3 : Int32) d3_46 (A2) (rfl) ?_
  refine o_icmp_ge (pc := 47) (pc' := 66) B d3_47 (by decide) (by decide) (fun hc47 => ?_) (fun hc47 => False.elim (by revert hc47; decide))
  refine o_iloadN (pc := 66) B d3_66 rfl ?_
  exact o_ireturn (pc := 67) B d3_67 (by decide) (by decide) (⟨rfl, A2, K2⟩)
set_option maxRecDepth 65536 in
set_option maxHeartbeats 40000000 in
theorem oc3_30 (l : Launch) (Z : State) (a0 : Array Value) (hw : ∀ d ∈ tables_1, d.before a0 Z = true) (n0 : Nat) (h : Heap) (a : Addr) (p0 p1 p2 n : Int32) (ga : n0 ≤ a) (A : o_IA Z h a [p0, p1, p2]) (e2 : p2 = n - 3 + 2) (e1 : p1 = n - 3 + 1) (ne : ¬ p0 = n - 3 + 0) : o_C l Z n0 oy3 prog_23_method_13_code 4 (some .int) orm3 [(.ref a), (.int n)] h (fun v h' => v = some (.int 0) ∧ o_IA Z h' a [p0 + 1, p0 + 1 + 1, p0 + 1 + 1 + 1] ∧ Keep h h' [a]) := by
  refine o_body (Ls := [.val (.ref a), .val (.int n), .unset, .unset]) pn3 (by first | (simp [argsToLocals, Value.category]; done) | rfl) (fun κ B => ?_)
  refine o_aloadN (pc := 0) B d3_0 rfl rfl ?_
  refine o_arraylen (pc := 1) B (3 : Int32) d3_1 (A) (rfl) ?_
  refine o_iconst (pc := 2) B (1 : Int32) d3_2 (by decide) ?_
  refine o_isub_c (pc := 3) B (2 : Int32) d3_3 (by decide) ?_
  refine o_istoreN_4_2 (pc := 4) B d3_4 rfl ?_
  refine o_iloadN (pc := 5) B d3_5 rfl ?_
  refine o_if_lt (pc := 6) (pc' := 27) B d3_6 (by decide) (by decide) (fun hc6 => False.elim (by revert hc6; decide)) (fun hc6 => ?_)
  refine o_aloadN (pc := 9) B d3_9 rfl rfl ?_
  refine o_iloadN (pc := 10) B d3_10 rfl ?_
  refine o_iaload (pc := 11) B (2) d3_11 (A) (by decide) (rfl) ?_
  refine o_iloadN (pc := 12) B d3_12 rfl ?_
  refine o_aloadN (pc := 13) B d3_13 rfl rfl ?_
  refine o_arraylen (pc := 14) B (3 : Int32) d3_14 (A) (rfl) ?_
  refine o_isub (pc := 15) B d3_15 ?_
  refine o_iloadN (pc := 16) B d3_16 rfl ?_
  refine o_iadd (pc := 17) B d3_17 ?_
  refine o_icmp_ne (pc := 18) (pc' := 27) B d3_18 (by decide) (by decide) (fun hc18 => False.elim (hc18 e2)) (fun hc18 => ?_)
  refine o_iinc_4_2 (pc := 21) B (-1 : Int32) (1 : Int32) d3_21 (by decide) (by decide) ?_
  refine o_goto (pc := 24) (pc' := 5) B d3_24 (by decide) (by decide) ?_
  refine o_iloadN (pc := 5) B d3_5 rfl ?_
  refine o_if_lt (pc := 6) (pc' := 27) B d3_6 (by decide) (by decide) (fun hc6 => False.elim (by revert hc6; decide)) (fun hc6 => ?_)
  refine o_aloadN (pc := 9) B d3_9 rfl rfl ?_
  refine o_iloadN (pc := 10) B d3_10 rfl ?_
  refine o_iaload (pc := 11) B (1) d3_11 (A) (by decide) (rfl) ?_
  refine o_iloadN (pc := 12) B d3_12 rfl ?_
  refine o_aloadN (pc := 13) B d3_13 rfl rfl ?_
  refine o_arraylen (pc := 14) B (3 : Int32) d3_14 (A) (rfl) ?_
  refine o_isub (pc := 15) B d3_15 ?_
  refine o_iloadN (pc := 16) B d3_16 rfl ?_
  refine o_iadd (pc := 17) B d3_17 ?_
  refine o_icmp_ne (pc := 18) (pc' := 27) B d3_18 (by decide) (by decide) (fun hc18 => False.elim (hc18 e1)) (fun hc18 => ?_)
  refine o_iinc_4_2 (pc := 21) B (-1 : Int32) (0 : Int32) d3_21 (by decide) (by decide) ?_
  refine o_goto (pc := 24) (pc' := 5) B d3_24 (by decide) (by decide) ?_
  refine o_iloadN (pc := 5) B d3_5 rfl ?_
  refine o_if_lt (pc := 6) (pc' := 27) B d3_6 (by decide) (by decide) (fun hc6 => False.elim (by revert hc6; decide)) (fun hc6 => ?_)
  refine o_aloadN (pc := 9) B d3_9 rfl rfl ?_
  refine o_iloadN (pc := 10) B d3_10 rfl ?_
  refine o_iaload (pc := 11) B (0) d3_11 (A) (by decide) (rfl) ?_
  refine o_iloadN (pc := 12) B d3_12 rfl ?_
  refine o_aloadN (pc := 13) B d3_13 rfl rfl ?_
  refine o_arraylen (pc := 14) B (3 : Int32) d3_14 (A) (rfl) ?_
  refine o_isub (pc := 15) B d3_15 ?_
  refine o_iloadN (pc := 16) B d3_16 rfl ?_
  refine o_iadd (pc := 17) B d3_17 ?_
  refine o_icmp_ne (pc := 18) (pc' := 27) B d3_18 (by decide) (by decide) (fun hc18 => ?_) (fun hc18 => False.elim (ne hc18))
  refine o_iloadN (pc := 27) B d3_27 rfl ?_
  refine o_if_ge (pc := 28) (pc' := 33) B d3_28 (by decide) (by decide) (fun hc28 => ?_) (fun hc28 => False.elim (by revert hc28; decide))
  refine o_aloadN (pc := 33) B d3_33 rfl rfl ?_
  refine o_iloadN (pc := 34) B d3_34 rfl ?_
  refine o_dup2 (pc := 35) B d3_35 rfl rfl ?_
  refine o_iaload (pc := 36) B (0) d3_36 (A) (by decide) (rfl) ?_
  refine o_iconst (pc := 37) B (1 : Int32) d3_37 (by decide) ?_
  refine o_iadd (pc := 38) B d3_38 ?_
  refine o_iastore (pc := 39) B (0) d3_39 (A) (by decide) (by show 0 < 3; decide) (ga) ?_
  intro h1 W1
  have A1 : o_IA Z h1 a [p0 + 1, p1, p2] := o_IA.same A W1
  have K1 : Keep h h1 [a] := (Keep.refl h [a]).wr W1 (Or.inl (List.mem_cons_self ..))
  refine o_iloadN (pc := 40) B d3_40 rfl ?_
  refine o_iconst (pc := 41) B (1 : Int32) d3_41 (by decide) ?_
  refine o_iadd_c (pc := 42) B (1 : Int32) d3_42 (by decide) ?_
  refine o_istoreN_4_3 (pc := 43) B d3_43 rfl ?_
  refine o_iloadN (pc := 44) B d3_44 rfl ?_
  refine o_aloadN (pc := 45) B d3_45 rfl rfl ?_
  refine o_arraylen (pc := 46) B (3 : Int32) d3_46 (A1) (rfl) ?_
  refine o_icmp_ge (pc := 47) (pc' := 66) B d3_47 (by decide) (by decide) (fun hc47 => False.elim (by revert hc47; decide)) (fun hc47 => ?_)
  refine o_aloadN (pc := 50) B d3_50 rfl rfl ?_
  refine o_iloadN (pc := 51) B d3_51 rfl ?_
  refine o_aloadN (pc := 52) B d3_52 rfl rfl ?_
  refine o_iloadN (pc := 53) B d3_53 rfl ?_
  refine o_iconst (pc := 54) B (1 : Int32) d3_54 (by decide) ?_
  refine o_isub_c (pc := 55) B (0 : Int32) d3_55 (by decide) ?_
  refine o_iaload (pc := 56) B (0) d3_56 (A1) (by decide) (rfl) ?_
  refine o_iconst (pc := 57) B (1 : Int32) d3_57 (by decide) ?_
  refine o_iadd (pc := 58) B d3_58 ?_
  refine o_iastore (pc := 59) B (1) d3_59 (A1) (by decide) (by show 1 < 3; decide) (ga) ?_
  intro h2 W2
  have A2 : o_IA Z h2 a [p0 + 1, p0 + 1 + 1, p2] := o_IA.same A1 W2
  have K2 : Keep h h2 [a] := K1.wr W2 (Or.inl (List.mem_cons_self ..))
  refine o_iinc_4_3 (pc := 60) B (1 : Int32) (2 : Int32) d3_60 (by decide) (by decide) ?_
  refine o_goto (pc := 63) (pc' := 44) B d3_63 (by decide) (by decide) ?_
  refine o_iloadN (pc := 44) B d3_44 rfl ?_
  refine o_aloadN (pc := 45) B d3_45 rfl rfl ?_
  refine o_arraylen (pc := 46) B (3 : Int32) d3_46 (A2) (rfl) ?_
  refine o_icmp_ge (pc := 47) (pc' := 66) B d3_47 (by decide) (by decide) (fun hc47 => False.elim (by revert hc47; decide)) (fun hc47 => ?_)
  refine o_aloadN (pc := 50) B d3_50 rfl rfl ?_
  refine o_iloadN (pc := 51) B d3_51 rfl ?_
  refine o_aloadN (pc := 52) B d3_52 rfl rfl ?_
  refine o_iloadN (pc := 53) B d3_53 rfl ?_
  refine o_iconst (pc := 54) B (1 : Int32) d3_54 (by decide) ?_
  refine o_isub_c (pc := 55) B (1 : Int32) d3_55 (by decide) ?_
  refine o_iaload (pc := 56) B (1) d3_56 (A2) (by decide) (rfl) ?_
  refine o_iconst (pc := 57) B (1 : Int32) d3_57 (by decide) ?_
  refine o_iadd (pc := 58) B d3_58 ?_
  refine o_iastore (pc := 59) B (2) d3_59 (A2) (by decide) (by show 2 < 3; decide) (ga) ?_
  intro h3 W3
  have A3 : o_IA Z h3 a [p0 + 1, p0 + 1 + 1, p0 + 1 + 1 + 1] := o_IA.same A2 W3
  have K3 : Keep h h3 [a] := K2.wr W3 (Or.inl (List.mem_cons_self ..))
  refine o_iinc_4_3 (pc := 60) B (1 : Int32) (3 : Int32) d3_60 (by decide) (by decide) ?_
  refine o_goto (pc := 63) (pc' := 44) B d3_63 (by decide) (by decide) ?_
  refine o_iloadN (pc := 44) B d3_44 rfl ?_
  refine o_aloadN (pc := 45) B d3_45 rfl rfl ?_
  refine o_arraylen (pc := 46) B (3 : Int32) d3_46 (A3) (rfl) ?_
  refine o_icmp_ge (pc := 47) (pc' := 66) B d3_47 (by decide) (by decide) (fun hc47 => ?_) (fun hc47 => False.elim (by revert hc47; decide))
  refine o_iloadN (pc := 66) B d3_66 rfl ?_
  exact o_ireturn (pc := 67) B d3_67 (by decide) (by decide) (⟨rfl, A3, K3⟩)
set_option maxRecDepth 65536 in
set_option maxHeartbeats 40000000 in
theorem oc3_3m (l : Launch) (Z : State) (a0 : Array Value) (hw : ∀ d ∈ tables_1, d.before a0 Z = true) (n0 : Nat) (h : Heap) (a : Addr) (p0 p1 p2 n : Int32) (ga : n0 ≤ a) (A : o_IA Z h a [p0, p1, p2]) (e2 : p2 = n - 3 + 2) (e1 : p1 = n - 3 + 1) (e0 : p0 = n - 3 + 0) : o_C l Z n0 oy3 prog_23_method_13_code 4 (some .int) orm3 [(.ref a), (.int n)] h (fun v h' => v = some (.int (-1)) ∧ o_IA Z h' a [p0, p1, p2] ∧ Keep h h' [a]) := by
  refine o_body (Ls := [.val (.ref a), .val (.int n), .unset, .unset]) pn3 (by first | (simp [argsToLocals, Value.category]; done) | rfl) (fun κ B => ?_)
  refine o_aloadN (pc := 0) B d3_0 rfl rfl ?_
  refine o_arraylen (pc := 1) B (3 : Int32) d3_1 (A) (rfl) ?_
  refine o_iconst (pc := 2) B (1 : Int32) d3_2 (by decide) ?_
  refine o_isub_c (pc := 3) B (2 : Int32) d3_3 (by decide) ?_
  refine o_istoreN_4_2 (pc := 4) B d3_4 rfl ?_
  refine o_iloadN (pc := 5) B d3_5 rfl ?_
  refine o_if_lt (pc := 6) (pc' := 27) B d3_6 (by decide) (by decide) (fun hc6 => False.elim (by revert hc6; decide)) (fun hc6 => ?_)
  refine o_aloadN (pc := 9) B d3_9 rfl rfl ?_
  refine o_iloadN (pc := 10) B d3_10 rfl ?_
  refine o_iaload (pc := 11) B (2) d3_11 (A) (by decide) (rfl) ?_
  refine o_iloadN (pc := 12) B d3_12 rfl ?_
  refine o_aloadN (pc := 13) B d3_13 rfl rfl ?_
  refine o_arraylen (pc := 14) B (3 : Int32) d3_14 (A) (rfl) ?_
  refine o_isub (pc := 15) B d3_15 ?_
  refine o_iloadN (pc := 16) B d3_16 rfl ?_
  refine o_iadd (pc := 17) B d3_17 ?_
  refine o_icmp_ne (pc := 18) (pc' := 27) B d3_18 (by decide) (by decide) (fun hc18 => False.elim (hc18 e2)) (fun hc18 => ?_)
  refine o_iinc_4_2 (pc := 21) B (-1 : Int32) (1 : Int32) d3_21 (by decide) (by decide) ?_
  refine o_goto (pc := 24) (pc' := 5) B d3_24 (by decide) (by decide) ?_
  refine o_iloadN (pc := 5) B d3_5 rfl ?_
  refine o_if_lt (pc := 6) (pc' := 27) B d3_6 (by decide) (by decide) (fun hc6 => False.elim (by revert hc6; decide)) (fun hc6 => ?_)
  refine o_aloadN (pc := 9) B d3_9 rfl rfl ?_
  refine o_iloadN (pc := 10) B d3_10 rfl ?_
  refine o_iaload (pc := 11) B (1) d3_11 (A) (by decide) (rfl) ?_
  refine o_iloadN (pc := 12) B d3_12 rfl ?_
  refine o_aloadN (pc := 13) B d3_13 rfl rfl ?_
  refine o_arraylen (pc := 14) B (3 : Int32) d3_14 (A) (rfl) ?_
  refine o_isub (pc := 15) B d3_15 ?_
  refine o_iloadN (pc := 16) B d3_16 rfl ?_
  refine o_iadd (pc := 17) B d3_17 ?_
  refine o_icmp_ne (pc := 18) (pc' := 27) B d3_18 (by decide) (by decide) (fun hc18 => False.elim (hc18 e1)) (fun hc18 => ?_)
  refine o_iinc_4_2 (pc := 21) B (-1 : Int32) (0 : Int32) d3_21 (by decide) (by decide) ?_
  refine o_goto (pc := 24) (pc' := 5) B d3_24 (by decide) (by decide) ?_
  refine o_iloadN (pc := 5) B d3_5 rfl ?_
  refine o_if_lt (pc := 6) (pc' := 27) B d3_6 (by decide) (by decide) (fun hc6 => False.elim (by revert hc6; decide)) (fun hc6 => ?_)
  refine o_aloadN (pc := 9) B d3_9 rfl rfl ?_
  refine o_iloadN (pc := 10) B d3_10 rfl ?_
  refine o_iaload (pc := 11) B (0) d3_11 (A) (by decide) (rfl) ?_
  refine o_iloadN (pc := 12) B d3_12 rfl ?_
  refine o_aloadN (pc := 13) B d3_13 rfl rfl ?_
  refine o_arraylen (pc := 14) B (3 : Int32) d3_14 (A) (rfl) ?_
  refine o_isub (pc := 15) B d3_15 ?_
  refine o_iloadN (pc := 16) B d3_16 rfl ?_
  refine o_iadd (pc := 17) B d3_17 ?_
  refine o_icmp_ne (pc := 18) (pc' := 27) B d3_18 (by decide) (by decide) (fun hc18 => False.elim (hc18 e0)) (fun hc18 => ?_)
  refine o_iinc_4_2 (pc := 21) B (-1 : Int32) (-1 : Int32) d3_21 (by decide) (by decide) ?_
  refine o_goto (pc := 24) (pc' := 5) B d3_24 (by decide) (by decide) ?_
  refine o_iloadN (pc := 5) B d3_5 rfl ?_
  refine o_if_lt (pc := 6) (pc' := 27) B d3_6 (by decide) (by decide) (fun hc6 => ?_) (fun hc6 => False.elim (by revert hc6; decide))
  refine o_iloadN (pc := 27) B d3_27 rfl ?_
  refine o_if_ge (pc := 28) (pc' := 33) B d3_28 (by decide) (by decide) (fun hc28 => False.elim (by revert hc28; decide)) (fun hc28 => ?_)
  refine o_iconst (pc := 31) B (-1 : Int32) d3_31 (by decide) ?_
  exact o_ireturn (pc := 32) B d3_32 (by decide) (by decide) (⟨rfl, A, Keep.refl _ _⟩)
set_option maxRecDepth 65536 in
set_option maxHeartbeats 40000000 in
theorem own_tail_0m (l : Launch) (Z : State) (a0 : Array Value) (hw : ∀ d ∈ tables_1, d.before a0 Z = true) (n0 : Nat) (h : Heap) (Z0 : n0 ≤ h.size) (κ : o_K) (B : o_Bo κ l Z n0 room_1 x code maxLocals ret) (xa xb xc xd xe p0 p1 p2 n : Int32) :
    o_Go κ (fun v h' => v = some (.int 1)) h 0 0 80 [.val (.int xa), .val (.int xb), .val (.int xc), .val (.int xd), .val (.int xe), .val (.int 0), .val (.int p0), .val (.int p1), .val (.int p2), .val (.int (-1)), .val (.int n), .unset, .unset, .unset, .unset] [] := by
  refine o_iload (pc := 80) B at_80 rfl ?_
  refine o_newarray (pc := 82) B (0) (0) at_82 (hw _ (List.mem_of_getElem? (i := 5) rfl)) (by decide) (by first | decide | omega) (by first | decide | omega) (by decide) (by decide) ?_
  intro h1 E1 lt1 A1
  obtain ⟨a, ga, ea⟩ : ∃ a, n0 ≤ a ∧ a = h.size := ⟨_, Z0, rfl⟩
  rw [← ea] at A1 ⊢
  have B1 : o_IA Z h1 a [] := A1
  have S1 : n0 ≤ h1.size := Nat.le_trans Z0 E1.1
  refine o_astore_15_11 (pc := 84) B at_84 rfl rfl ?_
  refine o_iload (pc := 86) B at_86 rfl ?_
  refine o_iconst (pc := 88) B (1 : Int32) at_88 (by decide) ?_
  refine o_icmp_lt (pc := 89) (pc' := 98) B at_89 (by decide) (by decide) (fun hc89 => ?_) (fun hc89 => False.elim (by revert hc89; decide))
  refine o_iload (pc := 98) B at_98 rfl ?_
  refine o_iconst (pc := 100) B (2 : Int32) at_100 (by decide) ?_
  refine o_icmp_lt (pc := 101) (pc' := 110) B at_101 (by decide) (by decide) (fun hc101 => ?_) (fun hc101 => False.elim (by revert hc101; decide))
  refine o_iload (pc := 110) B at_110 rfl ?_
  refine o_iconst (pc := 112) B (3 : Int32) at_112 (by decide) ?_
  refine o_icmp_lt (pc := 113) (pc' := 122) B at_113 (by decide) (by decide) (fun hc113 => ?_) (fun hc113 => False.elim (by revert hc113; decide))
  refine o_iload (pc := 122) B at_122 rfl ?_
  refine o_iload (pc := 124) B at_124 rfl ?_
  refine o_iload (pc := 126) B at_126 rfl ?_
  refine o_iload (pc := 128) B at_128 rfl ?_
  refine o_iload (pc := 130) B at_130 rfl ?_
  refine o_callS5 (pc := 132) B 0 at_132 (hw _ (List.mem_of_getElem? (i := 6) rfl)) (hw _ (List.mem_of_getElem? (i := 7) rfl)) (hw _ (List.mem_of_getElem? (i := 2) rfl)) (hw _ (List.mem_of_getElem? (i := 8) rfl)) (by decide) pd2 rfl (by first | exact Nat.zero_le _ | exact Nat.le_of_ble_eq_true rfl | simp [Value.category]) (by decide) (by decide) (by decide) (by decide) rfl (oc2_0m l Z a0 hw n0 _ n p0 p1 p2) ?_
  rintro v h' ⟨rfl, rfl⟩
  refine o_istore_15_12 (pc := 135) B at_135 rfl ?_
  refine o_aload (pc := 137) B at_137 rfl rfl ?_
  refine o_iload (pc := 139) B at_139 rfl ?_
  refine o_callS2 (pc := 141) B 0 at_141 (hw _ (List.mem_of_getElem? (i := 9) rfl)) (hw _ (List.mem_of_getElem? (i := 10) rfl)) (hw _ (List.mem_of_getElem? (i := 11) rfl)) (hw _ (List.mem_of_getElem? (i := 12) rfl)) (by decide) pd3 rfl (by first | exact Nat.zero_le _ | exact Nat.le_of_ble_eq_true rfl | simp [Value.category]) (by decide) (by decide) (by decide) (by decide) rfl (oc3_0m l Z a0 hw n0 _ a n ga B1) ?_
  rintro v h9 ⟨rfl, A9, K9⟩
  refine o_istore_15_13 (pc := 144) B at_144 rfl ?_
  refine o_iload (pc := 146) B at_146 rfl ?_
  refine o_iload (pc := 148) B at_148 rfl ?_
  refine o_icmp_eq (pc := 150) (pc' := 155) B at_150 (by decide) (by decide) (fun hc150 => ?_) (fun hc150 => False.elim (by revert hc150; decide))
  refine o_iload (pc := 155) B at_155 rfl ?_
  refine o_if_ne (pc := 157) (pc' := 165) B at_157 (by decide) (by decide) (fun hc157 => ?_) (fun hc157 => False.elim (by revert hc157; decide))
  refine o_iload (pc := 165) B at_165 rfl ?_
  refine o_iconst (pc := 167) B (1 : Int32) at_167 (by decide) ?_
  refine o_icmp_ne (pc := 168) (pc' := 176) B at_168 (by decide) (by decide) (fun hc168 => ?_) (fun hc168 => False.elim (by revert hc168; decide))
  refine o_iload (pc := 176) B at_176 rfl ?_
  refine o_istore_15_14 (pc := 178) B at_178 rfl ?_
  refine o_iload (pc := 180) B at_180 rfl ?_
  refine o_iconst (pc := 182) B (1 : Int32) at_182 (by decide) ?_
  refine o_icmp_lt (pc := 183) (pc' := 205) B at_183 (by decide) (by decide) (fun hc183 => ?_) (fun hc183 => False.elim (by revert hc183; decide))
  refine o_iload (pc := 205) B at_205 rfl ?_
  refine o_iconst (pc := 207) B (2 : Int32) at_207 (by decide) ?_
  refine o_icmp_lt (pc := 208) (pc' := 230) B at_208 (by decide) (by decide) (fun hc208 => ?_) (fun hc208 => False.elim (by revert hc208; decide))
  refine o_iload (pc := 230) B at_230 rfl ?_
  refine o_iconst (pc := 232) B (3 : Int32) at_232 (by decide) ?_
  refine o_icmp_lt (pc := 233) (pc' := 255) B at_233 (by decide) (by decide) (fun hc233 => ?_) (fun hc233 => False.elim (by revert hc233; decide))
  refine o_iconst (pc := 255) B (1 : Int32) at_255 (by decide) ?_
  exact o_zreturn (pc := 256) B at_256 (by decide) (by decide) (rfl)
set_option maxRecDepth 65536 in
set_option maxHeartbeats 40000000 in
theorem own_tail_10 (l : Launch) (Z : State) (a0 : Array Value) (hw : ∀ d ∈ tables_1, d.before a0 Z = true) (n0 : Nat) (h : Heap) (Z0 : n0 ≤ h.size) (κ : o_K) (B : o_Bo κ l Z n0 room_1 x code maxLocals ret) (xa xb xc xd xe p0 p1 p2 n : Int32) (t : p0 < n - 1) (ne : ¬ p0 = n - 1 + 0) :
    o_Go κ (fun v h' => v = some (.int 1)) h 0 0 80 [.val (.int xa), .val (.int xb), .val (.int xc), .val (.int xd), .val (.int xe), .val (.int 1), .val (.int p0), .val (.int p1), .val (.int p2), .val (.int p0), .val (.int n), .unset, .unset, .unset, .unset] [] := by
  refine o_iload (pc := 80) B at_80 rfl ?_
  refine o_newarray (pc := 82) B (1) (1) at_82 (hw _ (List.mem_of_getElem? (i := 5) rfl)) (by decide) (by first | decide | omega) (by first | decide | omega) (by decide) (by decide) ?_
  intro h1 E1 lt1 A1
  obtain ⟨a, ga, ea⟩ : ∃ a, n0 ≤ a ∧ a = h.size := ⟨_, Z0, rfl⟩
  rw [← ea] at A1 ⊢
  have B1 : o_IA Z h1 a [0] := A1
  have S1 : n0 ≤ h1.size := Nat.le_trans Z0 E1.1
  refine o_astore_15_11 (pc := 84) B at_84 rfl rfl ?_
  refine o_iload (pc := 86) B at_86 rfl ?_
  refine o_iconst (pc := 88) B (1 : Int32) at_88 (by decide) ?_
  refine o_icmp_lt (pc := 89) (pc' := 98) B at_89 (by decide) (by decide) (fun hc89 => False.elim (by revert hc89; decide)) (fun hc89 => ?_)
  refine o_aload (pc := 92) B at_92 rfl rfl ?_
  refine o_iconst (pc := 94) B (0 : Int32) at_94 (by decide) ?_
  refine o_iload (pc := 95) B at_95 rfl ?_
  refine o_iastore (pc := 97) B (0) at_97 (B1) (by decide) (by show 0 < 1; decide) (ga) ?_
  intro h2 W2
  have B2 : o_IA Z h2 a [p0] := o_IA.same B1 W2
  refine o_iload (pc := 98) B at_98 rfl ?_
  refine o_iconst (pc := 100) B (2 : Int32) at_100 (by decide) ?_
  refine o_icmp_lt (pc := 101) (pc' := 110) B at_101 (by decide) (by decide) (fun hc101 => ?_) (fun hc101 => False.elim (by revert hc101; decide))
  refine o_iload (pc := 110) B at_110 rfl ?_
  refine o_iconst (pc := 112) B (3 : Int32) at_112 (by decide) ?_
  refine o_icmp_lt (pc := 113) (pc' := 122) B at_113 (by decide) (by decide) (fun hc113 => ?_) (fun hc113 => False.elim (by revert hc113; decide))
  refine o_iload (pc := 122) B at_122 rfl ?_
  refine o_iload (pc := 124) B at_124 rfl ?_
  refine o_iload (pc := 126) B at_126 rfl ?_
  refine o_iload (pc := 128) B at_128 rfl ?_
  refine o_iload (pc := 130) B at_130 rfl ?_
  refine o_callS5 (pc := 132) B 0 at_132 (hw _ (List.mem_of_getElem? (i := 6) rfl)) (hw _ (List.mem_of_getElem? (i := 7) rfl)) (hw _ (List.mem_of_getElem? (i := 2) rfl)) (hw _ (List.mem_of_getElem? (i := 8) rfl)) (by decide) pd2 rfl (by first | exact Nat.zero_le _ | exact Nat.le_of_ble_eq_true rfl | simp [Value.category]) (by decide) (by decide) (by decide) (by decide) rfl (oc2_10 l Z a0 hw n0 _ n p0 p1 p2 t) ?_
  rintro v h' ⟨rfl, rfl⟩
  refine o_istore_15_12 (pc := 135) B at_135 rfl ?_
  refine o_aload (pc := 137) B at_137 rfl rfl ?_
  refine o_iload (pc := 139) B at_139 rfl ?_
  refine o_callS2 (pc := 141) B 0 at_141 (hw _ (List.mem_of_getElem? (i := 9) rfl)) (hw _ (List.mem_of_getElem? (i := 10) rfl)) (hw _ (List.mem_of_getElem? (i := 11) rfl)) (hw _ (List.mem_of_getElem? (i := 12) rfl)) (by decide) pd3 rfl (by first | exact Nat.zero_le _ | exact Nat.le_of_ble_eq_true rfl | simp [Value.category]) (by decide) (by decide) (by decide) (by decide) rfl (oc3_10 l Z a0 hw n0 _ a p0 n ga B2 ne) ?_
  rintro v h9 ⟨rfl, A9, K9⟩
  refine o_istore_15_13 (pc := 144) B at_144 rfl ?_
  refine o_iload (pc := 146) B at_146 rfl ?_
  refine o_iload (pc := 148) B at_148 rfl ?_
  refine o_icmp_eq (pc := 150) (pc' := 155) B at_150 (by decide) (by decide) (fun hc150 => ?_) (fun hc150 => False.elim (by revert hc150; decide))
  refine o_iload (pc := 155) B at_155 rfl ?_
  refine o_if_ne (pc := 157) (pc' := 165) B at_157 (by decide) (by decide) (fun hc157 => False.elim (by revert hc157; decide)) (fun hc157 => ?_)
  refine o_iload (pc := 160) B at_160 rfl ?_
  refine o_goto (pc := 162) (pc' := 178) B at_162 (by decide) (by decide) ?_
  refine o_istore_15_14 (pc := 178) B at_178 rfl ?_
  refine o_iload (pc := 180) B at_180 rfl ?_
  refine o_iconst (pc := 182) B (1 : Int32) at_182 (by decide) ?_
  refine o_icmp_lt (pc := 183) (pc' := 205) B at_183 (by decide) (by decide) (fun hc183 => False.elim (by revert hc183; decide)) (fun hc183 => ?_)
  refine o_aload (pc := 186) B at_186 rfl rfl ?_
  refine o_iconst (pc := 188) B (0 : Int32) at_188 (by decide) ?_
  refine o_iaload (pc := 189) B (0) at_189 (A9) (by decide) (rfl) ?_
  refine o_iconst (pc := 190) B (0 : Int32) at_190 (by decide) ?_
  refine o_iload (pc := 191) B at_191 rfl ?_
  refine o_iload (pc := 193) B at_193 rfl ?_
  refine o_iload (pc := 195) B at_195 rfl ?_
  refine o_callS4 (pc := 197) B 1 at_197 (hw _ (List.mem_of_getElem? (i := 13) rfl)) (hw _ (List.mem_of_getElem? (i := 14) rfl)) (hw _ (List.mem_of_getElem? (i := 2) rfl)) (hw _ (List.mem_of_getElem? (i := 15) rfl)) (by decide) pd4 rfl (by first | exact Nat.zero_le _ | exact Nat.le_of_ble_eq_true rfl | simp [Value.category]) (by decide) (by decide) (by decide) (by decide) rfl (oc4b l Z a0 hw n0 _ 0 0 p0 p0 (p0 + 1) (by decide) (by decide) (by simp)) ?_
  rintro v h' ⟨rfl, rfl⟩
  refine o_icmp_eq (pc := 200) (pc' := 205) B at_200 (by decide) (by decide) (fun hc200 => ?_) (fun hc200 => False.elim (hc200 rfl))
  refine o_iload (pc := 205) B at_205 rfl ?_
  refine o_iconst (pc := 207) B (2 : Int32) at_207 (by decide) ?_
  refine o_icmp_lt (pc := 208) (pc' := 230) B at_208 (by decide) (by decide) (fun hc208 => ?_) (fun hc208 => False.elim (by revert hc208; decide))
  refine o_iload (pc := 230) B at_230 rfl ?_
  refine o_iconst (pc := 232) B (3 : Int32) at_232 (by decide) ?_
  refine o_icmp_lt (pc := 233) (pc' := 255) B at_233 (by decide) (by decide) (fun hc233 => ?_) (fun hc233 => False.elim (by revert hc233; decide))
  refine o_iconst (pc := 255) B (1 : Int32) at_255 (by decide) ?_
  exact o_zreturn (pc := 256) B at_256 (by decide) (by decide) (rfl)
set_option maxRecDepth 65536 in
set_option maxHeartbeats 40000000 in
theorem own_tail_1m (l : Launch) (Z : State) (a0 : Array Value) (hw : ∀ d ∈ tables_1, d.before a0 Z = true) (n0 : Nat) (h : Heap) (Z0 : n0 ≤ h.size) (κ : o_K) (B : o_Bo κ l Z n0 room_1 x code maxLocals ret) (xa xb xc xd xe p0 p1 p2 n : Int32) (f0 : ¬ p0 < n - 1) (e0 : p0 = n - 1 + 0) :
    o_Go κ (fun v h' => v = some (.int 1)) h 0 0 80 [.val (.int xa), .val (.int xb), .val (.int xc), .val (.int xd), .val (.int xe), .val (.int 1), .val (.int p0), .val (.int p1), .val (.int p2), .val (.int p0), .val (.int n), .unset, .unset, .unset, .unset] [] := by
  refine o_iload (pc := 80) B at_80 rfl ?_
  refine o_newarray (pc := 82) B (1) (1) at_82 (hw _ (List.mem_of_getElem? (i := 5) rfl)) (by decide) (by first | decide | omega) (by first | decide | omega) (by decide) (by decide) ?_
  intro h1 E1 lt1 A1
  obtain ⟨a, ga, ea⟩ : ∃ a, n0 ≤ a ∧ a = h.size := ⟨_, Z0, rfl⟩
  rw [← ea] at A1 ⊢
  have B1 : o_IA Z h1 a [0] := A1
  have S1 : n0 ≤ h1.size := Nat.le_trans Z0 E1.1
  refine o_astore_15_11 (pc := 84) B at_84 rfl rfl ?_
  refine o_iload (pc := 86) B at_86 rfl ?_
  refine o_iconst (pc := 88) B (1 : Int32) at_88 (by decide) ?_
  refine o_icmp_lt (pc := 89) (pc' := 98) B at_89 (by decide) (by decide) (fun hc89 => False.elim (by revert hc89; decide)) (fun hc89 => ?_)
  refine o_aload (pc := 92) B at_92 rfl rfl ?_
  refine o_iconst (pc := 94) B (0 : Int32) at_94 (by decide) ?_
  refine o_iload (pc := 95) B at_95 rfl ?_
  refine o_iastore (pc := 97) B (0) at_97 (B1) (by decide) (by show 0 < 1; decide) (ga) ?_
  intro h2 W2
  have B2 : o_IA Z h2 a [p0] := o_IA.same B1 W2
  refine o_iload (pc := 98) B at_98 rfl ?_
  refine o_iconst (pc := 100) B (2 : Int32) at_100 (by decide) ?_
  refine o_icmp_lt (pc := 101) (pc' := 110) B at_101 (by decide) (by decide) (fun hc101 => ?_) (fun hc101 => False.elim (by revert hc101; decide))
  refine o_iload (pc := 110) B at_110 rfl ?_
  refine o_iconst (pc := 112) B (3 : Int32) at_112 (by decide) ?_
  refine o_icmp_lt (pc := 113) (pc' := 122) B at_113 (by decide) (by decide) (fun hc113 => ?_) (fun hc113 => False.elim (by revert hc113; decide))
  refine o_iload (pc := 122) B at_122 rfl ?_
  refine o_iload (pc := 124) B at_124 rfl ?_
  refine o_iload (pc := 126) B at_126 rfl ?_
  refine o_iload (pc := 128) B at_128 rfl ?_
  refine o_iload (pc := 130) B at_130 rfl ?_
  refine o_callS5 (pc := 132) B 0 at_132 (hw _ (List.mem_of_getElem? (i := 6) rfl)) (hw _ (List.mem_of_getElem? (i := 7) rfl)) (hw _ (List.mem_of_getElem? (i := 2) rfl)) (hw _ (List.mem_of_getElem? (i := 8) rfl)) (by decide) pd2 rfl (by first | exact Nat.zero_le _ | exact Nat.le_of_ble_eq_true rfl | simp [Value.category]) (by decide) (by decide) (by decide) (by decide) rfl (oc2_1m l Z a0 hw n0 _ n p0 p1 p2 f0) ?_
  rintro v h' ⟨rfl, rfl⟩
  refine o_istore_15_12 (pc := 135) B at_135 rfl ?_
  refine o_aload (pc := 137) B at_137 rfl rfl ?_
  refine o_iload (pc := 139) B at_139 rfl ?_
  refine o_callS2 (pc := 141) B 0 at_141 (hw _ (List.mem_of_getElem? (i := 9) rfl)) (hw _ (List.mem_of_getElem? (i := 10) rfl)) (hw _ (List.mem_of_getElem? (i := 11) rfl)) (hw _ (List.mem_of_getElem? (i := 12) rfl)) (by decide) pd3 rfl (by first | exact Nat.zero_le _ | exact Nat.le_of_ble_eq_true rfl | simp [Value.category]) (by decide) (by decide) (by decide) (by decide) rfl (oc3_1m l Z a0 hw n0 _ a p0 n ga B2 e0) ?_
  rintro v h9 ⟨rfl, A9, K9⟩
  refine o_istore_15_13 (pc := 144) B at_144 rfl ?_
  refine o_iload (pc := 146) B at_146 rfl ?_
  refine o_iload (pc := 148) B at_148 rfl ?_
  refine o_icmp_eq (pc := 150) (pc' := 155) B at_150 (by decide) (by decide) (fun hc150 => ?_) (fun hc150 => False.elim (by revert hc150; decide))
  refine o_iload (pc := 155) B at_155 rfl ?_
  refine o_if_ne (pc := 157) (pc' := 165) B at_157 (by decide) (by decide) (fun hc157 => ?_) (fun hc157 => False.elim (by revert hc157; decide))
  refine o_iload (pc := 165) B at_165 rfl ?_
  refine o_iconst (pc := 167) B (1 : Int32) at_167 (by decide) ?_
  refine o_icmp_ne (pc := 168) (pc' := 176) B at_168 (by decide) (by decide) (fun hc168 => ?_) (fun hc168 => False.elim (by revert hc168; decide))
  refine o_iload (pc := 176) B at_176 rfl ?_
  refine o_istore_15_14 (pc := 178) B at_178 rfl ?_
  refine o_iload (pc := 180) B at_180 rfl ?_
  refine o_iconst (pc := 182) B (1 : Int32) at_182 (by decide) ?_
  refine o_icmp_lt (pc := 183) (pc' := 205) B at_183 (by decide) (by decide) (fun hc183 => False.elim (by revert hc183; decide)) (fun hc183 => ?_)
  refine o_aload (pc := 186) B at_186 rfl rfl ?_
  refine o_iconst (pc := 188) B (0 : Int32) at_188 (by decide) ?_
  refine o_iaload (pc := 189) B (0) at_189 (A9) (by decide) (rfl) ?_
  refine o_iconst (pc := 190) B (0 : Int32) at_190 (by decide) ?_
  refine o_iload (pc := 191) B at_191 rfl ?_
  refine o_iload (pc := 193) B at_193 rfl ?_
  refine o_iload (pc := 195) B at_195 rfl ?_
  refine o_callS4 (pc := 197) B 1 at_197 (hw _ (List.mem_of_getElem? (i := 13) rfl)) (hw _ (List.mem_of_getElem? (i := 14) rfl)) (hw _ (List.mem_of_getElem? (i := 2) rfl)) (hw _ (List.mem_of_getElem? (i := 15) rfl)) (by decide) pd4 rfl (by first | exact Nat.zero_le _ | exact Nat.le_of_ble_eq_true rfl | simp [Value.category]) (by decide) (by decide) (by decide) (by decide) rfl (oc4a l Z a0 hw n0 _ 0 (-1) p0 p2 (by decide)) ?_
  rintro v h' ⟨rfl, rfl⟩
  refine o_icmp_eq (pc := 200) (pc' := 205) B at_200 (by decide) (by decide) (fun hc200 => ?_) (fun hc200 => False.elim (hc200 rfl))
  refine o_iload (pc := 205) B at_205 rfl ?_
  refine o_iconst (pc := 207) B (2 : Int32) at_207 (by decide) ?_
  refine o_icmp_lt (pc := 208) (pc' := 230) B at_208 (by decide) (by decide) (fun hc208 => ?_) (fun hc208 => False.elim (by revert hc208; decide))
  refine o_iload (pc := 230) B at_230 rfl ?_
  refine o_iconst (pc := 232) B (3 : Int32) at_232 (by decide) ?_
  refine o_icmp_lt (pc := 233) (pc' := 255) B at_233 (by decide) (by decide) (fun hc233 => ?_) (fun hc233 => False.elim (by revert hc233; decide))
  refine o_iconst (pc := 255) B (1 : Int32) at_255 (by decide) ?_
  exact o_zreturn (pc := 256) B at_256 (by decide) (by decide) (rfl)
set_option maxRecDepth 65536 in
set_option maxHeartbeats 40000000 in
theorem own_tail_21 (l : Launch) (Z : State) (a0 : Array Value) (hw : ∀ d ∈ tables_1, d.before a0 Z = true) (n0 : Nat) (h : Heap) (Z0 : n0 ≤ h.size) (κ : o_K) (B : o_Bo κ l Z n0 room_1 x code maxLocals ret) (xa xb xc xd xe p0 p1 p2 n : Int32) (t : p1 < n - 1) (ne : ¬ p1 = n - 2 + 1) :
    o_Go κ (fun v h' => v = some (.int 1)) h 0 0 80 [.val (.int xa), .val (.int xb), .val (.int xc), .val (.int xd), .val (.int xe), .val (.int 2), .val (.int p0), .val (.int p1), .val (.int p2), .val (.int p1), .val (.int n), .unset, .unset, .unset, .unset] [] := by
  refine o_iload (pc := 80) B at_80 rfl ?_
  refine o_newarray (pc := 82) B (2) (2) at_82 (hw _ (List.mem_of_getElem? (i := 5) rfl)) (by decide) (by first | decide | omega) (by first | decide | omega) (by decide) (by decide) ?_
  intro h1 E1 lt1 A1
  obtain ⟨a, ga, ea⟩ : ∃ a, n0 ≤ a ∧ a = h.size := ⟨_, Z0, rfl⟩
  rw [← ea] at A1 ⊢
  have B1 : o_IA Z h1 a [0, 0] := A1
  have S1 : n0 ≤ h1.size := Nat.le_trans Z0 E1.1
  refine o_astore_15_11 (pc := 84) B at_84 rfl rfl ?_
  refine o_iload (pc := 86) B at_86 rfl ?_
  refine o_iconst (pc := 88) B (1 : Int32) at_88 (by decide) ?_
  refine o_icmp_lt (pc := 89) (pc' := 98) B at_89 (by decide) (by decide) (fun hc89 => False.elim (by revert hc89; decide)) (fun hc89 => ?_)
  refine o_aload (pc := 92) B at_92 rfl rfl ?_
  refine o_iconst (pc := 94) B (0 : Int32) at_94 (by decide) ?_
  refine o_iload (pc := 95) B at_95 rfl ?_
  refine o_iastore (pc := 97) B (0) at_97 (B1) (by decide) (by show 0 < 2; decide) (ga) ?_
  intro h2 W2
  have B2 : o_IA Z h2 a [p0, 0] := o_IA.same B1 W2
  refine o_iload (pc := 98) B at_98 rfl ?_
  refine o_iconst (pc := 100) B (2 : Int32) at_100 (by decide) ?_
  refine o_icmp_lt (pc := 101) (pc' := 110) B at_101 (by decide) (by decide) (fun hc101 => False.elim (by revert hc101; decide)) (fun hc101 => ?_)
  refine o_aload (pc := 104) B at_104 rfl rfl ?_
  refine o_iconst (pc := 106) B (1 : Int32) at_106 (by decide) ?_
  refine o_iload (pc := 107) B at_107 rfl ?_
  refine o_iastore (pc := 109) B (1) at_109 (B2) (by decide) (by show 1 < 2; decide) (ga) ?_
  intro h3 W3
  have B3 : o_IA Z h3 a [p0, p1] := o_IA.same B2 W3
  refine o_iload (pc := 110) B at_110 rfl ?_
  refine o_iconst (pc := 112) B (3 : Int32) at_112 (by decide) ?_
  refine o_icmp_lt (pc := 113) (pc' := 122) B at_113 (by decide) (by decide) (fun hc113 => ?_) (fun hc113 => False.elim (by revert hc113; decide))
  refine o_iload (pc := 122) B at_122 rfl ?_
  refine o_iload (pc := 124) B at_124 rfl ?_
  refine o_iload (pc := 126) B at_126 rfl ?_
  refine o_iload (pc := 128) B at_128 rfl ?_
  refine o_iload (pc := 130) B at_130 rfl ?_
  refine o_callS5 (pc := 132) B 0 at_132 (hw _ (List.mem_of_getElem? (i := 6) rfl)) (hw _ (List.mem_of_getElem? (i := 7) rfl)) (hw _ (List.mem_of_getElem? (i := 2) rfl)) (hw _ (List.mem_of_getElem? (i := 8) rfl)) (by decide) pd2 rfl (by first | exact Nat.zero_le _ | exact Nat.le_of_ble_eq_true rfl | simp [Value.category]) (by decide) (by decide) (by decide) (by decide) rfl (oc2_21 l Z a0 hw n0 _ n p0 p1 p2 t) ?_
  rintro v h' ⟨rfl, rfl⟩
  refine o_istore_15_12 (pc := 135) B at_135 rfl ?_
  refine o_aload (pc := 137) B at_137 rfl rfl ?_
  refine o_iload (pc := 139) B at_139 rfl ?_
  refine o_callS2 (pc := 141) B 0 at_141 (hw _ (List.mem_of_getElem? (i := 9) rfl)) (hw _ (List.mem_of_getElem? (i := 10) rfl)) (hw _ (List.mem_of_getElem? (i := 11) rfl)) (hw _ (List.mem_of_getElem? (i := 12) rfl)) (by decide) pd3 rfl (by first | exact Nat.zero_le _ | exact Nat.le_of_ble_eq_true rfl | simp [Value.category]) (by decide) (by decide) (by decide) (by decide) rfl (oc3_21 l Z a0 hw n0 _ a p0 p1 n ga B3 ne) ?_
  rintro v h9 ⟨rfl, A9, K9⟩
  refine o_istore_15_13 (pc := 144) B at_144 rfl ?_
  refine o_iload (pc := 146) B at_146 rfl ?_
  refine o_iload (pc := 148) B at_148 rfl ?_
  refine o_icmp_eq (pc := 150) (pc' := 155) B at_150 (by decide) (by decide) (fun hc150 => ?_) (fun hc150 => False.elim (by revert hc150; decide))
  refine o_iload (pc := 155) B at_155 rfl ?_
  refine o_if_ne (pc := 157) (pc' := 165) B at_157 (by decide) (by decide) (fun hc157 => ?_) (fun hc157 => False.elim (by revert hc157; decide))
  refine o_iload (pc := 165) B at_165 rfl ?_
  refine o_iconst (pc := 167) B (1 : Int32) at_167 (by decide) ?_
  refine o_icmp_ne (pc := 168) (pc' := 176) B at_168 (by decide) (by decide) (fun hc168 => False.elim (by revert hc168; decide)) (fun hc168 => ?_)
  refine o_iload (pc := 171) B at_171 rfl ?_
  refine o_goto (pc := 173) (pc' := 178) B at_173 (by decide) (by decide) ?_
  refine o_istore_15_14 (pc := 178) B at_178 rfl ?_
  refine o_iload (pc := 180) B at_180 rfl ?_
  refine o_iconst (pc := 182) B (1 : Int32) at_182 (by decide) ?_
  refine o_icmp_lt (pc := 183) (pc' := 205) B at_183 (by decide) (by decide) (fun hc183 => False.elim (by revert hc183; decide)) (fun hc183 => ?_)
  refine o_aload (pc := 186) B at_186 rfl rfl ?_
  refine o_iconst (pc := 188) B (0 : Int32) at_188 (by decide) ?_
  refine o_iaload (pc := 189) B (0) at_189 (A9) (by decide) (rfl) ?_
  refine o_iconst (pc := 190) B (0 : Int32) at_190 (by decide) ?_
  refine o_iload (pc := 191) B at_191 rfl ?_
  refine o_iload (pc := 193) B at_193 rfl ?_
  refine o_iload (pc := 195) B at_195 rfl ?_
  refine o_callS4 (pc := 197) B 1 at_197 (hw _ (List.mem_of_getElem? (i := 13) rfl)) (hw _ (List.mem_of_getElem? (i := 14) rfl)) (hw _ (List.mem_of_getElem? (i := 2) rfl)) (hw _ (List.mem_of_getElem? (i := 15) rfl)) (by decide) pd4 rfl (by first | exact Nat.zero_le _ | exact Nat.le_of_ble_eq_true rfl | simp [Value.category]) (by decide) (by decide) (by decide) (by decide) rfl (oc4a l Z a0 hw n0 _ 0 1 p0 p1 (by decide)) ?_
  rintro v h' ⟨rfl, rfl⟩
  refine o_icmp_eq (pc := 200) (pc' := 205) B at_200 (by decide) (by decide) (fun hc200 => ?_) (fun hc200 => False.elim (hc200 rfl))
  refine o_iload (pc := 205) B at_205 rfl ?_
  refine o_iconst (pc := 207) B (2 : Int32) at_207 (by decide) ?_
  refine o_icmp_lt (pc := 208) (pc' := 230) B at_208 (by decide) (by decide) (fun hc208 => False.elim (by revert hc208; decide)) (fun hc208 => ?_)
  refine o_aload (pc := 211) B at_211 rfl rfl ?_
  refine o_iconst (pc := 213) B (1 : Int32) at_213 (by decide) ?_
  refine o_iaload (pc := 214) B (1) at_214 (A9) (by decide) (rfl) ?_
  refine o_iconst (pc := 215) B (1 : Int32) at_215 (by decide) ?_
  refine o_iload (pc := 216) B at_216 rfl ?_
  refine o_iload (pc := 218) B at_218 rfl ?_
  refine o_iload (pc := 220) B at_220 rfl ?_
  refine o_callS4 (pc := 222) B 1 at_222 (hw _ (List.mem_of_getElem? (i := 13) rfl)) (hw _ (List.mem_of_getElem? (i := 14) rfl)) (hw _ (List.mem_of_getElem? (i := 2) rfl)) (hw _ (List.mem_of_getElem? (i := 15) rfl)) (by decide) pd4 rfl (by first | exact Nat.zero_le _ | exact Nat.le_of_ble_eq_true rfl | simp [Value.category]) (by decide) (by decide) (by decide) (by decide) rfl (oc4b l Z a0 hw n0 _ 1 1 p1 p1 (p1 + 1) (by decide) (by decide) (by simp)) ?_
  rintro v h' ⟨rfl, rfl⟩
  refine o_icmp_eq (pc := 225) (pc' := 230) B at_225 (by decide) (by decide) (fun hc225 => ?_) (fun hc225 => False.elim (hc225 rfl))
  refine o_iload (pc := 230) B at_230 rfl ?_
  refine o_iconst (pc := 232) B (3 : Int32) at_232 (by decide) ?_
  refine o_icmp_lt (pc := 233) (pc' := 255) B at_233 (by decide) (by decide) (fun hc233 => ?_) (fun hc233 => False.elim (by revert hc233; decide))
  refine o_iconst (pc := 255) B (1 : Int32) at_255 (by decide) ?_
  exact o_zreturn (pc := 256) B at_256 (by decide) (by decide) (rfl)
set_option maxRecDepth 65536 in
set_option maxHeartbeats 40000000 in
theorem own_tail_20 (l : Launch) (Z : State) (a0 : Array Value) (hw : ∀ d ∈ tables_1, d.before a0 Z = true) (n0 : Nat) (h : Heap) (Z0 : n0 ≤ h.size) (κ : o_K) (B : o_Bo κ l Z n0 room_1 x code maxLocals ret) (xa xb xc xd xe p0 p1 p2 n : Int32) (f1 : ¬ p1 < n - 1) (e1 : p1 = n - 2 + 1) (t : p0 < n - 2) (ne : ¬ p0 = n - 2 + 0) :
    o_Go κ (fun v h' => v = some (.int 1)) h 0 0 80 [.val (.int xa), .val (.int xb), .val (.int xc), .val (.int xd), .val (.int xe), .val (.int 2), .val (.int p0), .val (.int p1), .val (.int p2), .val (.int p1), .val (.int n), .unset, .unset, .unset, .unset] [] := by
  refine o_iload (pc := 80) B at_80 rfl ?_
  refine o_newarray (pc := 82) B (2) (2) at_82 (hw _ (List.mem_of_getElem? (i := 5) rfl)) (by decide) (by first | decide | omega) (by first | decide | omega) (by decide) (by decide) ?_
  intro h1 E1 lt1 A1
  obtain ⟨a, ga, ea⟩ : ∃ a, n0 ≤ a ∧ a = h.size := ⟨_, Z0, rfl⟩
  rw [← ea] at A1 ⊢
  have B1 : o_IA Z h1 a [0, 0] := A1
  have S1 : n0 ≤ h1.size := Nat.le_trans Z0 E1.1
  refine o_astore_15_11 (pc := 84) B at_84 rfl rfl ?_
  refine o_iload (pc := 86) B at_86 rfl ?_
  refine o_iconst (pc := 88) B (1 : Int32) at_88 (by decide) ?_
  refine o_icmp_lt (pc := 89) (pc' := 98) B at_89 (by decide) (by decide) (fun hc89 => False.elim (by revert hc89; decide)) (fun hc89 => ?_)
  refine o_aload (pc := 92) B at_92 rfl rfl ?_
  refine o_iconst (pc := 94) B (0 : Int32) at_94 (by decide) ?_
  refine o_iload (pc := 95) B at_95 rfl ?_
  refine o_iastore (pc := 97) B (0) at_97 (B1) (by decide) (by show 0 < 2; decide) (ga) ?_
  intro h2 W2
  have B2 : o_IA Z h2 a [p0, 0] := o_IA.same B1 W2
  refine o_iload (pc := 98) B at_98 rfl ?_
  refine o_iconst (pc := 100) B (2 : Int32) at_100 (by decide) ?_
  refine o_icmp_lt (pc := 101) (pc' := 110) B at_101 (by decide) (by decide) (fun hc101 => False.elim (by revert hc101; decide)) (fun hc101 => ?_)
  refine o_aload (pc := 104) B at_104 rfl rfl ?_
  refine o_iconst (pc := 106) B (1 : Int32) at_106 (by decide) ?_
  refine o_iload (pc := 107) B at_107 rfl ?_
  refine o_iastore (pc := 109) B (1) at_109 (B2) (by decide) (by show 1 < 2; decide) (ga) ?_
  intro h3 W3
  have B3 : o_IA Z h3 a [p0, p1] := o_IA.same B2 W3
  refine o_iload (pc := 110) B at_110 rfl ?_
  refine o_iconst (pc := 112) B (3 : Int32) at_112 (by decide) ?_
  refine o_icmp_lt (pc := 113) (pc' := 122) B at_113 (by decide) (by decide) (fun hc113 => ?_) (fun hc113 => False.elim (by revert hc113; decide))
  refine o_iload (pc := 122) B at_122 rfl ?_
  refine o_iload (pc := 124) B at_124 rfl ?_
  refine o_iload (pc := 126) B at_126 rfl ?_
  refine o_iload (pc := 128) B at_128 rfl ?_
  refine o_iload (pc := 130) B at_130 rfl ?_
  refine o_callS5 (pc := 132) B 0 at_132 (hw _ (List.mem_of_getElem? (i := 6) rfl)) (hw _ (List.mem_of_getElem? (i := 7) rfl)) (hw _ (List.mem_of_getElem? (i := 2) rfl)) (hw _ (List.mem_of_getElem? (i := 8) rfl)) (by decide) pd2 rfl (by first | exact Nat.zero_le _ | exact Nat.le_of_ble_eq_true rfl | simp [Value.category]) (by decide) (by decide) (by decide) (by decide) rfl (oc2_20 l Z a0 hw n0 _ n p0 p1 p2 f1 t) ?_
  rintro v h' ⟨rfl, rfl⟩
  refine o_istore_15_12 (pc := 135) B at_135 rfl ?_
  refine o_aload (pc := 137) B at_137 rfl rfl ?_
  refine o_iload (pc := 139) B at_139 rfl ?_
  refine o_callS2 (pc := 141) B 0 at_141 (hw _ (List.mem_of_getElem? (i := 9) rfl)) (hw _ (List.mem_of_getElem? (i := 10) rfl)) (hw _ (List.mem_of_getElem? (i := 11) rfl)) (hw _ (List.mem_of_getElem? (i := 12) rfl)) (by decide) pd3 rfl (by first | exact Nat.zero_le _ | exact Nat.le_of_ble_eq_true rfl | simp [Value.category]) (by decide) (by decide) (by decide) (by decide) rfl (oc3_20 l Z a0 hw n0 _ a p0 p1 n ga B3 e1 ne) ?_
  rintro v h9 ⟨rfl, A9, K9⟩
  refine o_istore_15_13 (pc := 144) B at_144 rfl ?_
  refine o_iload (pc := 146) B at_146 rfl ?_
  refine o_iload (pc := 148) B at_148 rfl ?_
  refine o_icmp_eq (pc := 150) (pc' := 155) B at_150 (by decide) (by decide) (fun hc150 => ?_) (fun hc150 => False.elim (by revert hc150; decide))
  refine o_iload (pc := 155) B at_155 rfl ?_
  refine o_if_ne (pc := 157) (pc' := 165) B at_157 (by decide) (by decide) (fun hc157 => False.elim (by revert hc157; decide)) (fun hc157 => ?_)
  refine o_iload (pc := 160) B at_160 rfl ?_
  refine o_goto (pc := 162) (pc' := 178) B at_162 (by decide) (by decide) ?_
  refine o_istore_15_14 (pc := 178) B at_178 rfl ?_
  refine o_iload (pc := 180) B at_180 rfl ?_
  refine o_iconst (pc := 182) B (1 : Int32) at_182 (by decide) ?_
  refine o_icmp_lt (pc := 183) (pc' := 205) B at_183 (by decide) (by decide) (fun hc183 => False.elim (by revert hc183; decide)) (fun hc183 => ?_)
  refine o_aload (pc := 186) B at_186 rfl rfl ?_
  refine o_iconst (pc := 188) B (0 : Int32) at_188 (by decide) ?_
  refine o_iaload (pc := 189) B (0) at_189 (A9) (by decide) (rfl) ?_
  refine o_iconst (pc := 190) B (0 : Int32) at_190 (by decide) ?_
  refine o_iload (pc := 191) B at_191 rfl ?_
  refine o_iload (pc := 193) B at_193 rfl ?_
  refine o_iload (pc := 195) B at_195 rfl ?_
  refine o_callS4 (pc := 197) B 1 at_197 (hw _ (List.mem_of_getElem? (i := 13) rfl)) (hw _ (List.mem_of_getElem? (i := 14) rfl)) (hw _ (List.mem_of_getElem? (i := 2) rfl)) (hw _ (List.mem_of_getElem? (i := 15) rfl)) (by decide) pd4 rfl (by first | exact Nat.zero_le _ | exact Nat.le_of_ble_eq_true rfl | simp [Value.category]) (by decide) (by decide) (by decide) (by decide) rfl (oc4b l Z a0 hw n0 _ 0 0 p0 p0 (p0 + 1) (by decide) (by decide) (by simp)) ?_
  rintro v h' ⟨rfl, rfl⟩
  refine o_icmp_eq (pc := 200) (pc' := 205) B at_200 (by decide) (by decide) (fun hc200 => ?_) (fun hc200 => False.elim (hc200 rfl))
  refine o_iload (pc := 205) B at_205 rfl ?_
  refine o_iconst (pc := 207) B (2 : Int32) at_207 (by decide) ?_
  refine o_icmp_lt (pc := 208) (pc' := 230) B at_208 (by decide) (by decide) (fun hc208 => False.elim (by revert hc208; decide)) (fun hc208 => ?_)
  refine o_aload (pc := 211) B at_211 rfl rfl ?_
  refine o_iconst (pc := 213) B (1 : Int32) at_213 (by decide) ?_
  refine o_iaload (pc := 214) B (1) at_214 (A9) (by decide) (rfl) ?_
  refine o_iconst (pc := 215) B (1 : Int32) at_215 (by decide) ?_
  refine o_iload (pc := 216) B at_216 rfl ?_
  refine o_iload (pc := 218) B at_218 rfl ?_
  refine o_iload (pc := 220) B at_220 rfl ?_
  refine o_callS4 (pc := 222) B 1 at_222 (hw _ (List.mem_of_getElem? (i := 13) rfl)) (hw _ (List.mem_of_getElem? (i := 14) rfl)) (hw _ (List.mem_of_getElem? (i := 2) rfl)) (hw _ (List.mem_of_getElem? (i := 15) rfl)) (by decide) pd4 rfl (by first | exact Nat.zero_le _ | exact Nat.le_of_ble_eq_true rfl | simp [Value.category]) (by decide) (by decide) (by decide) (by decide) rfl (oc4b l Z a0 hw n0 _ 1 0 p1 p0 (p0 + 1 + 1) (by decide) (by decide) (by rw [show (1 - 0 : Int32) = 1 by decide])) ?_
  rintro v h' ⟨rfl, rfl⟩
  refine o_icmp_eq (pc := 225) (pc' := 230) B at_225 (by decide) (by decide) (fun hc225 => ?_) (fun hc225 => False.elim (hc225 rfl))
  refine o_iload (pc := 230) B at_230 rfl ?_
  refine o_iconst (pc := 232) B (3 : Int32) at_232 (by decide) ?_
  refine o_icmp_lt (pc := 233) (pc' := 255) B at_233 (by decide) (by decide) (fun hc233 => ?_) (fun hc233 => False.elim (by revert hc233; decide))
  refine o_iconst (pc := 255) B (1 : Int32) at_255 (by decide) ?_
  exact o_zreturn (pc := 256) B at_256 (by decide) (by decide) (rfl)
set_option maxRecDepth 65536 in
set_option maxHeartbeats 40000000 in
theorem own_tail_2m (l : Launch) (Z : State) (a0 : Array Value) (hw : ∀ d ∈ tables_1, d.before a0 Z = true) (n0 : Nat) (h : Heap) (Z0 : n0 ≤ h.size) (κ : o_K) (B : o_Bo κ l Z n0 room_1 x code maxLocals ret) (xa xb xc xd xe p0 p1 p2 n : Int32) (f1 : ¬ p1 < n - 1) (e1 : p1 = n - 2 + 1) (f0 : ¬ p0 < n - 2) (e0 : p0 = n - 2 + 0) :
    o_Go κ (fun v h' => v = some (.int 1)) h 0 0 80 [.val (.int xa), .val (.int xb), .val (.int xc), .val (.int xd), .val (.int xe), .val (.int 2), .val (.int p0), .val (.int p1), .val (.int p2), .val (.int p1), .val (.int n), .unset, .unset, .unset, .unset] [] := by
  refine o_iload (pc := 80) B at_80 rfl ?_
  refine o_newarray (pc := 82) B (2) (2) at_82 (hw _ (List.mem_of_getElem? (i := 5) rfl)) (by decide) (by first | decide | omega) (by first | decide | omega) (by decide) (by decide) ?_
  intro h1 E1 lt1 A1
  obtain ⟨a, ga, ea⟩ : ∃ a, n0 ≤ a ∧ a = h.size := ⟨_, Z0, rfl⟩
  rw [← ea] at A1 ⊢
  have B1 : o_IA Z h1 a [0, 0] := A1
  have S1 : n0 ≤ h1.size := Nat.le_trans Z0 E1.1
  refine o_astore_15_11 (pc := 84) B at_84 rfl rfl ?_
  refine o_iload (pc := 86) B at_86 rfl ?_
  refine o_iconst (pc := 88) B (1 : Int32) at_88 (by decide) ?_
  refine o_icmp_lt (pc := 89) (pc' := 98) B at_89 (by decide) (by decide) (fun hc89 => False.elim (by revert hc89; decide)) (fun hc89 => ?_)
  refine o_aload (pc := 92) B at_92 rfl rfl ?_
  refine o_iconst (pc := 94) B (0 : Int32) at_94 (by decide) ?_
  refine o_iload (pc := 95) B at_95 rfl ?_
  refine o_iastore (pc := 97) B (0) at_97 (B1) (by decide) (by show 0 < 2; decide) (ga) ?_
  intro h2 W2
  have B2 : o_IA Z h2 a [p0, 0] := o_IA.same B1 W2
  refine o_iload (pc := 98) B at_98 rfl ?_
  refine o_iconst (pc := 100) B (2 : Int32) at_100 (by decide) ?_
  refine o_icmp_lt (pc := 101) (pc' := 110) B at_101 (by decide) (by decide) (fun hc101 => False.elim (by revert hc101; decide)) (fun hc101 => ?_)
  refine o_aload (pc := 104) B at_104 rfl rfl ?_
  refine o_iconst (pc := 106) B (1 : Int32) at_106 (by decide) ?_
  refine o_iload (pc := 107) B at_107 rfl ?_
  refine o_iastore (pc := 109) B (1) at_109 (B2) (by decide) (by show 1 < 2; decide) (ga) ?_
  intro h3 W3
  have B3 : o_IA Z h3 a [p0, p1] := o_IA.same B2 W3
  refine o_iload (pc := 110) B at_110 rfl ?_
  refine o_iconst (pc := 112) B (3 : Int32) at_112 (by decide) ?_
  refine o_icmp_lt (pc := 113) (pc' := 122) B at_113 (by decide) (by decide) (fun hc113 => ?_) (fun hc113 => False.elim (by revert hc113; decide))
  refine o_iload (pc := 122) B at_122 rfl ?_
  refine o_iload (pc := 124) B at_124 rfl ?_
  refine o_iload (pc := 126) B at_126 rfl ?_
  refine o_iload (pc := 128) B at_128 rfl ?_
  refine o_iload (pc := 130) B at_130 rfl ?_
  refine o_callS5 (pc := 132) B 0 at_132 (hw _ (List.mem_of_getElem? (i := 6) rfl)) (hw _ (List.mem_of_getElem? (i := 7) rfl)) (hw _ (List.mem_of_getElem? (i := 2) rfl)) (hw _ (List.mem_of_getElem? (i := 8) rfl)) (by decide) pd2 rfl (by first | exact Nat.zero_le _ | exact Nat.le_of_ble_eq_true rfl | simp [Value.category]) (by decide) (by decide) (by decide) (by decide) rfl (oc2_2m l Z a0 hw n0 _ n p0 p1 p2 f1 f0) ?_
  rintro v h' ⟨rfl, rfl⟩
  refine o_istore_15_12 (pc := 135) B at_135 rfl ?_
  refine o_aload (pc := 137) B at_137 rfl rfl ?_
  refine o_iload (pc := 139) B at_139 rfl ?_
  refine o_callS2 (pc := 141) B 0 at_141 (hw _ (List.mem_of_getElem? (i := 9) rfl)) (hw _ (List.mem_of_getElem? (i := 10) rfl)) (hw _ (List.mem_of_getElem? (i := 11) rfl)) (hw _ (List.mem_of_getElem? (i := 12) rfl)) (by decide) pd3 rfl (by first | exact Nat.zero_le _ | exact Nat.le_of_ble_eq_true rfl | simp [Value.category]) (by decide) (by decide) (by decide) (by decide) rfl (oc3_2m l Z a0 hw n0 _ a p0 p1 n ga B3 e1 e0) ?_
  rintro v h9 ⟨rfl, A9, K9⟩
  refine o_istore_15_13 (pc := 144) B at_144 rfl ?_
  refine o_iload (pc := 146) B at_146 rfl ?_
  refine o_iload (pc := 148) B at_148 rfl ?_
  refine o_icmp_eq (pc := 150) (pc' := 155) B at_150 (by decide) (by decide) (fun hc150 => ?_) (fun hc150 => False.elim (by revert hc150; decide))
  refine o_iload (pc := 155) B at_155 rfl ?_
  refine o_if_ne (pc := 157) (pc' := 165) B at_157 (by decide) (by decide) (fun hc157 => ?_) (fun hc157 => False.elim (by revert hc157; decide))
  refine o_iload (pc := 165) B at_165 rfl ?_
  refine o_iconst (pc := 167) B (1 : Int32) at_167 (by decide) ?_
  refine o_icmp_ne (pc := 168) (pc' := 176) B at_168 (by decide) (by decide) (fun hc168 => ?_) (fun hc168 => False.elim (by revert hc168; decide))
  refine o_iload (pc := 176) B at_176 rfl ?_
  refine o_istore_15_14 (pc := 178) B at_178 rfl ?_
  refine o_iload (pc := 180) B at_180 rfl ?_
  refine o_iconst (pc := 182) B (1 : Int32) at_182 (by decide) ?_
  refine o_icmp_lt (pc := 183) (pc' := 205) B at_183 (by decide) (by decide) (fun hc183 => False.elim (by revert hc183; decide)) (fun hc183 => ?_)
  refine o_aload (pc := 186) B at_186 rfl rfl ?_
  refine o_iconst (pc := 188) B (0 : Int32) at_188 (by decide) ?_
  refine o_iaload (pc := 189) B (0) at_189 (A9) (by decide) (rfl) ?_
  refine o_iconst (pc := 190) B (0 : Int32) at_190 (by decide) ?_
  refine o_iload (pc := 191) B at_191 rfl ?_
  refine o_iload (pc := 193) B at_193 rfl ?_
  refine o_iload (pc := 195) B at_195 rfl ?_
  refine o_callS4 (pc := 197) B 1 at_197 (hw _ (List.mem_of_getElem? (i := 13) rfl)) (hw _ (List.mem_of_getElem? (i := 14) rfl)) (hw _ (List.mem_of_getElem? (i := 2) rfl)) (hw _ (List.mem_of_getElem? (i := 15) rfl)) (by decide) pd4 rfl (by first | exact Nat.zero_le _ | exact Nat.le_of_ble_eq_true rfl | simp [Value.category]) (by decide) (by decide) (by decide) (by decide) rfl (oc4a l Z a0 hw n0 _ 0 (-1) p0 p2 (by decide)) ?_
  rintro v h' ⟨rfl, rfl⟩
  refine o_icmp_eq (pc := 200) (pc' := 205) B at_200 (by decide) (by decide) (fun hc200 => ?_) (fun hc200 => False.elim (hc200 rfl))
  refine o_iload (pc := 205) B at_205 rfl ?_
  refine o_iconst (pc := 207) B (2 : Int32) at_207 (by decide) ?_
  refine o_icmp_lt (pc := 208) (pc' := 230) B at_208 (by decide) (by decide) (fun hc208 => False.elim (by revert hc208; decide)) (fun hc208 => ?_)
  refine o_aload (pc := 211) B at_211 rfl rfl ?_
  refine o_iconst (pc := 213) B (1 : Int32) at_213 (by decide) ?_
  refine o_iaload (pc := 214) B (1) at_214 (A9) (by decide) (rfl) ?_
  refine o_iconst (pc := 215) B (1 : Int32) at_215 (by decide) ?_
  refine o_iload (pc := 216) B at_216 rfl ?_
  refine o_iload (pc := 218) B at_218 rfl ?_
  refine o_iload (pc := 220) B at_220 rfl ?_
  refine o_callS4 (pc := 222) B 1 at_222 (hw _ (List.mem_of_getElem? (i := 13) rfl)) (hw _ (List.mem_of_getElem? (i := 14) rfl)) (hw _ (List.mem_of_getElem? (i := 2) rfl)) (hw _ (List.mem_of_getElem? (i := 15) rfl)) (by decide) pd4 rfl (by first | exact Nat.zero_le _ | exact Nat.le_of_ble_eq_true rfl | simp [Value.category]) (by decide) (by decide) (by decide) (by decide) rfl (oc4a l Z a0 hw n0 _ 1 (-1) p1 p2 (by decide)) ?_
  rintro v h' ⟨rfl, rfl⟩
  refine o_icmp_eq (pc := 225) (pc' := 230) B at_225 (by decide) (by decide) (fun hc225 => ?_) (fun hc225 => False.elim (hc225 rfl))
  refine o_iload (pc := 230) B at_230 rfl ?_
  refine o_iconst (pc := 232) B (3 : Int32) at_232 (by decide) ?_
  refine o_icmp_lt (pc := 233) (pc' := 255) B at_233 (by decide) (by decide) (fun hc233 => ?_) (fun hc233 => False.elim (by revert hc233; decide))
  refine o_iconst (pc := 255) B (1 : Int32) at_255 (by decide) ?_
  exact o_zreturn (pc := 256) B at_256 (by decide) (by decide) (rfl)
set_option maxRecDepth 65536 in
set_option maxHeartbeats 40000000 in
theorem own_tail_32 (l : Launch) (Z : State) (a0 : Array Value) (hw : ∀ d ∈ tables_1, d.before a0 Z = true) (n0 : Nat) (h : Heap) (Z0 : n0 ≤ h.size) (κ : o_K) (B : o_Bo κ l Z n0 room_1 x code maxLocals ret) (xa xb xc xd xe p0 p1 p2 n : Int32) (t : p2 < n - 1) (ne : ¬ p2 = n - 3 + 2) :
    o_Go κ (fun v h' => v = some (.int 1)) h 0 0 80 [.val (.int xa), .val (.int xb), .val (.int xc), .val (.int xd), .val (.int xe), .val (.int 3), .val (.int p0), .val (.int p1), .val (.int p2), .val (.int p2), .val (.int n), .unset, .unset, .unset, .unset] [] := by
  refine o_iload (pc := 80) B at_80 rfl ?_
  refine o_newarray (pc := 82) B (3) (3) at_82 (hw _ (List.mem_of_getElem? (i := 5) rfl)) (by decide) (by first | decide | omega) (by first | decide | omega) (by decide) (by decide) ?_
  intro h1 E1 lt1 A1
  obtain ⟨a, ga, ea⟩ : ∃ a, n0 ≤ a ∧ a = h.size := ⟨_, Z0, rfl⟩
  rw [← ea] at A1 ⊢
  have B1 : o_IA Z h1 a [0, 0, 0] := A1
  have S1 : n0 ≤ h1.size := Nat.le_trans Z0 E1.1
  refine o_astore_15_11 (pc := 84) B at_84 rfl rfl ?_
  refine o_iload (pc := 86) B at_86 rfl ?_
  refine o_iconst (pc := 88) B (1 : Int32) at_88 (by decide) ?_
  refine o_icmp_lt (pc := 89) (pc' := 98) B at_89 (by decide) (by decide) (fun hc89 => False.elim (by revert hc89; decide)) (fun hc89 => ?_)
  refine o_aload (pc := 92) B at_92 rfl rfl ?_
  refine o_iconst (pc := 94) B (0 : Int32) at_94 (by decide) ?_
  refine o_iload (pc := 95) B at_95 rfl ?_
  refine o_iastore (pc := 97) B (0) at_97 (B1) (by decide) (by show 0 < 3; decide) (ga) ?_
  intro h2 W2
  have B2 : o_IA Z h2 a [p0, 0, 0] := o_IA.same B1 W2
  refine o_iload (pc := 98) B at_98 rfl ?_
  refine o_iconst (pc := 100) B (2 : Int32) at_100 (by decide) ?_
  refine o_icmp_lt (pc := 101) (pc' := 110) B at_101 (by decide) (by decide) (fun hc101 => False.elim (by revert hc101; decide)) (fun hc101 => ?_)
  refine o_aload (pc := 104) B at_104 rfl rfl ?_
  refine o_iconst (pc := 106) B (1 : Int32) at_106 (by decide) ?_
  refine o_iload (pc := 107) B at_107 rfl ?_
  refine o_iastore (pc := 109) B (1) at_109 (B2) (by decide) (by show 1 < 3; decide) (ga) ?_
  intro h3 W3
  have B3 : o_IA Z h3 a [p0, p1, 0] := o_IA.same B2 W3
  refine o_iload (pc := 110) B at_110 rfl ?_
  refine o_iconst (pc := 112) B (3 : Int32) at_112 (by decide) ?_
  refine o_icmp_lt (pc := 113) (pc' := 122) B at_113 (by decide) (by decide) (fun hc113 => False.elim (by revert hc113; decide)) (fun hc113 => ?_)
  refine o_aload (pc := 116) B at_116 rfl rfl ?_
  refine o_iconst (pc := 118) B (2 : Int32) at_118 (by decide) ?_
  refine o_iload (pc := 119) B at_119 rfl ?_
  refine o_iastore (pc := 121) B (2) at_121 (B3) (by decide) (by show 2 < 3; decide) (ga) ?_
  intro h4 W4
  have B4 : o_IA Z h4 a [p0, p1, p2] := o_IA.same B3 W4
  refine o_iload (pc := 122) B at_122 rfl ?_
  refine o_iload (pc := 124) B at_124 rfl ?_
  refine o_iload (pc := 126) B at_126 rfl ?_
  refine o_iload (pc := 128) B at_128 rfl ?_
  refine o_iload (pc := 130) B at_130 rfl ?_
  refine o_callS5 (pc := 132) B 0 at_132 (hw _ (List.mem_of_getElem? (i := 6) rfl)) (hw _ (List.mem_of_getElem? (i := 7) rfl)) (hw _ (List.mem_of_getElem? (i := 2) rfl)) (hw _ (List.mem_of_getElem? (i := 8) rfl)) (by decide) pd2 rfl (by first | exact Nat.zero_le _ | exact Nat.le_of_ble_eq_true rfl | simp [Value.category]) (by decide) (by decide) (by decide) (by decide) rfl (oc2_32 l Z a0 hw n0 _ n p0 p1 p2 t) ?_
  rintro v h' ⟨rfl, rfl⟩
  refine o_istore_15_12 (pc := 135) B at_135 rfl ?_
  refine o_aload (pc := 137) B at_137 rfl rfl ?_
  refine o_iload (pc := 139) B at_139 rfl ?_
  refine o_callS2 (pc := 141) B 0 at_141 (hw _ (List.mem_of_getElem? (i := 9) rfl)) (hw _ (List.mem_of_getElem? (i := 10) rfl)) (hw _ (List.mem_of_getElem? (i := 11) rfl)) (hw _ (List.mem_of_getElem? (i := 12) rfl)) (by decide) pd3 rfl (by first | exact Nat.zero_le _ | exact Nat.le_of_ble_eq_true rfl | simp [Value.category]) (by decide) (by decide) (by decide) (by decide) rfl (oc3_32 l Z a0 hw n0 _ a p0 p1 p2 n ga B4 ne) ?_
  rintro v h9 ⟨rfl, A9, K9⟩
  refine o_istore_15_13 (pc := 144) B at_144 rfl ?_
  refine o_iload (pc := 146) B at_146 rfl ?_
  refine o_iload (pc := 148) B at_148 rfl ?_
  refine o_icmp_eq (pc := 150) (pc' := 155) B at_150 (by decide) (by decide) (fun hc150 => ?_) (fun hc150 => False.elim (by revert hc150; decide))
  refine o_iload (pc := 155) B at_155 rfl ?_
  refine o_if_ne (pc := 157) (pc' := 165) B at_157 (by decide) (by decide) (fun hc157 => ?_) (fun hc157 => False.elim (by revert hc157; decide))
  refine o_iload (pc := 165) B at_165 rfl ?_
  refine o_iconst (pc := 167) B (1 : Int32) at_167 (by decide) ?_
  refine o_icmp_ne (pc := 168) (pc' := 176) B at_168 (by decide) (by decide) (fun hc168 => ?_) (fun hc168 => False.elim (by revert hc168; decide))
  refine o_iload (pc := 176) B at_176 rfl ?_
  refine o_istore_15_14 (pc := 178) B at_178 rfl ?_
  refine o_iload (pc := 180) B at_180 rfl ?_
  refine o_iconst (pc := 182) B (1 : Int32) at_182 (by decide) ?_
  refine o_icmp_lt (pc := 183) (pc' := 205) B at_183 (by decide) (by decide) (fun hc183 => False.elim (by revert hc183; decide)) (fun hc183 => ?_)
  refine o_aload (pc := 186) B at_186 rfl rfl ?_
  refine o_iconst (pc := 188) B (0 : Int32) at_188 (by decide) ?_
  refine o_iaload (pc := 189) B (0) at_189 (A9) (by decide) (rfl) ?_
  refine o_iconst (pc := 190) B (0 : Int32) at_190 (by decide) ?_
  refine o_iload (pc := 191) B at_191 rfl ?_
  refine o_iload (pc := 193) B at_193 rfl ?_
  refine o_iload (pc := 195) B at_195 rfl ?_
  refine o_callS4 (pc := 197) B 1 at_197 (hw _ (List.mem_of_getElem? (i := 13) rfl)) (hw _ (List.mem_of_getElem? (i := 14) rfl)) (hw _ (List.mem_of_getElem? (i := 2) rfl)) (hw _ (List.mem_of_getElem? (i := 15) rfl)) (by decide) pd4 rfl (by first | exact Nat.zero_le _ | exact Nat.le_of_ble_eq_true rfl | simp [Value.category]) (by decide) (by decide) (by decide) (by decide) rfl (oc4a l Z a0 hw n0 _ 0 2 p0 p2 (by decide)) ?_
  rintro v h' ⟨rfl, rfl⟩
  refine o_icmp_eq (pc := 200) (pc' := 205) B at_200 (by decide) (by decide) (fun hc200 => ?_) (fun hc200 => False.elim (hc200 rfl))
  refine o_iload (pc := 205) B at_205 rfl ?_
  refine o_iconst (pc := 207) B (2 : Int32) at_207 (by decide) ?_
  refine o_icmp_lt (pc := 208) (pc' := 230) B at_208 (by decide) (by decide) (fun hc208 => False.elim (by revert hc208; decide)) (fun hc208 => ?_)
  refine o_aload (pc := 211) B at_211 rfl rfl ?_
  refine o_iconst (pc := 213) B (1 : Int32) at_213 (by decide) ?_
  refine o_iaload (pc := 214) B (1) at_214 (A9) (by decide) (rfl) ?_
  refine o_iconst (pc := 215) B (1 : Int32) at_215 (by decide) ?_
  refine o_iload (pc := 216) B at_216 rfl ?_
  refine o_iload (pc := 218) B at_218 rfl ?_
  refine o_iload (pc := 220) B at_220 rfl ?_
  refine o_callS4 (pc := 222) B 1 at_222 (hw _ (List.mem_of_getElem? (i := 13) rfl)) (hw _ (List.mem_of_getElem? (i := 14) rfl)) (hw _ (List.mem_of_getElem? (i := 2) rfl)) (hw _ (List.mem_of_getElem? (i := 15) rfl)) (by decide) pd4 rfl (by first | exact Nat.zero_le _ | exact Nat.le_of_ble_eq_true rfl | simp [Value.category]) (by decide) (by decide) (by decide) (by decide) rfl (oc4a l Z a0 hw n0 _ 1 2 p1 p2 (by decide)) ?_
  rintro v h' ⟨rfl, rfl⟩
  refine o_icmp_eq (pc := 225) (pc' := 230) B at_225 (by decide) (by decide) (fun hc225 => ?_) (fun hc225 => False.elim (hc225 rfl))
  refine o_iload (pc := 230) B at_230 rfl ?_
  refine o_iconst (pc := 232) B (3 : Int32) at_232 (by decide) ?_
  refine o_icmp_lt (pc := 233) (pc' := 255) B at_233 (by decide) (by decide) (fun hc233 => False.elim (by revert hc233; decide)) (fun hc233 => ?_)
  refine o_aload (pc := 236) B at_236 rfl rfl ?_
  refine o_iconst (pc := 238) B (2 : Int32) at_238 (by decide) ?_
  refine o_iaload (pc := 239) B (2) at_239 (A9) (by decide) (rfl) ?_
  refine o_iconst (pc := 240) B (2 : Int32) at_240 (by decide) ?_
  refine o_iload (pc := 241) B at_241 rfl ?_
  refine o_iload (pc := 243) B at_243 rfl ?_
  refine o_iload (pc := 245) B at_245 rfl ?_
  refine o_callS4 (pc := 247) B 1 at_247 (hw _ (List.mem_of_getElem? (i := 13) rfl)) (hw _ (List.mem_of_getElem? (i := 14) rfl)) (hw _ (List.mem_of_getElem? (i := 2) rfl)) (hw _ (List.mem_of_getElem? (i := 15) rfl)) (by decide) pd4 rfl (by first | exact Nat.zero_le _ | exact Nat.le_of_ble_eq_true rfl | simp [Value.category]) (by decide) (by decide) (by decide) (by decide) rfl (oc4b l Z a0 hw n0 _ 2 2 p2 p2 (p2 + 1) (by decide) (by decide) (by simp)) ?_
  rintro v h' ⟨rfl, rfl⟩
  refine o_icmp_eq (pc := 250) (pc' := 255) B at_250 (by decide) (by decide) (fun hc250 => ?_) (fun hc250 => False.elim (hc250 rfl))
  refine o_iconst (pc := 255) B (1 : Int32) at_255 (by decide) ?_
  exact o_zreturn (pc := 256) B at_256 (by decide) (by decide) (rfl)
set_option maxRecDepth 65536 in
set_option maxHeartbeats 40000000 in
theorem own_tail_31 (l : Launch) (Z : State) (a0 : Array Value) (hw : ∀ d ∈ tables_1, d.before a0 Z = true) (n0 : Nat) (h : Heap) (Z0 : n0 ≤ h.size) (κ : o_K) (B : o_Bo κ l Z n0 room_1 x code maxLocals ret) (xa xb xc xd xe p0 p1 p2 n : Int32) (f2 : ¬ p2 < n - 1) (e2 : p2 = n - 3 + 2) (t : p1 < n - 2) (ne : ¬ p1 = n - 3 + 1) :
    o_Go κ (fun v h' => v = some (.int 1)) h 0 0 80 [.val (.int xa), .val (.int xb), .val (.int xc), .val (.int xd), .val (.int xe), .val (.int 3), .val (.int p0), .val (.int p1), .val (.int p2), .val (.int p2), .val (.int n), .unset, .unset, .unset, .unset] [] := by
  refine o_iload (pc := 80) B at_80 rfl ?_
  refine o_newarray (pc := 82) B (3) (3) at_82 (hw _ (List.mem_of_getElem? (i := 5) rfl)) (by decide) (by first | decide | omega) (by first | decide | omega) (by decide) (by decide) ?_
  intro h1 E1 lt1 A1
  obtain ⟨a, ga, ea⟩ : ∃ a, n0 ≤ a ∧ a = h.size := ⟨_, Z0, rfl⟩
  rw [← ea] at A1 ⊢
  have B1 : o_IA Z h1 a [0, 0, 0] := A1
  have S1 : n0 ≤ h1.size := Nat.le_trans Z0 E1.1
  refine o_astore_15_11 (pc := 84) B at_84 rfl rfl ?_
  refine o_iload (pc := 86) B at_86 rfl ?_
  refine o_iconst (pc := 88) B (1 : Int32) at_88 (by decide) ?_
  refine o_icmp_lt (pc := 89) (pc' := 98) B at_89 (by decide) (by decide) (fun hc89 => False.elim (by revert hc89; decide)) (fun hc89 => ?_)
  refine o_aload (pc := 92) B at_92 rfl rfl ?_
  refine o_iconst (pc := 94) B (0 : Int32) at_94 (by decide) ?_
  refine o_iload (pc := 95) B at_95 rfl ?_
  refine o_iastore (pc := 97) B (0) at_97 (B1) (by decide) (by show 0 < 3; decide) (ga) ?_
  intro h2 W2
  have B2 : o_IA Z h2 a [p0, 0, 0] := o_IA.same B1 W2
  refine o_iload (pc := 98) B at_98 rfl ?_
  refine o_iconst (pc := 100) B (2 : Int32) at_100 (by decide) ?_
  refine o_icmp_lt (pc := 101) (pc' := 110) B at_101 (by decide) (by decide) (fun hc101 => False.elim (by revert hc101; decide)) (fun hc101 => ?_)
  refine o_aload (pc := 104) B at_104 rfl rfl ?_
  refine o_iconst (pc := 106) B (1 : Int32) at_106 (by decide) ?_
  refine o_iload (pc := 107) B at_107 rfl ?_
  refine o_iastore (pc := 109) B (1) at_109 (B2) (by decide) (by show 1 < 3; decide) (ga) ?_
  intro h3 W3
  have B3 : o_IA Z h3 a [p0, p1, 0] := o_IA.same B2 W3
  refine o_iload (pc := 110) B at_110 rfl ?_
  refine o_iconst (pc := 112) B (3 : Int32) at_112 (by decide) ?_
  refine o_icmp_lt (pc := 113) (pc' := 122) B at_113 (by decide) (by decide) (fun hc113 => False.elim (by revert hc113; decide)) (fun hc113 => ?_)
  refine o_aload (pc := 116) B at_116 rfl rfl ?_
  refine o_iconst (pc := 118) B (2 : Int32) at_118 (by decide) ?_
  refine o_iload (pc := 119) B at_119 rfl ?_
  refine o_iastore (pc := 121) B (2) at_121 (B3) (by decide) (by show 2 < 3; decide) (ga) ?_
  intro h4 W4
  have B4 : o_IA Z h4 a [p0, p1, p2] := o_IA.same B3 W4
  refine o_iload (pc := 122) B at_122 rfl ?_
  refine o_iload (pc := 124) B at_124 rfl ?_
  refine o_iload (pc := 126) B at_126 rfl ?_
  refine o_iload (pc := 128) B at_128 rfl ?_
  refine o_iload (pc := 130) B at_130 rfl ?_
  refine o_callS5 (pc := 132) B 0 at_132 (hw _ (List.mem_of_getElem? (i := 6) rfl)) (hw _ (List.mem_of_getElem? (i := 7) rfl)) (hw _ (List.mem_of_getElem? (i := 2) rfl)) (hw _ (List.mem_of_getElem? (i := 8) rfl)) (by decide) pd2 rfl (by first | exact Nat.zero_le _ | exact Nat.le_of_ble_eq_true rfl | simp [Value.category]) (by decide) (by decide) (by decide) (by decide) rfl (oc2_31 l Z a0 hw n0 _ n p0 p1 p2 f2 t) ?_
  rintro v h' ⟨rfl, rfl⟩
  refine o_istore_15_12 (pc := 135) B at_135 rfl ?_
  refine o_aload (pc := 137) B at_137 rfl rfl ?_
  refine o_iload (pc := 139) B at_139 rfl ?_
  refine o_callS2 (pc := 141) B 0 at_141 (hw _ (List.mem_of_getElem? (i := 9) rfl)) (hw _ (List.mem_of_getElem? (i := 10) rfl)) (hw _ (List.mem_of_getElem? (i := 11) rfl)) (hw _ (List.mem_of_getElem? (i := 12) rfl)) (by decide) pd3 rfl (by first | exact Nat.zero_le _ | exact Nat.le_of_ble_eq_true rfl | simp [Value.category]) (by decide) (by decide) (by decide) (by decide) rfl (oc3_31 l Z a0 hw n0 _ a p0 p1 p2 n ga B4 e2 ne) ?_
  rintro v h9 ⟨rfl, A9, K9⟩
  refine o_istore_15_13 (pc := 144) B at_144 rfl ?_
  refine o_iload (pc := 146) B at_146 rfl ?_
  refine o_iload (pc := 148) B at_148 rfl ?_
  refine o_icmp_eq (pc := 150) (pc' := 155) B at_150 (by decide) (by decide) (fun hc150 => ?_) (fun hc150 => False.elim (by revert hc150; decide))
  refine o_iload (pc := 155) B at_155 rfl ?_
  refine o_if_ne (pc := 157) (pc' := 165) B at_157 (by decide) (by decide) (fun hc157 => ?_) (fun hc157 => False.elim (by revert hc157; decide))
  refine o_iload (pc := 165) B at_165 rfl ?_
  refine o_iconst (pc := 167) B (1 : Int32) at_167 (by decide) ?_
  refine o_icmp_ne (pc := 168) (pc' := 176) B at_168 (by decide) (by decide) (fun hc168 => False.elim (by revert hc168; decide)) (fun hc168 => ?_)
  refine o_iload (pc := 171) B at_171 rfl ?_
  refine o_goto (pc := 173) (pc' := 178) B at_173 (by decide) (by decide) ?_
  refine o_istore_15_14 (pc := 178) B at_178 rfl ?_
  refine o_iload (pc := 180) B at_180 rfl ?_
  refine o_iconst (pc := 182) B (1 : Int32) at_182 (by decide) ?_
  refine o_icmp_lt (pc := 183) (pc' := 205) B at_183 (by decide) (by decide) (fun hc183 => False.elim (by revert hc183; decide)) (fun hc183 => ?_)
  refine o_aload (pc := 186) B at_186 rfl rfl ?_
  refine o_iconst (pc := 188) B (0 : Int32) at_188 (by decide) ?_
  refine o_iaload (pc := 189) B (0) at_189 (A9) (by decide) (rfl) ?_
  refine o_iconst (pc := 190) B (0 : Int32) at_190 (by decide) ?_
  refine o_iload (pc := 191) B at_191 rfl ?_
  refine o_iload (pc := 193) B at_193 rfl ?_
  refine o_iload (pc := 195) B at_195 rfl ?_
  refine o_callS4 (pc := 197) B 1 at_197 (hw _ (List.mem_of_getElem? (i := 13) rfl)) (hw _ (List.mem_of_getElem? (i := 14) rfl)) (hw _ (List.mem_of_getElem? (i := 2) rfl)) (hw _ (List.mem_of_getElem? (i := 15) rfl)) (by decide) pd4 rfl (by first | exact Nat.zero_le _ | exact Nat.le_of_ble_eq_true rfl | simp [Value.category]) (by decide) (by decide) (by decide) (by decide) rfl (oc4a l Z a0 hw n0 _ 0 1 p0 p1 (by decide)) ?_
  rintro v h' ⟨rfl, rfl⟩
  refine o_icmp_eq (pc := 200) (pc' := 205) B at_200 (by decide) (by decide) (fun hc200 => ?_) (fun hc200 => False.elim (hc200 rfl))
  refine o_iload (pc := 205) B at_205 rfl ?_
  refine o_iconst (pc := 207) B (2 : Int32) at_207 (by decide) ?_
  refine o_icmp_lt (pc := 208) (pc' := 230) B at_208 (by decide) (by decide) (fun hc208 => False.elim (by revert hc208; decide)) (fun hc208 => ?_)
  refine o_aload (pc := 211) B at_211 rfl rfl ?_
  refine o_iconst (pc := 213) B (1 : Int32) at_213 (by decide) ?_
  refine o_iaload (pc := 214) B (1) at_214 (A9) (by decide) (rfl) ?_
  refine o_iconst (pc := 215) B (1 : Int32) at_215 (by decide) ?_
  refine o_iload (pc := 216) B at_216 rfl ?_
  refine o_iload (pc := 218) B at_218 rfl ?_
  refine o_iload (pc := 220) B at_220 rfl ?_
  refine o_callS4 (pc := 222) B 1 at_222 (hw _ (List.mem_of_getElem? (i := 13) rfl)) (hw _ (List.mem_of_getElem? (i := 14) rfl)) (hw _ (List.mem_of_getElem? (i := 2) rfl)) (hw _ (List.mem_of_getElem? (i := 15) rfl)) (by decide) pd4 rfl (by first | exact Nat.zero_le _ | exact Nat.le_of_ble_eq_true rfl | simp [Value.category]) (by decide) (by decide) (by decide) (by decide) rfl (oc4b l Z a0 hw n0 _ 1 1 p1 p1 (p1 + 1) (by decide) (by decide) (by simp)) ?_
  rintro v h' ⟨rfl, rfl⟩
  refine o_icmp_eq (pc := 225) (pc' := 230) B at_225 (by decide) (by decide) (fun hc225 => ?_) (fun hc225 => False.elim (hc225 rfl))
  refine o_iload (pc := 230) B at_230 rfl ?_
  refine o_iconst (pc := 232) B (3 : Int32) at_232 (by decide) ?_
  refine o_icmp_lt (pc := 233) (pc' := 255) B at_233 (by decide) (by decide) (fun hc233 => False.elim (by revert hc233; decide)) (fun hc233 => ?_)
  refine o_aload (pc := 236) B at_236 rfl rfl ?_
  refine o_iconst (pc := 238) B (2 : Int32) at_238 (by decide) ?_
  refine o_iaload (pc := 239) B (2) at_239 (A9) (by decide) (rfl) ?_
  refine o_iconst (pc := 240) B (2 : Int32) at_240 (by decide) ?_
  refine o_iload (pc := 241) B at_241 rfl ?_
  refine o_iload (pc := 243) B at_243 rfl ?_
  refine o_iload (pc := 245) B at_245 rfl ?_
  refine o_callS4 (pc := 247) B 1 at_247 (hw _ (List.mem_of_getElem? (i := 13) rfl)) (hw _ (List.mem_of_getElem? (i := 14) rfl)) (hw _ (List.mem_of_getElem? (i := 2) rfl)) (hw _ (List.mem_of_getElem? (i := 15) rfl)) (by decide) pd4 rfl (by first | exact Nat.zero_le _ | exact Nat.le_of_ble_eq_true rfl | simp [Value.category]) (by decide) (by decide) (by decide) (by decide) rfl (oc4b l Z a0 hw n0 _ 2 1 p2 p1 (p1 + 1 + 1) (by decide) (by decide) (by rw [show (2 - 1 : Int32) = 1 by decide])) ?_
  rintro v h' ⟨rfl, rfl⟩
  refine o_icmp_eq (pc := 250) (pc' := 255) B at_250 (by decide) (by decide) (fun hc250 => ?_) (fun hc250 => False.elim (hc250 rfl))
  refine o_iconst (pc := 255) B (1 : Int32) at_255 (by decide) ?_
  exact o_zreturn (pc := 256) B at_256 (by decide) (by decide) (rfl)
set_option maxRecDepth 65536 in
set_option maxHeartbeats 40000000 in
theorem own_tail_30 (l : Launch) (Z : State) (a0 : Array Value) (hw : ∀ d ∈ tables_1, d.before a0 Z = true) (n0 : Nat) (h : Heap) (Z0 : n0 ≤ h.size) (κ : o_K) (B : o_Bo κ l Z n0 room_1 x code maxLocals ret) (xa xb xc xd xe p0 p1 p2 n : Int32) (f2 : ¬ p2 < n - 1) (e2 : p2 = n - 3 + 2) (f1 : ¬ p1 < n - 2) (e1 : p1 = n - 3 + 1) (t : p0 < n - 3) (ne : ¬ p0 = n - 3 + 0) :
    o_Go κ (fun v h' => v = some (.int 1)) h 0 0 80 [.val (.int xa), .val (.int xb), .val (.int xc), .val (.int xd), .val (.int xe), .val (.int 3), .val (.int p0), .val (.int p1), .val (.int p2), .val (.int p2), .val (.int n), .unset, .unset, .unset, .unset] [] := by
  refine o_iload (pc := 80) B at_80 rfl ?_
  refine o_newarray (pc := 82) B (3) (3) at_82 (hw _ (List.mem_of_getElem? (i := 5) rfl)) (by decide) (by first | decide | omega) (by first | decide | omega) (by decide) (by decide) ?_
  intro h1 E1 lt1 A1
  obtain ⟨a, ga, ea⟩ : ∃ a, n0 ≤ a ∧ a = h.size := ⟨_, Z0, rfl⟩
  rw [← ea] at A1 ⊢
  have B1 : o_IA Z h1 a [0, 0, 0] := A1
  have S1 : n0 ≤ h1.size := Nat.le_trans Z0 E1.1
  refine o_astore_15_11 (pc := 84) B at_84 rfl rfl ?_
  refine o_iload (pc := 86) B at_86 rfl ?_
  refine o_iconst (pc := 88) B (1 : Int32) at_88 (by decide) ?_
  refine o_icmp_lt (pc := 89) (pc' := 98) B at_89 (by decide) (by decide) (fun hc89 => False.elim (by revert hc89; decide)) (fun hc89 => ?_)
  refine o_aload (pc := 92) B at_92 rfl rfl ?_
  refine o_iconst (pc := 94) B (0 : Int32) at_94 (by decide) ?_
  refine o_iload (pc := 95) B at_95 rfl ?_
  refine o_iastore (pc := 97) B (0) at_97 (B1) (by decide) (by show 0 < 3; decide) (ga) ?_
  intro h2 W2
  have B2 : o_IA Z h2 a [p0, 0, 0] := o_IA.same B1 W2
  refine o_iload (pc := 98) B at_98 rfl ?_
  refine o_iconst (pc := 100) B (2 : Int32) at_100 (by decide) ?_
  refine o_icmp_lt (pc := 101) (pc' := 110) B at_101 (by decide) (by decide) (fun hc101 => False.elim (by revert hc101; decide)) (fun hc101 => ?_)
  refine o_aload (pc := 104) B at_104 rfl rfl ?_
  refine o_iconst (pc := 106) B (1 : Int32) at_106 (by decide) ?_
  refine o_iload (pc := 107) B at_107 rfl ?_
  refine o_iastore (pc := 109) B (1) at_109 (B2) (by decide) (by show 1 < 3; decide) (ga) ?_
  intro h3 W3
  have B3 : o_IA Z h3 a [p0, p1, 0] := o_IA.same B2 W3
  refine o_iload (pc := 110) B at_110 rfl ?_
  refine o_iconst (pc := 112) B (3 : Int32) at_112 (by decide) ?_
  refine o_icmp_lt (pc := 113) (pc' := 122) B at_113 (by decide) (by decide) (fun hc113 => False.elim (by revert hc113; decide)) (fun hc113 => ?_)
  refine o_aload (pc := 116) B at_116 rfl rfl ?_
  refine o_iconst (pc := 118) B (2 : Int32) at_118 (by decide) ?_
  refine o_iload (pc := 119) B at_119 rfl ?_
  refine o_iastore (pc := 121) B (2) at_121 (B3) (by decide) (by show 2 < 3; decide) (ga) ?_
  intro h4 W4
  have B4 : o_IA Z h4 a [p0, p1, p2] := o_IA.same B3 W4
  refine o_iload (pc := 122) B at_122 rfl ?_
  refine o_iload (pc := 124) B at_124 rfl ?_
  refine o_iload (pc := 126) B at_126 rfl ?_
  refine o_iload (pc := 128) B at_128 rfl ?_
  refine o_iload (pc := 130) B at_130 rfl ?_
  refine o_callS5 (pc := 132) B 0 at_132 (hw _ (List.mem_of_getElem? (i := 6) rfl)) (hw _ (List.mem_of_getElem? (i := 7) rfl)) (hw _ (List.mem_of_getElem? (i := 2) rfl)) (hw _ (List.mem_of_getElem? (i := 8) rfl)) (by decide) pd2 rfl (by first | exact Nat.zero_le _ | exact Nat.le_of_ble_eq_true rfl | simp [Value.category]) (by decide) (by decide) (by decide) (by decide) rfl (oc2_30 l Z a0 hw n0 _ n p0 p1 p2 f2 f1 t) ?_
  rintro v h' ⟨rfl, rfl⟩
  refine o_istore_15_12 (pc := 135) B at_135 rfl ?_
  refine o_aload (pc := 137) B at_137 rfl rfl ?_
  refine o_iload (pc := 139) B at_139 rfl ?_
  refine o_callS2 (pc := 141) B 0 at_141 (hw _ (List.mem_of_getElem? (i := 9) rfl)) (hw _ (List.mem_of_getElem? (i := 10) rfl)) (hw _ (List.mem_of_getElem? (i := 11) rfl)) (hw _ (List.mem_of_getElem? (i := 12) rfl)) (by decide) pd3 rfl (by first | exact Nat.zero_le _ | exact Nat.le_of_ble_eq_true rfl | simp [Value.category]) (by decide) (by decide) (by decide) (by decide) rfl (oc3_30 l Z a0 hw n0 _ a p0 p1 p2 n ga B4 e2 e1 ne) ?_
  rintro v h9 ⟨rfl, A9, K9⟩
  refine o_istore_15_13 (pc := 144) B at_144 rfl ?_
  refine o_iload (pc := 146) B at_146 rfl ?_
  refine o_iload (pc := 148) B at_148 rfl ?_
  refine o_icmp_eq (pc := 150) (pc' := 155) B at_150 (by decide) (by decide) (fun hc150 => ?_) (fun hc150 => False.elim (by revert hc150; decide))
  refine o_iload (pc := 155) B at_155 rfl ?_
  refine o_if_ne (pc := 157) (pc' := 165) B at_157 (by decide) (by decide) (fun hc157 => False.elim (by revert hc157; decide)) (fun hc157 => ?_)
  refine o_iload (pc := 160) B at_160 rfl ?_
  refine o_goto (pc := 162) (pc' := 178) B at_162 (by decide) (by decide) ?_
  refine o_istore_15_14 (pc := 178) B at_178 rfl ?_
  refine o_iload (pc := 180) B at_180 rfl ?_
  refine o_iconst (pc := 182) B (1 : Int32) at_182 (by decide) ?_
  refine o_icmp_lt (pc := 183) (pc' := 205) B at_183 (by decide) (by decide) (fun hc183 => False.elim (by revert hc183; decide)) (fun hc183 => ?_)
  refine o_aload (pc := 186) B at_186 rfl rfl ?_
  refine o_iconst (pc := 188) B (0 : Int32) at_188 (by decide) ?_
  refine o_iaload (pc := 189) B (0) at_189 (A9) (by decide) (rfl) ?_
  refine o_iconst (pc := 190) B (0 : Int32) at_190 (by decide) ?_
  refine o_iload (pc := 191) B at_191 rfl ?_
  refine o_iload (pc := 193) B at_193 rfl ?_
  refine o_iload (pc := 195) B at_195 rfl ?_
  refine o_callS4 (pc := 197) B 1 at_197 (hw _ (List.mem_of_getElem? (i := 13) rfl)) (hw _ (List.mem_of_getElem? (i := 14) rfl)) (hw _ (List.mem_of_getElem? (i := 2) rfl)) (hw _ (List.mem_of_getElem? (i := 15) rfl)) (by decide) pd4 rfl (by first | exact Nat.zero_le _ | exact Nat.le_of_ble_eq_true rfl | simp [Value.category]) (by decide) (by decide) (by decide) (by decide) rfl (oc4b l Z a0 hw n0 _ 0 0 p0 p0 (p0 + 1) (by decide) (by decide) (by simp)) ?_
  rintro v h' ⟨rfl, rfl⟩
  refine o_icmp_eq (pc := 200) (pc' := 205) B at_200 (by decide) (by decide) (fun hc200 => ?_) (fun hc200 => False.elim (hc200 rfl))
  refine o_iload (pc := 205) B at_205 rfl ?_
  refine o_iconst (pc := 207) B (2 : Int32) at_207 (by decide) ?_
  refine o_icmp_lt (pc := 208) (pc' := 230) B at_208 (by decide) (by decide) (fun hc208 => False.elim (by revert hc208; decide)) (fun hc208 => ?_)
  refine o_aload (pc := 211) B at_211 rfl rfl ?_
  refine o_iconst (pc := 213) B (1 : Int32) at_213 (by decide) ?_
  refine o_iaload (pc := 214) B (1) at_214 (A9) (by decide) (rfl) ?_
  refine o_iconst (pc := 215) B (1 : Int32) at_215 (by decide) ?_
  refine o_iload (pc := 216) B at_216 rfl ?_
  refine o_iload (pc := 218) B at_218 rfl ?_
  refine o_iload (pc := 220) B at_220 rfl ?_
  refine o_callS4 (pc := 222) B 1 at_222 (hw _ (List.mem_of_getElem? (i := 13) rfl)) (hw _ (List.mem_of_getElem? (i := 14) rfl)) (hw _ (List.mem_of_getElem? (i := 2) rfl)) (hw _ (List.mem_of_getElem? (i := 15) rfl)) (by decide) pd4 rfl (by first | exact Nat.zero_le _ | exact Nat.le_of_ble_eq_true rfl | simp [Value.category]) (by decide) (by decide) (by decide) (by decide) rfl (oc4b l Z a0 hw n0 _ 1 0 p1 p0 (p0 + 1 + 1) (by decide) (by decide) (by rw [show (1 - 0 : Int32) = 1 by decide])) ?_
  rintro v h' ⟨rfl, rfl⟩
  refine o_icmp_eq (pc := 225) (pc' := 230) B at_225 (by decide) (by decide) (fun hc225 => ?_) (fun hc225 => False.elim (hc225 rfl))
  refine o_iload (pc := 230) B at_230 rfl ?_
  refine o_iconst (pc := 232) B (3 : Int32) at_232 (by decide) ?_
  refine o_icmp_lt (pc := 233) (pc' := 255) B at_233 (by decide) (by decide) (fun hc233 => False.elim (by revert hc233; decide)) (fun hc233 => ?_)
  refine o_aload (pc := 236) B at_236 rfl rfl ?_
  refine o_iconst (pc := 238) B (2 : Int32) at_238 (by decide) ?_
  refine o_iaload (pc := 239) B (2) at_239 (A9) (by decide) (rfl) ?_
  refine o_iconst (pc := 240) B (2 : Int32) at_240 (by decide) ?_
  refine o_iload (pc := 241) B at_241 rfl ?_
  refine o_iload (pc := 243) B at_243 rfl ?_
  refine o_iload (pc := 245) B at_245 rfl ?_
  refine o_callS4 (pc := 247) B 1 at_247 (hw _ (List.mem_of_getElem? (i := 13) rfl)) (hw _ (List.mem_of_getElem? (i := 14) rfl)) (hw _ (List.mem_of_getElem? (i := 2) rfl)) (hw _ (List.mem_of_getElem? (i := 15) rfl)) (by decide) pd4 rfl (by first | exact Nat.zero_le _ | exact Nat.le_of_ble_eq_true rfl | simp [Value.category]) (by decide) (by decide) (by decide) (by decide) rfl (oc4b l Z a0 hw n0 _ 2 0 p2 p0 (p0 + 1 + 1 + 1) (by decide) (by decide) (by rw [show (2 - 0 : Int32) = 1 + 1 by decide, ← Int32.add_assoc])) ?_
  rintro v h' ⟨rfl, rfl⟩
  refine o_icmp_eq (pc := 250) (pc' := 255) B at_250 (by decide) (by decide) (fun hc250 => ?_) (fun hc250 => False.elim (hc250 rfl))
  refine o_iconst (pc := 255) B (1 : Int32) at_255 (by decide) ?_
  exact o_zreturn (pc := 256) B at_256 (by decide) (by decide) (rfl)
set_option maxRecDepth 65536 in
set_option maxHeartbeats 40000000 in
theorem own_tail_3m (l : Launch) (Z : State) (a0 : Array Value) (hw : ∀ d ∈ tables_1, d.before a0 Z = true) (n0 : Nat) (h : Heap) (Z0 : n0 ≤ h.size) (κ : o_K) (B : o_Bo κ l Z n0 room_1 x code maxLocals ret) (xa xb xc xd xe p0 p1 p2 n : Int32) (f2 : ¬ p2 < n - 1) (e2 : p2 = n - 3 + 2) (f1 : ¬ p1 < n - 2) (e1 : p1 = n - 3 + 1) (f0 : ¬ p0 < n - 3) (e0 : p0 = n - 3 + 0) :
    o_Go κ (fun v h' => v = some (.int 1)) h 0 0 80 [.val (.int xa), .val (.int xb), .val (.int xc), .val (.int xd), .val (.int xe), .val (.int 3), .val (.int p0), .val (.int p1), .val (.int p2), .val (.int p2), .val (.int n), .unset, .unset, .unset, .unset] [] := by
  refine o_iload (pc := 80) B at_80 rfl ?_
  refine o_newarray (pc := 82) B (3) (3) at_82 (hw _ (List.mem_of_getElem? (i := 5) rfl)) (by decide) (by first | decide | omega) (by first | decide | omega) (by decide) (by decide) ?_
  intro h1 E1 lt1 A1
  obtain ⟨a, ga, ea⟩ : ∃ a, n0 ≤ a ∧ a = h.size := ⟨_, Z0, rfl⟩
  rw [← ea] at A1 ⊢
  have B1 : o_IA Z h1 a [0, 0, 0] := A1
  have S1 : n0 ≤ h1.size := Nat.le_trans Z0 E1.1
  refine o_astore_15_11 (pc := 84) B at_84 rfl rfl ?_
  refine o_iload (pc := 86) B at_86 rfl ?_
  refine o_iconst (pc := 88) B (1 : Int32) at_88 (by decide) ?_
  refine o_icmp_lt (pc := 89) (pc' := 98) B at_89 (by decide) (by decide) (fun hc89 => False.elim (by revert hc89; decide)) (fun hc89 => ?_)
  refine o_aload (pc := 92) B at_92 rfl rfl ?_
  refine o_iconst (pc := 94) B (0 : Int32) at_94 (by decide) ?_
  refine o_iload (pc := 95) B at_95 rfl ?_
  refine o_iastore (pc := 97) B (0) at_97 (B1) (by decide) (by show 0 < 3; decide) (ga) ?_
  intro h2 W2
  have B2 : o_IA Z h2 a [p0, 0, 0] := o_IA.same B1 W2
  refine o_iload (pc := 98) B at_98 rfl ?_
  refine o_iconst (pc := 100) B (2 : Int32) at_100 (by decide) ?_
  refine o_icmp_lt (pc := 101) (pc' := 110) B at_101 (by decide) (by decide) (fun hc101 => False.elim (by revert hc101; decide)) (fun hc101 => ?_)
  refine o_aload (pc := 104) B at_104 rfl rfl ?_
  refine o_iconst (pc := 106) B (1 : Int32) at_106 (by decide) ?_
  refine o_iload (pc := 107) B at_107 rfl ?_
  refine o_iastore (pc := 109) B (1) at_109 (B2) (by decide) (by show 1 < 3; decide) (ga) ?_
  intro h3 W3
  have B3 : o_IA Z h3 a [p0, p1, 0] := o_IA.same B2 W3
  refine o_iload (pc := 110) B at_110 rfl ?_
  refine o_iconst (pc := 112) B (3 : Int32) at_112 (by decide) ?_
  refine o_icmp_lt (pc := 113) (pc' := 122) B at_113 (by decide) (by decide) (fun hc113 => False.elim (by revert hc113; decide)) (fun hc113 => ?_)
  refine o_aload (pc := 116) B at_116 rfl rfl ?_
  refine o_iconst (pc := 118) B (2 : Int32) at_118 (by decide) ?_
  refine o_iload (pc := 119) B at_119 rfl ?_
  refine o_iastore (pc := 121) B (2) at_121 (B3) (by decide) (by show 2 < 3; decide) (ga) ?_
  intro h4 W4
  have B4 : o_IA Z h4 a [p0, p1, p2] := o_IA.same B3 W4
  refine o_iload (pc := 122) B at_122 rfl ?_
  refine o_iload (pc := 124) B at_124 rfl ?_
  refine o_iload (pc := 126) B at_126 rfl ?_
  refine o_iload (pc := 128) B at_128 rfl ?_
  refine o_iload (pc := 130) B at_130 rfl ?_
  refine o_callS5 (pc := 132) B 0 at_132 (hw _ (List.mem_of_getElem? (i := 6) rfl)) (hw _ (List.mem_of_getElem? (i := 7) rfl)) (hw _ (List.mem_of_getElem? (i := 2) rfl)) (hw _ (List.mem_of_getElem? (i := 8) rfl)) (by decide) pd2 rfl (by first | exact Nat.zero_le _ | exact Nat.le_of_ble_eq_true rfl | simp [Value.category]) (by decide) (by decide) (by decide) (by decide) rfl (oc2_3m l Z a0 hw n0 _ n p0 p1 p2 f2 f1 f0) ?_
  rintro v h' ⟨rfl, rfl⟩
  refine o_istore_15_12 (pc := 135) B at_135 rfl ?_
  refine o_aload (pc := 137) B at_137 rfl rfl ?_
  refine o_iload (pc := 139) B at_139 rfl ?_
  refine o_callS2 (pc := 141) B 0 at_141 (hw _ (List.mem_of_getElem? (i := 9) rfl)) (hw _ (List.mem_of_getElem? (i := 10) rfl)) (hw _ (List.mem_of_getElem? (i := 11) rfl)) (hw _ (List.mem_of_getElem? (i := 12) rfl)) (by decide) pd3 rfl (by first | exact Nat.zero_le _ | exact Nat.le_of_ble_eq_true rfl | simp [Value.category]) (by decide) (by decide) (by decide) (by decide) rfl (oc3_3m l Z a0 hw n0 _ a p0 p1 p2 n ga B4 e2 e1 e0) ?_
  rintro v h9 ⟨rfl, A9, K9⟩
  refine o_istore_15_13 (pc := 144) B at_144 rfl ?_
  refine o_iload (pc := 146) B at_146 rfl ?_
  refine o_iload (pc := 148) B at_148 rfl ?_
  refine o_icmp_eq (pc := 150) (pc' := 155) B at_150 (by decide) (by decide) (fun hc150 => ?_) (fun hc150 => False.elim (by revert hc150; decide))
  refine o_iload (pc := 155) B at_155 rfl ?_
  refine o_if_ne (pc := 157) (pc' := 165) B at_157 (by decide) (by decide) (fun hc157 => ?_) (fun hc157 => False.elim (by revert hc157; decide))
  refine o_iload (pc := 165) B at_165 rfl ?_
  refine o_iconst (pc := 167) B (1 : Int32) at_167 (by decide) ?_
  refine o_icmp_ne (pc := 168) (pc' := 176) B at_168 (by decide) (by decide) (fun hc168 => ?_) (fun hc168 => False.elim (by revert hc168; decide))
  refine o_iload (pc := 176) B at_176 rfl ?_
  refine o_istore_15_14 (pc := 178) B at_178 rfl ?_
  refine o_iload (pc := 180) B at_180 rfl ?_
  refine o_iconst (pc := 182) B (1 : Int32) at_182 (by decide) ?_
  refine o_icmp_lt (pc := 183) (pc' := 205) B at_183 (by decide) (by decide) (fun hc183 => False.elim (by revert hc183; decide)) (fun hc183 => ?_)
  refine o_aload (pc := 186) B at_186 rfl rfl ?_
  refine o_iconst (pc := 188) B (0 : Int32) at_188 (by decide) ?_
  refine o_iaload (pc := 189) B (0) at_189 (A9) (by decide) (rfl) ?_
  refine o_iconst (pc := 190) B (0 : Int32) at_190 (by decide) ?_
  refine o_iload (pc := 191) B at_191 rfl ?_
  refine o_iload (pc := 193) B at_193 rfl ?_
  refine o_iload (pc := 195) B at_195 rfl ?_
  refine o_callS4 (pc := 197) B 1 at_197 (hw _ (List.mem_of_getElem? (i := 13) rfl)) (hw _ (List.mem_of_getElem? (i := 14) rfl)) (hw _ (List.mem_of_getElem? (i := 2) rfl)) (hw _ (List.mem_of_getElem? (i := 15) rfl)) (by decide) pd4 rfl (by first | exact Nat.zero_le _ | exact Nat.le_of_ble_eq_true rfl | simp [Value.category]) (by decide) (by decide) (by decide) (by decide) rfl (oc4a l Z a0 hw n0 _ 0 (-1) p0 p2 (by decide)) ?_
  rintro v h' ⟨rfl, rfl⟩
  refine o_icmp_eq (pc := 200) (pc' := 205) B at_200 (by decide) (by decide) (fun hc200 => ?_) (fun hc200 => False.elim (hc200 rfl))
  refine o_iload (pc := 205) B at_205 rfl ?_
  refine o_iconst (pc := 207) B (2 : Int32) at_207 (by decide) ?_
  refine o_icmp_lt (pc := 208) (pc' := 230) B at_208 (by decide) (by decide) (fun hc208 => False.elim (by revert hc208; decide)) (fun hc208 => ?_)
  refine o_aload (pc := 211) B at_211 rfl rfl ?_
  refine o_iconst (pc := 213) B (1 : Int32) at_213 (by decide) ?_
  refine o_iaload (pc := 214) B (1) at_214 (A9) (by decide) (rfl) ?_
  refine o_iconst (pc := 215) B (1 : Int32) at_215 (by decide) ?_
  refine o_iload (pc := 216) B at_216 rfl ?_
  refine o_iload (pc := 218) B at_218 rfl ?_
  refine o_iload (pc := 220) B at_220 rfl ?_
  refine o_callS4 (pc := 222) B 1 at_222 (hw _ (List.mem_of_getElem? (i := 13) rfl)) (hw _ (List.mem_of_getElem? (i := 14) rfl)) (hw _ (List.mem_of_getElem? (i := 2) rfl)) (hw _ (List.mem_of_getElem? (i := 15) rfl)) (by decide) pd4 rfl (by first | exact Nat.zero_le _ | exact Nat.le_of_ble_eq_true rfl | simp [Value.category]) (by decide) (by decide) (by decide) (by decide) rfl (oc4a l Z a0 hw n0 _ 1 (-1) p1 p2 (by decide)) ?_
  rintro v h' ⟨rfl, rfl⟩
  refine o_icmp_eq (pc := 225) (pc' := 230) B at_225 (by decide) (by decide) (fun hc225 => ?_) (fun hc225 => False.elim (hc225 rfl))
  refine o_iload (pc := 230) B at_230 rfl ?_
  refine o_iconst (pc := 232) B (3 : Int32) at_232 (by decide) ?_
  refine o_icmp_lt (pc := 233) (pc' := 255) B at_233 (by decide) (by decide) (fun hc233 => False.elim (by revert hc233; decide)) (fun hc233 => ?_)
  refine o_aload (pc := 236) B at_236 rfl rfl ?_
  refine o_iconst (pc := 238) B (2 : Int32) at_238 (by decide) ?_
  refine o_iaload (pc := 239) B (2) at_239 (A9) (by decide) (rfl) ?_
  refine o_iconst (pc := 240) B (2 : Int32) at_240 (by decide) ?_
  refine o_iload (pc := 241) B at_241 rfl ?_
  refine o_iload (pc := 243) B at_243 rfl ?_
  refine o_iload (pc := 245) B at_245 rfl ?_
  refine o_callS4 (pc := 247) B 1 at_247 (hw _ (List.mem_of_getElem? (i := 13) rfl)) (hw _ (List.mem_of_getElem? (i := 14) rfl)) (hw _ (List.mem_of_getElem? (i := 2) rfl)) (hw _ (List.mem_of_getElem? (i := 15) rfl)) (by decide) pd4 rfl (by first | exact Nat.zero_le _ | exact Nat.le_of_ble_eq_true rfl | simp [Value.category]) (by decide) (by decide) (by decide) (by decide) rfl (oc4a l Z a0 hw n0 _ 2 (-1) p2 p2 (by decide)) ?_
  rintro v h' ⟨rfl, rfl⟩
  refine o_icmp_eq (pc := 250) (pc' := 255) B at_250 (by decide) (by decide) (fun hc250 => ?_) (fun hc250 => False.elim (hc250 rfl))
  refine o_iconst (pc := 255) B (1 : Int32) at_255 (by decide) ?_
  exact o_zreturn (pc := 256) B at_256 (by decide) (by decide) (rfl)
set_option maxRecDepth 65536 in
set_option maxHeartbeats 40000000 in
theorem oc0 (l : Launch) (Z : State) (a0 : Array Value) (hw : ∀ d ∈ tables_1, d.before a0 Z = true) (n0 : Nat) (h : Heap) (xa xb xc xd xe : Int32) (Z0 : n0 ≤ h.size) : o_C l Z n0 Jvm.Pilot.@@N@@.x code maxLocals ret room_1 [(.int xa), (.int xb), (.int xc), (.int xd), (.int xe)] h (fun v h' => v = some (.int 1)) := by
  refine o_body (Ls := [.val (.int xa), .val (.int xb), .val (.int xc), .val (.int xd), .val (.int xe), .unset, .unset, .unset, .unset, .unset, .unset, .unset, .unset, .unset, .unset]) pn0 (by first | (simp [argsToLocals, Value.category, maxLocals]; done) | rfl) (fun κ B => ?_)
  refine o_iload (pc := 0) B at_0 rfl ?_
  refine o_iconst (pc := 2) B (3 : Int32) at_2 (by decide) ?_
  refine o_iand (pc := 3) B at_3 ?_
  refine o_istore_15_5 (pc := 4) B at_4 rfl ?_
  refine o_iloadN (pc := 6) B at_6 rfl ?_
  refine o_callS1 (pc := 7) B 0 at_7 (hw _ (List.mem_of_getElem? (i := 0) rfl)) (hw _ (List.mem_of_getElem? (i := 1) rfl)) (hw _ (List.mem_of_getElem? (i := 2) rfl)) (hw _ (List.mem_of_getElem? (i := 3) rfl)) (by decide) pd1 rfl (by first | exact Nat.zero_le _ | exact Nat.le_of_ble_eq_true rfl | simp [Value.category]) (by decide) (by decide) (by decide) (by decide) rfl (oc1 l Z a0 hw n0 _ xa) ?_
  rintro v h' ⟨⟨p0, a1, a2, rfl⟩, rfl⟩
  refine o_istore_15_6 (pc := 10) B at_10 rfl ?_
  refine o_iload (pc := 12) B at_12 rfl ?_
  refine o_iconst (pc := 14) B (1 : Int32) at_14 (by decide) ?_
  refine o_iadd (pc := 15) B at_15 ?_
  refine o_iloadN (pc := 16) B at_16 rfl ?_
  refine o_callS1 (pc := 17) B 1 at_17 (hw _ (List.mem_of_getElem? (i := 0) rfl)) (hw _ (List.mem_of_getElem? (i := 1) rfl)) (hw _ (List.mem_of_getElem? (i := 2) rfl)) (hw _ (List.mem_of_getElem? (i := 3) rfl)) (by decide) pd1 rfl (by first | exact Nat.zero_le _ | exact Nat.le_of_ble_eq_true rfl | simp [Value.category]) (by decide) (by decide) (by decide) (by decide) rfl (oc1 l Z a0 hw n0 _ xb) ?_
  rintro v h' ⟨⟨g1, b1, b2, rfl⟩, rfl⟩
  refine o_iadd (pc := 20) B at_20 ?_
  have one : (1 : Int32).toInt = 1 := rfl
  have t1 : (p0 + 1).toInt = p0.toInt + 1 := own_add (by omega) (by omega)
  have t2 : (p0 + 1 + g1).toInt = p0.toInt + 1 + g1.toInt := by rw [own_add (by omega) (by omega), t1]
  obtain ⟨p1, ep1⟩ : ∃ p1, p1 = p0 + 1 + g1 := ⟨_, rfl⟩
  rw [← ep1] at t2 ⊢
  refine o_istore_15_7 (pc := 21) B at_21 rfl ?_
  refine o_iload (pc := 23) B at_23 rfl ?_
  refine o_iconst (pc := 25) B (1 : Int32) at_25 (by decide) ?_
  refine o_iadd (pc := 26) B at_26 ?_
  refine o_iloadN (pc := 27) B at_27 rfl ?_
  refine o_callS1 (pc := 28) B 1 at_28 (hw _ (List.mem_of_getElem? (i := 0) rfl)) (hw _ (List.mem_of_getElem? (i := 1) rfl)) (hw _ (List.mem_of_getElem? (i := 2) rfl)) (hw _ (List.mem_of_getElem? (i := 3) rfl)) (by decide) pd1 rfl (by first | exact Nat.zero_le _ | exact Nat.le_of_ble_eq_true rfl | simp [Value.category]) (by decide) (by decide) (by decide) (by decide) rfl (oc1 l Z a0 hw n0 _ xc) ?_
  rintro v h' ⟨⟨g2, c1, c2, rfl⟩, rfl⟩
  refine o_iadd (pc := 31) B at_31 ?_
  have t3 : (p1 + 1).toInt = p1.toInt + 1 := own_add (by omega) (by omega)
  have t4 : (p1 + 1 + g2).toInt = p1.toInt + 1 + g2.toInt := by rw [own_add (by omega) (by omega), t3]
  obtain ⟨p2, ep2⟩ : ∃ p2, p2 = p1 + 1 + g2 := ⟨_, rfl⟩
  rw [← ep2] at t4 ⊢
  refine o_istore_15_8 (pc := 32) B at_32 rfl ?_
  have n1 : (1 : Int32).toInt = 1 := rfl
  have n2 : (2 : Int32).toInt = 2 := rfl
  have n3 : (3 : Int32).toInt = 3 := rfl
  have n9 : (-1 : Int32).toInt = -1 := rfl
  rcases own_k xe with ek | ek | ek | ek
  · rw [ek]
    refine o_iload (pc := 34) B at_34 rfl ?_
    refine o_if_ne (pc := 36) (pc' := 43) B at_36 (by decide) (by decide) (fun hc36 => False.elim (by revert hc36; decide)) (fun hc36 => ?_)
    refine o_iconst (pc := 39) B (-1 : Int32) at_39 (by decide) ?_
    refine o_goto (pc := 40) (pc' := 67) B at_40 (by decide) (by decide) ?_
    refine o_istore_15_9 (pc := 67) B at_67 rfl ?_
    refine o_iload (pc := 69) B at_69 rfl ?_
    refine o_iconst (pc := 71) B (1 : Int32) at_71 (by decide) ?_
    refine o_iadd_c (pc := 72) B (0 : Int32) at_72 (by decide) ?_
    refine o_iloadN (pc := 73) B at_73 rfl ?_
    refine o_callS1 (pc := 74) B 1 at_74 (hw _ (List.mem_of_getElem? (i := 0) rfl)) (hw _ (List.mem_of_getElem? (i := 1) rfl)) (hw _ (List.mem_of_getElem? (i := 2) rfl)) (hw _ (List.mem_of_getElem? (i := 3) rfl)) (by decide) pd1 rfl (by first | exact Nat.zero_le _ | exact Nat.le_of_ble_eq_true rfl | simp [Value.category]) (by decide) (by decide) (by decide) (by decide) rfl (oc1 l Z a0 hw n0 _ xd) ?_
    rintro v h' ⟨⟨g3, d1, d2, rfl⟩, rfl⟩
    refine o_iadd (pc := 77) B at_77 ?_
    obtain ⟨n, en⟩ : ∃ n, n = (0 : Int32) + g3 := ⟨_, rfl⟩
    rw [← en]
    refine o_istore_15_10 (pc := 78) B at_78 rfl ?_
    exact own_tail_0m l Z a0 hw n0 _ Z0 κ B _ _ _ _ _ _ _ _ _
  · rw [ek]
    refine o_iload (pc := 34) B at_34 rfl ?_
    refine o_if_ne (pc := 36) (pc' := 43) B at_36 (by decide) (by decide) (fun hc36 => ?_) (fun hc36 => False.elim (by revert hc36; decide))
    refine o_iload (pc := 43) B at_43 rfl ?_
    refine o_iconst (pc := 45) B (1 : Int32) at_45 (by decide) ?_
    refine o_icmp_ne (pc := 46) (pc' := 54) B at_46 (by decide) (by decide) (fun hc46 => False.elim (by revert hc46; decide)) (fun hc46 => ?_)
    refine o_iload (pc := 49) B at_49 rfl ?_
    refine o_goto (pc := 51) (pc' := 67) B at_51 (by decide) (by decide) ?_
    refine o_istore_15_9 (pc := 67) B at_67 rfl ?_
    refine o_iload (pc := 69) B at_69 rfl ?_
    refine o_iconst (pc := 71) B (1 : Int32) at_71 (by decide) ?_
    refine o_iadd (pc := 72) B at_72 ?_
    refine o_iloadN (pc := 73) B at_73 rfl ?_
    refine o_callS1 (pc := 74) B 1 at_74 (hw _ (List.mem_of_getElem? (i := 0) rfl)) (hw _ (List.mem_of_getElem? (i := 1) rfl)) (hw _ (List.mem_of_getElem? (i := 2) rfl)) (hw _ (List.mem_of_getElem? (i := 3) rfl)) (by decide) pd1 rfl (by first | exact Nat.zero_le _ | exact Nat.le_of_ble_eq_true rfl | simp [Value.category]) (by decide) (by decide) (by decide) (by decide) rfl (oc1 l Z a0 hw n0 _ xd) ?_
    rintro v h' ⟨⟨g3, d1, d2, rfl⟩, rfl⟩
    refine o_iadd (pc := 77) B at_77 ?_
    have u0 : (p0 + 1).toInt = p0.toInt + 1 := own_add (by omega) (by omega)
    have u : (p0 + 1 + g3).toInt = p0.toInt + 1 + g3.toInt := by rw [own_add (by omega) (by omega), u0]
    obtain ⟨n, en⟩ : ∃ n, n = p0 + 1 + g3 := ⟨_, rfl⟩
    rw [← en] at u ⊢
    refine o_istore_15_10 (pc := 78) B at_78 rfl ?_
    have s1 : (n - 1).toInt = n.toInt - 1 := own_sub (by omega) (by omega)
    have r0 : (n - 1 + 0).toInt = n.toInt - 1 + 0 := by rw [own_add (by rw [show (0 : Int32).toInt = 0 from rfl]; omega) (by rw [show (0 : Int32).toInt = 0 from rfl]; omega), s1]; rfl
    by_cases t0 : p0 < n - 1
    · have ne : ¬ p0 = n - 1 + 0 := fun q => by
        have := congrArg Int32.toInt q
        rw [Int32.lt_iff_toInt_lt] at t0
        omega
      exact own_tail_10 l Z a0 hw n0 _ Z0 κ B _ _ _ _ _ _ _ _ _ t0 ne
    have e0 : p0 = n - 1 + 0 := Int32.toInt_inj.mp (by
      rw [Int32.lt_iff_toInt_lt] at t0
      omega)
    exact own_tail_1m l Z a0 hw n0 _ Z0 κ B _ _ _ _ _ _ _ _ _ t0 e0
  · rw [ek]
    refine o_iload (pc := 34) B at_34 rfl ?_
    refine o_if_ne (pc := 36) (pc' := 43) B at_36 (by decide) (by decide) (fun hc36 => ?_) (fun hc36 => False.elim (by revert hc36; decide))
    refine o_iload (pc := 43) B at_43 rfl ?_
    refine o_iconst (pc := 45) B (1 : Int32) at_45 (by decide) ?_
    refine o_icmp_ne (pc := 46) (pc' := 54) B at_46 (by decide) (by decide) (fun hc46 => ?_) (fun hc46 => False.elim (by revert hc46; decide))
    refine o_iload (pc := 54) B at_54 rfl ?_
    refine o_iconst (pc := 56) B (2 : Int32) at_56 (by decide) ?_
    refine o_icmp_ne (pc := 57) (pc' := 65) B at_57 (by decide) (by decide) (fun hc57 => False.elim (by revert hc57; decide)) (fun hc57 => ?_)
    refine o_iload (pc := 60) B at_60 rfl ?_
    refine o_goto (pc := 62) (pc' := 67) B at_62 (by decide) (by decide) ?_
    refine o_istore_15_9 (pc := 67) B at_67 rfl ?_
    refine o_iload (pc := 69) B at_69 rfl ?_
    refine o_iconst (pc := 71) B (1 : Int32) at_71 (by decide) ?_
    refine o_iadd (pc := 72) B at_72 ?_
    refine o_iloadN (pc := 73) B at_73 rfl ?_
    refine o_callS1 (pc := 74) B 1 at_74 (hw _ (List.mem_of_getElem? (i := 0) rfl)) (hw _ (List.mem_of_getElem? (i := 1) rfl)) (hw _ (List.mem_of_getElem? (i := 2) rfl)) (hw _ (List.mem_of_getElem? (i := 3) rfl)) (by decide) pd1 rfl (by first | exact Nat.zero_le _ | exact Nat.le_of_ble_eq_true rfl | simp [Value.category]) (by decide) (by decide) (by decide) (by decide) rfl (oc1 l Z a0 hw n0 _ xd) ?_
    rintro v h' ⟨⟨g3, d1, d2, rfl⟩, rfl⟩
    refine o_iadd (pc := 77) B at_77 ?_
    have u0 : (p1 + 1).toInt = p1.toInt + 1 := own_add (by omega) (by omega)
    have u : (p1 + 1 + g3).toInt = p1.toInt + 1 + g3.toInt := by rw [own_add (by omega) (by omega), u0]
    obtain ⟨n, en⟩ : ∃ n, n = p1 + 1 + g3 := ⟨_, rfl⟩
    rw [← en] at u ⊢
    refine o_istore_15_10 (pc := 78) B at_78 rfl ?_
    have s1 : (n - 1).toInt = n.toInt - 1 := own_sub (by omega) (by omega)
    have s2 : (n - 2).toInt = n.toInt - 2 := own_sub (by omega) (by omega)
    have r0 : (n - 2 + 0).toInt = n.toInt - 2 + 0 := by rw [own_add (by rw [show (0 : Int32).toInt = 0 from rfl]; omega) (by rw [show (0 : Int32).toInt = 0 from rfl]; omega), s2]; rfl
    have r1 : (n - 2 + 1).toInt = n.toInt - 2 + 1 := by rw [own_add (by rw [show (1 : Int32).toInt = 1 from rfl]; omega) (by rw [show (1 : Int32).toInt = 1 from rfl]; omega), s2]; rfl
    by_cases t1 : p1 < n - 1
    · have ne : ¬ p1 = n - 2 + 1 := fun q => by
        have := congrArg Int32.toInt q
        rw [Int32.lt_iff_toInt_lt] at t1
        omega
      exact own_tail_21 l Z a0 hw n0 _ Z0 κ B _ _ _ _ _ _ _ _ _ t1 ne
    have e1 : p1 = n - 2 + 1 := Int32.toInt_inj.mp (by
      rw [Int32.lt_iff_toInt_lt] at t1
      omega)
    by_cases t0 : p0 < n - 2
    · have ne : ¬ p0 = n - 2 + 0 := fun q => by
        have := congrArg Int32.toInt q
        rw [Int32.lt_iff_toInt_lt] at t0
        omega
      exact own_tail_20 l Z a0 hw n0 _ Z0 κ B _ _ _ _ _ _ _ _ _ t1 e1 t0 ne
    have e0 : p0 = n - 2 + 0 := Int32.toInt_inj.mp (by
      have y1 := congrArg Int32.toInt e1
      rw [Int32.lt_iff_toInt_lt] at t0
      omega)
    exact own_tail_2m l Z a0 hw n0 _ Z0 κ B _ _ _ _ _ _ _ _ _ t1 e1 t0 e0
  · rw [ek]
    refine o_iload (pc := 34) B at_34 rfl ?_
    refine o_if_ne (pc := 36) (pc' := 43) B at_36 (by decide) (by decide) (fun hc36 => ?_) (fun hc36 => False.elim (by revert hc36; decide))
    refine o_iload (pc := 43) B at_43 rfl ?_
    refine o_iconst (pc := 45) B (1 : Int32) at_45 (by decide) ?_
    refine o_icmp_ne (pc := 46) (pc' := 54) B at_46 (by decide) (by decide) (fun hc46 => ?_) (fun hc46 => False.elim (by revert hc46; decide))
    refine o_iload (pc := 54) B at_54 rfl ?_
    refine o_iconst (pc := 56) B (2 : Int32) at_56 (by decide) ?_
    refine o_icmp_ne (pc := 57) (pc' := 65) B at_57 (by decide) (by decide) (fun hc57 => ?_) (fun hc57 => False.elim (by revert hc57; decide))
    refine o_iload (pc := 65) B at_65 rfl ?_
    refine o_istore_15_9 (pc := 67) B at_67 rfl ?_
    refine o_iload (pc := 69) B at_69 rfl ?_
    refine o_iconst (pc := 71) B (1 : Int32) at_71 (by decide) ?_
    refine o_iadd (pc := 72) B at_72 ?_
    refine o_iloadN (pc := 73) B at_73 rfl ?_
    refine o_callS1 (pc := 74) B 1 at_74 (hw _ (List.mem_of_getElem? (i := 0) rfl)) (hw _ (List.mem_of_getElem? (i := 1) rfl)) (hw _ (List.mem_of_getElem? (i := 2) rfl)) (hw _ (List.mem_of_getElem? (i := 3) rfl)) (by decide) pd1 rfl (by first | exact Nat.zero_le _ | exact Nat.le_of_ble_eq_true rfl | simp [Value.category]) (by decide) (by decide) (by decide) (by decide) rfl (oc1 l Z a0 hw n0 _ xd) ?_
    rintro v h' ⟨⟨g3, d1, d2, rfl⟩, rfl⟩
    refine o_iadd (pc := 77) B at_77 ?_
    have u0 : (p2 + 1).toInt = p2.toInt + 1 := own_add (by omega) (by omega)
    have u : (p2 + 1 + g3).toInt = p2.toInt + 1 + g3.toInt := by rw [own_add (by omega) (by omega), u0]
    obtain ⟨n, en⟩ : ∃ n, n = p2 + 1 + g3 := ⟨_, rfl⟩
    rw [← en] at u ⊢
    refine o_istore_15_10 (pc := 78) B at_78 rfl ?_
    have s1 : (n - 1).toInt = n.toInt - 1 := own_sub (by omega) (by omega)
    have s2 : (n - 2).toInt = n.toInt - 2 := own_sub (by omega) (by omega)
    have s3 : (n - 3).toInt = n.toInt - 3 := own_sub (by omega) (by omega)
    have r0 : (n - 3 + 0).toInt = n.toInt - 3 + 0 := by rw [own_add (by rw [show (0 : Int32).toInt = 0 from rfl]; omega) (by rw [show (0 : Int32).toInt = 0 from rfl]; omega), s3]; rfl
    have r1 : (n - 3 + 1).toInt = n.toInt - 3 + 1 := by rw [own_add (by rw [show (1 : Int32).toInt = 1 from rfl]; omega) (by rw [show (1 : Int32).toInt = 1 from rfl]; omega), s3]; rfl
    have r2 : (n - 3 + 2).toInt = n.toInt - 3 + 2 := by rw [own_add (by rw [show (2 : Int32).toInt = 2 from rfl]; omega) (by rw [show (2 : Int32).toInt = 2 from rfl]; omega), s3]; rfl
    by_cases t2 : p2 < n - 1
    · have ne : ¬ p2 = n - 3 + 2 := fun q => by
        have := congrArg Int32.toInt q
        rw [Int32.lt_iff_toInt_lt] at t2
        omega
      exact own_tail_32 l Z a0 hw n0 _ Z0 κ B _ _ _ _ _ _ _ _ _ t2 ne
    have e2 : p2 = n - 3 + 2 := Int32.toInt_inj.mp (by
      rw [Int32.lt_iff_toInt_lt] at t2
      omega)
    by_cases t1 : p1 < n - 2
    · have ne : ¬ p1 = n - 3 + 1 := fun q => by
        have := congrArg Int32.toInt q
        rw [Int32.lt_iff_toInt_lt] at t1
        omega
      exact own_tail_31 l Z a0 hw n0 _ Z0 κ B _ _ _ _ _ _ _ _ _ t2 e2 t1 ne
    have e1 : p1 = n - 3 + 1 := Int32.toInt_inj.mp (by
      have y2 := congrArg Int32.toInt e2
      rw [Int32.lt_iff_toInt_lt] at t1
      omega)
    by_cases t0 : p0 < n - 3
    · have ne : ¬ p0 = n - 3 + 0 := fun q => by
        have := congrArg Int32.toInt q
        rw [Int32.lt_iff_toInt_lt] at t0
        omega
      exact own_tail_30 l Z a0 hw n0 _ Z0 κ B _ _ _ _ _ _ _ _ _ t2 e2 t1 e1 t0 ne
    have e0 : p0 = n - 3 + 0 := Int32.toInt_inj.mp (by
      have y2 := congrArg Int32.toInt e2
      have y1 := congrArg Int32.toInt e1
      rw [Int32.lt_iff_toInt_lt] at t0
      omega)
    exact own_tail_3m l Z a0 hw n0 _ Z0 κ B _ _ _ _ _ _ _ _ _ t2 e2 t1 e1 t0 e0
set_option maxRecDepth 65536 in
set_option maxHeartbeats 40000000 in
theorem comes_1 {Post : Tables → Env → Array Value → State → Outcome → State → Prop} (hpost : ∀ tb e args s v u, (limb_1_1.after args s (.returned v) u = true ∧ limb_1_2.after args s (.returned v) u = true ∧ True) → FrameEnd s (.returned v) u (Jvm.fieldLocs frame_1_writes args s ++ Jvm.arrayLocs frame_1_arrays args s ++ Jvm.staticLocs frame_1_statics s) 16 128 → Post tb e args s (.returned v) u) :
    ArmFor flags0 classFile x code maxLocals ret World_1 tables_1 room_1 Calls_1 rest_1 Pre_1 Post := by
  intro l hfl _ _ p e ha hc hk s m args below hf hA hF happ hP
  obtain ⟨hcalls, hrest, hpre⟩ := hP
  obtain ⟨-, -, -, hnamed, -, -, -, hat⟩ := (Spec.applies_iff hf).mp happ
  obtain ⟨hg, hn⟩ := and_e (Cond.before_iff.mp (show (Jvm.Cond.and given_1 narrow_1).before args s = true from hpre))
  obtain ⟨hcnt, g0⟩ := and_e hg
  obtain ⟨q0, g1⟩ := and_e g0
  obtain ⟨q1, g2⟩ := and_e g1
  obtain ⟨q2, g3⟩ := and_e g2
  obtain ⟨q3, g4⟩ := and_e g3
  obtain ⟨w0, w1, w2, w3, w4, rfl⟩ : ∃ w0 w1 w2 w3 w4 : Value, args = #[w0, w1, w2, w3, w4] := by
    have hs : args.size = 5 := by simpa [Cond.value, given_1] using hcnt
    obtain ⟨L⟩ := args
    match L, hs with
    | [w0, w1, w2, w3, w4], _ => exact ⟨w0, w1, w2, w3, w4, rfl⟩
  have hw := fun d (hd : d ∈ tables_1) => atoms_spec (ws := Jvm.Cond.code x code maxLocals ret :: tables_1) hat d (List.mem_cons_of_mem _ hd)
  obtain ⟨i0, e0⟩ := is_v q0
  obtain rfl : w0 = (.int i0) := Option.some.inj e0
  obtain ⟨i1, e1⟩ := is_v q1
  obtain rfl : w1 = (.int i1) := Option.some.inj e1
  obtain ⟨i2, e2⟩ := is_v q2
  obtain rfl : w2 = (.int i2) := Option.some.inj e2
  obtain ⟨i3, e3⟩ := is_v q3
  obtain rfl : w3 = (.int i3) := Option.some.inj e3
  obtain ⟨i4, e4⟩ := is_v g4
  obtain rfl : w4 = (.int i4) := Option.some.inj e4
  obtain ⟨n, o, h1, h2, h3, _, L, rfl, ⟨rfl, N⟩, hq⟩ := (oc0 l s _ hw s.heap.size s.heap i0 i1 i2 i3 i4 (Nat.le_refl _)) tables_1 p e ha hc hk s m _ below hf ((Spec.applies_iff_loose hf).mp happ).1 ⟨rfl, State.Warmed39.refl s, rfl⟩ trivial
  refine ⟨n, _, h1, h2, h3, hpost _ _ _ _ _ _ ⟨Cond.after_iff.mpr rfl, Cond.after_iff.mpr (eq_i res_at (Term.int_eval (1)) rfl), trivial⟩ ⟨hq.1, hq.2.1, (hq.2.2.sift fun y hy => Or.inr (N y hy)).mono (by decide) (by decide)⟩⟩
theorem main_1_1 : Claimed_1_1 := comes_1 fun _ _ _ _ _ _ h hF => ⟨h.1, hF⟩
theorem main_1_2 : Claimed_1_2 := comes_1 fun _ _ _ _ _ _ h hF => ⟨h.2.1, hF⟩
end Jvm.Pilot.@@N@@
namespace Jvm.Pilot.@@N@@
open Jvm Jvm.ClassFile Sem Op Lib Jvm.Free Jvm.Stand Jvm.Pilot.@@N@@.Jvm.D
/-! MADE BY PROGRAM (witnessworld.py) out of the Statement's table words and the real class files: 9 classes; the members and pool entries that the words name. The judged class is class 1, her method 4. -/
namespace start1
open Jvm.ClassFile
def u (s : String) : CpInfo := .utf8 (stringToUtf16 s)
/-- a pool by its gaps: so many unusable entries, then the entry; so many at the end -/
def gap : Nat → List CpInfo → List CpInfo
  | 0, r => r
  | n + 1, r => .unusable :: gap n r
def poolList (es : List (Nat × CpInfo)) (last : Nat) : List CpInfo := es.foldr (fun e r => gap e.1 (e.2 :: r)) (gap last [])
def pool (es : List (Nat × CpInfo)) (last : Nat) : Array CpInfo := ⟨poolList es last⟩
def fileOf (pool : Array CpInfo) (this : Nat) (attrs : Array Attribute := #[]) (ms : Array MethodInfo := #[]) (fl : Nat := 33) (sup : Nat := 0) (ifs : Array Nat := #[]) (fds : Array FieldInfo := #[]) : ClassFile where
  minorVersion := 0
  majorVersion := 65
  constantPool := pool
  accessFlags := fl
  thisClass := this
  superClass := sup
  interfaces := ifs
  fields := fds
  methods := ms
  attributes := attrs
def plain (name : String) (sup : Option ClassId) : Class where
  name := name
  kind := .ordinary
  loader := none
  accessFlags := 33
  super := sup
  interfaces := #[]
  cf := none
  fields := #[]
  methods := #[]
  instanceTypes := #[]
  staticTypes := #[]
  resolved := #[]
  callSites := []
  init := .initialized
  statics := none
  mirror := none

def pool0 : Array CpInfo := pool [(5, u "<init>"), (0, u "()V"), (1, .class_ 10), (1, u "java/lang/Object")] 113

def k0m0 : Method := { name := "<init>", desc := "()V", sig := { parameters := [], returnType := none }, accessFlags := 1, code := none }
/-- java/lang/Object -/
def k0 : Class := { plain "java/lang/Object" none with
  accessFlags := 33
  interfaces := #[]
  cf := some (fileOf pool0 8 #[] #[{ accessFlags := 1, nameIndex := 5, descriptorIndex := 6, attributes := #[] }] 33 0 #[] #[])
  fields := #[]
  methods := #[k0m0]
  instanceTypes := #[]
  staticTypes := #[]
  resolved := Array.replicate 124 none
  statics := none }

def pool1 : Array CpInfo := pool [(2, .class_ 4), (1, u "java/lang/Object"), (0, u "<init>"), (0, u "()V"), (0, .integer 268435455), (0, .methodref 9 10), (0, .class_ 11), (0, .nameAndType 12 13), (0, u "com/example/tuplewise/tuplewise/engine/ParameterSetsAdvancePinLaw"), (0, u "gap"), (0, u "(I)I"), (0, .methodref 9 15), (0, .nameAndType 16 17), (0, u "expectedIndex"), (0, u "(IIIII)I"), (0, .methodref 19 20), (0, .class_ 21), (0, .nameAndType 22 23), (0, u "com/example/tuplewise/tuplewise/engine/ParameterSets"), (0, u "advance"), (0, u "([II)I"), (0, .methodref 9 25), (0, .nameAndType 26 27), (0, u "expect"), (0, u "(IIII)I"), (3, u "law"), (0, u "(IIIII)Z")] 4

def k1m0 : Method := { name := "<init>", desc := "()V", sig := { parameters := [], returnType := none }, accessFlags := 1, code := none }
def k1c1 : Code := { maxStack := 2, maxLocals := 1, code := method_2_code, exceptionTable := #[], attributes := #[] }
def k1m1 : Method := { name := "gap", desc := "(I)I", sig := { parameters := [.int], returnType := some .int }, accessFlags := 10, code := some k1c1 }
def k1c2 : Code := { maxStack := 3, maxLocals := 5, code := method_3_code, exceptionTable := #[], attributes := #[] }
def k1m2 : Method := { name := "expectedIndex", desc := "(IIIII)I", sig := { parameters := [.int, .int, .int, .int, .int], returnType := some .int }, accessFlags := 10, code := some k1c2 }
def k1c3 : Code := { maxStack := 3, maxLocals := 4, code := method_4_code, exceptionTable := #[], attributes := #[] }
def k1m3 : Method := { name := "expect", desc := "(IIII)I", sig := { parameters := [.int, .int, .int, .int], returnType := some .int }, accessFlags := 10, code := some k1c3 }
def k1c4 : Code := { maxStack := 5, maxLocals := 15, code := code, exceptionTable := #[], attributes := #[] }
def k1m4 : Method := { name := "law", desc := "(IIIII)Z", sig := { parameters := [.int, .int, .int, .int, .int], returnType := some .boolean }, accessFlags := 9, code := some k1c4 }
/-- com/example/tuplewise/tuplewise/engine/ParameterSetsAdvancePinLaw -/
def k1 : Class := { plain "com/example/tuplewise/tuplewise/engine/ParameterSetsAdvancePinLaw" (some 0) with
  accessFlags := 49
  interfaces := #[]
  cf := some (fileOf pool1 9 #[] #[{ accessFlags := 1, nameIndex := 5, descriptorIndex := 6, attributes := #[] }, { accessFlags := 10, nameIndex := 12, descriptorIndex := 13, attributes := #[] }, { accessFlags := 10, nameIndex := 16, descriptorIndex := 17, attributes := #[] }, { accessFlags := 10, nameIndex := 26, descriptorIndex := 27, attributes := #[] }, { accessFlags := 9, nameIndex := 31, descriptorIndex := 32, attributes := #[] }] 49 2 #[] #[])
  fields := #[]
  methods := #[k1m0, k1m1, k1m2, k1m3, k1m4]
  instanceTypes := #[]
  staticTypes := #[]
  resolved := Array.replicate 37 none
  statics := none }

def pool2 : Array CpInfo := pool [(2, .class_ 4), (1, u "java/lang/Object"), (3, .class_ 10), (1, u "com/example/tuplewise/tuplewise/engine/ParameterSets"), (0, u "members"), (0, u "[I"), (2, u "strength"), (0, u "I"), (2, u "leading"), (0, u "Z"), (12, u "([II)I"), (45, u "advance")] 25

def k2c0 : Code := { maxStack := 5, maxLocals := 4, code := prog_23_method_13_code, exceptionTable := #[], attributes := #[] }
def k2m0 : Method := { name := "advance", desc := "([II)I", sig := { parameters := [(.array .int), .int], returnType := some .int }, accessFlags := 8, code := some k2c0 }
/-- com/example/tuplewise/tuplewise/engine/ParameterSets -/
def k2 : Class := { plain "com/example/tuplewise/tuplewise/engine/ParameterSets" (some 0) with
  accessFlags := 48
  interfaces := #[]
  cf := some (fileOf pool2 8 #[] #[{ accessFlags := 8, nameIndex := 79, descriptorIndex := 33, attributes := #[] }] 48 2 #[] #[{ accessFlags := 18, nameIndex := 11, descriptorIndex := 12, attributes := #[] }, { accessFlags := 18, nameIndex := 15, descriptorIndex := 16, attributes := #[] }, { accessFlags := 18, nameIndex := 19, descriptorIndex := 20, attributes := #[] }])
  fields := #[{ name := "members", type := (.array .int), accessFlags := 18, slot := 0, constantValue := 0 }, { name := "strength", type := .int, accessFlags := 18, slot := 1, constantValue := 0 }, { name := "leading", type := .boolean, accessFlags := 18, slot := 2, constantValue := 0 }]
  methods := #[k2m0]
  instanceTypes := #[(.array .int), .int, .boolean]
  staticTypes := #[]
  resolved := Array.replicate 105 none
  statics := none }

def pool3 : Array CpInfo := pool [(1, u "java/lang/Cloneable"), (0, .class_ 1), (0, u "java/lang/Object"), (0, .class_ 3)] 3

/-- java/lang/Cloneable -/
def k3 : Class := { plain "java/lang/Cloneable" (some 0) with
  accessFlags := 1537
  interfaces := #[]
  cf := some (fileOf pool3 2 #[] #[] 1537 4 #[] #[])
  fields := #[]
  methods := #[]
  instanceTypes := #[]
  staticTypes := #[]
  resolved := Array.replicate 8 none
  statics := none }

def pool4 : Array CpInfo := pool [(1, u "java/io/Serializable"), (0, .class_ 1), (0, u "java/lang/Object"), (0, .class_ 3)] 3

/-- java/io/Serializable -/
def k4 : Class := { plain "java/io/Serializable" (some 0) with
  accessFlags := 1537
  interfaces := #[]
  cf := some (fileOf pool4 2 #[] #[] 1537 4 #[] #[])
  fields := #[]
  methods := #[]
  instanceTypes := #[]
  staticTypes := #[]
  resolved := Array.replicate 8 none
  statics := none }

/-- the primitive byte -/
def k5 : Class := { plain "byte" none with kind := .primitive 'B', accessFlags := 0x411 }
/-- [B -/
def k6 : Class := { plain "[B" (some 0) with kind := .array 5 .byte, interfaces := #[3, 4], accessFlags := 1041 }

/-- the primitive int -/
def k7 : Class := { plain "int" none with kind := .primitive 'I', accessFlags := 0x411 }
/-- [I -/
def k8 : Class := { plain "[I" (some 0) with kind := .array 7 .int, interfaces := #[3, 4], accessFlags := 1041 }

def heap : Heap := #[]
def classes : Array Class := #[k0, k1, k2, k3, k4, k5, k6, k7, k8]
def interned : List (Array UInt16 × Addr) := []
def slotsUsed : Nat := 0
def theMethod : MethodId := ⟨1, 4⟩
def args0 : Array Value := #[.int 5, .int 7, .int 3, .int 9, .int 2]
def aboutOver (below : List Frame) : State where
  vm := { classes := classes, interned := interned.toArray }
  heap := heap
  slotsUsed := slotsUsed
  threads := #[{ frames := .invoking theMethod args0 :: below }]
def below0 : List Frame := [.native { method := ⟨0, 0⟩, args := #[] }]
def about1 : State := aboutOver below0
def p0 : Program := .bare "" "" ""
def e0 : Env := launch0.env 0 0 0
theorem w_frames : about1.frames = Frame.invoking theMethod args0 :: below0 := rfl
set_option maxRecDepth 65536 in
theorem w_args : argsFit about1.vm theMethod args0 = true := by decide +kernel
set_option maxRecDepth 65536 in
theorem w_heap : heapFits about1 = true := by decide +kernel
set_option maxRecDepth 65536 in
theorem w_runnable : about1.curStatus? = some .runnable := by decide +kernel
set_option maxRecDepth 65536 in
theorem w_alone : about1.alone = true := by decide +kernel
set_option maxRecDepth 65536 in
theorem w_named : about1.methodNamed? x = some theMethod := by decide +kernel
set_option maxRecDepth 65536 in
theorem w_hears : about1.hears theMethod below0 = true := by decide +kernel
set_option maxRecDepth 65536 in
theorem w_ripe : about1.ripe theMethod args0 below0 = true := by decide +kernel
theorem w_running : about1.status = .running := rfl
set_option maxRecDepth 65536 in
theorem w_room : about1.hasRoom e0.platform room_1 = true :=
  launch0.hasRoom_least _ room_1 (by decide +kernel) (by decide +kernel) (by decide +kernel) (by decide +kernel) (by decide +kernel) (by decide +kernel)
theorem allAtoms_all (ts : List Jvm.Cond) (a : Array Jvm.Value) (st : Jvm.State) : (allAtoms ts).before a st = ts.all (fun c => c.before a st) := by
  induction ts with
  | nil => rfl
  | cons c t ih =>
    show (Jvm.Cond.and c (allAtoms t)).before a st = _
    rw [Jvm.Cond.before_and, ih, List.all_cons]
def words1 : List Jvm.Cond := Jvm.Cond.code x code maxLocals ret :: tables_1
/-- a 'code' word, met by the world's own term for the bytes: nothing is compared byte by byte -/
theorem code_word {y : MethodName} {bytes : ByteArray} {mx : Nat} {rt : Option FieldType} {a : Array Value} {s : State} {m : MethodId} {meth : Method} {c : Code} (h1 : s.methodNamed? y = some m) (h2 : s.vm.method? m = some meth) (h3 : meth.code = some c) (h4 : c.code = bytes)
    (h5 : (c.maxLocals == mx && c.exceptionTable.isEmpty && decide (c.maxStack ≤ mostOperands) && decide (meth.sig.returnType = rt) && !meth.locks && decide (parseMethodDescriptor y.desc = some meth.sig)) = true) : (Jvm.Cond.code y bytes mx rt).before a s = true := by
  simp only [Bool.and_eq_true, beq_iff_eq, Bool.not_eq_true', decide_eq_true_eq] at h5
  obtain ⟨⟨⟨⟨⟨g1, g2⟩, g3⟩, g4⟩, g5⟩, g6⟩ := h5
  simp [Cond.before, Cond.holds, Cond.value, h1, h2, h3, h4, g1, g2, g3, g4, g5, g6]
def isCode : Jvm.Cond → Bool
  | .code _ _ _ _ => true
  | _ => false
theorem all_split {L : List Jvm.Cond} {P : Jvm.Cond → Bool} (h1 : L.all (fun c => isCode c || P c) = true) (h2 : ∀ c ∈ L.filter isCode, P c = true) : L.all P = true := by
  refine List.all_eq_true.mpr fun c hc => ?_
  have h := List.all_eq_true.mp h1 c hc
  rcases Bool.eq_false_or_eq_true (isCode c) with hi | hi
  · exact h2 c (List.mem_filter.mpr ⟨hc, hi⟩)
  · simpa [hi] using h
set_option maxRecDepth 65536 in
theorem w_c0 : (Jvm.Cond.code x code maxLocals ret).before args0 about1 = true := code_word (m := ⟨1, 4⟩) (meth := k1m4) (c := k1c4) (by decide +kernel) rfl rfl rfl (by decide +kernel)
set_option maxRecDepth 65536 in
theorem w_c1 : (Jvm.Cond.code ({ cls := "com/example/tuplewise/tuplewise/engine/ParameterSetsAdvancePinLaw", name := "gap", desc := "(I)I" } : Jvm.MethodName) method_2_code (1 : Nat) (Option.some Jvm.ClassFile.FieldType.int)).before args0 about1 = true := code_word (m := ⟨1, 1⟩) (meth := k1m1) (c := k1c1) (by decide +kernel) rfl rfl rfl (by decide +kernel)
set_option maxRecDepth 65536 in
theorem w_c2 : (Jvm.Cond.code ({ cls := "com/example/tuplewise/tuplewise/engine/ParameterSetsAdvancePinLaw", name := "expectedIndex", desc := "(IIIII)I" } : Jvm.MethodName) method_3_code (5 : Nat) (Option.some Jvm.ClassFile.FieldType.int)).before args0 about1 = true := code_word (m := ⟨1, 2⟩) (meth := k1m2) (c := k1c2) (by decide +kernel) rfl rfl rfl (by decide +kernel)
set_option maxRecDepth 65536 in
theorem w_c3 : (Jvm.Cond.code ({ cls := "com/example/tuplewise/tuplewise/engine/ParameterSets", name := "advance", desc := "([II)I" } : Jvm.MethodName) prog_23_method_13_code (4 : Nat) (Option.some Jvm.ClassFile.FieldType.int)).before args0 about1 = true := code_word (m := ⟨2, 0⟩) (meth := k2m0) (c := k2c0) (by decide +kernel) rfl rfl rfl (by decide +kernel)
set_option maxRecDepth 65536 in
theorem w_c4 : (Jvm.Cond.code ({ cls := "com/example/tuplewise/tuplewise/engine/ParameterSetsAdvancePinLaw", name := "expect", desc := "(IIII)I" } : Jvm.MethodName) method_4_code (4 : Nat) (Option.some Jvm.ClassFile.FieldType.int)).before args0 about1 = true := code_word (m := ⟨1, 3⟩) (meth := k1m3) (c := k1c3) (by decide +kernel) rfl rfl rfl (by decide +kernel)
def codes1 : List Jvm.Cond := [Jvm.Cond.code x code maxLocals ret, Jvm.Cond.code ({ cls := "com/example/tuplewise/tuplewise/engine/ParameterSetsAdvancePinLaw", name := "gap", desc := "(I)I" } : Jvm.MethodName) method_2_code (1 : Nat) (Option.some Jvm.ClassFile.FieldType.int), Jvm.Cond.code ({ cls := "com/example/tuplewise/tuplewise/engine/ParameterSetsAdvancePinLaw", name := "expectedIndex", desc := "(IIIII)I" } : Jvm.MethodName) method_3_code (5 : Nat) (Option.some Jvm.ClassFile.FieldType.int), Jvm.Cond.code ({ cls := "com/example/tuplewise/tuplewise/engine/ParameterSets", name := "advance", desc := "([II)I" } : Jvm.MethodName) prog_23_method_13_code (4 : Nat) (Option.some Jvm.ClassFile.FieldType.int), Jvm.Cond.code ({ cls := "com/example/tuplewise/tuplewise/engine/ParameterSetsAdvancePinLaw", name := "expect", desc := "(IIII)I" } : Jvm.MethodName) method_4_code (4 : Nat) (Option.some Jvm.ClassFile.FieldType.int)]
set_option maxRecDepth 65536 in
theorem codes_eq : words1.filter isCode = codes1 := rfl
theorem w_codes : ∀ c ∈ words1.filter isCode, c.before args0 about1 = true := by
  rw [codes_eq]
  intro c hc
  simp only [codes1, List.mem_cons, List.not_mem_nil, or_false] at hc
  rcases hc with rfl | rfl | rfl | rfl | rfl
  · exact w_c0
  · exact w_c1
  · exact w_c2
  · exact w_c3
  · exact w_c4
set_option maxRecDepth 65536 in
theorem w_t1 : words1.all (fun c => isCode c || c.before args0 about1) = true := by decide +kernel
theorem w_tables : (allAtoms (Jvm.Cond.code x code maxLocals ret :: tables_1)).before args0 about1 = true := by
  rw [allAtoms_all]
  show words1.all (fun c => c.before args0 about1) = true
  refine all_split ?_ w_codes
  rw [w_t1]
set_option maxRecDepth 65536 in
theorem w_case : (Jvm.Cond.and given_1 narrow_1).before args0 about1 = true := by decide +kernel
theorem w_applies : (headSpec (Jvm.Cond.code x code maxLocals ret :: tables_1) room_1).applies x e0.platform about1 = true :=
  (Spec.applies_iff w_frames).mpr ⟨w_running, w_runnable, w_alone, w_named, w_hears, w_ripe, w_room, w_tables⟩
theorem atStart : AtStart classFile x code maxLocals ret World_1 tables_1 room_1 Calls_1 rest_1 Pre_1 launch0 p0 e0 about1 theMethod args0 below0 :=
  ⟨lists_1, trivial, launch0.admits_env _ _ _, launch0.least_env, fairChoices_fair.cas, fairChoices_fair.clock, w_frames, w_args, w_heap, w_applies, trivial, trivial, w_case⟩
end start1
theorem witness_1 : WitnessClaimed_1 := ⟨start1.p0, start1.e0, start1.about1, start1.theMethod, start1.args0, start1.below0, start1.atStart⟩
end Jvm.Pilot.@@N@@
