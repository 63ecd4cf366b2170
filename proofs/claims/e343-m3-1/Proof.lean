import JvmDerived
import JvmDerived.Pilot.@@N@@Statement
import JvmDerived.Pilot.@@N@@Code
set_option linter.unusedVariables false
set_option linter.unusedSimpArgs false
namespace Jvm.Pilot.@@N@@
open Jvm Jvm.ClassFile Sem Op Lib Jvm.Free Jvm.Stand Jvm.LawKit Jvm.RoadKit Bundle Jvm.Pilot.@@N@@.Jvm.D
abbrev o_K : Type := Program × Launch × Env × Room × State × MethodId × Array Value × List Frame × Method × Code × State × Nat
/-- from heap h, with k cells and n slots made so far, at pc with locals Ls and stack St, the invocation comes to its end, and Q holds of what it returns and of the heap -/
def o_Go (κ : o_K) (Q : Option Value → Heap → Prop) (h : Heap) (k n pc : Nat) (Ls : List Slot) (St : List Value) : Prop :=
  match κ with
  | (p, l, e, R, s, m, args, below, meth, c, Z, n0) =>
    ∀ (T : State) (locs : List Loc), Stand p l e R s m args below meth c T locs k n → Fr n0 locs → T.heap = h →
      ∃ (s₂ : State) (o : Outcome), Steps p.tables e below (T.setTop (mkF m pc Ls.toArray St)) s₂ ∧ s₂.status = .running ∧ Ended s₂ below o ∧
        ∃ v L, o = .returned v ∧ (Q v s₂.heap ∧ Fr n0 L) ∧ FrameEnd s o s₂ L R.cells R.slots
/-- the standing facts of one invocation of y -/
def o_Bo (κ : o_K) (l : Launch) (Z : State) (n0 : Nat) (R : Room) (y : MethodName) (bytes : ByteArray) (ml : Nat) (ret : Option FieldType) : Prop :=
  ∃ (p : Program) (e : Env) (s : State) (m : MethodId) (args : Array Value) (below : List Frame) (meth : Method) (c : Code), κ = (p, l, e, R, s, m, args, below, meth, c, Z, n0) ∧ p.tables.exec = Jvm.exec ∧ Z.Warmed39 s.vm ∧ c.code = bytes ∧ c.maxLocals = ml ∧ s.vm.findClass y.cls = some m.cls ∧ meth.sig.returnType = ret ∧ meth.locks = false ∧ meth.name = y.name
/-- the contract of y at the arguments 'as' and the heap h -/
def o_C (l : Launch) (Z : State) (n0 : Nat) (y : MethodName) (bytes : ByteArray) (ml : Nat) (ret : Option FieldType) (rm : Room) (as : List Value) (h : Heap) (Q : Option Value → Heap → Prop) : Prop :=
  ∀ ws : List Jvm.Cond, MetFree l y (head1 (Jvm.Cond.code y bytes ml ret :: ws) rm) (fun a U => a = as.toArray ∧ Z.Warmed39 U.vm ∧ U.heap = h) (fun _ _ _ _ _ => True) (fun _ U o U' => ∃ v L, o = .returned v ∧ (Q v U'.heap ∧ Fr n0 L) ∧ FrameEnd U o U' L rm.cells rm.slots)
theorem o_lt {a b : Nat} (h : a < b) : a < b := h
theorem o_le {a b : Nat} (h : a ≤ b) : a ≤ b := h
theorem o_ne {a b : Nat} (h : a ≠ b) : a ≠ b := h
section Fw
variable {κ : o_K} {l : Launch} {Z : State} {n0 : Nat} {R : Room} {y : MethodName} {bytes : ByteArray} {ml : Nat} {ret : Option FieldType} {Q : Option Value → Heap → Prop} {h : Heap} {k n pc : Nat} {Ls : List Slot} {St : List Value} {a0 : Array Value}
theorem o_body {rm : Room} {as : List Value} (hpn : plainFor y = true) (hef : argsToLocals as.toArray ml = Ls.toArray) (H : ∀ κ, o_Bo κ l Z n0 rm y bytes ml ret → o_Go κ Q h 0 0 0 Ls []) : o_C l Z n0 y bytes ml ret rm as h Q := by
  intro ws
  refine MetFree.of_bodySF hpn hisR ?_
  intro p e s m args below meth c s₁ Bd hml0 hP hK
  obtain ⟨rfl, hZ, hh⟩ := hP
  have X0 : Stand p l e rm s m as.toArray below meth c s₁ [] 0 0 := Stand.of_body Bd
  have e0 : s₁.heap = h := by rw [← hh, Bd.state]; rfl
  have hown := findClass_of_methodNamed Bd.named
  have hnm := (name_of_methodNamed Bd.named Bd.method).1
  obtain ⟨s₂, o, st, r1, r2, v, L, rfl, ⟨q, N⟩, fe⟩ := H (p, l, e, rm, s, m, as.toArray, below, meth, c, Z, n0) ⟨p, e, s, m, _, below, meth, c, rfl, Bd.exec, hZ, Bd.bytes, hml0, hown, Bd.returns, Bd.notSynchronized, hnm⟩ s₁ [] X0 (Fr.nil _) e0
  refine ⟨s₂, _, ?_, r1, r2, v, L, rfl, ⟨q, N⟩, fe⟩
  exact castTop (g' := mkF m 0 Ls.toArray []) (by unfold entryFrame; rw [hef]) st
theorem o_C.imp {rm : Room} {as : List Value} {Q' : Option Value → Heap → Prop} (C : o_C l Z n0 y bytes ml ret rm as h Q) (H : ∀ v h', Q v h' → Q' v h') : o_C l Z n0 y bytes ml ret rm as h Q' := by
  intro ws p e ha hc hk s m args below hf happ hP hK
  obtain ⟨n, o, h1, h2, h3, v, L, e1, ⟨q, N⟩, fe⟩ := C ws p e ha hc hk s m args below hf happ hP hK
  exact ⟨n, o, h1, h2, h3, v, L, e1, ⟨H _ _ q, N⟩, fe⟩
theorem o_imp {Q' : Option Value → Heap → Prop} (H : ∀ v h', Q v h' → Q' v h') (G : o_Go κ Q h k n pc Ls St) : o_Go κ Q' h k n pc Ls St := by
  obtain ⟨p, l, e, R, s, m, args, below, meth, c, Z, n0⟩ := κ
  intro T locs X N eT
  obtain ⟨s₂, o, st, r1, r2, v, L, e1, ⟨q, N⟩, fe⟩ := G T locs X N eT
  exact ⟨s₂, o, st, r1, r2, v, L, e1, ⟨H _ _ q, N⟩, fe⟩
theorem o_mono {k' n' : Nat} (hk : k ≤ k') (hn : n ≤ n') (G : o_Go κ Q h k' n' pc Ls St) : o_Go κ Q h k n pc Ls St := by
  obtain ⟨p, l, e, R, s, m, args, below, meth, c, Z, n0⟩ := κ
  intro T locs X N eT
  exact G T locs (X.more hk hn) N eT
theorem o_sim (B : o_Bo κ l Z n0 R y bytes ml ret) {pc' : Nat} {Ls' : List Slot} {St' : List Value} (f : ∀ (p : Program) (e : Env) (m : MethodId) (below : List Frame) (c : Code) (T target : State), At T m c below → p.tables.exec = Jvm.exec → c.code = bytes → Steps p.tables e below (T.setTop (mkF m pc' Ls'.toArray St')) target → Steps p.tables e below (T.setTop (mkF m pc Ls.toArray St)) target) (K : o_Go κ Q h k n pc' Ls' St') : o_Go κ Q h k n pc Ls St := by
  obtain ⟨p, e, s, m, args, below, meth, c, rfl, hx, hZ, hby, hml, hown, hret, hlk, hnm⟩ := B
  intro T locs X N eT
  obtain ⟨s₂, o, st, r⟩ := K T locs X N eT
  exact ⟨s₂, o, f p e m below c T s₂ X.here hx hby st, r⟩
theorem o_get {i : Nat} {x : Slot} (hl : Ls[i]? = some x) : Ls.toArray[i]? = some x := by simpa using hl
def o_ok1 : Slot → Bool
  | .unset => true
  | .val w => w.category == 1
  | .second => false
theorem o_ok1_spec {o : Slot} (ho : o_ok1 o = true) : o = .unset ∨ ∃ w, o = .val w ∧ w.category = 1 := by
  cases o <;> simp [o_ok1] at ho ⊢; exact ho
theorem o_store1 {i : Nat} {o : Slot} {v : Value} (hold : Ls[i]? = some o) (ho : o_ok1 o = true) (hv : v.category = 1) : storeLocals Ls.toArray i v = some (Ls.set i (.val v)).toArray := by
  rw [XS.store1 (o_get hold) (o_ok1_spec ho) hv]; simp
def o_okl : Slot → Slot → Bool
  | .second, _ => false
  | _, .val w => w.category == 1
  | _, _ => true
theorem o_storel {i : Nat} {o o' : Slot} {v : Value} (hold : Ls[i]? = some o) (hold' : Ls[i + 1]? = some o') (ho : o_okl o o' = true) (hv : v.category = 2) : storeLocals Ls.toArray i v = some ((Ls.set i (.val v)).set (i + 1) .second).toArray := by
  obtain ⟨hi, hget⟩ := List.getElem?_eq_some_iff.mp hold
  obtain ⟨hi', hget'⟩ := List.getElem?_eq_some_iff.mp hold'
  have hne : i ≠ i + 1 := by omega
  have hne' : i + 1 ≠ i := by omega
  cases o with
  | second => simp [o_okl] at ho
  | unset =>
    cases o' with
    | val w =>
      have hw : w.category = 1 := by simpa [o_okl] using ho
      simp [storeLocals, storeSelf, setAt, hi, hi', hget, hget', hv, hw, List.getElem?_set, hne, hold, hold']
    | _ => simp [storeLocals, storeSelf, setAt, hi, hi', hget, hget', hv, List.getElem?_set, hne, hold, hold']
  | val u =>
    by_cases hu : u.category = 2
    · cases o' with
      | val w =>
        have hw : w.category = 1 := by simpa [o_okl] using ho
        simp [storeLocals, storeSelf, setAt, hi, hi', hget, hget', hv, hu, hw, List.getElem?_set, hne, hne', hold, hold', List.set_comm _ _ hne', List.set_set]
      | _ => simp [storeLocals, storeSelf, setAt, hi, hi', hget, hget', hv, hu, List.getElem?_set, hne, hne', hold, hold', List.set_comm _ _ hne', List.set_set]
    · cases o' with
      | val w =>
        have hw : w.category = 1 := by simpa [o_okl] using ho
        simp [storeLocals, storeSelf, setAt, hi, hi', hget, hget', hv, hu, hw, List.getElem?_set, hne, hold, hold']
      | _ => simp [storeLocals, storeSelf, setAt, hi, hi', hget, hget', hv, hu, List.getElem?_set, hne, hold, hold']
theorem o_iloadN (B : o_Bo κ l Z n0 R y bytes ml ret) {i : Fin 4} {x : Int32} (hd : decode bytes pc = .ok (.iload_n i, 1)) (hl : Ls[i.val]? = some (.val (.int x))) (K : o_Go κ Q h k n (pc + 1) Ls (.int x :: St)) : o_Go κ Q h k n pc Ls (St) := o_sim B (fun p e m below c T target X hx hby st => XS.iloadN X hx rfl (hb hby hd) (o_get hl) st) K
theorem o_iload (B : o_Bo κ l Z n0 R y bytes ml ret) {i : Nat} {x : Int32} (hd : decode bytes pc = .ok (.iload i, 2)) (hl : Ls[i]? = some (.val (.int x))) (K : o_Go κ Q h k n (pc + 2) Ls (.int x :: St)) : o_Go κ Q h k n pc Ls (St) := o_sim B (fun p e m below c T target X hx hby st => XS.iload X hx rfl (hb hby hd) (o_get hl) st) K
theorem o_lloadN (B : o_Bo κ l Z n0 R y bytes ml ret) {i : Fin 4} {x : Int64} (hd : decode bytes pc = .ok (.lload_n i, 1)) (hl : Ls[i.val]? = some (.val (.long x))) (K : o_Go κ Q h k n (pc + 1) Ls (.long x :: St)) : o_Go κ Q h k n pc Ls (St) := o_sim B (fun p e m below c T target X hx hby st => XT.lloadN X hx rfl (hb hby hd) (o_get hl) st) K
theorem o_lload (B : o_Bo κ l Z n0 R y bytes ml ret) {i : Nat} {x : Int64} (hd : decode bytes pc = .ok (.lload i, 2)) (hl : Ls[i]? = some (.val (.long x))) (K : o_Go κ Q h k n (pc + 2) Ls (.long x :: St)) : o_Go κ Q h k n pc Ls (St) := o_sim B (fun p e m below c T target X hx hby st => XT.lload X hx rfl (hb hby hd) (o_get hl) st) K
theorem o_aloadN (B : o_Bo κ l Z n0 R y bytes ml ret) {i : Fin 4} {v : Value} (hd : decode bytes pc = .ok (.aload_n i, 1)) (hl : Ls[i.val]? = some (.val v)) (hv : v.isRef = true) (K : o_Go κ Q h k n (pc + 1) Ls (v :: St)) : o_Go κ Q h k n pc Ls (St) := o_sim B (fun p e m below c T target X hx hby st => XS.aloadN X hx rfl (hb hby hd) (o_get hl) hv st) K
theorem o_aload (B : o_Bo κ l Z n0 R y bytes ml ret) {i : Nat} {v : Value} (hd : decode bytes pc = .ok (.aload i, 2)) (hl : Ls[i]? = some (.val v)) (hv : v.isRef = true) (K : o_Go κ Q h k n (pc + 2) Ls (v :: St)) : o_Go κ Q h k n pc Ls (St) := o_sim B (fun p e m below c T target X hx hby st => XS.aload X hx rfl (hb hby hd) (o_get hl) hv st) K
theorem o_istoreN (B : o_Bo κ l Z n0 R y bytes ml ret) {i : Fin 4} {x : Int32} {o : Slot} (hd : decode bytes pc = .ok (.istore_n i, 1)) (hold : Ls[i.val]? = some o) (ho : o_ok1 o = true) (K : o_Go κ Q h k n (pc + 1) (Ls.set i.val (.val (.int x))) (St)) : o_Go κ Q h k n pc Ls (.int x :: St) := o_sim B (fun p e m below c T target X hx hby st => XS.istoreN X hx rfl (hb hby hd) rfl (o_store1 hold ho rfl) st) K
theorem o_istore (B : o_Bo κ l Z n0 R y bytes ml ret) {i : Nat} {x : Int32} {o : Slot} (hd : decode bytes pc = .ok (.istore i, 2)) (hold : Ls[i]? = some o) (ho : o_ok1 o = true) (K : o_Go κ Q h k n (pc + 2) (Ls.set i (.val (.int x))) (St)) : o_Go κ Q h k n pc Ls (.int x :: St) := o_sim B (fun p e m below c T target X hx hby st => XS.istore X hx rfl (hb hby hd) rfl (o_store1 hold ho rfl) st) K
theorem o_astoreN (B : o_Bo κ l Z n0 R y bytes ml ret) {i : Fin 4} {v : Value} {o : Slot} (hd : decode bytes pc = .ok (.astore_n i, 1)) (hv : v.isRef = true) (hold : Ls[i.val]? = some o) (ho : o_ok1 o = true) (K : o_Go κ Q h k n (pc + 1) (Ls.set i.val (.val v)) (St)) : o_Go κ Q h k n pc Ls (v :: St) := o_sim B (fun p e m below c T target X hx hby st => XS.astoreN X hx rfl (hb hby hd) rfl hv (o_store1 hold ho (by cases v <;> simp [Value.isRef] at hv <;> rfl)) st) K
theorem o_astore (B : o_Bo κ l Z n0 R y bytes ml ret) {i : Nat} {v : Value} {o : Slot} (hd : decode bytes pc = .ok (.astore i, 2)) (hv : v.isRef = true) (hold : Ls[i]? = some o) (ho : o_ok1 o = true) (K : o_Go κ Q h k n (pc + 2) (Ls.set i (.val v)) (St)) : o_Go κ Q h k n pc Ls (v :: St) := o_sim B (fun p e m below c T target X hx hby st => XS.astore X hx rfl (hb hby hd) rfl hv (o_store1 hold ho (by cases v <;> simp [Value.isRef] at hv <;> rfl)) st) K
theorem o_lstoreN (B : o_Bo κ l Z n0 R y bytes ml ret) {i : Fin 4} {x : Int64} {o o2 : Slot} (hd : decode bytes pc = .ok (.lstore_n i, 1)) (hold : Ls[i.val]? = some o) (hold2 : Ls[i.val + 1]? = some o2) (ho : o_okl o o2 = true) (K : o_Go κ Q h k n (pc + 1) ((Ls.set i.val (.val (.long x))).set (i.val + 1) .second) (St)) : o_Go κ Q h k n pc Ls (.long x :: St) := o_sim B (fun p e m below c T target X hx hby st => XT.lstoreN X hx rfl (hb hby hd) rfl (o_storel hold hold2 ho rfl) st) K
theorem o_lstore (B : o_Bo κ l Z n0 R y bytes ml ret) {i : Nat} {x : Int64} {o o2 : Slot} (hd : decode bytes pc = .ok (.lstore i, 2)) (hold : Ls[i]? = some o) (hold2 : Ls[i + 1]? = some o2) (ho : o_okl o o2 = true) (K : o_Go κ Q h k n (pc + 2) ((Ls.set i (.val (.long x))).set (i + 1) .second) (St)) : o_Go κ Q h k n pc Ls (.long x :: St) := o_sim B (fun p e m below c T target X hx hby st => XT.lstore X hx rfl (hb hby hd) rfl (o_storel hold hold2 ho rfl) st) K
theorem o_iinc (B : o_Bo κ l Z n0 R y bytes ml ret) {i : Nat} {cst : Int} {x : Int32} (v : Int32) (hd : decode bytes pc = .ok (.iinc i cst, 3)) (hv : Int32.ofInt cst = v) (hl : Ls[i]? = some (.val (.int x))) (K : o_Go κ Q h k n (pc + 3) (Ls.set i (.val (.int (x + v)))) (St)) : o_Go κ Q h k n pc Ls (St) := o_sim B (fun p e m below c T target X hx hby st => XT.iincV X hx rfl v (hb hby hd) hv (o_get hl) (o_store1 hl rfl rfl) st) K
theorem o_iconst (B : o_Bo κ l Z n0 R y bytes ml ret) {i : Int} (v : Int32) (hd : decode bytes pc = .ok (.iconst i, 1)) (hv : Int32.ofInt i = v) (K : o_Go κ Q h k n (pc + 1) Ls (.int v :: St)) : o_Go κ Q h k n pc Ls (St) := o_sim B (fun p e m below c T target X hx hby st => XT.iconstV X hx rfl v (hb hby hd) hv st) K
theorem o_bipush (B : o_Bo κ l Z n0 R y bytes ml ret) {i : Int} (v : Int32) (hd : decode bytes pc = .ok (.bipush i, 2)) (hv : (Int8.ofInt i).toInt32 = v) (K : o_Go κ Q h k n (pc + 2) Ls (.int v :: St)) : o_Go κ Q h k n pc Ls (St) := o_sim B (fun p e m below c T target X hx hby st => XT.bipushV X hx rfl v (hb hby hd) hv st) K
theorem o_sipush (B : o_Bo κ l Z n0 R y bytes ml ret) {i : Int} (v : Int32) (hd : decode bytes pc = .ok (.sipush i, 3)) (hv : (Int16.ofInt i).toInt32 = v) (K : o_Go κ Q h k n (pc + 3) Ls (.int v :: St)) : o_Go κ Q h k n pc Ls (St) := o_sim B (fun p e m below c T target X hx hby st => XT.sipushV X hx rfl v (hb hby hd) hv st) K
theorem o_lconst (B : o_Bo κ l Z n0 R y bytes ml ret) {i : Fin 2} (v : Int64) (hd : decode bytes pc = .ok (.lconst i, 1)) (hv : Int64.ofNat i = v) (K : o_Go κ Q h k n (pc + 1) Ls (.long v :: St)) : o_Go κ Q h k n pc Ls (St) := o_sim B (fun p e m below c T target X hx hby st => XT.lconstV X hx rfl v (hb hby hd) hv st) K
theorem o_aconst_null (B : o_Bo κ l Z n0 R y bytes ml ret)  (hd : decode bytes pc = .ok (.aconst_null, 1)) (K : o_Go κ Q h k n (pc + 1) Ls (.null :: St)) : o_Go κ Q h k n pc Ls (St) := o_sim B (fun p e m below c T target X hx hby st => XS.aconstNull X hx rfl (hb hby hd) st) K
theorem o_iadd (B : o_Bo κ l Z n0 R y bytes ml ret) {x y : Int32} (hd : decode bytes pc = .ok (.iadd, 1)) (K : o_Go κ Q h k n (pc + 1) Ls (.int (x + y) :: St)) : o_Go κ Q h k n pc Ls (.int y :: .int x :: St) := o_sim B (fun p e m below c T target X hx hby st => XS.iadd X hx rfl (hb hby hd) rfl st) K
theorem o_isub (B : o_Bo κ l Z n0 R y bytes ml ret) {x y : Int32} (hd : decode bytes pc = .ok (.isub, 1)) (K : o_Go κ Q h k n (pc + 1) Ls (.int (x - y) :: St)) : o_Go κ Q h k n pc Ls (.int y :: .int x :: St) := o_sim B (fun p e m below c T target X hx hby st => XS.isub X hx rfl (hb hby hd) rfl st) K
theorem o_iand (B : o_Bo κ l Z n0 R y bytes ml ret) {x y : Int32} (hd : decode bytes pc = .ok (.iand, 1)) (K : o_Go κ Q h k n (pc + 1) Ls (.int (x &&& y) :: St)) : o_Go κ Q h k n pc Ls (.int y :: .int x :: St) := o_sim B (fun p e m below c T target X hx hby st => XS.iand X hx rfl (hb hby hd) rfl st) K
theorem o_imul (B : o_Bo κ l Z n0 R y bytes ml ret) {x y : Int32} (hd : decode bytes pc = .ok (.imul, 1)) (K : o_Go κ Q h k n (pc + 1) Ls (.int (x * y) :: St)) : o_Go κ Q h k n pc Ls (.int y :: .int x :: St) := o_sim B (fun p e m below c T target X hx hby st => XS.imul X hx rfl (hb hby hd) rfl st) K
theorem o_ior (B : o_Bo κ l Z n0 R y bytes ml ret) {x y : Int32} (hd : decode bytes pc = .ok (.ior, 1)) (K : o_Go κ Q h k n (pc + 1) Ls (.int (x ||| y) :: St)) : o_Go κ Q h k n pc Ls (.int y :: .int x :: St) := o_sim B (fun p e m below c T target X hx hby st => XT.ior X hx rfl (hb hby hd) rfl st) K
theorem o_ixor (B : o_Bo κ l Z n0 R y bytes ml ret) {x y : Int32} (hd : decode bytes pc = .ok (.ixor, 1)) (K : o_Go κ Q h k n (pc + 1) Ls (.int (x ^^^ y) :: St)) : o_Go κ Q h k n pc Ls (.int y :: .int x :: St) := o_sim B (fun p e m below c T target X hx hby st => XT.ixor X hx rfl (hb hby hd) rfl st) K
theorem o_ishl (B : o_Bo κ l Z n0 R y bytes ml ret) {x y : Int32} (hd : decode bytes pc = .ok (.ishl, 1)) (K : o_Go κ Q h k n (pc + 1) Ls (.int (x <<< (y &&& 31)) :: St)) : o_Go κ Q h k n pc Ls (.int y :: .int x :: St) := o_sim B (fun p e m below c T target X hx hby st => XT.ishl X hx rfl (hb hby hd) rfl st) K
theorem o_ishr (B : o_Bo κ l Z n0 R y bytes ml ret) {x y : Int32} (hd : decode bytes pc = .ok (.ishr, 1)) (K : o_Go κ Q h k n (pc + 1) Ls (.int (x >>> (y &&& 31)) :: St)) : o_Go κ Q h k n pc Ls (.int y :: .int x :: St) := o_sim B (fun p e m below c T target X hx hby st => XT.ishr X hx rfl (hb hby hd) rfl st) K
theorem o_iushr (B : o_Bo κ l Z n0 R y bytes ml ret) {x y : Int32} (hd : decode bytes pc = .ok (.iushr, 1)) (K : o_Go κ Q h k n (pc + 1) Ls (.int (XT.ushr x y) :: St)) : o_Go κ Q h k n pc Ls (.int y :: .int x :: St) := o_sim B (fun p e m below c T target X hx hby st => XT.iushr X hx rfl (hb hby hd) rfl st) K
theorem o_idiv (B : o_Bo κ l Z n0 R y bytes ml ret) {x y : Int32} (hd : decode bytes pc = .ok (.idiv, 1)) (hy : y ≠ 0) (K : o_Go κ Q h k n (pc + 1) Ls (.int (x / y) :: St)) : o_Go κ Q h k n pc Ls (.int y :: .int x :: St) := o_sim B (fun p e m below c T target X hx hby st => XS.idiv X hx rfl (hb hby hd) rfl hy st) K
theorem o_irem (B : o_Bo κ l Z n0 R y bytes ml ret) {x y : Int32} (hd : decode bytes pc = .ok (.irem, 1)) (hy : y ≠ 0) (K : o_Go κ Q h k n (pc + 1) Ls (.int (x % y) :: St)) : o_Go κ Q h k n pc Ls (.int y :: .int x :: St) := o_sim B (fun p e m below c T target X hx hby st => XS.irem X hx rfl (hb hby hd) rfl hy (by rw [irem_eq_mod]; exact st)) K
theorem o_ineg (B : o_Bo κ l Z n0 R y bytes ml ret) {x : Int32} (hd : decode bytes pc = .ok (.ineg, 1)) (K : o_Go κ Q h k n (pc + 1) Ls (.int (-x) :: St)) : o_Go κ Q h k n pc Ls (.int x :: St) := o_sim B (fun p e m below c T target X hx hby st => XS.ineg X hx rfl (hb hby hd) rfl st) K
theorem o_ladd (B : o_Bo κ l Z n0 R y bytes ml ret) {x y : Int64} (hd : decode bytes pc = .ok (.ladd, 1)) (K : o_Go κ Q h k n (pc + 1) Ls (.long (x + y) :: St)) : o_Go κ Q h k n pc Ls (.long y :: .long x :: St) := o_sim B (fun p e m below c T target X hx hby st => XT.ladd X hx rfl (hb hby hd) rfl st) K
theorem o_lsub (B : o_Bo κ l Z n0 R y bytes ml ret) {x y : Int64} (hd : decode bytes pc = .ok (.lsub, 1)) (K : o_Go κ Q h k n (pc + 1) Ls (.long (x - y) :: St)) : o_Go κ Q h k n pc Ls (.long y :: .long x :: St) := o_sim B (fun p e m below c T target X hx hby st => XT.lsub X hx rfl (hb hby hd) rfl st) K
theorem o_lmul (B : o_Bo κ l Z n0 R y bytes ml ret) {x y : Int64} (hd : decode bytes pc = .ok (.lmul, 1)) (K : o_Go κ Q h k n (pc + 1) Ls (.long (x * y) :: St)) : o_Go κ Q h k n pc Ls (.long y :: .long x :: St) := o_sim B (fun p e m below c T target X hx hby st => XT.lmul X hx rfl (hb hby hd) rfl st) K
theorem o_land (B : o_Bo κ l Z n0 R y bytes ml ret) {x y : Int64} (hd : decode bytes pc = .ok (.land, 1)) (K : o_Go κ Q h k n (pc + 1) Ls (.long (x &&& y) :: St)) : o_Go κ Q h k n pc Ls (.long y :: .long x :: St) := o_sim B (fun p e m below c T target X hx hby st => XT.land X hx rfl (hb hby hd) rfl st) K
theorem o_lor (B : o_Bo κ l Z n0 R y bytes ml ret) {x y : Int64} (hd : decode bytes pc = .ok (.lor, 1)) (K : o_Go κ Q h k n (pc + 1) Ls (.long (x ||| y) :: St)) : o_Go κ Q h k n pc Ls (.long y :: .long x :: St) := o_sim B (fun p e m below c T target X hx hby st => XT.lor X hx rfl (hb hby hd) rfl st) K
theorem o_lxor (B : o_Bo κ l Z n0 R y bytes ml ret) {x y : Int64} (hd : decode bytes pc = .ok (.lxor, 1)) (K : o_Go κ Q h k n (pc + 1) Ls (.long (x ^^^ y) :: St)) : o_Go κ Q h k n pc Ls (.long y :: .long x :: St) := o_sim B (fun p e m below c T target X hx hby st => XT.lxor X hx rfl (hb hby hd) rfl st) K
theorem o_lshl (B : o_Bo κ l Z n0 R y bytes ml ret) {x : Int64} {y : Int32} (hd : decode bytes pc = .ok (.lshl, 1)) (K : o_Go κ Q h k n (pc + 1) Ls (.long (x <<< (y.toInt64 &&& 63)) :: St)) : o_Go κ Q h k n pc Ls (.int y :: .long x :: St) := o_sim B (fun p e m below c T target X hx hby st => XT.lshl X hx rfl (hb hby hd) rfl st) K
theorem o_lshr (B : o_Bo κ l Z n0 R y bytes ml ret) {x : Int64} {y : Int32} (hd : decode bytes pc = .ok (.lshr, 1)) (K : o_Go κ Q h k n (pc + 1) Ls (.long (x >>> (y.toInt64 &&& 63)) :: St)) : o_Go κ Q h k n pc Ls (.int y :: .long x :: St) := o_sim B (fun p e m below c T target X hx hby st => XT.lshr X hx rfl (hb hby hd) rfl st) K
theorem o_lushr (B : o_Bo κ l Z n0 R y bytes ml ret) {x : Int64} {y : Int32} (hd : decode bytes pc = .ok (.lushr, 1)) (K : o_Go κ Q h k n (pc + 1) Ls (.long (XT.ushrL x y) :: St)) : o_Go κ Q h k n pc Ls (.int y :: .long x :: St) := o_sim B (fun p e m below c T target X hx hby st => XT.lushr X hx rfl (hb hby hd) rfl st) K
theorem o_ldiv (B : o_Bo κ l Z n0 R y bytes ml ret) {x y : Int64} (hd : decode bytes pc = .ok (.ldiv, 1)) (hy : y ≠ 0) (K : o_Go κ Q h k n (pc + 1) Ls (.long (x / y) :: St)) : o_Go κ Q h k n pc Ls (.long y :: .long x :: St) := o_sim B (fun p e m below c T target X hx hby st => XT.ldiv X hx rfl (hb hby hd) rfl hy st) K
theorem o_lrem (B : o_Bo κ l Z n0 R y bytes ml ret) {x y : Int64} (hd : decode bytes pc = .ok (.lrem, 1)) (hy : y ≠ 0) (K : o_Go κ Q h k n (pc + 1) Ls (.long (x - (x / y) * y) :: St)) : o_Go κ Q h k n pc Ls (.long y :: .long x :: St) := o_sim B (fun p e m below c T target X hx hby st => XT.lrem X hx rfl (hb hby hd) rfl hy st) K
theorem o_lneg (B : o_Bo κ l Z n0 R y bytes ml ret) {x : Int64} (hd : decode bytes pc = .ok (.lneg, 1)) (K : o_Go κ Q h k n (pc + 1) Ls (.long (-x) :: St)) : o_Go κ Q h k n pc Ls (.long x :: St) := o_sim B (fun p e m below c T target X hx hby st => XT.lneg X hx rfl (hb hby hd) rfl st) K
theorem o_i2l (B : o_Bo κ l Z n0 R y bytes ml ret) {x : Int32} (hd : decode bytes pc = .ok (.i2l, 1)) (K : o_Go κ Q h k n (pc + 1) Ls (.long x.toInt64 :: St)) : o_Go κ Q h k n pc Ls (.int x :: St) := o_sim B (fun p e m below c T target X hx hby st => XT.i2l X hx rfl (hb hby hd) rfl st) K
theorem o_l2i (B : o_Bo κ l Z n0 R y bytes ml ret) {x : Int64} (hd : decode bytes pc = .ok (.l2i, 1)) (K : o_Go κ Q h k n (pc + 1) Ls (.int x.toInt32 :: St)) : o_Go κ Q h k n pc Ls (.long x :: St) := o_sim B (fun p e m below c T target X hx hby st => XT.l2i X hx rfl (hb hby hd) rfl st) K
theorem o_lcmp (B : o_Bo κ l Z n0 R y bytes ml ret) {x y : Int64} (hd : decode bytes pc = .ok (.lcmp, 1)) (K : o_Go κ Q h k n (pc + 1) Ls (.int (XT.cmpL x y) :: St)) : o_Go κ Q h k n pc Ls (.long y :: .long x :: St) := o_sim B (fun p e m below c T target X hx hby st => XT.lcmp X hx rfl (hb hby hd) rfl st) K
theorem o_dup (B : o_Bo κ l Z n0 R y bytes ml ret) {v : Value} (hd : decode bytes pc = .ok (.dup, 1)) (hv : v.category = 1) (K : o_Go κ Q h k n (pc + 1) Ls (v :: v :: St)) : o_Go κ Q h k n pc Ls (v :: St) := o_sim B (fun p e m below c T target X hx hby st => XS.dup X hx rfl (hb hby hd) rfl hv st) K
theorem o_pop (B : o_Bo κ l Z n0 R y bytes ml ret) {v : Value} (hd : decode bytes pc = .ok (.pop, 1)) (hv : v.category = 1) (K : o_Go κ Q h k n (pc + 1) Ls (St)) : o_Go κ Q h k n pc Ls (v :: St) := o_sim B (fun p e m below c T target X hx hby st => XT.pop X hx rfl (hb hby hd) rfl hv st) K
theorem o_dup_x1 (B : o_Bo κ l Z n0 R y bytes ml ret) {v w : Value} (hd : decode bytes pc = .ok (.dup_x1, 1)) (hv : v.category = 1) (hw : w.category = 1) (K : o_Go κ Q h k n (pc + 1) Ls (v :: w :: v :: St)) : o_Go κ Q h k n pc Ls (v :: w :: St) := o_sim B (fun p e m below c T target X hx hby st => XT.dupX1 X hx rfl (hb hby hd) rfl hv hw st) K
theorem o_dup2 (B : o_Bo κ l Z n0 R y bytes ml ret) {v w : Value} (hd : decode bytes pc = .ok (.dup2, 1)) (hv : v.category = 1) (hw : w.category = 1) (K : o_Go κ Q h k n (pc + 1) Ls (v :: w :: v :: w :: St)) : o_Go κ Q h k n pc Ls (v :: w :: St) := o_sim B (fun p e m below c T target X hx hby st => XT.dup2 X hx rfl (hb hby hd) rfl hv hw st) K
theorem o_dup2L (B : o_Bo κ l Z n0 R y bytes ml ret) {x : Int64} (hd : decode bytes pc = .ok (.dup2, 1)) (K : o_Go κ Q h k n (pc + 1) Ls (.long x :: .long x :: St)) : o_Go κ Q h k n pc Ls (.long x :: St) := o_sim B (fun p e m below c T target X hx hby st => XT.dup2L X hx rfl (hb hby hd) rfl st) K
theorem o_goto (B : o_Bo κ l Z n0 R y bytes ml ret) {o : Int} {pc' : Nat} (hd : decode bytes pc = .ok (.goto o, 3)) (ho : 0 ≤ (pc : Int) + o) (hp : ((pc : Int) + o).toNat = pc') (K : o_Go κ Q h k n pc' Ls St) : o_Go κ Q h k n pc Ls St := o_sim B (fun p e m below c T target X hx hby st => XS.goto X hx rfl (pc0 := pc) rfl (hb hby hd) ho hp st) K
theorem o_if_eq (B : o_Bo κ l Z n0 R y bytes ml ret) {o : Int} {pc' : Nat} {x : Int32} (hd : decode bytes pc = .ok (.ifCond .eq o, 3)) (ho : 0 ≤ (pc : Int) + o) (hp : ((pc : Int) + o).toNat = pc') (K1 : x = 0 → o_Go κ Q h k n pc' Ls St) (K2 : ¬ x = 0 → o_Go κ Q h k n (pc + 3) Ls St) : o_Go κ Q h k n pc Ls (.int x :: St) := by
  by_cases hc : x = 0
  · exact o_sim B (fun p e m below c T target X hx hby st => XS.ifYes X hx rfl (pc0 := pc) rfl (hb hby hd) rfl (XT.i0_eq_t hc) ho hp st) (K1 hc)
  · exact o_sim B (fun p e m below c T target X hx hby st => XS.ifNo X hx rfl (hb hby hd) rfl (XT.i0_eq_f hc) st) (K2 hc)
theorem o_icmp_eq (B : o_Bo κ l Z n0 R y bytes ml ret) {o : Int} {pc' : Nat} {x w : Int32} (hd : decode bytes pc = .ok (.if_icmp .eq o, 3)) (ho : 0 ≤ (pc : Int) + o) (hp : ((pc : Int) + o).toNat = pc') (K1 : x = w → o_Go κ Q h k n pc' Ls St) (K2 : ¬ x = w → o_Go κ Q h k n (pc + 3) Ls St) : o_Go κ Q h k n pc Ls (.int w :: .int x :: St) := by
  by_cases hc : x = w
  · exact o_sim B (fun p e m below c T target X hx hby st => XS.icmpYes X hx rfl (pc0 := pc) rfl (hb hby hd) rfl (XT.ii_eq_t hc) ho hp st) (K1 hc)
  · exact o_sim B (fun p e m below c T target X hx hby st => XS.icmpNo X hx rfl (hb hby hd) rfl (XT.ii_eq_f hc) st) (K2 hc)
theorem o_lif_eq (B : o_Bo κ l Z n0 R y bytes ml ret) {o : Int} {pc' : Nat} {x w : Int64} (hd : decode bytes pc = .ok (.ifCond .eq o, 3)) (ho : 0 ≤ (pc : Int) + o) (hp : ((pc : Int) + o).toNat = pc') (K1 : x = w → o_Go κ Q h k n pc' Ls St) (K2 : ¬ x = w → o_Go κ Q h k n (pc + 3) Ls St) : o_Go κ Q h k n pc Ls (.int (XT.cmpL x w) :: St) := by
  by_cases hc : x = w
  · exact o_sim B (fun p e m below c T target X hx hby st => XS.ifYes X hx rfl (pc0 := pc) rfl (hb hby hd) rfl (XT.ll_eq_t hc) ho hp st) (K1 hc)
  · exact o_sim B (fun p e m below c T target X hx hby st => XS.ifNo X hx rfl (hb hby hd) rfl (XT.ll_eq_f hc) st) (K2 hc)
theorem o_if_ne (B : o_Bo κ l Z n0 R y bytes ml ret) {o : Int} {pc' : Nat} {x : Int32} (hd : decode bytes pc = .ok (.ifCond .ne o, 3)) (ho : 0 ≤ (pc : Int) + o) (hp : ((pc : Int) + o).toNat = pc') (K1 : ¬ x = 0 → o_Go κ Q h k n pc' Ls St) (K2 : x = 0 → o_Go κ Q h k n (pc + 3) Ls St) : o_Go κ Q h k n pc Ls (.int x :: St) := by
  by_cases hc : x = 0
  · exact o_sim B (fun p e m below c T target X hx hby st => XS.ifNo X hx rfl (hb hby hd) rfl (XT.i0_ne_f hc) st) (K2 hc)
  · exact o_sim B (fun p e m below c T target X hx hby st => XS.ifYes X hx rfl (pc0 := pc) rfl (hb hby hd) rfl (XT.i0_ne_t hc) ho hp st) (K1 hc)
theorem o_icmp_ne (B : o_Bo κ l Z n0 R y bytes ml ret) {o : Int} {pc' : Nat} {x w : Int32} (hd : decode bytes pc = .ok (.if_icmp .ne o, 3)) (ho : 0 ≤ (pc : Int) + o) (hp : ((pc : Int) + o).toNat = pc') (K1 : ¬ x = w → o_Go κ Q h k n pc' Ls St) (K2 : x = w → o_Go κ Q h k n (pc + 3) Ls St) : o_Go κ Q h k n pc Ls (.int w :: .int x :: St) := by
  by_cases hc : x = w
  · exact o_sim B (fun p e m below c T target X hx hby st => XS.icmpNo X hx rfl (hb hby hd) rfl (XT.ii_ne_f hc) st) (K2 hc)
  · exact o_sim B (fun p e m below c T target X hx hby st => XS.icmpYes X hx rfl (pc0 := pc) rfl (hb hby hd) rfl (XT.ii_ne_t hc) ho hp st) (K1 hc)
theorem o_lif_ne (B : o_Bo κ l Z n0 R y bytes ml ret) {o : Int} {pc' : Nat} {x w : Int64} (hd : decode bytes pc = .ok (.ifCond .ne o, 3)) (ho : 0 ≤ (pc : Int) + o) (hp : ((pc : Int) + o).toNat = pc') (K1 : ¬ x = w → o_Go κ Q h k n pc' Ls St) (K2 : x = w → o_Go κ Q h k n (pc + 3) Ls St) : o_Go κ Q h k n pc Ls (.int (XT.cmpL x w) :: St) := by
  by_cases hc : x = w
  · exact o_sim B (fun p e m below c T target X hx hby st => XS.ifNo X hx rfl (hb hby hd) rfl (XT.ll_ne_f hc) st) (K2 hc)
  · exact o_sim B (fun p e m below c T target X hx hby st => XS.ifYes X hx rfl (pc0 := pc) rfl (hb hby hd) rfl (XT.ll_ne_t hc) ho hp st) (K1 hc)
theorem o_if_lt (B : o_Bo κ l Z n0 R y bytes ml ret) {o : Int} {pc' : Nat} {x : Int32} (hd : decode bytes pc = .ok (.ifCond .lt o, 3)) (ho : 0 ≤ (pc : Int) + o) (hp : ((pc : Int) + o).toNat = pc') (K1 : x < 0 → o_Go κ Q h k n pc' Ls St) (K2 : ¬ x < 0 → o_Go κ Q h k n (pc + 3) Ls St) : o_Go κ Q h k n pc Ls (.int x :: St) := by
  by_cases hc : x < 0
  · exact o_sim B (fun p e m below c T target X hx hby st => XS.ifYes X hx rfl (pc0 := pc) rfl (hb hby hd) rfl (XT.i0_lt_t hc) ho hp st) (K1 hc)
  · exact o_sim B (fun p e m below c T target X hx hby st => XS.ifNo X hx rfl (hb hby hd) rfl (XT.i0_lt_f hc) st) (K2 hc)
theorem o_icmp_lt (B : o_Bo κ l Z n0 R y bytes ml ret) {o : Int} {pc' : Nat} {x w : Int32} (hd : decode bytes pc = .ok (.if_icmp .lt o, 3)) (ho : 0 ≤ (pc : Int) + o) (hp : ((pc : Int) + o).toNat = pc') (K1 : x < w → o_Go κ Q h k n pc' Ls St) (K2 : ¬ x < w → o_Go κ Q h k n (pc + 3) Ls St) : o_Go κ Q h k n pc Ls (.int w :: .int x :: St) := by
  by_cases hc : x < w
  · exact o_sim B (fun p e m below c T target X hx hby st => XS.icmpYes X hx rfl (pc0 := pc) rfl (hb hby hd) rfl (XT.ii_lt_t hc) ho hp st) (K1 hc)
  · exact o_sim B (fun p e m below c T target X hx hby st => XS.icmpNo X hx rfl (hb hby hd) rfl (XT.ii_lt_f hc) st) (K2 hc)
theorem o_lif_lt (B : o_Bo κ l Z n0 R y bytes ml ret) {o : Int} {pc' : Nat} {x w : Int64} (hd : decode bytes pc = .ok (.ifCond .lt o, 3)) (ho : 0 ≤ (pc : Int) + o) (hp : ((pc : Int) + o).toNat = pc') (K1 : x < w → o_Go κ Q h k n pc' Ls St) (K2 : ¬ x < w → o_Go κ Q h k n (pc + 3) Ls St) : o_Go κ Q h k n pc Ls (.int (XT.cmpL x w) :: St) := by
  by_cases hc : x < w
  · exact o_sim B (fun p e m below c T target X hx hby st => XS.ifYes X hx rfl (pc0 := pc) rfl (hb hby hd) rfl (XT.ll_lt_t hc) ho hp st) (K1 hc)
  · exact o_sim B (fun p e m below c T target X hx hby st => XS.ifNo X hx rfl (hb hby hd) rfl (XT.ll_lt_f hc) st) (K2 hc)
theorem o_if_ge (B : o_Bo κ l Z n0 R y bytes ml ret) {o : Int} {pc' : Nat} {x : Int32} (hd : decode bytes pc = .ok (.ifCond .ge o, 3)) (ho : 0 ≤ (pc : Int) + o) (hp : ((pc : Int) + o).toNat = pc') (K1 : ¬ x < 0 → o_Go κ Q h k n pc' Ls St) (K2 : x < 0 → o_Go κ Q h k n (pc + 3) Ls St) : o_Go κ Q h k n pc Ls (.int x :: St) := by
  by_cases hc : x < 0
  · exact o_sim B (fun p e m below c T target X hx hby st => XS.ifNo X hx rfl (hb hby hd) rfl (XT.i0_ge_f hc) st) (K2 hc)
  · exact o_sim B (fun p e m below c T target X hx hby st => XS.ifYes X hx rfl (pc0 := pc) rfl (hb hby hd) rfl (XT.i0_ge_t hc) ho hp st) (K1 hc)
theorem o_icmp_ge (B : o_Bo κ l Z n0 R y bytes ml ret) {o : Int} {pc' : Nat} {x w : Int32} (hd : decode bytes pc = .ok (.if_icmp .ge o, 3)) (ho : 0 ≤ (pc : Int) + o) (hp : ((pc : Int) + o).toNat = pc') (K1 : ¬ x < w → o_Go κ Q h k n pc' Ls St) (K2 : x < w → o_Go κ Q h k n (pc + 3) Ls St) : o_Go κ Q h k n pc Ls (.int w :: .int x :: St) := by
  by_cases hc : x < w
  · exact o_sim B (fun p e m below c T target X hx hby st => XS.icmpNo X hx rfl (hb hby hd) rfl (XT.ii_ge_f hc) st) (K2 hc)
  · exact o_sim B (fun p e m below c T target X hx hby st => XS.icmpYes X hx rfl (pc0 := pc) rfl (hb hby hd) rfl (XT.ii_ge_t hc) ho hp st) (K1 hc)
theorem o_lif_ge (B : o_Bo κ l Z n0 R y bytes ml ret) {o : Int} {pc' : Nat} {x w : Int64} (hd : decode bytes pc = .ok (.ifCond .ge o, 3)) (ho : 0 ≤ (pc : Int) + o) (hp : ((pc : Int) + o).toNat = pc') (K1 : ¬ x < w → o_Go κ Q h k n pc' Ls St) (K2 : x < w → o_Go κ Q h k n (pc + 3) Ls St) : o_Go κ Q h k n pc Ls (.int (XT.cmpL x w) :: St) := by
  by_cases hc : x < w
  · exact o_sim B (fun p e m below c T target X hx hby st => XS.ifNo X hx rfl (hb hby hd) rfl (XT.ll_ge_f hc) st) (K2 hc)
  · exact o_sim B (fun p e m below c T target X hx hby st => XS.ifYes X hx rfl (pc0 := pc) rfl (hb hby hd) rfl (XT.ll_ge_t hc) ho hp st) (K1 hc)
theorem o_if_gt (B : o_Bo κ l Z n0 R y bytes ml ret) {o : Int} {pc' : Nat} {x : Int32} (hd : decode bytes pc = .ok (.ifCond .gt o, 3)) (ho : 0 ≤ (pc : Int) + o) (hp : ((pc : Int) + o).toNat = pc') (K1 : 0 < x → o_Go κ Q h k n pc' Ls St) (K2 : ¬ 0 < x → o_Go κ Q h k n (pc + 3) Ls St) : o_Go κ Q h k n pc Ls (.int x :: St) := by
  by_cases hc : 0 < x
  · exact o_sim B (fun p e m below c T target X hx hby st => XS.ifYes X hx rfl (pc0 := pc) rfl (hb hby hd) rfl (XT.i0_gt_t hc) ho hp st) (K1 hc)
  · exact o_sim B (fun p e m below c T target X hx hby st => XS.ifNo X hx rfl (hb hby hd) rfl (XT.i0_gt_f hc) st) (K2 hc)
theorem o_icmp_gt (B : o_Bo κ l Z n0 R y bytes ml ret) {o : Int} {pc' : Nat} {x w : Int32} (hd : decode bytes pc = .ok (.if_icmp .gt o, 3)) (ho : 0 ≤ (pc : Int) + o) (hp : ((pc : Int) + o).toNat = pc') (K1 : w < x → o_Go κ Q h k n pc' Ls St) (K2 : ¬ w < x → o_Go κ Q h k n (pc + 3) Ls St) : o_Go κ Q h k n pc Ls (.int w :: .int x :: St) := by
  by_cases hc : w < x
  · exact o_sim B (fun p e m below c T target X hx hby st => XS.icmpYes X hx rfl (pc0 := pc) rfl (hb hby hd) rfl (XT.ii_gt_t hc) ho hp st) (K1 hc)
  · exact o_sim B (fun p e m below c T target X hx hby st => XS.icmpNo X hx rfl (hb hby hd) rfl (XT.ii_gt_f hc) st) (K2 hc)
theorem o_lif_gt (B : o_Bo κ l Z n0 R y bytes ml ret) {o : Int} {pc' : Nat} {x w : Int64} (hd : decode bytes pc = .ok (.ifCond .gt o, 3)) (ho : 0 ≤ (pc : Int) + o) (hp : ((pc : Int) + o).toNat = pc') (K1 : w < x → o_Go κ Q h k n pc' Ls St) (K2 : ¬ w < x → o_Go κ Q h k n (pc + 3) Ls St) : o_Go κ Q h k n pc Ls (.int (XT.cmpL x w) :: St) := by
  by_cases hc : w < x
  · exact o_sim B (fun p e m below c T target X hx hby st => XS.ifYes X hx rfl (pc0 := pc) rfl (hb hby hd) rfl (XT.ll_gt_t hc) ho hp st) (K1 hc)
  · exact o_sim B (fun p e m below c T target X hx hby st => XS.ifNo X hx rfl (hb hby hd) rfl (XT.ll_gt_f hc) st) (K2 hc)
theorem o_if_le (B : o_Bo κ l Z n0 R y bytes ml ret) {o : Int} {pc' : Nat} {x : Int32} (hd : decode bytes pc = .ok (.ifCond .le o, 3)) (ho : 0 ≤ (pc : Int) + o) (hp : ((pc : Int) + o).toNat = pc') (K1 : ¬ 0 < x → o_Go κ Q h k n pc' Ls St) (K2 : 0 < x → o_Go κ Q h k n (pc + 3) Ls St) : o_Go κ Q h k n pc Ls (.int x :: St) := by
  by_cases hc : 0 < x
  · exact o_sim B (fun p e m below c T target X hx hby st => XS.ifNo X hx rfl (hb hby hd) rfl (XT.i0_le_f hc) st) (K2 hc)
  · exact o_sim B (fun p e m below c T target X hx hby st => XS.ifYes X hx rfl (pc0 := pc) rfl (hb hby hd) rfl (XT.i0_le_t hc) ho hp st) (K1 hc)
theorem o_icmp_le (B : o_Bo κ l Z n0 R y bytes ml ret) {o : Int} {pc' : Nat} {x w : Int32} (hd : decode bytes pc = .ok (.if_icmp .le o, 3)) (ho : 0 ≤ (pc : Int) + o) (hp : ((pc : Int) + o).toNat = pc') (K1 : ¬ w < x → o_Go κ Q h k n pc' Ls St) (K2 : w < x → o_Go κ Q h k n (pc + 3) Ls St) : o_Go κ Q h k n pc Ls (.int w :: .int x :: St) := by
  by_cases hc : w < x
  · exact o_sim B (fun p e m below c T target X hx hby st => XS.icmpNo X hx rfl (hb hby hd) rfl (XT.ii_le_f hc) st) (K2 hc)
  · exact o_sim B (fun p e m below c T target X hx hby st => XS.icmpYes X hx rfl (pc0 := pc) rfl (hb hby hd) rfl (XT.ii_le_t hc) ho hp st) (K1 hc)
theorem o_lif_le (B : o_Bo κ l Z n0 R y bytes ml ret) {o : Int} {pc' : Nat} {x w : Int64} (hd : decode bytes pc = .ok (.ifCond .le o, 3)) (ho : 0 ≤ (pc : Int) + o) (hp : ((pc : Int) + o).toNat = pc') (K1 : ¬ w < x → o_Go κ Q h k n pc' Ls St) (K2 : w < x → o_Go κ Q h k n (pc + 3) Ls St) : o_Go κ Q h k n pc Ls (.int (XT.cmpL x w) :: St) := by
  by_cases hc : w < x
  · exact o_sim B (fun p e m below c T target X hx hby st => XS.ifNo X hx rfl (hb hby hd) rfl (XT.ll_le_f hc) st) (K2 hc)
  · exact o_sim B (fun p e m below c T target X hx hby st => XS.ifYes X hx rfl (pc0 := pc) rfl (hb hby hd) rfl (XT.ll_le_t hc) ho hp st) (K1 hc)
theorem o_ifnull_N (B : o_Bo κ l Z n0 R y bytes ml ret) {o : Int} {pc' : Nat} (hd : decode bytes pc = .ok (.ifnull o, 3)) (ho : 0 ≤ (pc : Int) + o) (hp : ((pc : Int) + o).toNat = pc') (K : o_Go κ Q h k n pc' Ls St) : o_Go κ Q h k n pc Ls (.null :: St) := o_sim B (fun p e m below c T target X hx hby st => XS.ifnullYes X hx rfl (pc0 := pc) rfl (hb hby hd) rfl ho hp st) K
theorem o_ifnull_R (B : o_Bo κ l Z n0 R y bytes ml ret) {o : Int} {b : Addr} (hd : decode bytes pc = .ok (.ifnull o, 3)) (K : o_Go κ Q h k n (pc + 3) Ls St) : o_Go κ Q h k n pc Ls (.ref b :: St) := o_sim B (fun p e m below c T target X hx hby st => XS.ifnullNo X hx rfl (hb hby hd) rfl st) K
theorem o_ifnonnull_R (B : o_Bo κ l Z n0 R y bytes ml ret) {o : Int} {pc' : Nat} {b : Addr} (hd : decode bytes pc = .ok (.ifnonnull o, 3)) (ho : 0 ≤ (pc : Int) + o) (hp : ((pc : Int) + o).toNat = pc') (K : o_Go κ Q h k n pc' Ls St) : o_Go κ Q h k n pc Ls (.ref b :: St) := o_sim B (fun p e m below c T target X hx hby st => XT.ifnonnullYes X hx rfl (pc0 := pc) rfl (hb hby hd) rfl ho hp st) K
theorem o_ifnonnull_N (B : o_Bo κ l Z n0 R y bytes ml ret) {o : Int} (hd : decode bytes pc = .ok (.ifnonnull o, 3)) (K : o_Go κ Q h k n (pc + 3) Ls St) : o_Go κ Q h k n pc Ls (.null :: St) := o_sim B (fun p e m below c T target X hx hby st => XT.ifnonnullNo X hx rfl (hb hby hd) rfl st) K
theorem o_acmp_eq (B : o_Bo κ l Z n0 R y bytes ml ret) {o : Int} {pc' : Nat} {v w : Value} (hv : v.isRef = true) (hw : w.isRef = true) (hd : decode bytes pc = .ok (.if_acmp .eq o, 3)) (ho : 0 ≤ (pc : Int) + o) (hp : ((pc : Int) + o).toNat = pc') (K1 : v = w → o_Go κ Q h k n pc' Ls St) (K2 : ¬ v = w → o_Go κ Q h k n (pc + 3) Ls St) : o_Go κ Q h k n pc Ls (w :: v :: St) := by
  by_cases hc : v = w
  · exact o_sim B (fun p e m below c T target X hx hby st => XT.acmpYes X hx rfl (pc0 := pc) rfl (hb hby hd) rfl hv hw (by simp [XT.acmp, hc]) ho hp st) (K1 hc)
  · exact o_sim B (fun p e m below c T target X hx hby st => XT.acmpNo X hx rfl (hb hby hd) rfl hv hw (by simp [XT.acmp, hc]) st) (K2 hc)
theorem o_acmp_ne (B : o_Bo κ l Z n0 R y bytes ml ret) {o : Int} {pc' : Nat} {v w : Value} (hv : v.isRef = true) (hw : w.isRef = true) (hd : decode bytes pc = .ok (.if_acmp .ne o, 3)) (ho : 0 ≤ (pc : Int) + o) (hp : ((pc : Int) + o).toNat = pc') (K1 : ¬ v = w → o_Go κ Q h k n pc' Ls St) (K2 : v = w → o_Go κ Q h k n (pc + 3) Ls St) : o_Go κ Q h k n pc Ls (w :: v :: St) := by
  by_cases hc : v = w
  · exact o_sim B (fun p e m below c T target X hx hby st => XT.acmpNo X hx rfl (hb hby hd) rfl hv hw (by simp [XT.acmp, hc]) st) (K2 hc)
  · exact o_sim B (fun p e m below c T target X hx hby st => XT.acmpYes X hx rfl (pc0 := pc) rfl (hb hby hd) rfl hv hw (by simp [XT.acmp, hc]) ho hp st) (K1 hc)
theorem o_ldc (B : o_Bo κ l Z n0 R y bytes ml ret) {idx : Nat} {x : Int32} (hd : decode bytes pc = .ok (.ldc idx, 2)) (w : (Cond.constant y.cls idx x).before a0 Z = true) (K : o_Go κ Q h k n (pc + 2) Ls (.int x :: St)) : o_Go κ Q h k n pc Ls St := by
  obtain ⟨p, e, s, m, args, below, meth, c, rfl, hx, hZ, hby, hml, hown, hret, hlk, hnm⟩ := B
  intro T locs X N eT
  obtain ⟨s₂, o, st, r⟩ := K T locs X N eT
  exact ⟨s₂, o, Stand.ldcI X hx hown (mv hZ w) rfl (hb hby hd) st, r⟩
theorem o_ldc_w (B : o_Bo κ l Z n0 R y bytes ml ret) {idx : Nat} {x : Int32} (hd : decode bytes pc = .ok (.ldc_w idx, 3)) (w : (Cond.constant y.cls idx x).before a0 Z = true) (K : o_Go κ Q h k n (pc + 3) Ls (.int x :: St)) : o_Go κ Q h k n pc Ls St := by
  obtain ⟨p, e, s, m, args, below, meth, c, rfl, hx, hZ, hby, hml, hown, hret, hlk, hnm⟩ := B
  intro T locs X N eT
  obtain ⟨s₂, o, st, r⟩ := K T locs X N eT
  exact ⟨s₂, o, Stand.ldcWI X hx hown (mv hZ w) rfl (hb hby hd) st, r⟩
theorem o_ldc2_w (B : o_Bo κ l Z n0 R y bytes ml ret) {idx : Nat} {x : Int64} (hd : decode bytes pc = .ok (.ldc2_w idx, 3)) (w : (Cond.constantLong y.cls idx x).before a0 Z = true) (K : o_Go κ Q h k n (pc + 3) Ls (.long x :: St)) : o_Go κ Q h k n pc Ls St := by
  obtain ⟨p, e, s, m, args, below, meth, c, rfl, hx, hZ, hby, hml, hown, hret, hlk, hnm⟩ := B
  intro T locs X N eT
  obtain ⟨s₂, o, st, r⟩ := K T locs X N eT
  exact ⟨s₂, o, Stand.ldc2J X hx hown (mv hZ w) rfl (hb hby hd) st, r⟩
theorem o_out (B : o_Bo κ l Z n0 R y bytes ml ret) {v : Option Value} (hv : ret = none → v = none) (hk : k ≤ R.cells) (hn : n ≤ R.slots) (q : Q v h)
    (f : ∀ (p : Program) (e : Env) (s : State) (m : MethodId) (args : Array Value) (below : List Frame) (meth : Method) (c : Code) (T : State) (locs : List Loc), Stand p l e R s m args below meth c T locs k n → p.tables.exec = Jvm.exec → c.code = bytes → meth.sig.returnType = ret → ∀ fs : List Frame, (∀ (f : JFrame) (acts : List Action), f.method = m → f.locked = none → f.entered = [] → (doReturn e (T.setTop f) acts v).1 = T.setFrames fs) → Steps p.tables e below (T.setTop (mkF m pc Ls.toArray St)) (T.setFrames fs)) : o_Go κ Q h k n pc Ls St := by
  obtain ⟨p, e, s, m, args, below, meth, c, rfl, hx, hZ, hby, hml, hown, hret, hlk, hnm⟩ := B
  intro T locs X N eT
  obtain ⟨fs, hr, hrun, hended, hW, hsame⟩ := X.leave (v := v) (fun hh => hv (hret.symm.trans hh)) hlk
  refine ⟨_, _, f p e s m args below meth c T locs X hx hby hret fs hr, hrun, hended, _, _, rfl, ⟨?_, N⟩, ⟨_, rfl⟩, hW, hsame.mono hk hn⟩
  have e1 : (T.setFrames fs).heap = h := eT
  rw [e1]; exact q
theorem o_ireturn (B : o_Bo κ l Z n0 R y bytes ml (some .int)) {x : Int32} (hd : decode bytes pc = .ok (.ireturn, 1)) (hk : k ≤ R.cells) (hn : n ≤ R.slots) (q : Q (some (.int x)) h) : o_Go κ Q h k n pc Ls (.int x :: St) :=
  o_out B (fun hh => by cases hh) hk hn q fun p e s m args below meth c T locs X hx hby hret fs hr => retOut X hx hret rfl (Or.inl ⟨rfl, Or.inl rfl, _, rfl⟩) (hb hby hd) hr
theorem o_zreturn (B : o_Bo κ l Z n0 R y bytes ml (some .boolean)) {x : Int32} (hd : decode bytes pc = .ok (.ireturn, 1)) (hk : k ≤ R.cells) (hn : n ≤ R.slots) (q : Q (some (.int (nar .boolean x))) h) : o_Go κ Q h k n pc Ls (.int x :: St) :=
  o_out B (fun hh => by cases hh) hk hn q fun p e s m args below meth c T locs X hx hby hret fs hr => retN X hx hret (by simp) (hb hby hd) hr
theorem o_lreturn (B : o_Bo κ l Z n0 R y bytes ml (some .long)) {x : Int64} (hd : decode bytes pc = .ok (.lreturn, 1)) (hk : k ≤ R.cells) (hn : n ≤ R.slots) (q : Q (some (.long x)) h) : o_Go κ Q h k n pc Ls (.long x :: St) :=
  o_out B (fun hh => by cases hh) hk hn q fun p e s m args below meth c T locs X hx hby hret fs hr => retOut X hx hret rfl (Or.inr (Or.inl ⟨rfl, rfl, _, rfl⟩)) (hb hby hd) hr
theorem o_areturn {t : FieldType} (B : o_Bo κ l Z n0 R y bytes ml (some t)) {v : Value} (ht : t.isReference = true) (hn' : narrow t v = v) (hv : v.isRef = true) (hd : decode bytes pc = .ok (.areturn, 1)) (hk : k ≤ R.cells) (hn : n ≤ R.slots) (q : Q (some v) h) : o_Go κ Q h k n pc Ls (v :: St) :=
  o_out B (fun hh => by cases hh) hk hn q fun p e s m args below meth c T locs X hx hby hret fs hr => retOut X hx hret hn' (Or.inr (Or.inr (Or.inr (Or.inr ⟨rfl, ht, hv⟩)))) (hb hby hd) hr
theorem o_return (B : o_Bo κ l Z n0 R y bytes ml none) (hd : decode bytes pc = .ok (.return_, 1)) (hk : k ≤ R.cells) (hn : n ≤ R.slots) (q : Q none h) : o_Go κ Q h k n pc Ls [] :=
  o_out B (fun _ => rfl) hk hn q fun p e s m args below meth c T locs X hx hby hret fs hr => X.returnOut hx hret (hb hby hd) hr
theorem o_getF (B : o_Bo κ l Z n0 R y bytes ml ret) {O nm d : String} {idx : Nat} {a : Addr} {v : Value} (hd : decode bytes pc = .ok (.getfield idx, 3)) (w : (Cond.fieldLink y.cls idx O nm d).before a0 Z = true) (F : Fld Z h a O nm d v) (K : o_Go κ Q h k n (pc + 3) Ls (v :: St)) : o_Go κ Q h k n pc Ls (.ref a :: St) := by
  obtain ⟨p, e, s, m, args, below, meth, c, rfl, hx, hZ, hby, hml, hown, hret, hlk, hnm⟩ := B
  intro T locs X N eT
  obtain ⟨T', X', e', st'⟩ := getF X hx hZ hown (host := "") (Or.inl w) Via.refl eT F (g := mkF m pc Ls.toArray (.ref a :: St)) rfl rfl (hb hby hd)
  obtain ⟨s₂, o, st, r⟩ := K T' locs X' N e'
  exact ⟨s₂, o, st' _ st, r⟩
theorem o_putF (B : o_Bo κ l Z n0 R y bytes ml ret) {O nm d C : String} {idx kk : Nat} {a : Addr} {v old : Value} {ty : FieldType} (hd : decode bytes pc = .ok (.putfield idx, 3)) (w : (Cond.fieldLink y.cls idx O nm d).before a0 Z = true) (F : Fld Z h a O nm d old) (E : Exa Z h a C) (L : (Cond.lays C O nm d).before a0 Z = true ∨ ((Cond.laysFinal C O nm d).before a0 Z = true ∧ y.cls = O ∧ y.name = "<init>")) (wi : (Cond.instantiable C kk).before a0 Z = true)
    (hty : parseFieldDescriptor d = some ty) (hn : narrow ty v = v) (hf : fits ty v = true) (ge : n0 ≤ a) (K : ∀ h', Wr h h' a (Jvm.RoadKit.slotOf Z O nm d) v → o_Go κ Q h' k n (pc + 3) Ls St) : o_Go κ Q h k n pc Ls (v :: .ref a :: St) := by
  obtain ⟨p, e, s, m, args, below, meth, c, rfl, hx, hZ, hby, hml, hown, hret, hlk, hnm⟩ := B
  intro T locs X N eT
  have L' : (Cond.lays C O nm d).before a0 Z = true ∨ ((Cond.laysFinal C O nm d).before a0 Z = true ∧ y.cls = O ∧ meth.name = "<init>") := L.imp id fun q => ⟨q.1, q.2.1, hnm.trans q.2.2⟩
  obtain ⟨T', h', X', e', W, st'⟩ := putF X hx hZ hown (host := "") (Or.inl w) Via.refl eT F E L' wi hty hn hf (g := mkF m pc Ls.toArray (v :: .ref a :: St)) rfl rfl (hb hby hd)
  obtain ⟨s₂, o, st, r⟩ := K h' W T' _ X' (Fr.snoc X' N ge) e'
  exact ⟨s₂, o, st' _ st, r⟩
theorem o_getS (B : o_Bo κ l Z n0 R y bytes ml ret) {O nm d : String} {idx : Nat} {v : Value} (hd : decode bytes pc = .ok (.getstatic idx, 3)) (w : (Cond.fieldLink y.cls idx O nm d).before a0 Z = true) (F : Sta Z h O nm d v) (K : o_Go κ Q h k n (pc + 3) Ls (v :: St)) : o_Go κ Q h k n pc Ls St := by
  obtain ⟨p, e, s, m, args, below, meth, c, rfl, hx, hZ, hby, hml, hown, hret, hlk, hnm⟩ := B
  intro T locs X N eT
  obtain ⟨T', X', e', st'⟩ := getS (host := "") X hx hZ hown w Via.refl eT F (g := mkF m pc Ls.toArray St) rfl (hb hby hd)
  obtain ⟨s₂, o, st, r⟩ := K T' locs X' N e'
  exact ⟨s₂, o, st' _ st, r⟩
theorem o_new (B : o_Bo κ l Z n0 R y bytes ml ret) {C : String} {idx nn : Nat} (hd : decode bytes pc = .ok (.new idx, 3)) (w : (Cond.classLink y.cls idx C).before a0 Z = true) (wi : (Cond.instantiable C nn).before a0 Z = true) (wz : (Cond.initialized C).before a0 Z = true) (hc : k + 1 ≤ R.cells) (hl : n + nn ≤ R.slots)
    (K : ∀ h', Ext h h' → Exa Z h' h.size C → (∀ {O nm d : String} {ty : FieldType}, Laid Z a0 C O nm d → parseFieldDescriptor d = some ty → Fld Z h' h.size O nm d (defaultValue ty)) → o_Go κ Q h' (k + 1) (n + nn) (pc + 3) Ls (.ref h.size :: St)) : o_Go κ Q h k n pc Ls St := by
  obtain ⟨p, e, s, m, args, below, meth, c, rfl, hx, hZ, hby, hml, hown, hret, hlk, hnm⟩ := B
  intro T locs X N eT
  obtain ⟨T', h', X', e', E, A, D, -, st'⟩ := newO X hx hZ hown w wi wz eT (g := mkF m pc Ls.toArray St) rfl (hb hby hd) hc hl
  obtain ⟨s₂, o, st, r⟩ := K h' E A (fun L q => D L q) T' _ X' N e'
  exact ⟨s₂, o, st' _ st, r⟩
theorem o_initO (B : o_Bo κ l Z n0 R y bytes ml ret) {idx W : Nat} {a : Addr} (hd : decode bytes pc = .ok (.invokespecial idx, 3)) (w1 : (Cond.methodLink y.cls idx Lib.objectInit).before a0 Z = true) (w2 : (Cond.instanceMethod Lib.objectInit).before a0 Z = true) (w3 : (Cond.code Lib.objectInit ⟨#[0xb1]⟩ 1 none).before a0 Z = true)
    (hf : 1 ≤ R.frames) (hW : (St.map fun v => v.category).sum ≤ W) (hl : W + 12 ≤ R.locals) (hLs : Ls.length = ml) (K : o_Go κ Q h k n (pc + 3) Ls St) : o_Go κ Q h k n pc Ls (.ref a :: St) := by
  obtain ⟨p, e, s, m, args, below, meth, c, rfl, hx, hZ, hby, hml, hown, hret, hlk, hnm⟩ := B
  intro T locs X N eT
  obtain ⟨T', X', e', st'⟩ := initO X hx hZ hown w1 w2 w3 eT (g := mkF m pc Ls.toArray (.ref a :: St)) rfl (by rw [hml, ← hLs]; simp) rfl (hb hby hd) hf (W := W) (by simpa using hW) hl
  obtain ⟨s₂, o, st, r⟩ := K T' _ X' N e'
  exact ⟨s₂, o, st' _ st, r⟩
/-- an array of the component type ty that holds the list vs -/
def o_AR (Z : State) (h : Heap) (a : Addr) (ty : FieldType) (vs : List Value) : Prop := ∃ c : Cell, Arr Z h a c ty ∧ c.slots = vs.toArray ∧ vs.length < 2 ^ 31
abbrev o_IA (Z : State) (h : Heap) (a : Addr) (L : List Int32) : Prop := o_AR Z h a .int (L.map Value.int)
abbrev o_LA (Z : State) (h : Heap) (a : Addr) (L : List Int64) : Prop := o_AR Z h a .long (L.map Value.long)
abbrev o_ZA (Z : State) (h : Heap) (a : Addr) (L : List Int32) : Prop := o_AR Z h a .boolean (L.map Value.int)
theorem o_AR.lt {h : Heap} {a : Addr} {ty : FieldType} {vs : List Value} (A : o_AR Z h a ty vs) : a < h.size := by obtain ⟨c, A, -⟩ := A; exact A.lt
theorem o_AR.ext {h h' : Heap} {a : Addr} {ty : FieldType} {vs : List Value} (A : o_AR Z h a ty vs) (E : Ext h h') : o_AR Z h' a ty vs := by obtain ⟨c, A, r⟩ := A; exact ⟨c, A.ext E, r⟩
theorem o_AR.other {h h' : Heap} {a b : Addr} {sl : Nat} {v : Value} {ty : FieldType} {vs : List Value} (A : o_AR Z h a ty vs) (W : Wr h h' b sl v) (q : a ≠ b) : o_AR Z h' a ty vs := by obtain ⟨c, A, r⟩ := A; exact ⟨c, A.other W q, r⟩
theorem o_AR.keep {h h' : Heap} {a : Addr} {ws : List Addr} {ty : FieldType} {vs : List Value} (A : o_AR Z h a ty vs) (K : Keep h h' ws) (q : a ∉ ws) : o_AR Z h' a ty vs := by obtain ⟨c, A, r⟩ := A; exact ⟨c, ⟨K.2.1 a c A.1 q, A.2⟩, r⟩
theorem o_AR.same {h h' : Heap} {a : Addr} {i : Nat} {v : Value} {ty : FieldType} {vs : List Value} (A : o_AR Z h a ty vs) (W : Wr h h' a i v) : o_AR Z h' a ty (vs.set i v) := by
  obtain ⟨c, A, e, q⟩ := A
  exact ⟨_, A.same W, by simp [Cell.setSlot, e], by simpa using q⟩
theorem o_IA.same {h h' : Heap} {a : Addr} {i : Nat} {x : Int32} {L : List Int32} (A : o_IA Z h a L) (W : Wr h h' a i (.int x)) : o_IA Z h' a (L.set i x) := by
  have := o_AR.same A W; rwa [← List.map_set] at this
theorem o_LA.same {h h' : Heap} {a : Addr} {i : Nat} {x : Int64} {L : List Int64} (A : o_LA Z h a L) (W : Wr h h' a i (.long x)) : o_LA Z h' a (L.set i x) := by
  have := o_AR.same A W; rwa [← List.map_set] at this
theorem o_ZA.same {h h' : Heap} {a : Addr} {i : Nat} {x : Int32} {L : List Int32} (A : o_ZA Z h a L) (W : Wr h h' a i (.int x)) : o_ZA Z h' a (L.set i x) := by
  have := o_AR.same A W; rwa [← List.map_set] at this
theorem o_IA.len {h : Heap} {a : Addr} {L : List Int32} (A : o_IA Z h a L) : L.length < 2 ^ 31 := by obtain ⟨c, A, e, q⟩ := A; simpa using q
theorem o_LA.len {h : Heap} {a : Addr} {L : List Int64} (A : o_LA Z h a L) : L.length < 2 ^ 31 := by obtain ⟨c, A, e, q⟩ := A; simpa using q
theorem o_nat {i N : Nat} (hi : i < N) (hN : N < 2 ^ 31) : (Int32.ofNat i).toNatClampNeg = i ∧ ¬ (Int32.ofNat i < 0) := by
  have e : (Int32.ofNat i).toInt = i := Int32.toInt_ofNat_of_lt (by omega)
  refine ⟨by simp only [Int32.toNatClampNeg, e]; rfl, ?_⟩
  rw [Int32.lt_iff_toInt_lt, e]; show ¬ (i : Int) < 0; omega
theorem o_in {c : Cell} {vs : List Value} {i : Nat} {j : Int32} (es : c.slots = vs.toArray) (q : vs.length < 2 ^ 31) (hj : j = Int32.ofNat i) (hi : i < vs.length) : ¬ (j < 0 ∨ c.slots.size ≤ j.toNatClampNeg) ∧ j.toNatClampNeg = i := by
  subst hj
  obtain ⟨h1, h2⟩ := o_nat hi q
  refine ⟨?_, h1⟩
  rintro (g | g)
  · exact h2 g
  · rw [h1, es] at g; simp at g; omega
theorem o_iaload (B : o_Bo κ l Z n0 R y bytes ml ret) {a : Addr} {vs : List Value} {j : Int32} {v : Value} (i : Nat) (hd : decode bytes pc = .ok (.iaload, 1)) (A : o_AR Z h a .int vs) (hj : j = Int32.ofNat i) (hv : vs[i]? = some v) (K : o_Go κ Q h k n (pc + 1) Ls (v :: St)) : o_Go κ Q h k n pc Ls (.int j :: .ref a :: St) := by
  obtain ⟨p, e, s, m, args, below, meth, c, rfl, hx, hZ, hby, hml, hown, hret, hlk, hnm⟩ := B
  intro T locs X N eT
  obtain ⟨cl, A, es, q⟩ := A
  obtain ⟨hi, hget⟩ := List.getElem?_eq_some_iff.mp hv
  obtain ⟨h1, h2⟩ := o_in es q hj hi
  obtain ⟨s₂, o, st, r⟩ := K T _ X N eT
  exact ⟨s₂, o, X.iaload hx (by rw [eT]; exact A.1) (State.isArrayOf_alike hZ.alike A.2.1) A.2.2 h1 (by rw [h2, es]; simpa using hv) (g := mkF m pc Ls.toArray (.int j :: .ref a :: St)) rfl rfl (hb hby hd) _ st, r⟩
theorem o_laload (B : o_Bo κ l Z n0 R y bytes ml ret) {a : Addr} {vs : List Value} {j : Int32} {v : Value} (i : Nat) (hd : decode bytes pc = .ok (.laload, 1)) (A : o_AR Z h a .long vs) (hj : j = Int32.ofNat i) (hv : vs[i]? = some v) (K : o_Go κ Q h k n (pc + 1) Ls (v :: St)) : o_Go κ Q h k n pc Ls (.int j :: .ref a :: St) := by
  obtain ⟨p, e, s, m, args, below, meth, c, rfl, hx, hZ, hby, hml, hown, hret, hlk, hnm⟩ := B
  intro T locs X N eT
  obtain ⟨cl, A, es, q⟩ := A
  obtain ⟨hi, hget⟩ := List.getElem?_eq_some_iff.mp hv
  obtain ⟨h1, h2⟩ := o_in es q hj hi
  obtain ⟨s₂, o, st, r⟩ := K T _ X N eT
  exact ⟨s₂, o, X.laload hx (by rw [eT]; exact A.1) (State.isArrayOf_alike hZ.alike A.2.1) A.2.2 h1 (by rw [h2, es]; simpa using hv) (g := mkF m pc Ls.toArray (.int j :: .ref a :: St)) rfl rfl (hb hby hd) _ st, r⟩
theorem o_baload (B : o_Bo κ l Z n0 R y bytes ml ret) {a : Addr} {vs : List Value} {j : Int32} {v : Value} (i : Nat) (hd : decode bytes pc = .ok (.baload, 1)) (A : o_AR Z h a .boolean vs) (hj : j = Int32.ofNat i) (hv : vs[i]? = some v) (K : o_Go κ Q h k n (pc + 1) Ls (v :: St)) : o_Go κ Q h k n pc Ls (.int j :: .ref a :: St) := by
  obtain ⟨p, e, s, m, args, below, meth, c, rfl, hx, hZ, hby, hml, hown, hret, hlk, hnm⟩ := B
  intro T locs X N eT
  obtain ⟨cl, A, es, q⟩ := A
  obtain ⟨hi, hget⟩ := List.getElem?_eq_some_iff.mp hv
  obtain ⟨h1, h2⟩ := o_in es q hj hi
  obtain ⟨s₂, o, st, r⟩ := K T _ X N eT
  exact ⟨s₂, o, X.baloadBooleans hx (by rw [eT]; exact A.1) (State.isArrayOf_alike hZ.alike A.2.1) A.2.2 h1 (by rw [h2, es]; simpa using hv) (g := mkF m pc Ls.toArray (.int j :: .ref a :: St)) rfl rfl (hb hby hd) _ st, r⟩
theorem o_aaload (B : o_Bo κ l Z n0 R y bytes ml ret) {ty : FieldType} {a : Addr} {vs : List Value} {j : Int32} {v : Value} (i : Nat) (hty : ty.isReference = true) (hd : decode bytes pc = .ok (.aaload, 1)) (A : o_AR Z h a ty vs) (hj : j = Int32.ofNat i) (hv : vs[i]? = some v) (K : o_Go κ Q h k n (pc + 1) Ls (v :: St)) : o_Go κ Q h k n pc Ls (.int j :: .ref a :: St) := by
  obtain ⟨p, e, s, m, args, below, meth, c, rfl, hx, hZ, hby, hml, hown, hret, hlk, hnm⟩ := B
  intro T locs X N eT
  obtain ⟨cl, A, es, q⟩ := A
  obtain ⟨hi, hget⟩ := List.getElem?_eq_some_iff.mp hv
  obtain ⟨h1, h2⟩ := o_in es q hj hi
  obtain ⟨s₂, o, st, r⟩ := K T _ X N eT
  exact ⟨s₂, o, X.aaload hx (by rw [eT]; exact A.1) (State.isArrayOf_alike hZ.alike A.2.1) hty A.2.2 h1 (by rw [h2, es]; simpa using hv) (g := mkF m pc Ls.toArray (.int j :: .ref a :: St)) rfl rfl (hb hby hd) _ st, r⟩
theorem o_arraylength (B : o_Bo κ l Z n0 R y bytes ml ret) {ty : FieldType} {a : Addr} {vs : List Value} (hd : decode bytes pc = .ok (.arraylength, 1)) (A : o_AR Z h a ty vs) (K : o_Go κ Q h k n (pc + 1) Ls (.int (Int32.ofNat vs.length) :: St)) : o_Go κ Q h k n pc Ls (.ref a :: St) := by
  obtain ⟨p, e, s, m, args, below, meth, c, rfl, hx, hZ, hby, hml, hown, hret, hlk, hnm⟩ := B
  intro T locs X N eT
  obtain ⟨cl, A, es, q⟩ := A
  obtain ⟨s₂, o, st, r⟩ := K T _ X N eT
  have ez : cl.slots.size.toInt32 = Int32.ofNat vs.length := by rw [es]; simp
  exact ⟨s₂, o, X.arraylength hx (by rw [eT]; exact A.1) (State.isArrayOf_alike hZ.alike A.2.1) (g := mkF m pc Ls.toArray (.ref a :: St)) rfl rfl (hb hby hd) _ (by rw [ez]; exact st), r⟩
theorem o_iastore (B : o_Bo κ l Z n0 R y bytes ml ret) {a : Addr} {vs : List Value} {j : Int32} {x : Int32} (i : Nat) (hd : decode bytes pc = .ok (.iastore, 1)) (A : o_AR Z h a .int vs) (hj : j = Int32.ofNat i) (hi : i < vs.length) (ge : n0 ≤ a) (K : ∀ h', Wr h h' a i (.int x) → o_Go κ Q h' k n (pc + 1) Ls St) : o_Go κ Q h k n pc Ls (.int x :: .int j :: .ref a :: St) := by
  obtain ⟨p, e, s, m, args, below, meth, c, rfl, hx, hZ, hby, hml, hown, hret, hlk, hnm⟩ := B
  intro T locs X N eT
  obtain ⟨cl, A, es, q⟩ := A
  obtain ⟨h1, h2⟩ := o_in es q hj hi
  obtain ⟨T', h', X', e', W, st'⟩ := stI X hx hZ eT A h1 (g := mkF m pc Ls.toArray (.int x :: .int j :: .ref a :: St)) rfl rfl (hb hby hd)
  have W' := W
  rw [h2] at W'
  obtain ⟨s₂, o, st, r⟩ := K h' W' T' _ X' (Fr.snoc X' N ge) e'
  exact ⟨s₂, o, st' _ st, r⟩
theorem o_lastore (B : o_Bo κ l Z n0 R y bytes ml ret) {a : Addr} {vs : List Value} {j : Int32} {x : Int64} (i : Nat) (hd : decode bytes pc = .ok (.lastore, 1)) (A : o_AR Z h a .long vs) (hj : j = Int32.ofNat i) (hi : i < vs.length) (ge : n0 ≤ a) (K : ∀ h', Wr h h' a i (.long x) → o_Go κ Q h' k n (pc + 1) Ls St) : o_Go κ Q h k n pc Ls (.long x :: .int j :: .ref a :: St) := by
  obtain ⟨p, e, s, m, args, below, meth, c, rfl, hx, hZ, hby, hml, hown, hret, hlk, hnm⟩ := B
  intro T locs X N eT
  obtain ⟨cl, A, es, q⟩ := A
  obtain ⟨h1, h2⟩ := o_in es q hj hi
  obtain ⟨T', h', X', e', W, st'⟩ := stJ X hx hZ eT A h1 (g := mkF m pc Ls.toArray (.long x :: .int j :: .ref a :: St)) rfl rfl (hb hby hd)
  have W' := W
  rw [h2] at W'
  obtain ⟨s₂, o, st, r⟩ := K h' W' T' _ X' (Fr.snoc X' N ge) e'
  exact ⟨s₂, o, st' _ st, r⟩
theorem o_bastore (B : o_Bo κ l Z n0 R y bytes ml ret) {a : Addr} {vs : List Value} {j : Int32} {x : Int32} (i : Nat) (hd : decode bytes pc = .ok (.bastore, 1)) (A : o_AR Z h a .boolean vs) (hj : j = Int32.ofNat i) (hi : i < vs.length) (ge : n0 ≤ a) (K : ∀ h', Wr h h' a i (.int (nar .boolean x)) → o_Go κ Q h' k n (pc + 1) Ls St) : o_Go κ Q h k n pc Ls (.int x :: .int j :: .ref a :: St) := by
  obtain ⟨p, e, s, m, args, below, meth, c, rfl, hx, hZ, hby, hml, hown, hret, hlk, hnm⟩ := B
  intro T locs X N eT
  obtain ⟨cl, A, es, q⟩ := A
  obtain ⟨h1, h2⟩ := o_in es q hj hi
  obtain ⟨T', h', X', e', W, st'⟩ := stZ X hx hZ eT A h1 (g := mkF m pc Ls.toArray (.int x :: .int j :: .ref a :: St)) rfl rfl (hb hby hd)
  have W' := W
  rw [h2] at W'
  obtain ⟨s₂, o, st, r⟩ := K h' W' T' _ X' (Fr.snoc X' N ge) e'
  exact ⟨s₂, o, st' _ st, r⟩
theorem o_newarray (B : o_Bo κ l Z n0 R y bytes ml ret) {aty : ArrayType} {cnt : Int32} (cN cap : Nat) (hd : decode bytes pc = .ok (.newarray aty, 2)) (w : (Cond.arrayClass (newarray.typeOf aty)).before a0 Z = true) (hcnt : cnt = Int32.ofNat cN) (hcap : cN ≤ cap) (hbig : cap * 8 ≤ 536870912) (hc : k + 1 ≤ R.cells) (hl : n + cap ≤ R.slots)
    (K : ∀ h', Ext h h' → h.size < h'.size → o_AR Z h' h.size (newarray.typeOf aty) (List.replicate cN (defaultValue (newarray.typeOf aty))) → o_Go κ Q h' (k + 1) (n + cap) (pc + 2) Ls (.ref h.size :: St)) : o_Go κ Q h k n pc Ls (.int cnt :: St) := by
  obtain ⟨p, e, s, m, args, below, meth, c, rfl, hx, hZ, hby, hml, hown, hret, hlk, hnm⟩ := B
  intro T locs X N eT
  obtain ⟨h1, h2⟩ := o_nat (i := cN) (N := cN + 1) (by omega) (by omega)
  obtain ⟨T', h', cA, X', e', E, A, st'⟩ := newP X hx hZ w eT (g := mkF m pc Ls.toArray (.int cnt :: St)) rfl (hb hby hd) rfl (by rw [hcnt]; exact h2) (cap := cap) (by rw [hcnt, h1]; exact hcap) hbig hc hl
  obtain ⟨s₂, o, st, r⟩ := K h' E A.lt ⟨_, A, by simp [newA, hcnt, h1], by simp; omega⟩ T' _ X' N e'
  exact ⟨s₂, o, st' _ st, r⟩
theorem o_iadd_c (B : o_Bo κ l Z n0 R y bytes ml ret) {x y : Int32} (z : Int32) (hd : decode bytes pc = .ok (.iadd, 1)) (hz : x + y = z) (K : o_Go κ Q h k n (pc + 1) Ls (.int z :: St)) : o_Go κ Q h k n pc Ls (.int y :: .int x :: St) := o_iadd B hd (hz.symm ▸ K)
theorem o_isub_c (B : o_Bo κ l Z n0 R y bytes ml ret) {x y : Int32} (z : Int32) (hd : decode bytes pc = .ok (.isub, 1)) (hz : x - y = z) (K : o_Go κ Q h k n (pc + 1) Ls (.int z :: St)) : o_Go κ Q h k n pc Ls (.int y :: .int x :: St) := o_isub B hd (hz.symm ▸ K)
theorem o_iand_c (B : o_Bo κ l Z n0 R y bytes ml ret) {x y : Int32} (z : Int32) (hd : decode bytes pc = .ok (.iand, 1)) (hz : x &&& y = z) (K : o_Go κ Q h k n (pc + 1) Ls (.int z :: St)) : o_Go κ Q h k n pc Ls (.int y :: .int x :: St) := o_iand B hd (hz.symm ▸ K)
theorem o_imul_c (B : o_Bo κ l Z n0 R y bytes ml ret) {x y : Int32} (z : Int32) (hd : decode bytes pc = .ok (.imul, 1)) (hz : x * y = z) (K : o_Go κ Q h k n (pc + 1) Ls (.int z :: St)) : o_Go κ Q h k n pc Ls (.int y :: .int x :: St) := o_imul B hd (hz.symm ▸ K)
theorem o_ior_c (B : o_Bo κ l Z n0 R y bytes ml ret) {x y : Int32} (z : Int32) (hd : decode bytes pc = .ok (.ior, 1)) (hz : x ||| y = z) (K : o_Go κ Q h k n (pc + 1) Ls (.int z :: St)) : o_Go κ Q h k n pc Ls (.int y :: .int x :: St) := o_ior B hd (hz.symm ▸ K)
theorem o_ixor_c (B : o_Bo κ l Z n0 R y bytes ml ret) {x y : Int32} (z : Int32) (hd : decode bytes pc = .ok (.ixor, 1)) (hz : x ^^^ y = z) (K : o_Go κ Q h k n (pc + 1) Ls (.int z :: St)) : o_Go κ Q h k n pc Ls (.int y :: .int x :: St) := o_ixor B hd (hz.symm ▸ K)
theorem o_ishl_c (B : o_Bo κ l Z n0 R y bytes ml ret) {x y : Int32} (z : Int32) (hd : decode bytes pc = .ok (.ishl, 1)) (hz : x <<< (y &&& 31) = z) (K : o_Go κ Q h k n (pc + 1) Ls (.int z :: St)) : o_Go κ Q h k n pc Ls (.int y :: .int x :: St) := o_ishl B hd (hz.symm ▸ K)
theorem o_ishr_c (B : o_Bo κ l Z n0 R y bytes ml ret) {x y : Int32} (z : Int32) (hd : decode bytes pc = .ok (.ishr, 1)) (hz : x >>> (y &&& 31) = z) (K : o_Go κ Q h k n (pc + 1) Ls (.int z :: St)) : o_Go κ Q h k n pc Ls (.int y :: .int x :: St) := o_ishr B hd (hz.symm ▸ K)
theorem o_iushr_c (B : o_Bo κ l Z n0 R y bytes ml ret) {x y : Int32} (z : Int32) (hd : decode bytes pc = .ok (.iushr, 1)) (hz : XT.ushr x y = z) (K : o_Go κ Q h k n (pc + 1) Ls (.int z :: St)) : o_Go κ Q h k n pc Ls (.int y :: .int x :: St) := o_iushr B hd (hz.symm ▸ K)
theorem o_idiv_c (B : o_Bo κ l Z n0 R y bytes ml ret) {x y : Int32} (z : Int32) (hd : decode bytes pc = .ok (.idiv, 1)) (hy : y ≠ 0) (hz : x / y = z) (K : o_Go κ Q h k n (pc + 1) Ls (.int z :: St)) : o_Go κ Q h k n pc Ls (.int y :: .int x :: St) := o_idiv B hd hy (hz.symm ▸ K)
theorem o_irem_c (B : o_Bo κ l Z n0 R y bytes ml ret) {x y : Int32} (z : Int32) (hd : decode bytes pc = .ok (.irem, 1)) (hy : y ≠ 0) (hz : x % y = z) (K : o_Go κ Q h k n (pc + 1) Ls (.int z :: St)) : o_Go κ Q h k n pc Ls (.int y :: .int x :: St) := o_irem B hd hy (hz.symm ▸ K)
theorem o_arraylen (B : o_Bo κ l Z n0 R y bytes ml ret) {ty : FieldType} {a : Addr} {vs : List Value} (z : Int32) (hd : decode bytes pc = .ok (.arraylength, 1)) (A : o_AR Z h a ty vs) (hz : Int32.ofNat vs.length = z) (K : o_Go κ Q h k n (pc + 1) Ls (.int z :: St)) : o_Go κ Q h k n pc Ls (.ref a :: St) := o_arraylength B hd A (hz.symm ▸ K)
theorem o_callS (B : o_Bo κ l Z n0 R y bytes ml ret) {yc : MethodName} {bc : ByteArray} {mc : Nat} {rc : Option FieldType} {rm : Room} {as rest : List Value} {Qc : Option Value → Heap → Prop} {idx : Nat} (W : Nat) (hd : decode bytes pc = .ok (.invokestatic idx, 3))
    (w1 : (Cond.methodLink y.cls idx yc).before a0 Z = true) (w2 : (Cond.static yc).before a0 Z = true) (w3 : (Cond.initialized yc.cls).before a0 Z = true) (w4 : (Cond.code yc bc mc rc).before a0 Z = true) (hy : yc.cls ≠ "java/lang/invoke/MethodHandle" ∧ yc.cls ≠ "java/lang/invoke/VarHandle") {ps : List FieldType} {r0 : Option FieldType} (pd : parseMethodDescriptor yc.desc = some ⟨ps, r0⟩) (hlen : as.length = ps.length)
    (hW : (rest.map fun v => v.category).sum ≤ W) (hf : rm.frames + 1 ≤ R.frames) (hl : W + (mc + 11) + rm.locals ≤ R.locals) (hc : k + rm.cells ≤ R.cells) (hs : n + rm.slots ≤ R.slots) (hLs : Ls.length = ml)
    (C : o_C l Z n0 yc bc mc rc rm as h Qc) (K : ∀ v h', Qc v h' → o_Go κ Q h' (k + rm.cells) (n + rm.slots) (pc + 3) Ls (v.toList ++ rest)) : o_Go κ Q h k n pc Ls (as.reverse ++ rest) := by
  obtain ⟨p, e, s, m, args, below, meth, c, rfl, hx, hZ, hby, hml, hown, hret, hlk, hnm⟩ := B
  intro T locs X N eT
  obtain ⟨v, vm1, ⟨T', L', k', n'⟩, -, X', ⟨Lc, hQ, l', y', z'⟩, st'⟩ := Jvm.LawKit.callS X hx (y := yc) hown (mvT hZ w1) (mvT hZ w2) (mvT hZ w3) (mvT hZ w4) hy (backOf (W := W) (Q := fun v h L => Qc v h ∧ Fr n0 L) (C []) hZ w4 w3 hf hl) (g := mkF m pc Ls.toArray (as.reverse ++ rest)) rfl (by rw [hml, ← hLs]; simp) (argsL := as) (rest := rest) (lenOf pd hlen) rfl (by simpa using hW) (hb hby hd) (fun _ _ => ⟨rfl, eT, hc, hs⟩)
  dsimp only [Pt.U, Pt.locs, Pt.cells, Pt.slots] at X' l' y' z' st' hQ
  subst l' y' z'
  obtain ⟨hq, Nc⟩ := hQ
  obtain ⟨s₂, o, st, r⟩ := K v T'.heap hq T' _ X' (Fr.app N Nc) rfl
  exact ⟨s₂, o, st' _ st, r⟩
theorem o_callN (B : o_Bo κ l Z n0 R y bytes ml ret) {yc : MethodName} {bc : ByteArray} {mc : Nat} {rm : Room} {as rest : List Value} {a : Addr} {Qc : Option Value → Heap → Prop} {idx : Nat} (W : Nat) (hd : decode bytes pc = .ok (.invokespecial idx, 3)) (hin : yc.name = "<init>")
    (w1 : (Cond.methodLink y.cls idx yc).before a0 Z = true) (w2 : (Cond.instanceMethod yc).before a0 Z = true) (w3 : (Cond.initialized yc.cls).before a0 Z = true) (w4 : (Cond.code yc bc mc none).before a0 Z = true) (hy : yc.cls ≠ "java/lang/invoke/MethodHandle" ∧ yc.cls ≠ "java/lang/invoke/VarHandle") {ps : List FieldType} {r0 : Option FieldType} (pd : parseMethodDescriptor yc.desc = some ⟨ps, r0⟩) (hlen : as.length = ps.length)
    (hW : (rest.map fun v => v.category).sum ≤ W) (hf : rm.frames + 1 ≤ R.frames) (hl : W + (mc + 11) + rm.locals ≤ R.locals) (hc : k + rm.cells ≤ R.cells) (hs : n + rm.slots ≤ R.slots) (hLs : Ls.length = ml)
    (C : o_C l Z n0 yc bc mc none rm (.ref a :: as) h Qc) (K : ∀ v h', Qc v h' → o_Go κ Q h' (k + rm.cells) (n + rm.slots) (pc + 3) Ls (v.toList ++ rest)) : o_Go κ Q h k n pc Ls (as.reverse ++ .ref a :: rest) := by
  obtain ⟨p, e, s, m, args, below, meth, c, rfl, hx, hZ, hby, hml, hown, hret, hlk, hnm⟩ := B
  intro T locs X N eT
  obtain ⟨v, vm1, ⟨T', L', k', n'⟩, -, X', ⟨Lc, hQ, l', y', z'⟩, st'⟩ := X.specialBack hx (y := yc) hin hown (mvT hZ w1) (mvT hZ w2) (mvT hZ w4) hy (backOf (W := W) (Q := fun v h L => Qc v h ∧ Fr n0 L) (C []) hZ w4 w3 hf hl) (g := mkF m pc Ls.toArray (as.reverse ++ .ref a :: rest)) rfl (by rw [hml, ← hLs]; simp) (Steps.refl _) (a := a) (argsL := as) (rest := rest) (lenOf pd hlen) rfl (by simpa using hW) (hb hby hd) (fun _ _ => ⟨rfl, eT, hc, hs⟩)
  dsimp only [Pt.U, Pt.locs, Pt.cells, Pt.slots] at X' l' y' z' st' hQ
  subst l' y' z'
  obtain ⟨hq, Nc⟩ := hQ
  obtain ⟨s₂, o, st, r⟩ := K v T'.heap hq T' _ X' (Fr.app N Nc) rfl
  exact ⟨s₂, o, st'.trans st, r⟩
theorem o_callV (B : o_Bo κ l Z n0 R y bytes ml ret) {yc : MethodName} {Cn : String} {bc : ByteArray} {mc : Nat} {rc : Option FieldType} {rm : Room} {as rest : List Value} {a : Addr} {Qc : Option Value → Heap → Prop} {idx : Nat} (W : Nat) (hd : decode bytes pc = .ok (.invokevirtual idx, 3))
    (w1 : (Cond.methodLink y.cls idx yc).before a0 Z = true) (w2 : (Cond.declares yc).before a0 Z = true) (w5 : (Cond.selects Cn yc yc).before a0 Z = true) (w6 : (Cond.instanceMethod yc).before a0 Z = true) (w3 : (Cond.initialized yc.cls).before a0 Z = true) (w4 : (Cond.code yc bc mc rc).before a0 Z = true) (hy : yc.cls ≠ "java/lang/invoke/MethodHandle" ∧ yc.cls ≠ "java/lang/invoke/VarHandle") {ps : List FieldType} {r0 : Option FieldType} (pd : parseMethodDescriptor yc.desc = some ⟨ps, r0⟩) (hlen : as.length = ps.length)
    (hW : (rest.map fun v => v.category).sum ≤ W) (hf : rm.frames + 1 ≤ R.frames) (hl : W + (mc + 11) + rm.locals ≤ R.locals) (hc : k + rm.cells ≤ R.cells) (hs : n + rm.slots ≤ R.slots) (hLs : Ls.length = ml) (E : Exa Z h a Cn)
    (C : o_C l Z n0 yc bc mc rc rm (.ref a :: as) h Qc) (K : ∀ v h', Qc v h' → o_Go κ Q h' (k + rm.cells) (n + rm.slots) (pc + 3) Ls (v.toList ++ rest)) : o_Go κ Q h k n pc Ls (as.reverse ++ .ref a :: rest) := by
  obtain ⟨p, e, s, m, args, below, meth, c, rfl, hx, hZ, hby, hml, hown, hret, hlk, hnm⟩ := B
  intro T locs X N eT
  obtain ⟨cq, kq, qa, qb, qc⟩ := isOf hZ eT E
  obtain ⟨v, vm1, ⟨T', L', k', n'⟩, -, X', ⟨Lc, hQ, l', y', z'⟩, st'⟩ := X.virtualBack hx (y := yc) (z := yc) hown (mvT hZ w1) (mvT hZ w2) (notFace_of_selects (args := #[]) (mvT hZ w5)) (mvT hZ w5) (mvT hZ w6) hy (backOf (W := W) (Q := fun v h L => Qc v h ∧ Fr n0 L) (C []) hZ w4 w3 hf hl) qa qc (g := mkF m pc Ls.toArray (as.reverse ++ .ref a :: rest)) rfl (by rw [hml, ← hLs]; simp) (Steps.refl _) (argsL := as) (rest := rest) (lenOf pd hlen) rfl (by simpa using hW) (hb hby hd) (fun _ _ => ⟨rfl, eT, hc, hs⟩)
  dsimp only [Pt.U, Pt.locs, Pt.cells, Pt.slots] at X' l' y' z' st' hQ
  subst l' y' z'
  obtain ⟨hq, Nc⟩ := hQ
  obtain ⟨s₂, o, st, r⟩ := K v T'.heap hq T' _ X' (Fr.app N Nc) rfl
  exact ⟨s₂, o, st'.trans st, r⟩
theorem o_callS0 (B : o_Bo κ l Z n0 R y bytes ml ret) {yc : MethodName} {bc : ByteArray} {mc : Nat} {rc : Option FieldType} {rm : Room} {rest : List Value} {Qc : Option Value → Heap → Prop} {idx : Nat} (W : Nat) (hd : decode bytes pc = .ok (.invokestatic idx, 3)) (w1 : (Cond.methodLink y.cls idx yc).before a0 Z = true) (w2 : (Cond.static yc).before a0 Z = true) (w3 : (Cond.initialized yc.cls).before a0 Z = true) (w4 : (Cond.code yc bc mc rc).before a0 Z = true) (hy : yc.cls ≠ "java/lang/invoke/MethodHandle" ∧ yc.cls ≠ "java/lang/invoke/VarHandle") {ps : List FieldType} {r0 : Option FieldType} (pd : parseMethodDescriptor yc.desc = some ⟨ps, r0⟩) (hlen : 0 = ps.length) (hW : (rest.map fun v => v.category).sum ≤ W) (hf : rm.frames + 1 ≤ R.frames) (hl : W + (mc + 11) + rm.locals ≤ R.locals) (hc : k + rm.cells ≤ R.cells) (hs : n + rm.slots ≤ R.slots) (hLs : Ls.length = ml) (C : o_C l Z n0 yc bc mc rc rm [] h Qc) (K : ∀ v h', Qc v h' → o_Go κ Q h' (k + rm.cells) (n + rm.slots) (pc + 3) Ls (v.toList ++ rest)) : o_Go κ Q h k n pc Ls (rest) := o_callS B W hd w1 w2 w3 w4 hy pd (as := []) hlen hW hf hl hc hs hLs C K
theorem o_callN0 (B : o_Bo κ l Z n0 R y bytes ml ret) {yc : MethodName} {bc : ByteArray} {mc : Nat} {rm : Room} {rest : List Value} {a : Addr} {Qc : Option Value → Heap → Prop} {idx : Nat} (W : Nat) (hd : decode bytes pc = .ok (.invokespecial idx, 3)) (hin : yc.name = "<init>") (w1 : (Cond.methodLink y.cls idx yc).before a0 Z = true) (w2 : (Cond.instanceMethod yc).before a0 Z = true) (w3 : (Cond.initialized yc.cls).before a0 Z = true) (w4 : (Cond.code yc bc mc none).before a0 Z = true) (hy : yc.cls ≠ "java/lang/invoke/MethodHandle" ∧ yc.cls ≠ "java/lang/invoke/VarHandle") {ps : List FieldType} {r0 : Option FieldType} (pd : parseMethodDescriptor yc.desc = some ⟨ps, r0⟩) (hlen : 0 = ps.length) (hW : (rest.map fun v => v.category).sum ≤ W) (hf : rm.frames + 1 ≤ R.frames) (hl : W + (mc + 11) + rm.locals ≤ R.locals) (hc : k + rm.cells ≤ R.cells) (hs : n + rm.slots ≤ R.slots) (hLs : Ls.length = ml) (C : o_C l Z n0 yc bc mc none rm (.ref a :: []) h Qc) (K : ∀ v h', Qc v h' → o_Go κ Q h' (k + rm.cells) (n + rm.slots) (pc + 3) Ls (v.toList ++ rest)) : o_Go κ Q h k n pc Ls (.ref a :: rest) := o_callN B W hd hin w1 w2 w3 w4 hy pd (as := []) hlen hW hf hl hc hs hLs C K
theorem o_callV0 (B : o_Bo κ l Z n0 R y bytes ml ret) {yc : MethodName} {Cn : String} {bc : ByteArray} {mc : Nat} {rc : Option FieldType} {rm : Room} {rest : List Value} {a : Addr} {Qc : Option Value → Heap → Prop} {idx : Nat} (W : Nat) (hd : decode bytes pc = .ok (.invokevirtual idx, 3)) (w1 : (Cond.methodLink y.cls idx yc).before a0 Z = true) (w2 : (Cond.declares yc).before a0 Z = true) (w5 : (Cond.selects Cn yc yc).before a0 Z = true) (w6 : (Cond.instanceMethod yc).before a0 Z = true) (w3 : (Cond.initialized yc.cls).before a0 Z = true) (w4 : (Cond.code yc bc mc rc).before a0 Z = true) (hy : yc.cls ≠ "java/lang/invoke/MethodHandle" ∧ yc.cls ≠ "java/lang/invoke/VarHandle") {ps : List FieldType} {r0 : Option FieldType} (pd : parseMethodDescriptor yc.desc = some ⟨ps, r0⟩) (hlen : 0 = ps.length) (hW : (rest.map fun v => v.category).sum ≤ W) (hf : rm.frames + 1 ≤ R.frames) (hl : W + (mc + 11) + rm.locals ≤ R.locals) (hc : k + rm.cells ≤ R.cells) (hs : n + rm.slots ≤ R.slots) (hLs : Ls.length = ml) (E : Exa Z h a Cn) (C : o_C l Z n0 yc bc mc rc rm (.ref a :: []) h Qc) (K : ∀ v h', Qc v h' → o_Go κ Q h' (k + rm.cells) (n + rm.slots) (pc + 3) Ls (v.toList ++ rest)) : o_Go κ Q h k n pc Ls (.ref a :: rest) := o_callV B W hd w1 w2 w5 w6 w3 w4 hy pd (as := []) hlen hW hf hl hc hs hLs E C K
theorem o_callS1 (B : o_Bo κ l Z n0 R y bytes ml ret) {yc : MethodName} {bc : ByteArray} {mc : Nat} {rc : Option FieldType} {rm : Room} {v0 : Value} {rest : List Value} {Qc : Option Value → Heap → Prop} {idx : Nat} (W : Nat) (hd : decode bytes pc = .ok (.invokestatic idx, 3)) (w1 : (Cond.methodLink y.cls idx yc).before a0 Z = true) (w2 : (Cond.static yc).before a0 Z = true) (w3 : (Cond.initialized yc.cls).before a0 Z = true) (w4 : (Cond.code yc bc mc rc).before a0 Z = true) (hy : yc.cls ≠ "java/lang/invoke/MethodHandle" ∧ yc.cls ≠ "java/lang/invoke/VarHandle") {ps : List FieldType} {r0 : Option FieldType} (pd : parseMethodDescriptor yc.desc = some ⟨ps, r0⟩) (hlen : 1 = ps.length) (hW : (rest.map fun v => v.category).sum ≤ W) (hf : rm.frames + 1 ≤ R.frames) (hl : W + (mc + 11) + rm.locals ≤ R.locals) (hc : k + rm.cells ≤ R.cells) (hs : n + rm.slots ≤ R.slots) (hLs : Ls.length = ml) (C : o_C l Z n0 yc bc mc rc rm [v0] h Qc) (K : ∀ v h', Qc v h' → o_Go κ Q h' (k + rm.cells) (n + rm.slots) (pc + 3) Ls (v.toList ++ rest)) : o_Go κ Q h k n pc Ls (v0 :: rest) := o_callS B W hd w1 w2 w3 w4 hy pd (as := [v0]) hlen hW hf hl hc hs hLs C K
theorem o_callN1 (B : o_Bo κ l Z n0 R y bytes ml ret) {yc : MethodName} {bc : ByteArray} {mc : Nat} {rm : Room} {v0 : Value} {rest : List Value} {a : Addr} {Qc : Option Value → Heap → Prop} {idx : Nat} (W : Nat) (hd : decode bytes pc = .ok (.invokespecial idx, 3)) (hin : yc.name = "<init>") (w1 : (Cond.methodLink y.cls idx yc).before a0 Z = true) (w2 : (Cond.instanceMethod yc).before a0 Z = true) (w3 : (Cond.initialized yc.cls).before a0 Z = true) (w4 : (Cond.code yc bc mc none).before a0 Z = true) (hy : yc.cls ≠ "java/lang/invoke/MethodHandle" ∧ yc.cls ≠ "java/lang/invoke/VarHandle") {ps : List FieldType} {r0 : Option FieldType} (pd : parseMethodDescriptor yc.desc = some ⟨ps, r0⟩) (hlen : 1 = ps.length) (hW : (rest.map fun v => v.category).sum ≤ W) (hf : rm.frames + 1 ≤ R.frames) (hl : W + (mc + 11) + rm.locals ≤ R.locals) (hc : k + rm.cells ≤ R.cells) (hs : n + rm.slots ≤ R.slots) (hLs : Ls.length = ml) (C : o_C l Z n0 yc bc mc none rm (.ref a :: [v0]) h Qc) (K : ∀ v h', Qc v h' → o_Go κ Q h' (k + rm.cells) (n + rm.slots) (pc + 3) Ls (v.toList ++ rest)) : o_Go κ Q h k n pc Ls (v0 :: .ref a :: rest) := o_callN B W hd hin w1 w2 w3 w4 hy pd (as := [v0]) hlen hW hf hl hc hs hLs C K
theorem o_callV1 (B : o_Bo κ l Z n0 R y bytes ml ret) {yc : MethodName} {Cn : String} {bc : ByteArray} {mc : Nat} {rc : Option FieldType} {rm : Room} {v0 : Value} {rest : List Value} {a : Addr} {Qc : Option Value → Heap → Prop} {idx : Nat} (W : Nat) (hd : decode bytes pc = .ok (.invokevirtual idx, 3)) (w1 : (Cond.methodLink y.cls idx yc).before a0 Z = true) (w2 : (Cond.declares yc).before a0 Z = true) (w5 : (Cond.selects Cn yc yc).before a0 Z = true) (w6 : (Cond.instanceMethod yc).before a0 Z = true) (w3 : (Cond.initialized yc.cls).before a0 Z = true) (w4 : (Cond.code yc bc mc rc).before a0 Z = true) (hy : yc.cls ≠ "java/lang/invoke/MethodHandle" ∧ yc.cls ≠ "java/lang/invoke/VarHandle") {ps : List FieldType} {r0 : Option FieldType} (pd : parseMethodDescriptor yc.desc = some ⟨ps, r0⟩) (hlen : 1 = ps.length) (hW : (rest.map fun v => v.category).sum ≤ W) (hf : rm.frames + 1 ≤ R.frames) (hl : W + (mc + 11) + rm.locals ≤ R.locals) (hc : k + rm.cells ≤ R.cells) (hs : n + rm.slots ≤ R.slots) (hLs : Ls.length = ml) (E : Exa Z h a Cn) (C : o_C l Z n0 yc bc mc rc rm (.ref a :: [v0]) h Qc) (K : ∀ v h', Qc v h' → o_Go κ Q h' (k + rm.cells) (n + rm.slots) (pc + 3) Ls (v.toList ++ rest)) : o_Go κ Q h k n pc Ls (v0 :: .ref a :: rest) := o_callV B W hd w1 w2 w5 w6 w3 w4 hy pd (as := [v0]) hlen hW hf hl hc hs hLs E C K
theorem o_callS2 (B : o_Bo κ l Z n0 R y bytes ml ret) {yc : MethodName} {bc : ByteArray} {mc : Nat} {rc : Option FieldType} {rm : Room} {v0 v1 : Value} {rest : List Value} {Qc : Option Value → Heap → Prop} {idx : Nat} (W : Nat) (hd : decode bytes pc = .ok (.invokestatic idx, 3)) (w1 : (Cond.methodLink y.cls idx yc).before a0 Z = true) (w2 : (Cond.static yc).before a0 Z = true) (w3 : (Cond.initialized yc.cls).before a0 Z = true) (w4 : (Cond.code yc bc mc rc).before a0 Z = true) (hy : yc.cls ≠ "java/lang/invoke/MethodHandle" ∧ yc.cls ≠ "java/lang/invoke/VarHandle") {ps : List FieldType} {r0 : Option FieldType} (pd : parseMethodDescriptor yc.desc = some ⟨ps, r0⟩) (hlen : 2 = ps.length) (hW : (rest.map fun v => v.category).sum ≤ W) (hf : rm.frames + 1 ≤ R.frames) (hl : W + (mc + 11) + rm.locals ≤ R.locals) (hc : k + rm.cells ≤ R.cells) (hs : n + rm.slots ≤ R.slots) (hLs : Ls.length = ml) (C : o_C l Z n0 yc bc mc rc rm [v0, v1] h Qc) (K : ∀ v h', Qc v h' → o_Go κ Q h' (k + rm.cells) (n + rm.slots) (pc + 3) Ls (v.toList ++ rest)) : o_Go κ Q h k n pc Ls (v1 :: v0 :: rest) := o_callS B W hd w1 w2 w3 w4 hy pd (as := [v0, v1]) hlen hW hf hl hc hs hLs C K
theorem o_callN2 (B : o_Bo κ l Z n0 R y bytes ml ret) {yc : MethodName} {bc : ByteArray} {mc : Nat} {rm : Room} {v0 v1 : Value} {rest : List Value} {a : Addr} {Qc : Option Value → Heap → Prop} {idx : Nat} (W : Nat) (hd : decode bytes pc = .ok (.invokespecial idx, 3)) (hin : yc.name = "<init>") (w1 : (Cond.methodLink y.cls idx yc).before a0 Z = true) (w2 : (Cond.instanceMethod yc).before a0 Z = true) (w3 : (Cond.initialized yc.cls).before a0 Z = true) (w4 : (Cond.code yc bc mc none).before a0 Z = true) (hy : yc.cls ≠ "java/lang/invoke/MethodHandle" ∧ yc.cls ≠ "java/lang/invoke/VarHandle") {ps : List FieldType} {r0 : Option FieldType} (pd : parseMethodDescriptor yc.desc = some ⟨ps, r0⟩) (hlen : 2 = ps.length) (hW : (rest.map fun v => v.category).sum ≤ W) (hf : rm.frames + 1 ≤ R.frames) (hl : W + (mc + 11) + rm.locals ≤ R.locals) (hc : k + rm.cells ≤ R.cells) (hs : n + rm.slots ≤ R.slots) (hLs : Ls.length = ml) (C : o_C l Z n0 yc bc mc none rm (.ref a :: [v0, v1]) h Qc) (K : ∀ v h', Qc v h' → o_Go κ Q h' (k + rm.cells) (n + rm.slots) (pc + 3) Ls (v.toList ++ rest)) : o_Go κ Q h k n pc Ls (v1 :: v0 :: .ref a :: rest) := o_callN B W hd hin w1 w2 w3 w4 hy pd (as := [v0, v1]) hlen hW hf hl hc hs hLs C K
theorem o_callV2 (B : o_Bo κ l Z n0 R y bytes ml ret) {yc : MethodName} {Cn : String} {bc : ByteArray} {mc : Nat} {rc : Option FieldType} {rm : Room} {v0 v1 : Value} {rest : List Value} {a : Addr} {Qc : Option Value → Heap → Prop} {idx : Nat} (W : Nat) (hd : decode bytes pc = .ok (.invokevirtual idx, 3)) (w1 : (Cond.methodLink y.cls idx yc).before a0 Z = true) (w2 : (Cond.declares yc).before a0 Z = true) (w5 : (Cond.selects Cn yc yc).before a0 Z = true) (w6 : (Cond.instanceMethod yc).before a0 Z = true) (w3 : (Cond.initialized yc.cls).before a0 Z = true) (w4 : (Cond.code yc bc mc rc).before a0 Z = true) (hy : yc.cls ≠ "java/lang/invoke/MethodHandle" ∧ yc.cls ≠ "java/lang/invoke/VarHandle") {ps : List FieldType} {r0 : Option FieldType} (pd : parseMethodDescriptor yc.desc = some ⟨ps, r0⟩) (hlen : 2 = ps.length) (hW : (rest.map fun v => v.category).sum ≤ W) (hf : rm.frames + 1 ≤ R.frames) (hl : W + (mc + 11) + rm.locals ≤ R.locals) (hc : k + rm.cells ≤ R.cells) (hs : n + rm.slots ≤ R.slots) (hLs : Ls.length = ml) (E : Exa Z h a Cn) (C : o_C l Z n0 yc bc mc rc rm (.ref a :: [v0, v1]) h Qc) (K : ∀ v h', Qc v h' → o_Go κ Q h' (k + rm.cells) (n + rm.slots) (pc + 3) Ls (v.toList ++ rest)) : o_Go κ Q h k n pc Ls (v1 :: v0 :: .ref a :: rest) := o_callV B W hd w1 w2 w5 w6 w3 w4 hy pd (as := [v0, v1]) hlen hW hf hl hc hs hLs E C K
theorem o_callS3 (B : o_Bo κ l Z n0 R y bytes ml ret) {yc : MethodName} {bc : ByteArray} {mc : Nat} {rc : Option FieldType} {rm : Room} {v0 v1 v2 : Value} {rest : List Value} {Qc : Option Value → Heap → Prop} {idx : Nat} (W : Nat) (hd : decode bytes pc = .ok (.invokestatic idx, 3)) (w1 : (Cond.methodLink y.cls idx yc).before a0 Z = true) (w2 : (Cond.static yc).before a0 Z = true) (w3 : (Cond.initialized yc.cls).before a0 Z = true) (w4 : (Cond.code yc bc mc rc).before a0 Z = true) (hy : yc.cls ≠ "java/lang/invoke/MethodHandle" ∧ yc.cls ≠ "java/lang/invoke/VarHandle") {ps : List FieldType} {r0 : Option FieldType} (pd : parseMethodDescriptor yc.desc = some ⟨ps, r0⟩) (hlen : 3 = ps.length) (hW : (rest.map fun v => v.category).sum ≤ W) (hf : rm.frames + 1 ≤ R.frames) (hl : W + (mc + 11) + rm.locals ≤ R.locals) (hc : k + rm.cells ≤ R.cells) (hs : n + rm.slots ≤ R.slots) (hLs : Ls.length = ml) (C : o_C l Z n0 yc bc mc rc rm [v0, v1, v2] h Qc) (K : ∀ v h', Qc v h' → o_Go κ Q h' (k + rm.cells) (n + rm.slots) (pc + 3) Ls (v.toList ++ rest)) : o_Go κ Q h k n pc Ls (v2 :: v1 :: v0 :: rest) := o_callS B W hd w1 w2 w3 w4 hy pd (as := [v0, v1, v2]) hlen hW hf hl hc hs hLs C K
theorem o_callN3 (B : o_Bo κ l Z n0 R y bytes ml ret) {yc : MethodName} {bc : ByteArray} {mc : Nat} {rm : Room} {v0 v1 v2 : Value} {rest : List Value} {a : Addr} {Qc : Option Value → Heap → Prop} {idx : Nat} (W : Nat) (hd : decode bytes pc = .ok (.invokespecial idx, 3)) (hin : yc.name = "<init>") (w1 : (Cond.methodLink y.cls idx yc).before a0 Z = true) (w2 : (Cond.instanceMethod yc).before a0 Z = true) (w3 : (Cond.initialized yc.cls).before a0 Z = true) (w4 : (Cond.code yc bc mc none).before a0 Z = true) (hy : yc.cls ≠ "java/lang/invoke/MethodHandle" ∧ yc.cls ≠ "java/lang/invoke/VarHandle") {ps : List FieldType} {r0 : Option FieldType} (pd : parseMethodDescriptor yc.desc = some ⟨ps, r0⟩) (hlen : 3 = ps.length) (hW : (rest.map fun v => v.category).sum ≤ W) (hf : rm.frames + 1 ≤ R.frames) (hl : W + (mc + 11) + rm.locals ≤ R.locals) (hc : k + rm.cells ≤ R.cells) (hs : n + rm.slots ≤ R.slots) (hLs : Ls.length = ml) (C : o_C l Z n0 yc bc mc none rm (.ref a :: [v0, v1, v2]) h Qc) (K : ∀ v h', Qc v h' → o_Go κ Q h' (k + rm.cells) (n + rm.slots) (pc + 3) Ls (v.toList ++ rest)) : o_Go κ Q h k n pc Ls (v2 :: v1 :: v0 :: .ref a :: rest) := o_callN B W hd hin w1 w2 w3 w4 hy pd (as := [v0, v1, v2]) hlen hW hf hl hc hs hLs C K
theorem o_callV3 (B : o_Bo κ l Z n0 R y bytes ml ret) {yc : MethodName} {Cn : String} {bc : ByteArray} {mc : Nat} {rc : Option FieldType} {rm : Room} {v0 v1 v2 : Value} {rest : List Value} {a : Addr} {Qc : Option Value → Heap → Prop} {idx : Nat} (W : Nat) (hd : decode bytes pc = .ok (.invokevirtual idx, 3)) (w1 : (Cond.methodLink y.cls idx yc).before a0 Z = true) (w2 : (Cond.declares yc).before a0 Z = true) (w5 : (Cond.selects Cn yc yc).before a0 Z = true) (w6 : (Cond.instanceMethod yc).before a0 Z = true) (w3 : (Cond.initialized yc.cls).before a0 Z = true) (w4 : (Cond.code yc bc mc rc).before a0 Z = true) (hy : yc.cls ≠ "java/lang/invoke/MethodHandle" ∧ yc.cls ≠ "java/lang/invoke/VarHandle") {ps : List FieldType} {r0 : Option FieldType} (pd : parseMethodDescriptor yc.desc = some ⟨ps, r0⟩) (hlen : 3 = ps.length) (hW : (rest.map fun v => v.category).sum ≤ W) (hf : rm.frames + 1 ≤ R.frames) (hl : W + (mc + 11) + rm.locals ≤ R.locals) (hc : k + rm.cells ≤ R.cells) (hs : n + rm.slots ≤ R.slots) (hLs : Ls.length = ml) (E : Exa Z h a Cn) (C : o_C l Z n0 yc bc mc rc rm (.ref a :: [v0, v1, v2]) h Qc) (K : ∀ v h', Qc v h' → o_Go κ Q h' (k + rm.cells) (n + rm.slots) (pc + 3) Ls (v.toList ++ rest)) : o_Go κ Q h k n pc Ls (v2 :: v1 :: v0 :: .ref a :: rest) := o_callV B W hd w1 w2 w5 w6 w3 w4 hy pd (as := [v0, v1, v2]) hlen hW hf hl hc hs hLs E C K
theorem o_callS4 (B : o_Bo κ l Z n0 R y bytes ml ret) {yc : MethodName} {bc : ByteArray} {mc : Nat} {rc : Option FieldType} {rm : Room} {v0 v1 v2 v3 : Value} {rest : List Value} {Qc : Option Value → Heap → Prop} {idx : Nat} (W : Nat) (hd : decode bytes pc = .ok (.invokestatic idx, 3)) (w1 : (Cond.methodLink y.cls idx yc).before a0 Z = true) (w2 : (Cond.static yc).before a0 Z = true) (w3 : (Cond.initialized yc.cls).before a0 Z = true) (w4 : (Cond.code yc bc mc rc).before a0 Z = true) (hy : yc.cls ≠ "java/lang/invoke/MethodHandle" ∧ yc.cls ≠ "java/lang/invoke/VarHandle") {ps : List FieldType} {r0 : Option FieldType} (pd : parseMethodDescriptor yc.desc = some ⟨ps, r0⟩) (hlen : 4 = ps.length) (hW : (rest.map fun v => v.category).sum ≤ W) (hf : rm.frames + 1 ≤ R.frames) (hl : W + (mc + 11) + rm.locals ≤ R.locals) (hc : k + rm.cells ≤ R.cells) (hs : n + rm.slots ≤ R.slots) (hLs : Ls.length = ml) (C : o_C l Z n0 yc bc mc rc rm [v0, v1, v2, v3] h Qc) (K : ∀ v h', Qc v h' → o_Go κ Q h' (k + rm.cells) (n + rm.slots) (pc + 3) Ls (v.toList ++ rest)) : o_Go κ Q h k n pc Ls (v3 :: v2 :: v1 :: v0 :: rest) := o_callS B W hd w1 w2 w3 w4 hy pd (as := [v0, v1, v2, v3]) hlen hW hf hl hc hs hLs C K
theorem o_callN4 (B : o_Bo κ l Z n0 R y bytes ml ret) {yc : MethodName} {bc : ByteArray} {mc : Nat} {rm : Room} {v0 v1 v2 v3 : Value} {rest : List Value} {a : Addr} {Qc : Option Value → Heap → Prop} {idx : Nat} (W : Nat) (hd : decode bytes pc = .ok (.invokespecial idx, 3)) (hin : yc.name = "<init>") (w1 : (Cond.methodLink y.cls idx yc).before a0 Z = true) (w2 : (Cond.instanceMethod yc).before a0 Z = true) (w3 : (Cond.initialized yc.cls).before a0 Z = true) (w4 : (Cond.code yc bc mc none).before a0 Z = true) (hy : yc.cls ≠ "java/lang/invoke/MethodHandle" ∧ yc.cls ≠ "java/lang/invoke/VarHandle") {ps : List FieldType} {r0 : Option FieldType} (pd : parseMethodDescriptor yc.desc = some ⟨ps, r0⟩) (hlen : 4 = ps.length) (hW : (rest.map fun v => v.category).sum ≤ W) (hf : rm.frames + 1 ≤ R.frames) (hl : W + (mc + 11) + rm.locals ≤ R.locals) (hc : k + rm.cells ≤ R.cells) (hs : n + rm.slots ≤ R.slots) (hLs : Ls.length = ml) (C : o_C l Z n0 yc bc mc none rm (.ref a :: [v0, v1, v2, v3]) h Qc) (K : ∀ v h', Qc v h' → o_Go κ Q h' (k + rm.cells) (n + rm.slots) (pc + 3) Ls (v.toList ++ rest)) : o_Go κ Q h k n pc Ls (v3 :: v2 :: v1 :: v0 :: .ref a :: rest) := o_callN B W hd hin w1 w2 w3 w4 hy pd (as := [v0, v1, v2, v3]) hlen hW hf hl hc hs hLs C K
theorem o_callV4 (B : o_Bo κ l Z n0 R y bytes ml ret) {yc : MethodName} {Cn : String} {bc : ByteArray} {mc : Nat} {rc : Option FieldType} {rm : Room} {v0 v1 v2 v3 : Value} {rest : List Value} {a : Addr} {Qc : Option Value → Heap → Prop} {idx : Nat} (W : Nat) (hd : decode bytes pc = .ok (.invokevirtual idx, 3)) (w1 : (Cond.methodLink y.cls idx yc).before a0 Z = true) (w2 : (Cond.declares yc).before a0 Z = true) (w5 : (Cond.selects Cn yc yc).before a0 Z = true) (w6 : (Cond.instanceMethod yc).before a0 Z = true) (w3 : (Cond.initialized yc.cls).before a0 Z = true) (w4 : (Cond.code yc bc mc rc).before a0 Z = true) (hy : yc.cls ≠ "java/lang/invoke/MethodHandle" ∧ yc.cls ≠ "java/lang/invoke/VarHandle") {ps : List FieldType} {r0 : Option FieldType} (pd : parseMethodDescriptor yc.desc = some ⟨ps, r0⟩) (hlen : 4 = ps.length) (hW : (rest.map fun v => v.category).sum ≤ W) (hf : rm.frames + 1 ≤ R.frames) (hl : W + (mc + 11) + rm.locals ≤ R.locals) (hc : k + rm.cells ≤ R.cells) (hs : n + rm.slots ≤ R.slots) (hLs : Ls.length = ml) (E : Exa Z h a Cn) (C : o_C l Z n0 yc bc mc rc rm (.ref a :: [v0, v1, v2, v3]) h Qc) (K : ∀ v h', Qc v h' → o_Go κ Q h' (k + rm.cells) (n + rm.slots) (pc + 3) Ls (v.toList ++ rest)) : o_Go κ Q h k n pc Ls (v3 :: v2 :: v1 :: v0 :: .ref a :: rest) := o_callV B W hd w1 w2 w5 w6 w3 w4 hy pd (as := [v0, v1, v2, v3]) hlen hW hf hl hc hs hLs E C K
theorem o_callS5 (B : o_Bo κ l Z n0 R y bytes ml ret) {yc : MethodName} {bc : ByteArray} {mc : Nat} {rc : Option FieldType} {rm : Room} {v0 v1 v2 v3 v4 : Value} {rest : List Value} {Qc : Option Value → Heap → Prop} {idx : Nat} (W : Nat) (hd : decode bytes pc = .ok (.invokestatic idx, 3)) (w1 : (Cond.methodLink y.cls idx yc).before a0 Z = true) (w2 : (Cond.static yc).before a0 Z = true) (w3 : (Cond.initialized yc.cls).before a0 Z = true) (w4 : (Cond.code yc bc mc rc).before a0 Z = true) (hy : yc.cls ≠ "java/lang/invoke/MethodHandle" ∧ yc.cls ≠ "java/lang/invoke/VarHandle") {ps : List FieldType} {r0 : Option FieldType} (pd : parseMethodDescriptor yc.desc = some ⟨ps, r0⟩) (hlen : 5 = ps.length) (hW : (rest.map fun v => v.category).sum ≤ W) (hf : rm.frames + 1 ≤ R.frames) (hl : W + (mc + 11) + rm.locals ≤ R.locals) (hc : k + rm.cells ≤ R.cells) (hs : n + rm.slots ≤ R.slots) (hLs : Ls.length = ml) (C : o_C l Z n0 yc bc mc rc rm [v0, v1, v2, v3, v4] h Qc) (K : ∀ v h', Qc v h' → o_Go κ Q h' (k + rm.cells) (n + rm.slots) (pc + 3) Ls (v.toList ++ rest)) : o_Go κ Q h k n pc Ls (v4 :: v3 :: v2 :: v1 :: v0 :: rest) := o_callS B W hd w1 w2 w3 w4 hy pd (as := [v0, v1, v2, v3, v4]) hlen hW hf hl hc hs hLs C K
theorem o_callN5 (B : o_Bo κ l Z n0 R y bytes ml ret) {yc : MethodName} {bc : ByteArray} {mc : Nat} {rm : Room} {v0 v1 v2 v3 v4 : Value} {rest : List Value} {a : Addr} {Qc : Option Value → Heap → Prop} {idx : Nat} (W : Nat) (hd : decode bytes pc = .ok (.invokespecial idx, 3)) (hin : yc.name = "<init>") (w1 : (Cond.methodLink y.cls idx yc).before a0 Z = true) (w2 : (Cond.instanceMethod yc).before a0 Z = true) (w3 : (Cond.initialized yc.cls).before a0 Z = true) (w4 : (Cond.code yc bc mc none).before a0 Z = true) (hy : yc.cls ≠ "java/lang/invoke/MethodHandle" ∧ yc.cls ≠ "java/lang/invoke/VarHandle") {ps : List FieldType} {r0 : Option FieldType} (pd : parseMethodDescriptor yc.desc = some ⟨ps, r0⟩) (hlen : 5 = ps.length) (hW : (rest.map fun v => v.category).sum ≤ W) (hf : rm.frames + 1 ≤ R.frames) (hl : W + (mc + 11) + rm.locals ≤ R.locals) (hc : k + rm.cells ≤ R.cells) (hs : n + rm.slots ≤ R.slots) (hLs : Ls.length = ml) (C : o_C l Z n0 yc bc mc none rm (.ref a :: [v0, v1, v2, v3, v4]) h Qc) (K : ∀ v h', Qc v h' → o_Go κ Q h' (k + rm.cells) (n + rm.slots) (pc + 3) Ls (v.toList ++ rest)) : o_Go κ Q h k n pc Ls (v4 :: v3 :: v2 :: v1 :: v0 :: .ref a :: rest) := o_callN B W hd hin w1 w2 w3 w4 hy pd (as := [v0, v1, v2, v3, v4]) hlen hW hf hl hc hs hLs C K
theorem o_callV5 (B : o_Bo κ l Z n0 R y bytes ml ret) {yc : MethodName} {Cn : String} {bc : ByteArray} {mc : Nat} {rc : Option FieldType} {rm : Room} {v0 v1 v2 v3 v4 : Value} {rest : List Value} {a : Addr} {Qc : Option Value → Heap → Prop} {idx : Nat} (W : Nat) (hd : decode bytes pc = .ok (.invokevirtual idx, 3)) (w1 : (Cond.methodLink y.cls idx yc).before a0 Z = true) (w2 : (Cond.declares yc).before a0 Z = true) (w5 : (Cond.selects Cn yc yc).before a0 Z = true) (w6 : (Cond.instanceMethod yc).before a0 Z = true) (w3 : (Cond.initialized yc.cls).before a0 Z = true) (w4 : (Cond.code yc bc mc rc).before a0 Z = true) (hy : yc.cls ≠ "java/lang/invoke/MethodHandle" ∧ yc.cls ≠ "java/lang/invoke/VarHandle") {ps : List FieldType} {r0 : Option FieldType} (pd : parseMethodDescriptor yc.desc = some ⟨ps, r0⟩) (hlen : 5 = ps.length) (hW : (rest.map fun v => v.category).sum ≤ W) (hf : rm.frames + 1 ≤ R.frames) (hl : W + (mc + 11) + rm.locals ≤ R.locals) (hc : k + rm.cells ≤ R.cells) (hs : n + rm.slots ≤ R.slots) (hLs : Ls.length = ml) (E : Exa Z h a Cn) (C : o_C l Z n0 yc bc mc rc rm (.ref a :: [v0, v1, v2, v3, v4]) h Qc) (K : ∀ v h', Qc v h' → o_Go κ Q h' (k + rm.cells) (n + rm.slots) (pc + 3) Ls (v.toList ++ rest)) : o_Go κ Q h k n pc Ls (v4 :: v3 :: v2 :: v1 :: v0 :: .ref a :: rest) := o_callV B W hd w1 w2 w5 w6 w3 w4 hy pd (as := [v0, v1, v2, v3, v4]) hlen hW hf hl hc hs hLs E C K
theorem o_callS6 (B : o_Bo κ l Z n0 R y bytes ml ret) {yc : MethodName} {bc : ByteArray} {mc : Nat} {rc : Option FieldType} {rm : Room} {v0 v1 v2 v3 v4 v5 : Value} {rest : List Value} {Qc : Option Value → Heap → Prop} {idx : Nat} (W : Nat) (hd : decode bytes pc = .ok (.invokestatic idx, 3)) (w1 : (Cond.methodLink y.cls idx yc).before a0 Z = true) (w2 : (Cond.static yc).before a0 Z = true) (w3 : (Cond.initialized yc.cls).before a0 Z = true) (w4 : (Cond.code yc bc mc rc).before a0 Z = true) (hy : yc.cls ≠ "java/lang/invoke/MethodHandle" ∧ yc.cls ≠ "java/lang/invoke/VarHandle") {ps : List FieldType} {r0 : Option FieldType} (pd : parseMethodDescriptor yc.desc = some ⟨ps, r0⟩) (hlen : 6 = ps.length) (hW : (rest.map fun v => v.category).sum ≤ W) (hf : rm.frames + 1 ≤ R.frames) (hl : W + (mc + 11) + rm.locals ≤ R.locals) (hc : k + rm.cells ≤ R.cells) (hs : n + rm.slots ≤ R.slots) (hLs : Ls.length = ml) (C : o_C l Z n0 yc bc mc rc rm [v0, v1, v2, v3, v4, v5] h Qc) (K : ∀ v h', Qc v h' → o_Go κ Q h' (k + rm.cells) (n + rm.slots) (pc + 3) Ls (v.toList ++ rest)) : o_Go κ Q h k n pc Ls (v5 :: v4 :: v3 :: v2 :: v1 :: v0 :: rest) := o_callS B W hd w1 w2 w3 w4 hy pd (as := [v0, v1, v2, v3, v4, v5]) hlen hW hf hl hc hs hLs C K
theorem o_callN6 (B : o_Bo κ l Z n0 R y bytes ml ret) {yc : MethodName} {bc : ByteArray} {mc : Nat} {rm : Room} {v0 v1 v2 v3 v4 v5 : Value} {rest : List Value} {a : Addr} {Qc : Option Value → Heap → Prop} {idx : Nat} (W : Nat) (hd : decode bytes pc = .ok (.invokespecial idx, 3)) (hin : yc.name = "<init>") (w1 : (Cond.methodLink y.cls idx yc).before a0 Z = true) (w2 : (Cond.instanceMethod yc).before a0 Z = true) (w3 : (Cond.initialized yc.cls).before a0 Z = true) (w4 : (Cond.code yc bc mc none).before a0 Z = true) (hy : yc.cls ≠ "java/lang/invoke/MethodHandle" ∧ yc.cls ≠ "java/lang/invoke/VarHandle") {ps : List FieldType} {r0 : Option FieldType} (pd : parseMethodDescriptor yc.desc = some ⟨ps, r0⟩) (hlen : 6 = ps.length) (hW : (rest.map fun v => v.category).sum ≤ W) (hf : rm.frames + 1 ≤ R.frames) (hl : W + (mc + 11) + rm.locals ≤ R.locals) (hc : k + rm.cells ≤ R.cells) (hs : n + rm.slots ≤ R.slots) (hLs : Ls.length = ml) (C : o_C l Z n0 yc bc mc none rm (.ref a :: [v0, v1, v2, v3, v4, v5]) h Qc) (K : ∀ v h', Qc v h' → o_Go κ Q h' (k + rm.cells) (n + rm.slots) (pc + 3) Ls (v.toList ++ rest)) : o_Go κ Q h k n pc Ls (v5 :: v4 :: v3 :: v2 :: v1 :: v0 :: .ref a :: rest) := o_callN B W hd hin w1 w2 w3 w4 hy pd (as := [v0, v1, v2, v3, v4, v5]) hlen hW hf hl hc hs hLs C K
theorem o_callV6 (B : o_Bo κ l Z n0 R y bytes ml ret) {yc : MethodName} {Cn : String} {bc : ByteArray} {mc : Nat} {rc : Option FieldType} {rm : Room} {v0 v1 v2 v3 v4 v5 : Value} {rest : List Value} {a : Addr} {Qc : Option Value → Heap → Prop} {idx : Nat} (W : Nat) (hd : decode bytes pc = .ok (.invokevirtual idx, 3)) (w1 : (Cond.methodLink y.cls idx yc).before a0 Z = true) (w2 : (Cond.declares yc).before a0 Z = true) (w5 : (Cond.selects Cn yc yc).before a0 Z = true) (w6 : (Cond.instanceMethod yc).before a0 Z = true) (w3 : (Cond.initialized yc.cls).before a0 Z = true) (w4 : (Cond.code yc bc mc rc).before a0 Z = true) (hy : yc.cls ≠ "java/lang/invoke/MethodHandle" ∧ yc.cls ≠ "java/lang/invoke/VarHandle") {ps : List FieldType} {r0 : Option FieldType} (pd : parseMethodDescriptor yc.desc = some ⟨ps, r0⟩) (hlen : 6 = ps.length) (hW : (rest.map fun v => v.category).sum ≤ W) (hf : rm.frames + 1 ≤ R.frames) (hl : W + (mc + 11) + rm.locals ≤ R.locals) (hc : k + rm.cells ≤ R.cells) (hs : n + rm.slots ≤ R.slots) (hLs : Ls.length = ml) (E : Exa Z h a Cn) (C : o_C l Z n0 yc bc mc rc rm (.ref a :: [v0, v1, v2, v3, v4, v5]) h Qc) (K : ∀ v h', Qc v h' → o_Go κ Q h' (k + rm.cells) (n + rm.slots) (pc + 3) Ls (v.toList ++ rest)) : o_Go κ Q h k n pc Ls (v5 :: v4 :: v3 :: v2 :: v1 :: v0 :: .ref a :: rest) := o_callV B W hd w1 w2 w5 w6 w3 w4 hy pd (as := [v0, v1, v2, v3, v4, v5]) hlen hW hf hl hc hs hLs E C K
theorem o_callS7 (B : o_Bo κ l Z n0 R y bytes ml ret) {yc : MethodName} {bc : ByteArray} {mc : Nat} {rc : Option FieldType} {rm : Room} {v0 v1 v2 v3 v4 v5 v6 : Value} {rest : List Value} {Qc : Option Value → Heap → Prop} {idx : Nat} (W : Nat) (hd : decode bytes pc = .ok (.invokestatic idx, 3)) (w1 : (Cond.methodLink y.cls idx yc).before a0 Z = true) (w2 : (Cond.static yc).before a0 Z = true) (w3 : (Cond.initialized yc.cls).before a0 Z = true) (w4 : (Cond.code yc bc mc rc).before a0 Z = true) (hy : yc.cls ≠ "java/lang/invoke/MethodHandle" ∧ yc.cls ≠ "java/lang/invoke/VarHandle") {ps : List FieldType} {r0 : Option FieldType} (pd : parseMethodDescriptor yc.desc = some ⟨ps, r0⟩) (hlen : 7 = ps.length) (hW : (rest.map fun v => v.category).sum ≤ W) (hf : rm.frames + 1 ≤ R.frames) (hl : W + (mc + 11) + rm.locals ≤ R.locals) (hc : k + rm.cells ≤ R.cells) (hs : n + rm.slots ≤ R.slots) (hLs : Ls.length = ml) (C : o_C l Z n0 yc bc mc rc rm [v0, v1, v2, v3, v4, v5, v6] h Qc) (K : ∀ v h', Qc v h' → o_Go κ Q h' (k + rm.cells) (n + rm.slots) (pc + 3) Ls (v.toList ++ rest)) : o_Go κ Q h k n pc Ls (v6 :: v5 :: v4 :: v3 :: v2 :: v1 :: v0 :: rest) := o_callS B W hd w1 w2 w3 w4 hy pd (as := [v0, v1, v2, v3, v4, v5, v6]) hlen hW hf hl hc hs hLs C K
theorem o_callN7 (B : o_Bo κ l Z n0 R y bytes ml ret) {yc : MethodName} {bc : ByteArray} {mc : Nat} {rm : Room} {v0 v1 v2 v3 v4 v5 v6 : Value} {rest : List Value} {a : Addr} {Qc : Option Value → Heap → Prop} {idx : Nat} (W : Nat) (hd : decode bytes pc = .ok (.invokespecial idx, 3)) (hin : yc.name = "<init>") (w1 : (Cond.methodLink y.cls idx yc).before a0 Z = true) (w2 : (Cond.instanceMethod yc).before a0 Z = true) (w3 : (Cond.initialized yc.cls).before a0 Z = true) (w4 : (Cond.code yc bc mc none).before a0 Z = true) (hy : yc.cls ≠ "java/lang/invoke/MethodHandle" ∧ yc.cls ≠ "java/lang/invoke/VarHandle") {ps : List FieldType} {r0 : Option FieldType} (pd : parseMethodDescriptor yc.desc = some ⟨ps, r0⟩) (hlen : 7 = ps.length) (hW : (rest.map fun v => v.category).sum ≤ W) (hf : rm.frames + 1 ≤ R.frames) (hl : W + (mc + 11) + rm.locals ≤ R.locals) (hc : k + rm.cells ≤ R.cells) (hs : n + rm.slots ≤ R.slots) (hLs : Ls.length = ml) (C : o_C l Z n0 yc bc mc none rm (.ref a :: [v0, v1, v2, v3, v4, v5, v6]) h Qc) (K : ∀ v h', Qc v h' → o_Go κ Q h' (k + rm.cells) (n + rm.slots) (pc + 3) Ls (v.toList ++ rest)) : o_Go κ Q h k n pc Ls (v6 :: v5 :: v4 :: v3 :: v2 :: v1 :: v0 :: .ref a :: rest) := o_callN B W hd hin w1 w2 w3 w4 hy pd (as := [v0, v1, v2, v3, v4, v5, v6]) hlen hW hf hl hc hs hLs C K
theorem o_callV7 (B : o_Bo κ l Z n0 R y bytes ml ret) {yc : MethodName} {Cn : String} {bc : ByteArray} {mc : Nat} {rc : Option FieldType} {rm : Room} {v0 v1 v2 v3 v4 v5 v6 : Value} {rest : List Value} {a : Addr} {Qc : Option Value → Heap → Prop} {idx : Nat} (W : Nat) (hd : decode bytes pc = .ok (.invokevirtual idx, 3)) (w1 : (Cond.methodLink y.cls idx yc).before a0 Z = true) (w2 : (Cond.declares yc).before a0 Z = true) (w5 : (Cond.selects Cn yc yc).before a0 Z = true) (w6 : (Cond.instanceMethod yc).before a0 Z = true) (w3 : (Cond.initialized yc.cls).before a0 Z = true) (w4 : (Cond.code yc bc mc rc).before a0 Z = true) (hy : yc.cls ≠ "java/lang/invoke/MethodHandle" ∧ yc.cls ≠ "java/lang/invoke/VarHandle") {ps : List FieldType} {r0 : Option FieldType} (pd : parseMethodDescriptor yc.desc = some ⟨ps, r0⟩) (hlen : 7 = ps.length) (hW : (rest.map fun v => v.category).sum ≤ W) (hf : rm.frames + 1 ≤ R.frames) (hl : W + (mc + 11) + rm.locals ≤ R.locals) (hc : k + rm.cells ≤ R.cells) (hs : n + rm.slots ≤ R.slots) (hLs : Ls.length = ml) (E : Exa Z h a Cn) (C : o_C l Z n0 yc bc mc rc rm (.ref a :: [v0, v1, v2, v3, v4, v5, v6]) h Qc) (K : ∀ v h', Qc v h' → o_Go κ Q h' (k + rm.cells) (n + rm.slots) (pc + 3) Ls (v.toList ++ rest)) : o_Go κ Q h k n pc Ls (v6 :: v5 :: v4 :: v3 :: v2 :: v1 :: v0 :: .ref a :: rest) := o_callV B W hd w1 w2 w5 w6 w3 w4 hy pd (as := [v0, v1, v2, v3, v4, v5, v6]) hlen hW hf hl hc hs hLs E C K
end Fw
section Pats
variable {κ : o_K} {l : Launch} {Z : State} {n0 : Nat} {R : Room} {y : MethodName} {bytes : ByteArray} {ml : Nat} {ret : Option FieldType} {Q : Option Value → Heap → Prop} {h : Heap} {k n pc : Nat} {St : List Value}
theorem o_astore_7_6 (B : o_Bo κ l Z n0 R y bytes ml ret) {s0 s1 s2 s3 s4 s5 s6 : Slot} {v : Value} (hd : decode bytes pc = .ok (.astore 6, 2)) (hv : v.isRef = true) (ho : o_ok1 s6 = true) (K : o_Go κ Q h k n (pc + 2) [s0, s1, s2, s3, s4, s5, .val v] St) : o_Go κ Q h k n pc [s0, s1, s2, s3, s4, s5, s6] (v :: St) := o_astore B hd hv rfl ho K
theorem o_astore_9_6 (B : o_Bo κ l Z n0 R y bytes ml ret) {s0 s1 s2 s3 s4 s5 s6 s7 s8 : Slot} {v : Value} (hd : decode bytes pc = .ok (.astore 6, 2)) (hv : v.isRef = true) (ho : o_ok1 s6 = true) (K : o_Go κ Q h k n (pc + 2) [s0, s1, s2, s3, s4, s5, .val v, s7, s8] St) : o_Go κ Q h k n pc [s0, s1, s2, s3, s4, s5, s6, s7, s8] (v :: St) := o_astore B hd hv rfl ho K
theorem o_astore_9_7 (B : o_Bo κ l Z n0 R y bytes ml ret) {s0 s1 s2 s3 s4 s5 s6 s7 s8 : Slot} {v : Value} (hd : decode bytes pc = .ok (.astore 7, 2)) (hv : v.isRef = true) (ho : o_ok1 s7 = true) (K : o_Go κ Q h k n (pc + 2) [s0, s1, s2, s3, s4, s5, s6, .val v, s8] St) : o_Go κ Q h k n pc [s0, s1, s2, s3, s4, s5, s6, s7, s8] (v :: St) := o_astore B hd hv rfl ho K
theorem o_iinc_3_2 (B : o_Bo κ l Z n0 R y bytes ml ret) {s0 s1 : Slot} {x : Int32} {cst : Int} (v z : Int32) (hd : decode bytes pc = .ok (.iinc 2 cst, 3)) (hv : Int32.ofInt cst = v) (hz : x + v = z) (K : o_Go κ Q h k n (pc + 3) [s0, s1, .val (.int z)] St) : o_Go κ Q h k n pc [s0, s1, .val (.int x)] St := o_iinc B v hd hv rfl (hz.symm ▸ K)
theorem o_iinc_7_3 (B : o_Bo κ l Z n0 R y bytes ml ret) {s0 s1 s2 s4 s5 s6 : Slot} {x : Int32} {cst : Int} (v z : Int32) (hd : decode bytes pc = .ok (.iinc 3 cst, 3)) (hv : Int32.ofInt cst = v) (hz : x + v = z) (K : o_Go κ Q h k n (pc + 3) [s0, s1, s2, .val (.int z), s4, s5, s6] St) : o_Go κ Q h k n pc [s0, s1, s2, .val (.int x), s4, s5, s6] St := o_iinc B v hd hv rfl (hz.symm ▸ K)
theorem o_istoreN_3_2 (B : o_Bo κ l Z n0 R y bytes ml ret) {s0 s1 s2 : Slot} {x : Int32} (hd : decode bytes pc = .ok (.istore_n 2, 1)) (ho : o_ok1 s2 = true) (K : o_Go κ Q h k n (pc + 1) [s0, s1, .val (.int x)] St) : o_Go κ Q h k n pc [s0, s1, s2] (.int x :: St) := o_istoreN B hd rfl ho K
theorem o_istoreN_4_2 (B : o_Bo κ l Z n0 R y bytes ml ret) {s0 s1 s2 s3 : Slot} {x : Int32} (hd : decode bytes pc = .ok (.istore_n 2, 1)) (ho : o_ok1 s2 = true) (K : o_Go κ Q h k n (pc + 1) [s0, s1, .val (.int x), s3] St) : o_Go κ Q h k n pc [s0, s1, s2, s3] (.int x :: St) := o_istoreN B hd rfl ho K
theorem o_istoreN_4_3 (B : o_Bo κ l Z n0 R y bytes ml ret) {s0 s1 s2 s3 : Slot} {x : Int32} (hd : decode bytes pc = .ok (.istore_n 3, 1)) (ho : o_ok1 s3 = true) (K : o_Go κ Q h k n (pc + 1) [s0, s1, s2, .val (.int x)] St) : o_Go κ Q h k n pc [s0, s1, s2, s3] (.int x :: St) := o_istoreN B hd rfl ho K
theorem o_istoreN_7_3 (B : o_Bo κ l Z n0 R y bytes ml ret) {s0 s1 s2 s3 s4 s5 s6 : Slot} {x : Int32} (hd : decode bytes pc = .ok (.istore_n 3, 1)) (ho : o_ok1 s3 = true) (K : o_Go κ Q h k n (pc + 1) [s0, s1, s2, .val (.int x), s4, s5, s6] St) : o_Go κ Q h k n pc [s0, s1, s2, s3, s4, s5, s6] (.int x :: St) := o_istoreN B hd rfl ho K
theorem o_istore_7_4 (B : o_Bo κ l Z n0 R y bytes ml ret) {s0 s1 s2 s3 s4 s5 s6 : Slot} {x : Int32} (hd : decode bytes pc = .ok (.istore 4, 2)) (ho : o_ok1 s4 = true) (K : o_Go κ Q h k n (pc + 2) [s0, s1, s2, s3, .val (.int x), s5, s6] St) : o_Go κ Q h k n pc [s0, s1, s2, s3, s4, s5, s6] (.int x :: St) := o_istore B hd rfl ho K
theorem o_istore_7_5 (B : o_Bo κ l Z n0 R y bytes ml ret) {s0 s1 s2 s3 s4 s5 s6 : Slot} {x : Int32} (hd : decode bytes pc = .ok (.istore 5, 2)) (ho : o_ok1 s5 = true) (K : o_Go κ Q h k n (pc + 2) [s0, s1, s2, s3, s4, .val (.int x), s6] St) : o_Go κ Q h k n pc [s0, s1, s2, s3, s4, s5, s6] (.int x :: St) := o_istore B hd rfl ho K
theorem o_istore_7_6 (B : o_Bo κ l Z n0 R y bytes ml ret) {s0 s1 s2 s3 s4 s5 s6 : Slot} {x : Int32} (hd : decode bytes pc = .ok (.istore 6, 2)) (ho : o_ok1 s6 = true) (K : o_Go κ Q h k n (pc + 2) [s0, s1, s2, s3, s4, s5, .val (.int x)] St) : o_Go κ Q h k n pc [s0, s1, s2, s3, s4, s5, s6] (.int x :: St) := o_istore B hd rfl ho K
theorem o_istore_9_5 (B : o_Bo κ l Z n0 R y bytes ml ret) {s0 s1 s2 s3 s4 s5 s6 s7 s8 : Slot} {x : Int32} (hd : decode bytes pc = .ok (.istore 5, 2)) (ho : o_ok1 s5 = true) (K : o_Go κ Q h k n (pc + 2) [s0, s1, s2, s3, s4, .val (.int x), s6, s7, s8] St) : o_Go κ Q h k n pc [s0, s1, s2, s3, s4, s5, s6, s7, s8] (.int x :: St) := o_istore B hd rfl ho K
theorem o_istore_9_8 (B : o_Bo κ l Z n0 R y bytes ml ret) {s0 s1 s2 s3 s4 s5 s6 s7 s8 : Slot} {x : Int32} (hd : decode bytes pc = .ok (.istore 8, 2)) (ho : o_ok1 s8 = true) (K : o_Go κ Q h k n (pc + 2) [s0, s1, s2, s3, s4, s5, s6, s7, .val (.int x)] St) : o_Go κ Q h k n pc [s0, s1, s2, s3, s4, s5, s6, s7, s8] (.int x :: St) := o_istore B hd rfl ho K
end Pats
theorem own_i32n (a : Nat) (h : a < 2 ^ 32) : (Int32.ofNat a).toBitVec.toNat = a := by
  show (BitVec.ofNat 32 a).toNat = a
  rw [BitVec.toNat_ofNat]; exact Nat.mod_eq_of_lt h
theorem own_i64n (a : Nat) (h : a < 2 ^ 64) : (Int64.ofNat a).toBitVec.toNat = a := by
  show (BitVec.ofNat 64 a).toNat = a
  rw [BitVec.toNat_ofNat]; exact Nat.mod_eq_of_lt h
theorem own_pow {j : Nat} (hj : j ≤ 30) : 2 ^ j ≤ 2 ^ 30 ∧ 0 < 2 ^ j := ⟨Nat.pow_le_pow_right (by decide) hj, Nat.two_pow_pos j⟩
theorem own_and (x : Int32) {j : Nat} (hj : j ≤ 30) : x &&& Int32.ofNat (2 ^ j - 1) = Int32.ofNat (x.toBitVec.toNat % 2 ^ j) := by
  obtain ⟨p1, p2⟩ := own_pow hj
  have m := Nat.mod_lt x.toBitVec.toNat p2
  apply Int32.toBitVec_inj.mp; apply BitVec.eq_of_toNat_eq
  rw [Int32.toBitVec_and, BitVec.toNat_and, own_i32n _ (by omega), own_i32n _ (by omega), Nat.and_two_pow_sub_one_eq_mod]
theorem own_andL (x : Int64) {j : Nat} (hj : j ≤ 30) : x &&& Int64.ofNat (2 ^ j - 1) = Int64.ofNat (x.toBitVec.toNat % 2 ^ j) := by
  obtain ⟨p1, p2⟩ := own_pow hj
  have m := Nat.mod_lt x.toBitVec.toNat p2
  apply Int64.toBitVec_inj.mp; apply BitVec.eq_of_toNat_eq
  rw [Int64.toBitVec_and, BitVec.toNat_and, own_i64n _ (by omega), own_i64n _ (by omega), Nat.and_two_pow_sub_one_eq_mod]
theorem own_sub1 {j : Nat} (hj : j ≤ 30) : Int32.ofNat (2 ^ j) - 1 = Int32.ofNat (2 ^ j - 1) := by
  obtain ⟨p1, p2⟩ := own_pow hj
  have e : 2 ^ j = (2 ^ j - 1) + 1 := by omega
  have e2 : Int32.ofNat (2 ^ j) = Int32.ofNat (2 ^ j - 1) + 1 := by
    rw [show (1 : Int32) = Int32.ofNat 1 from rfl, ← Int32.ofNat_add, ← e]
  rw [e2, Int32.add_sub_cancel]
theorem own_toInt {a : Nat} (h : a < 2 ^ 31) : (Int32.ofNat a).toInt = a := Int32.toInt_ofNat_of_lt h
theorem own_one (x : Nat) : Int32.ofNat x + 1 = Int32.ofNat (x + 1) := (Int32.ofNat_add x 1).symm
theorem own_step {x j : Nat} (hj : j ≤ 30) (hx : x < 2 ^ j) : (Int32.ofNat x + 1) &&& Int32.ofNat (2 ^ j - 1) = Int32.ofNat ((x + 1) % 2 ^ j) := by
  obtain ⟨p1, p2⟩ := own_pow hj
  rw [own_one, own_and _ hj, own_i32n _ (by omega)]
theorem own_wide {a : Nat} (h : a < 2 ^ 31) : (Int32.ofNat a).toInt64 = Int64.ofNat a := by
  apply Int64.toInt_inj.mp
  rw [Int32.toInt_toInt64, own_toInt h, Int64.toInt_ofNat_of_lt (by omega)]
theorem own_narrow {a : Nat} (h : a < 2 ^ 31) : (Int64.ofNat a).toInt32 = Int32.ofNat a := by
  apply Int32.toBitVec_inj.mp; apply BitVec.eq_of_toNat_eq
  show ((Int64.ofNat a).toBitVec.signExtend 32).toNat = _
  rw [BitVec.signExtend_eq_setWidth_of_le _ (by decide), BitVec.toNat_setWidth, own_i64n _ (by omega), own_i32n _ (by omega)]
  exact Nat.mod_eq_of_lt (by omega)
theorem own_s1 (key : Int64) {j : Nat} (hj : j ≤ 30) : (key &&& (Int32.ofNat (2 ^ j - 1)).toInt64).toInt32 = Int32.ofNat (key.toBitVec.toNat % 2 ^ j) := by
  obtain ⟨p1, p2⟩ := own_pow hj
  have m := Nat.mod_lt key.toBitVec.toNat p2
  rw [own_wide (by omega), own_andL _ hj, own_narrow (by omega)]
theorem own_s2 (key : Int64) {j : Nat} (hj : j ≤ 30) : key.toInt32 &&& Int32.ofNat (2 ^ j - 1) = Int32.ofNat (key.toBitVec.toNat % 2 ^ j) := by
  rw [own_and _ hj]
  have e : key.toInt32.toBitVec.toNat = key.toBitVec.toNat % 2 ^ 32 := by
    show (key.toBitVec.signExtend 32).toNat = _
    rw [BitVec.signExtend_eq_setWidth_of_le _ (by decide), BitVec.toNat_setWidth]
  rw [e, Nat.mod_mod_of_dvd _ (Nat.pow_dvd_pow 2 (by omega : j ≤ 32))]
theorem own_rem {a b : Nat} (ha : a < 2 ^ 31) (hb : b < 2 ^ 31) : Int32.ofNat a % Int32.ofNat b = Int32.ofNat (a % b) := by
  have hm : a % b ≤ a := Nat.mod_le a b
  apply Int32.toInt_inj.mp
  rw [Int32.toInt_mod, own_toInt ha, own_toInt hb, own_toInt (by omega)]
  exact (Int.ofNat_tmod a b).symm
theorem own_ne0 {a : Nat} (h0 : 0 < a) (ha : a < 2 ^ 31) : Int32.ofNat a ≠ 0 := fun q => by
  have := congrArg Int32.toInt q
  rw [own_toInt ha] at this
  have z : (0 : Int32).toInt = 0 := rfl
  omega
theorem own_nn {a : Nat} (ha : a < 2 ^ 31) : ¬ Int32.ofNat a < 0 := by
  rw [Int32.lt_iff_toInt_lt, own_toInt ha]
  have z : (0 : Int32).toInt = 0 := rfl
  omega
theorem own_ltn {a b : Nat} (ha : a < 2 ^ 31) (hb : b < 2 ^ 31) : Int32.ofNat a < Int32.ofNat b ↔ a < b := by
  rw [Int32.lt_iff_toInt_lt, own_toInt ha, own_toInt hb]; omega
theorem own_inj {a b : Nat} (ha : a < 2 ^ 31) (hb : b < 2 ^ 31) : Int32.ofNat a = Int32.ofNat b ↔ a = b := by
  rw [← Int32.toInt_inj, own_toInt ha, own_toInt hb]; omega
theorem own_least {p : Nat → Prop} (hd : ∀ d, p d ∨ ¬ p d) : ∀ n, (∃ d, d < n ∧ p d) → ∃ d0, d0 < n ∧ p d0 ∧ ∀ d, d < d0 → ¬ p d
  | 0, ⟨d, h, _⟩ => absurd h (Nat.not_lt_zero d)
  | n + 1, ⟨d, h, q⟩ => by
    by_cases e : ∃ d, d < n ∧ p d
    · obtain ⟨d0, h1, h2, h3⟩ := own_least hd n e
      exact ⟨d0, by omega, h2, h3⟩
    · have hdn : d = n := by
        have : ¬ d < n := fun x => e ⟨d, x, q⟩
        omega
      subst hdn
      exact ⟨d, by omega, q, fun x hx px => e ⟨x, hx, px⟩⟩
def own_zz (E : Nat → Nat) (n : Nat) : Nat → Nat
  | 0 => 0
  | k + 1 => own_zz E n k + (if k < n ∧ E k = 0 then 1 else 0)
def own_up (E : Nat → Nat) (u : Nat) : Nat → Nat := fun i => if i = u then E i + 1 else E i
theorem own_zz_pos {E : Nat → Nat} {n u : Nat} (h : 0 < E u) : ∀ k, own_zz (own_up E u) n k = own_zz E n k
  | 0 => rfl
  | k + 1 => by
    simp only [own_zz, own_zz_pos h k, own_up]
    by_cases e : k = u
    · subst e
      have h1 : ¬ E k = 0 := by omega
      simp [h1]
    · simp [e]
theorem own_zz_zero {E : Nat → Nat} {n u : Nat} (h : E u = 0) (hu : u < n) : ∀ k, own_zz (own_up E u) n k + (if u < k then 1 else 0) = own_zz E n k
  | 0 => by simp [own_zz]
  | k + 1 => by
    have ih := own_zz_zero h hu k
    simp only [own_zz, own_up]
    by_cases e : k = u
    · subst e
      simp [h, hu] at ih ⊢
      exact ih
    · have : (u < k + 1) ↔ (u < k) := by omega
      simp only [e, if_false, this]
      omega
def own_J (n m t : Nat) (E : Nat → Nat) (C M : List Int32) : Prop :=
  C.length = n ∧ M.length = n ∧ m ≤ n ∧ (∀ i, E i ≤ t) ∧
  (∀ i, i < n → (0 < E i → C[i]? = some (Int32.ofNat (E i))) ∧ (E i = 0 → ∃ p, p < m ∧ C[i]? = some (-(Int32.ofNat p)) ∧ M[p]? = some (Int32.ofNat i))) ∧
  (∀ p, p < m → ∃ i, i < n ∧ M[p]? = some (Int32.ofNat i) ∧ E i = 0 ∧ C[i]? = some (-(Int32.ofNat p))) ∧
  m = own_zz E n 4
theorem own_ninj {a b : Nat} (ha : a < 2 ^ 31) (hb : b < 2 ^ 31) (h : -(Int32.ofNat a) = -(Int32.ofNat b)) : a = b := (own_inj ha hb).mp (Int32.neg_inj.mp h)
theorem own_J_pos {n m t u : Nat} {E : Nat → Nat} {C M : List Int32} (hn : n ≤ 4) (J : own_J n m t E C M) (hu : u < n) (h0 : 0 < E u) : own_J n m (t + 1) (own_up E u) (C.set u (Int32.ofNat (E u) + 1)) M := by
  obtain ⟨j1, j2, j3, j4, j5, j6, j7⟩ := J
  refine ⟨by simpa using j1, j2, j3, fun i => ?_, fun i hi => ?_, fun p hp => ?_, ?_⟩
  · have := j4 i; simp only [own_up]; split <;> omega
  · by_cases e : i = u
    · subst e
      refine ⟨fun _ => ?_, fun q => ?_⟩
      · rw [List.getElem?_set_self (by omega)]
        simp only [own_up, if_true, Int32.ofNat_add]; rfl
      · simp [own_up] at q
    · have e1 : own_up E u i = E i := by simp [own_up, e]
      rw [e1]
      obtain ⟨a, b⟩ := j5 i hi
      rw [List.getElem?_set_ne (Ne.symm e)]
      exact ⟨a, b⟩
  · obtain ⟨i, a, b, c, d⟩ := j6 p hp
    have e : i ≠ u := fun q => by subst q; omega
    exact ⟨i, a, b, by simp [own_up, e, c], by rw [List.getElem?_set_ne (Ne.symm e)]; exact d⟩
  · rw [own_zz_pos h0]; exact j7
theorem own_J_zero {n m t u p L : Nat} {E : Nat → Nat} {C M : List Int32} (hn : n ≤ 4) (J : own_J n m t E C M) (hu : u < n) (h0 : E u = 0) (hp : p < m) (hC : C[u]? = some (-(Int32.ofNat p))) (hM : M[p]? = some (Int32.ofNat u)) (hL : L < n) (hML : M[m - 1]? = some (Int32.ofNat L)) (hEL : E L = 0) (hCL : C[L]? = some (-(Int32.ofNat (m - 1)))) :
    own_J n (m - 1) (t + 1) (own_up E u) ((C.set L (-(Int32.ofNat p))).set u 1) (M.set p (Int32.ofNat L)) := by
  obtain ⟨j1, j2, j3, j4, j5, j6, j7⟩ := J
  have same : L = u ↔ p = m - 1 := by
    constructor
    · intro q; subst q
      rw [hC] at hCL
      exact own_ninj (by omega) (by omega) (Option.some.inj hCL)
    · intro q; rw [← q, hM] at hML
      exact ((own_inj (by omega) (by omega)).mp (Option.some.inj hML)).symm
  refine ⟨by simpa using j1, by simpa using j2, by omega, fun i => ?_, fun i hi => ?_, fun q hq => ?_, ?_⟩
  · have := j4 i; simp only [own_up]; split <;> omega
  · by_cases e : i = u
    · subst e
      refine ⟨fun _ => ?_, fun q => ?_⟩
      · rw [List.getElem?_set_self (by rw [List.length_set]; omega)]
        simp [own_up, h0]
      · simp [own_up] at q
    · have e1 : own_up E u i = E i := by simp [own_up, e]
      rw [e1, List.getElem?_set_ne (Ne.symm e)]
      obtain ⟨a, b⟩ := j5 i hi
      refine ⟨fun q => ?_, fun q => ?_⟩
      · have : i ≠ L := fun z => by subst z; omega
        rw [List.getElem?_set_ne (Ne.symm this)]; exact a q
      · obtain ⟨r, r1, r2, r3⟩ := b q
        by_cases z : i = L
        · subst z
          have : p ≠ m - 1 := fun w => e (same.mpr w)
          exact ⟨p, by omega, by rw [List.getElem?_set_self (by omega)], by rw [List.getElem?_set_self (by omega)]⟩
        · have n1 : r ≠ p := fun w => by
            subst w; rw [hM] at r3
            exact e ((own_inj (by omega) (by omega)).mp (Option.some.inj r3)).symm
          have n2 : r ≠ m - 1 := fun w => by
            subst w; rw [hML] at r3
            exact z ((own_inj (by omega) (by omega)).mp (Option.some.inj r3)).symm
          exact ⟨r, by omega, by rw [List.getElem?_set_ne (Ne.symm z)]; exact r2, by rw [List.getElem?_set_ne (Ne.symm n1)]; exact r3⟩
  · by_cases e : q = p
    · subst e
      have nl : L ≠ u := fun w => by have := same.mp w; omega
      refine ⟨L, hL, by rw [List.getElem?_set_self (by omega)], by simp [own_up, nl, hEL], ?_⟩
      rw [List.getElem?_set_ne (Ne.symm nl), List.getElem?_set_self (by omega)]
    · obtain ⟨i, a, b, c, d⟩ := j6 q (by omega)
      have n1 : i ≠ u := fun w => by
        subst w; rw [hC] at d
        exact e (own_ninj (by omega) (by omega) (Option.some.inj d)).symm
      have n2 : i ≠ L := fun w => by
        subst w; rw [hCL] at d
        have := own_ninj (by omega) (by omega) (Option.some.inj d)
        omega
      exact ⟨i, a, by rw [List.getElem?_set_ne (Ne.symm e)]; exact b, by simp [own_up, n1, c], by rw [List.getElem?_set_ne (Ne.symm n1), List.getElem?_set_ne (Ne.symm n2)]; exact d⟩
  · have z := own_zz_zero (n := n) h0 hu 4
    rw [if_pos (by omega)] at z
    omega
theorem own_J_init {n : Nat} {C M : List Int32} (hn : n ≤ 4) (h1 : C.length = n) (h2 : M.length = n) (h3 : ∀ i, i < n → C[i]? = some (-(Int32.ofNat i)) ∧ M[i]? = some (Int32.ofNat i)) : own_J n n 0 (fun _ => 0) C M := by
  refine ⟨h1, h2, Nat.le_refl _, fun _ => Nat.le_refl _, fun i hi => ⟨fun q => absurd q (by simp), fun _ => ⟨i, hi, (h3 i hi).1, (h3 i hi).2⟩⟩, fun p hp => ⟨p, hp, (h3 p hp).2, rfl, (h3 p hp).1⟩, ?_⟩
  have : ∀ n : Fin 5, n.val = own_zz (fun _ => 0) n.val 4 := by decide
  exact this ⟨n, by omega⟩
/-- seen: no place from p on names a number that has been seen -/
def own_S (m p : Nat) (M Sn : List Int32) : Prop := Sn.length = 4 ∧ ∀ q i, p ≤ q → q < m → i < 4 → M[q]? = some (Int32.ofNat i) → Sn[i]? = some 0
theorem own_S_step {n m t p i : Nat} {E : Nat → Nat} {C M Sn : List Int32} (hn : n ≤ 4) (J : own_J n m t E C M) (hS : own_S m p M Sn) (hp : p < m) (hi : i < 4) (hM : M[p]? = some (Int32.ofNat i)) : own_S m (p + 1) M (Sn.set i 1) := by
  obtain ⟨s1, s2⟩ := hS
  obtain ⟨j1, j2, j3, j4, j5, j6, j7⟩ := J
  refine ⟨by simpa using s1, fun q k h1 h2 h3 h4 => ?_⟩
  have ne : k ≠ i := fun w => by
    subst w
    obtain ⟨a, a1, a2, a3, a4⟩ := j6 p hp
    obtain ⟨b, b1, b2, b3, b4⟩ := j6 q h2
    rw [hM] at a2; rw [h4] at b2
    have ea := (own_inj (by omega) (by omega)).mp (Option.some.inj a2)
    have eb := (own_inj (by omega) (by omega)).mp (Option.some.inj b2)
    subst ea; subst eb
    rw [a4] at b4
    have := own_ninj (by omega) (by omega) (Option.some.inj b4)
    omega
  rw [List.getElem?_set_ne (Ne.symm ne)]
  exact s2 q k (by omega) h2 h3 h4
theorem own_S_more {m p : Nat} {M Sn : List Int32} (hS : own_S m p M Sn) : own_S m (p + 1) M Sn := ⟨hS.1, fun q k h1 h2 h3 h4 => hS.2 q k (by omega) h2 h3 h4⟩
abbrev own_CC : String := "com/example/tuplewise/tuplewise/engine/CoverCounts"
def own_Ob (Z : State) (n0 : Nat) (h : Heap) (o ac am : Addr) (mc : Int32) (C M : List Int32) : Prop :=
  n0 ≤ o ∧ n0 ≤ ac ∧ n0 ≤ am ∧ o ≠ ac ∧ o ≠ am ∧ ac ≠ am ∧ Exa Z h o own_CC ∧ Fld Z h o own_CC "counts" "[I" (.ref ac) ∧ Fld Z h o own_CC "missing" "[I" (.ref am) ∧ Fld Z h o own_CC "missingCount" "I" (.int mc) ∧ o_IA Z h ac C ∧ o_IA Z h am M
section Ob
variable {Z : State} {a0 : Array Value} {n0 : Nat} {h h' : Heap} {o ac am : Addr} {mc s' : Int32} {C M : List Int32} {i : Nat} {x : Int32} {ws : List Addr}
theorem own_Ob.keep (O : own_Ob Z n0 h o ac am mc C M) (K : Keep h h' ws) (q1 : o ∉ ws) (q2 : ac ∉ ws) (q3 : am ∉ ws) : own_Ob Z n0 h' o ac am mc C M := by
  obtain ⟨g1, g2, g3, n1, n2, n3, E, F1, F2, F3, A1, A2⟩ := O
  exact ⟨g1, g2, g3, n1, n2, n3, E.keep K, F1.keep K q1, F2.keep K q1, F3.keep K q1, A1.keep K q2, A2.keep K q3⟩
theorem own_Ob.size (hw : ∀ d ∈ tables_1, d.before a0 Z = true) (O : own_Ob Z n0 h o ac am mc C M) (W : Wr h h' o (Jvm.RoadKit.slotOf Z own_CC "missingCount" "I") (.int s')) : own_Ob Z n0 h' o ac am s' C M := by
  obtain ⟨g1, g2, g3, n1, n2, n3, E, F1, F2, F3, A1, A2⟩ := O
  exact ⟨g1, g2, g3, n1, n2, n3, E.wr W, F1.other W (Or.inr (slot_ne (C := own_CC) (Or.inr (hw _ (List.mem_of_getElem? (i := 11) rfl))) (Or.inl (hw _ (List.mem_of_getElem? (i := 19) rfl))) (by decide) (by decide : parseFieldDescriptor "[I" = some (.array .int)) (by decide : parseFieldDescriptor "I" = some .int))), F2.other W (Or.inr (slot_ne (C := own_CC) (Or.inl (hw _ (List.mem_of_getElem? (i := 17) rfl))) (Or.inl (hw _ (List.mem_of_getElem? (i := 19) rfl))) (by decide) (by decide : parseFieldDescriptor "[I" = some (.array .int)) (by decide : parseFieldDescriptor "I" = some .int))), F3.same W, A1.other W (Ne.symm n1), A2.other W (Ne.symm n2)⟩
theorem own_Ob.cnt (O : own_Ob Z n0 h o ac am mc C M) (W : Wr h h' ac i (.int x)) : own_Ob Z n0 h' o ac am mc (C.set i x) M := by
  obtain ⟨g1, g2, g3, n1, n2, n3, E, F1, F2, F3, A1, A2⟩ := O
  exact ⟨g1, g2, g3, n1, n2, n3, E.wr W, F1.other W (Or.inl n1), F2.other W (Or.inl n1), F3.other W (Or.inl n1), o_IA.same A1 W, A2.other W (Ne.symm n3)⟩
theorem own_Ob.mis (O : own_Ob Z n0 h o ac am mc C M) (W : Wr h h' am i (.int x)) : own_Ob Z n0 h' o ac am mc C (M.set i x) := by
  obtain ⟨g1, g2, g3, n1, n2, n3, E, F1, F2, F3, A1, A2⟩ := O
  exact ⟨g1, g2, g3, n1, n2, n3, E.wr W, F1.other W (Or.inl n2), F2.other W (Or.inl n2), F3.other W (Or.inl n2), A1.other W n3, o_IA.same A2 W⟩
theorem own_Ob.go (O : own_Ob Z n0 h o ac am mc C M) : n0 ≤ o := O.1
theorem own_Ob.gc (O : own_Ob Z n0 h o ac am mc C M) : n0 ≤ ac := O.2.1
theorem own_Ob.gm (O : own_Ob Z n0 h o ac am mc C M) : n0 ≤ am := O.2.2.1
theorem own_Ob.ex (O : own_Ob Z n0 h o ac am mc C M) : Exa Z h o own_CC := O.2.2.2.2.2.2.1
theorem own_Ob.fc (O : own_Ob Z n0 h o ac am mc C M) : Fld Z h o own_CC "counts" "[I" (.ref ac) := O.2.2.2.2.2.2.2.1
theorem own_Ob.fm (O : own_Ob Z n0 h o ac am mc C M) : Fld Z h o own_CC "missing" "[I" (.ref am) := O.2.2.2.2.2.2.2.2.1
theorem own_Ob.fs (O : own_Ob Z n0 h o ac am mc C M) : Fld Z h o own_CC "missingCount" "I" (.int mc) := O.2.2.2.2.2.2.2.2.2.1
theorem own_Ob.pc_ (O : own_Ob Z n0 h o ac am mc C M) : o_IA Z h ac C := O.2.2.2.2.2.2.2.2.2.2.1
theorem own_Ob.pm_ (O : own_Ob Z n0 h o ac am mc C M) : o_IA Z h am M := O.2.2.2.2.2.2.2.2.2.2.2
end Ob
theorem own_map {L : List Int32} {i : Nat} {x : Int32} (q : L[i]? = some x) : (L.map Value.int)[i]? = some (.int x) := by rw [List.getElem?_map, q]; rfl
theorem own_mlt {L : List Int32} {i : Nat} {x : Int32} (q : L[i]? = some x) : i < (L.map Value.int).length := by rw [List.length_map]; exact (List.getElem?_eq_some_iff.mp q).1
def own_el (E : Nat → Nat) : List Int32 := [Int32.ofNat (E 0), Int32.ofNat (E 1), Int32.ofNat (E 2), Int32.ofNat (E 3)]
theorem own_el_at (E : Nat → Nat) {i : Nat} (hi : i < 4) : (own_el E)[i]? = some (Int32.ofNat (E i)) := by
  have h4 : i = 0 ∨ i = 1 ∨ i = 2 ∨ i = 3 := by omega
  rcases h4 with rfl | rfl | rfl | rfl <;> rfl
theorem own_el_set (E : Nat → Nat) {i : Nat} (hi : i < 4) : (own_el E).set i (Int32.ofNat (E i) + 1) = own_el (own_up E i) := by
  have h4 : i = 0 ∨ i = 1 ∨ i = 2 ∨ i = 3 := by omega
  rcases h4 with rfl | rfl | rfl | rfl <;> (rw [own_one]; rfl)
theorem pn0 : plainFor Jvm.Pilot.@@N@@.x = true := by first | exact plainFor_of_name (by first | (simp [x, plainName, overriddenIn]; done) | decide +kernel) | decide +kernel
theorem d1_0 : decode prog_14_method_2_code 0 = .ok (.aload_n 0, 1) := by decide +kernel
theorem d1_1 : decode prog_14_method_2_code 1 = .ok (.invokespecial 3, 3) := by decide +kernel
theorem d1_4 : decode prog_14_method_2_code 4 = .ok (.aload_n 0, 1) := by decide +kernel
theorem d1_5 : decode prog_14_method_2_code 5 = .ok (.iload_n 1, 1) := by decide +kernel
theorem d1_6 : decode prog_14_method_2_code 6 = .ok (.newarray .int, 2) := by decide +kernel
theorem d1_8 : decode prog_14_method_2_code 8 = .ok (.putfield 15, 3) := by decide +kernel
theorem d1_11 : decode prog_14_method_2_code 11 = .ok (.aload_n 0, 1) := by decide +kernel
theorem d1_12 : decode prog_14_method_2_code 12 = .ok (.iload_n 1, 1) := by decide +kernel
theorem d1_13 : decode prog_14_method_2_code 13 = .ok (.iconst 1, 1) := by decide +kernel
theorem d1_14 : decode prog_14_method_2_code 14 = .ok (.invokestatic 29, 3) := by decide +kernel
theorem d1_17 : decode prog_14_method_2_code 17 = .ok (.newarray .int, 2) := by decide +kernel
theorem d1_19 : decode prog_14_method_2_code 19 = .ok (.putfield 21, 3) := by decide +kernel
theorem d1_22 : decode prog_14_method_2_code 22 = .ok (.iconst 0, 1) := by decide +kernel
theorem d1_23 : decode prog_14_method_2_code 23 = .ok (.istore_n 2, 1) := by decide +kernel
theorem d1_24 : decode prog_14_method_2_code 24 = .ok (.iload_n 2, 1) := by decide +kernel
theorem d1_25 : decode prog_14_method_2_code 25 = .ok (.iload_n 1, 1) := by decide +kernel
theorem d1_26 : decode prog_14_method_2_code 26 = .ok (.if_icmp .ge 24, 3) := by decide +kernel
theorem d1_29 : decode prog_14_method_2_code 29 = .ok (.aload_n 0, 1) := by decide +kernel
theorem d1_30 : decode prog_14_method_2_code 30 = .ok (.getfield 15, 3) := by decide +kernel
theorem d1_33 : decode prog_14_method_2_code 33 = .ok (.iload_n 2, 1) := by decide +kernel
theorem d1_34 : decode prog_14_method_2_code 34 = .ok (.iload_n 2, 1) := by decide +kernel
theorem d1_35 : decode prog_14_method_2_code 35 = .ok (.ineg, 1) := by decide +kernel
theorem d1_36 : decode prog_14_method_2_code 36 = .ok (.iastore, 1) := by decide +kernel
theorem d1_37 : decode prog_14_method_2_code 37 = .ok (.aload_n 0, 1) := by decide +kernel
theorem d1_38 : decode prog_14_method_2_code 38 = .ok (.getfield 21, 3) := by decide +kernel
theorem d1_41 : decode prog_14_method_2_code 41 = .ok (.iload_n 2, 1) := by decide +kernel
theorem d1_42 : decode prog_14_method_2_code 42 = .ok (.iload_n 2, 1) := by decide +kernel
theorem d1_43 : decode prog_14_method_2_code 43 = .ok (.iastore, 1) := by decide +kernel
theorem d1_44 : decode prog_14_method_2_code 44 = .ok (.iinc 2 1, 3) := by decide +kernel
theorem d1_47 : decode prog_14_method_2_code 47 = .ok (.goto (-23), 3) := by decide +kernel
theorem d1_50 : decode prog_14_method_2_code 50 = .ok (.aload_n 0, 1) := by decide +kernel
theorem d1_51 : decode prog_14_method_2_code 51 = .ok (.iload_n 1, 1) := by decide +kernel
theorem d1_52 : decode prog_14_method_2_code 52 = .ok (.putfield 35, 3) := by decide +kernel
theorem d1_55 : decode prog_14_method_2_code 55 = .ok (.return_, 1) := by decide +kernel
abbrev oy1 : MethodName := ⟨"com/example/tuplewise/tuplewise/engine/CoverCounts", "<init>", "(I)V"⟩
theorem pn1 : plainFor oy1 = true := by first | exact plainFor_of_name (by first | (simp [plainName, overriddenIn]; done) | decide +kernel) | decide +kernel
theorem pd1 : parseMethodDescriptor oy1.desc = some ⟨[.int], none⟩ := by decide +kernel
theorem d3_0 : decode jdk_29_method_65_code 0 = .ok (.iload_n 0, 1) := by decide +kernel
theorem d3_1 : decode jdk_29_method_65_code 1 = .ok (.iload_n 1, 1) := by decide +kernel
theorem d3_2 : decode jdk_29_method_65_code 2 = .ok (.if_icmp .lt 7, 3) := by decide +kernel
theorem d3_5 : decode jdk_29_method_65_code 5 = .ok (.iload_n 0, 1) := by decide +kernel
theorem d3_6 : decode jdk_29_method_65_code 6 = .ok (.goto 4, 3) := by decide +kernel
theorem d3_9 : decode jdk_29_method_65_code 9 = .ok (.iload_n 1, 1) := by decide +kernel
theorem d3_10 : decode jdk_29_method_65_code 10 = .ok (.ireturn, 1) := by decide +kernel
abbrev oy3 : MethodName := ⟨"java/lang/Math", "max", "(II)I"⟩
theorem pn3 : plainFor oy3 = true := by first | exact plainFor_of_name (by first | (simp [plainName, overriddenIn]; done) | decide +kernel) | decide +kernel
theorem pd3 : parseMethodDescriptor oy3.desc = some ⟨[.int, .int], some .int⟩ := by decide +kernel
theorem d4_0 : decode method_4_code 0 = .ok (.iconst 0, 1) := by decide +kernel
theorem d4_1 : decode method_4_code 1 = .ok (.istore_n 3, 1) := by decide +kernel
theorem d4_2 : decode method_4_code 2 = .ok (.iload_n 1, 1) := by decide +kernel
theorem d4_3 : decode method_4_code 3 = .ok (.ifCond .le 12, 3) := by decide +kernel
theorem d4_6 : decode method_4_code 6 = .ok (.aload_n 2, 1) := by decide +kernel
theorem d4_7 : decode method_4_code 7 = .ok (.iconst 0, 1) := by decide +kernel
theorem d4_8 : decode method_4_code 8 = .ok (.iaload, 1) := by decide +kernel
theorem d4_9 : decode method_4_code 9 = .ok (.ifCond .ne 6, 3) := by decide +kernel
theorem d4_12 : decode method_4_code 12 = .ok (.iinc 3 1, 3) := by decide +kernel
theorem d4_15 : decode method_4_code 15 = .ok (.iload_n 1, 1) := by decide +kernel
theorem d4_16 : decode method_4_code 16 = .ok (.iconst 1, 1) := by decide +kernel
theorem d4_17 : decode method_4_code 17 = .ok (.if_icmp .le 12, 3) := by decide +kernel
theorem d4_20 : decode method_4_code 20 = .ok (.aload_n 2, 1) := by decide +kernel
theorem d4_21 : decode method_4_code 21 = .ok (.iconst 1, 1) := by decide +kernel
theorem d4_22 : decode method_4_code 22 = .ok (.iaload, 1) := by decide +kernel
theorem d4_23 : decode method_4_code 23 = .ok (.ifCond .ne 6, 3) := by decide +kernel
theorem d4_26 : decode method_4_code 26 = .ok (.iinc 3 1, 3) := by decide +kernel
theorem d4_29 : decode method_4_code 29 = .ok (.iload_n 1, 1) := by decide +kernel
theorem d4_30 : decode method_4_code 30 = .ok (.iconst 2, 1) := by decide +kernel
theorem d4_31 : decode method_4_code 31 = .ok (.if_icmp .le 12, 3) := by decide +kernel
theorem d4_34 : decode method_4_code 34 = .ok (.aload_n 2, 1) := by decide +kernel
theorem d4_35 : decode method_4_code 35 = .ok (.iconst 2, 1) := by decide +kernel
theorem d4_36 : decode method_4_code 36 = .ok (.iaload, 1) := by decide +kernel
theorem d4_37 : decode method_4_code 37 = .ok (.ifCond .ne 6, 3) := by decide +kernel
theorem d4_40 : decode method_4_code 40 = .ok (.iinc 3 1, 3) := by decide +kernel
theorem d4_43 : decode method_4_code 43 = .ok (.iload_n 1, 1) := by decide +kernel
theorem d4_44 : decode method_4_code 44 = .ok (.iconst 3, 1) := by decide +kernel
theorem d4_45 : decode method_4_code 45 = .ok (.if_icmp .le 12, 3) := by decide +kernel
theorem d4_48 : decode method_4_code 48 = .ok (.aload_n 2, 1) := by decide +kernel
theorem d4_49 : decode method_4_code 49 = .ok (.iconst 3, 1) := by decide +kernel
theorem d4_50 : decode method_4_code 50 = .ok (.iaload, 1) := by decide +kernel
theorem d4_51 : decode method_4_code 51 = .ok (.ifCond .ne 6, 3) := by decide +kernel
theorem d4_54 : decode method_4_code 54 = .ok (.iinc 3 1, 3) := by decide +kernel
theorem d4_57 : decode method_4_code 57 = .ok (.aload_n 0, 1) := by decide +kernel
theorem d4_58 : decode method_4_code 58 = .ok (.iconst 0, 1) := by decide +kernel
theorem d4_59 : decode method_4_code 59 = .ok (.iload_n 1, 1) := by decide +kernel
theorem d4_60 : decode method_4_code 60 = .ok (.aload_n 2, 1) := by decide +kernel
theorem d4_61 : decode method_4_code 61 = .ok (.invokestatic 26, 3) := by decide +kernel
theorem d4_64 : decode method_4_code 64 = .ok (.ifCond .eq 37, 3) := by decide +kernel
theorem d4_67 : decode method_4_code 67 = .ok (.aload_n 0, 1) := by decide +kernel
theorem d4_68 : decode method_4_code 68 = .ok (.iconst 1, 1) := by decide +kernel
theorem d4_69 : decode method_4_code 69 = .ok (.iload_n 1, 1) := by decide +kernel
theorem d4_70 : decode method_4_code 70 = .ok (.aload_n 2, 1) := by decide +kernel
theorem d4_71 : decode method_4_code 71 = .ok (.invokestatic 26, 3) := by decide +kernel
theorem d4_74 : decode method_4_code 74 = .ok (.ifCond .eq 27, 3) := by decide +kernel
theorem d4_77 : decode method_4_code 77 = .ok (.aload_n 0, 1) := by decide +kernel
theorem d4_78 : decode method_4_code 78 = .ok (.iconst 2, 1) := by decide +kernel
theorem d4_79 : decode method_4_code 79 = .ok (.iload_n 1, 1) := by decide +kernel
theorem d4_80 : decode method_4_code 80 = .ok (.aload_n 2, 1) := by decide +kernel
theorem d4_81 : decode method_4_code 81 = .ok (.invokestatic 26, 3) := by decide +kernel
theorem d4_84 : decode method_4_code 84 = .ok (.ifCond .eq 17, 3) := by decide +kernel
theorem d4_87 : decode method_4_code 87 = .ok (.aload_n 0, 1) := by decide +kernel
theorem d4_88 : decode method_4_code 88 = .ok (.iconst 3, 1) := by decide +kernel
theorem d4_89 : decode method_4_code 89 = .ok (.iload_n 1, 1) := by decide +kernel
theorem d4_90 : decode method_4_code 90 = .ok (.aload_n 2, 1) := by decide +kernel
theorem d4_91 : decode method_4_code 91 = .ok (.invokestatic 26, 3) := by decide +kernel
theorem d4_94 : decode method_4_code 94 = .ok (.ifCond .eq 7, 3) := by decide +kernel
theorem d4_97 : decode method_4_code 97 = .ok (.iconst 1, 1) := by decide +kernel
theorem d4_98 : decode method_4_code 98 = .ok (.goto 4, 3) := by decide +kernel
theorem d4_101 : decode method_4_code 101 = .ok (.iconst 0, 1) := by decide +kernel
theorem d4_102 : decode method_4_code 102 = .ok (.istore 4, 2) := by decide +kernel
theorem d4_104 : decode method_4_code 104 = .ok (.iload 4, 2) := by decide +kernel
theorem d4_106 : decode method_4_code 106 = .ok (.ifCond .ne 5, 3) := by decide +kernel
theorem d4_109 : decode method_4_code 109 = .ok (.iconst 0, 1) := by decide +kernel
theorem d4_110 : decode method_4_code 110 = .ok (.ireturn, 1) := by decide +kernel
theorem d4_111 : decode method_4_code 111 = .ok (.aload_n 0, 1) := by decide +kernel
theorem d4_112 : decode method_4_code 112 = .ok (.invokevirtual 30, 3) := by decide +kernel
theorem d4_115 : decode method_4_code 115 = .ok (.istore 5, 2) := by decide +kernel
theorem d4_117 : decode method_4_code 117 = .ok (.iload 5, 2) := by decide +kernel
theorem d4_119 : decode method_4_code 119 = .ok (.iload_n 3, 1) := by decide +kernel
theorem d4_120 : decode method_4_code 120 = .ok (.if_icmp .eq 5, 3) := by decide +kernel
theorem d4_123 : decode method_4_code 123 = .ok (.iconst 0, 1) := by decide +kernel
theorem d4_124 : decode method_4_code 124 = .ok (.ireturn, 1) := by decide +kernel
theorem d4_125 : decode method_4_code 125 = .ok (.iconst 4, 1) := by decide +kernel
theorem d4_126 : decode method_4_code 126 = .ok (.newarray .boolean, 2) := by decide +kernel
theorem d4_128 : decode method_4_code 128 = .ok (.astore 6, 2) := by decide +kernel
theorem d4_130 : decode method_4_code 130 = .ok (.aload_n 0, 1) := by decide +kernel
theorem d4_131 : decode method_4_code 131 = .ok (.iconst 0, 1) := by decide +kernel
theorem d4_132 : decode method_4_code 132 = .ok (.iload 5, 2) := by decide +kernel
theorem d4_134 : decode method_4_code 134 = .ok (.iload_n 1, 1) := by decide +kernel
theorem d4_135 : decode method_4_code 135 = .ok (.aload_n 2, 1) := by decide +kernel
theorem d4_136 : decode method_4_code 136 = .ok (.aload 6, 2) := by decide +kernel
theorem d4_138 : decode method_4_code 138 = .ok (.invokestatic 34, 3) := by decide +kernel
theorem d4_141 : decode method_4_code 141 = .ok (.ifCond .eq 49, 3) := by decide +kernel
theorem d4_144 : decode method_4_code 144 = .ok (.aload_n 0, 1) := by decide +kernel
theorem d4_145 : decode method_4_code 145 = .ok (.iconst 1, 1) := by decide +kernel
theorem d4_146 : decode method_4_code 146 = .ok (.iload 5, 2) := by decide +kernel
theorem d4_148 : decode method_4_code 148 = .ok (.iload_n 1, 1) := by decide +kernel
theorem d4_149 : decode method_4_code 149 = .ok (.aload_n 2, 1) := by decide +kernel
theorem d4_150 : decode method_4_code 150 = .ok (.aload 6, 2) := by decide +kernel
theorem d4_152 : decode method_4_code 152 = .ok (.invokestatic 34, 3) := by decide +kernel
theorem d4_155 : decode method_4_code 155 = .ok (.ifCond .eq 35, 3) := by decide +kernel
theorem d4_158 : decode method_4_code 158 = .ok (.aload_n 0, 1) := by decide +kernel
theorem d4_159 : decode method_4_code 159 = .ok (.iconst 2, 1) := by decide +kernel
theorem d4_160 : decode method_4_code 160 = .ok (.iload 5, 2) := by decide +kernel
theorem d4_162 : decode method_4_code 162 = .ok (.iload_n 1, 1) := by decide +kernel
theorem d4_163 : decode method_4_code 163 = .ok (.aload_n 2, 1) := by decide +kernel
theorem d4_164 : decode method_4_code 164 = .ok (.aload 6, 2) := by decide +kernel
theorem d4_166 : decode method_4_code 166 = .ok (.invokestatic 34, 3) := by decide +kernel
theorem d4_169 : decode method_4_code 169 = .ok (.ifCond .eq 21, 3) := by decide +kernel
theorem d4_172 : decode method_4_code 172 = .ok (.aload_n 0, 1) := by decide +kernel
theorem d4_173 : decode method_4_code 173 = .ok (.iconst 3, 1) := by decide +kernel
theorem d4_174 : decode method_4_code 174 = .ok (.iload 5, 2) := by decide +kernel
theorem d4_176 : decode method_4_code 176 = .ok (.iload_n 1, 1) := by decide +kernel
theorem d4_177 : decode method_4_code 177 = .ok (.aload_n 2, 1) := by decide +kernel
theorem d4_178 : decode method_4_code 178 = .ok (.aload 6, 2) := by decide +kernel
theorem d4_180 : decode method_4_code 180 = .ok (.invokestatic 34, 3) := by decide +kernel
theorem d4_183 : decode method_4_code 183 = .ok (.ifCond .eq 7, 3) := by decide +kernel
theorem d4_186 : decode method_4_code 186 = .ok (.iconst 1, 1) := by decide +kernel
theorem d4_187 : decode method_4_code 187 = .ok (.goto 4, 3) := by decide +kernel
theorem d4_190 : decode method_4_code 190 = .ok (.iconst 0, 1) := by decide +kernel
theorem d4_191 : decode method_4_code 191 = .ok (.ireturn, 1) := by decide +kernel
abbrev oy4 : MethodName := ⟨"com/example/tuplewise/tuplewise/engine/CoverCountsAddPinLaw", "check", "(Lcom/example/tuplewise/tuplewise/engine/CoverCounts;I[I)Z"⟩
theorem pn4 : plainFor oy4 = true := by first | exact plainFor_of_name (by first | (simp [plainName, overriddenIn]; done) | decide +kernel) | decide +kernel
theorem pd4 : parseMethodDescriptor oy4.desc = some ⟨[(.object "com/example/tuplewise/tuplewise/engine/CoverCounts"), .int, (.array .int)], some .boolean⟩ := by decide +kernel
theorem d5_0 : decode method_5_code 0 = .ok (.iload_n 1, 1) := by decide +kernel
theorem d5_1 : decode method_5_code 1 = .ok (.iload_n 2, 1) := by decide +kernel
theorem d5_2 : decode method_5_code 2 = .ok (.if_icmp .lt 5, 3) := by decide +kernel
theorem d5_5 : decode method_5_code 5 = .ok (.iconst 1, 1) := by decide +kernel
theorem d5_6 : decode method_5_code 6 = .ok (.ireturn, 1) := by decide +kernel
theorem d5_7 : decode method_5_code 7 = .ok (.aload_n 0, 1) := by decide +kernel
theorem d5_8 : decode method_5_code 8 = .ok (.iload_n 1, 1) := by decide +kernel
theorem d5_9 : decode method_5_code 9 = .ok (.invokevirtual 38, 3) := by decide +kernel
theorem d5_12 : decode method_5_code 12 = .ok (.aload_n 3, 1) := by decide +kernel
theorem d5_13 : decode method_5_code 13 = .ok (.iload_n 1, 1) := by decide +kernel
theorem d5_14 : decode method_5_code 14 = .ok (.iaload, 1) := by decide +kernel
theorem d5_15 : decode method_5_code 15 = .ok (.if_icmp .ne 7, 3) := by decide +kernel
theorem d5_18 : decode method_5_code 18 = .ok (.iconst 1, 1) := by decide +kernel
theorem d5_19 : decode method_5_code 19 = .ok (.goto 4, 3) := by decide +kernel
theorem d5_22 : decode method_5_code 22 = .ok (.iconst 0, 1) := by decide +kernel
theorem d5_23 : decode method_5_code 23 = .ok (.ireturn, 1) := by decide +kernel
abbrev oy5 : MethodName := ⟨"com/example/tuplewise/tuplewise/engine/CoverCountsAddPinLaw", "countAt", "(Lcom/example/tuplewise/tuplewise/engine/CoverCounts;II[I)Z"⟩
theorem pn5 : plainFor oy5 = true := by first | exact plainFor_of_name (by first | (simp [plainName, overriddenIn]; done) | decide +kernel) | decide +kernel
theorem pd5 : parseMethodDescriptor oy5.desc = some ⟨[(.object "com/example/tuplewise/tuplewise/engine/CoverCounts"), .int, .int, (.array .int)], some .boolean⟩ := by decide +kernel
theorem d6_0 : decode prog_14_method_5_code 0 = .ok (.aload_n 0, 1) := by decide +kernel
theorem d6_1 : decode prog_14_method_5_code 1 = .ok (.getfield 15, 3) := by decide +kernel
theorem d6_4 : decode prog_14_method_5_code 4 = .ok (.iload_n 1, 1) := by decide +kernel
theorem d6_5 : decode prog_14_method_5_code 5 = .ok (.iaload, 1) := by decide +kernel
theorem d6_6 : decode prog_14_method_5_code 6 = .ok (.iconst 0, 1) := by decide +kernel
theorem d6_7 : decode prog_14_method_5_code 7 = .ok (.invokestatic 29, 3) := by decide +kernel
theorem d6_10 : decode prog_14_method_5_code 10 = .ok (.ireturn, 1) := by decide +kernel
abbrev oy6 : MethodName := ⟨"com/example/tuplewise/tuplewise/engine/CoverCounts", "count", "(I)I"⟩
theorem pn6 : plainFor oy6 = true := by first | exact plainFor_of_name (by first | (simp [plainName, overriddenIn]; done) | decide +kernel) | decide +kernel
theorem pd6 : parseMethodDescriptor oy6.desc = some ⟨[.int], some .int⟩ := by decide +kernel
theorem d7_0 : decode prog_14_method_6_code 0 = .ok (.aload_n 0, 1) := by decide +kernel
theorem d7_1 : decode prog_14_method_6_code 1 = .ok (.getfield 35, 3) := by decide +kernel
theorem d7_4 : decode prog_14_method_6_code 4 = .ok (.ireturn, 1) := by decide +kernel
abbrev oy7 : MethodName := ⟨"com/example/tuplewise/tuplewise/engine/CoverCounts", "missing", "()I"⟩
theorem pn7 : plainFor oy7 = true := by first | exact plainFor_of_name (by first | (simp [plainName, overriddenIn]; done) | decide +kernel) | decide +kernel
theorem pd7 : parseMethodDescriptor oy7.desc = some ⟨[], some .int⟩ := by decide +kernel
theorem d8_0 : decode method_6_code 0 = .ok (.iload_n 1, 1) := by decide +kernel
theorem d8_1 : decode method_6_code 1 = .ok (.iload_n 2, 1) := by decide +kernel
theorem d8_2 : decode method_6_code 2 = .ok (.if_icmp .lt 5, 3) := by decide +kernel
theorem d8_5 : decode method_6_code 5 = .ok (.iconst 1, 1) := by decide +kernel
theorem d8_6 : decode method_6_code 6 = .ok (.ireturn, 1) := by decide +kernel
theorem d8_7 : decode method_6_code 7 = .ok (.aload_n 0, 1) := by decide +kernel
theorem d8_8 : decode method_6_code 8 = .ok (.iload_n 1, 1) := by decide +kernel
theorem d8_9 : decode method_6_code 9 = .ok (.invokevirtual 42, 3) := by decide +kernel
theorem d8_12 : decode method_6_code 12 = .ok (.istore 6, 2) := by decide +kernel
theorem d8_14 : decode method_6_code 14 = .ok (.iload 6, 2) := by decide +kernel
theorem d8_16 : decode method_6_code 16 = .ok (.ifCond .lt 9, 3) := by decide +kernel
theorem d8_19 : decode method_6_code 19 = .ok (.iload 6, 2) := by decide +kernel
theorem d8_21 : decode method_6_code 21 = .ok (.iload_n 3, 1) := by decide +kernel
theorem d8_22 : decode method_6_code 22 = .ok (.if_icmp .lt 5, 3) := by decide +kernel
theorem d8_25 : decode method_6_code 25 = .ok (.iconst 0, 1) := by decide +kernel
theorem d8_26 : decode method_6_code 26 = .ok (.ireturn, 1) := by decide +kernel
theorem d8_27 : decode method_6_code 27 = .ok (.aload 4, 2) := by decide +kernel
theorem d8_29 : decode method_6_code 29 = .ok (.iload 6, 2) := by decide +kernel
theorem d8_31 : decode method_6_code 31 = .ok (.iaload, 1) := by decide +kernel
theorem d8_32 : decode method_6_code 32 = .ok (.ifCond .ne 11, 3) := by decide +kernel
theorem d8_35 : decode method_6_code 35 = .ok (.aload 5, 2) := by decide +kernel
theorem d8_37 : decode method_6_code 37 = .ok (.iload 6, 2) := by decide +kernel
theorem d8_39 : decode method_6_code 39 = .ok (.baload, 1) := by decide +kernel
theorem d8_40 : decode method_6_code 40 = .ok (.ifCond .eq 5, 3) := by decide +kernel
theorem d8_43 : decode method_6_code 43 = .ok (.iconst 0, 1) := by decide +kernel
theorem d8_44 : decode method_6_code 44 = .ok (.ireturn, 1) := by decide +kernel
theorem d8_45 : decode method_6_code 45 = .ok (.aload 5, 2) := by decide +kernel
theorem d8_47 : decode method_6_code 47 = .ok (.iload 6, 2) := by decide +kernel
theorem d8_49 : decode method_6_code 49 = .ok (.iconst 1, 1) := by decide +kernel
theorem d8_50 : decode method_6_code 50 = .ok (.bastore, 1) := by decide +kernel
theorem d8_51 : decode method_6_code 51 = .ok (.iconst 1, 1) := by decide +kernel
theorem d8_52 : decode method_6_code 52 = .ok (.ireturn, 1) := by decide +kernel
abbrev oy8 : MethodName := ⟨"com/example/tuplewise/tuplewise/engine/CoverCountsAddPinLaw", "placeOk", "(Lcom/example/tuplewise/tuplewise/engine/CoverCounts;III[I[Z)Z"⟩
theorem pn8 : plainFor oy8 = true := by first | exact plainFor_of_name (by first | (simp [plainName, overriddenIn]; done) | decide +kernel) | decide +kernel
theorem pd8 : parseMethodDescriptor oy8.desc = some ⟨[(.object "com/example/tuplewise/tuplewise/engine/CoverCounts"), .int, .int, .int, (.array .int), (.array .boolean)], some .boolean⟩ := by decide +kernel
theorem d9_0 : decode prog_14_method_7_code 0 = .ok (.aload_n 0, 1) := by decide +kernel
theorem d9_1 : decode prog_14_method_7_code 1 = .ok (.getfield 21, 3) := by decide +kernel
theorem d9_4 : decode prog_14_method_7_code 4 = .ok (.iload_n 1, 1) := by decide +kernel
theorem d9_5 : decode prog_14_method_7_code 5 = .ok (.iaload, 1) := by decide +kernel
theorem d9_6 : decode prog_14_method_7_code 6 = .ok (.ireturn, 1) := by decide +kernel
abbrev oy9 : MethodName := ⟨"com/example/tuplewise/tuplewise/engine/CoverCounts", "missing", "(I)I"⟩
theorem pn9 : plainFor oy9 = true := by first | exact plainFor_of_name (by first | (simp [plainName, overriddenIn]; done) | decide +kernel) | decide +kernel
theorem pd9 : parseMethodDescriptor oy9.desc = some ⟨[.int], some .int⟩ := by decide +kernel
theorem d10_0 : decode method_3_code 0 = .ok (.aload_n 0, 1) := by decide +kernel
theorem d10_1 : decode method_3_code 1 = .ok (.iload_n 3, 1) := by decide +kernel
theorem d10_2 : decode method_3_code 2 = .ok (.invokevirtual 23, 3) := by decide +kernel
theorem d10_5 : decode method_3_code 5 = .ok (.aload_n 2, 1) := by decide +kernel
theorem d10_6 : decode method_3_code 6 = .ok (.iload_n 3, 1) := by decide +kernel
theorem d10_7 : decode method_3_code 7 = .ok (.aload_n 2, 1) := by decide +kernel
theorem d10_8 : decode method_3_code 8 = .ok (.iload_n 3, 1) := by decide +kernel
theorem d10_9 : decode method_3_code 9 = .ok (.iaload, 1) := by decide +kernel
theorem d10_10 : decode method_3_code 10 = .ok (.iconst 1, 1) := by decide +kernel
theorem d10_11 : decode method_3_code 11 = .ok (.iadd, 1) := by decide +kernel
theorem d10_12 : decode method_3_code 12 = .ok (.iastore, 1) := by decide +kernel
theorem d10_13 : decode method_3_code 13 = .ok (.aload_n 0, 1) := by decide +kernel
theorem d10_14 : decode method_3_code 14 = .ok (.iload_n 1, 1) := by decide +kernel
theorem d10_15 : decode method_3_code 15 = .ok (.aload_n 2, 1) := by decide +kernel
theorem d10_16 : decode method_3_code 16 = .ok (.invokestatic 12, 3) := by decide +kernel
theorem d10_19 : decode method_3_code 19 = .ok (.ireturn, 1) := by decide +kernel
abbrev oy10 : MethodName := ⟨"com/example/tuplewise/tuplewise/engine/CoverCountsAddPinLaw", "step", "(Lcom/example/tuplewise/tuplewise/engine/CoverCounts;I[II)Z"⟩
theorem pn10 : plainFor oy10 = true := by first | exact plainFor_of_name (by first | (simp [plainName, overriddenIn]; done) | decide +kernel) | decide +kernel
theorem pd10 : parseMethodDescriptor oy10.desc = some ⟨[(.object "com/example/tuplewise/tuplewise/engine/CoverCounts"), .int, (.array .int), .int], some .boolean⟩ := by decide +kernel
theorem d11_0 : decode prog_14_method_8_code 0 = .ok (.aload_n 0, 1) := by decide +kernel
theorem d11_1 : decode prog_14_method_8_code 1 = .ok (.getfield 15, 3) := by decide +kernel
theorem d11_4 : decode prog_14_method_8_code 4 = .ok (.iload_n 1, 1) := by decide +kernel
theorem d11_5 : decode prog_14_method_8_code 5 = .ok (.iaload, 1) := by decide +kernel
theorem d11_6 : decode prog_14_method_8_code 6 = .ok (.istore_n 2, 1) := by decide +kernel
theorem d11_7 : decode prog_14_method_8_code 7 = .ok (.iload_n 2, 1) := by decide +kernel
theorem d11_8 : decode prog_14_method_8_code 8 = .ok (.ifCond .le 13, 3) := by decide +kernel
theorem d11_11 : decode prog_14_method_8_code 11 = .ok (.aload_n 0, 1) := by decide +kernel
theorem d11_12 : decode prog_14_method_8_code 12 = .ok (.getfield 15, 3) := by decide +kernel
theorem d11_15 : decode prog_14_method_8_code 15 = .ok (.iload_n 1, 1) := by decide +kernel
theorem d11_16 : decode prog_14_method_8_code 16 = .ok (.iload_n 2, 1) := by decide +kernel
theorem d11_17 : decode prog_14_method_8_code 17 = .ok (.iconst 1, 1) := by decide +kernel
theorem d11_18 : decode prog_14_method_8_code 18 = .ok (.iadd, 1) := by decide +kernel
theorem d11_19 : decode prog_14_method_8_code 19 = .ok (.iastore, 1) := by decide +kernel
theorem d11_20 : decode prog_14_method_8_code 20 = .ok (.return_, 1) := by decide +kernel
theorem d11_21 : decode prog_14_method_8_code 21 = .ok (.aload_n 0, 1) := by decide +kernel
theorem d11_22 : decode prog_14_method_8_code 22 = .ok (.getfield 21, 3) := by decide +kernel
theorem d11_25 : decode prog_14_method_8_code 25 = .ok (.aload_n 0, 1) := by decide +kernel
theorem d11_26 : decode prog_14_method_8_code 26 = .ok (.dup, 1) := by decide +kernel
theorem d11_27 : decode prog_14_method_8_code 27 = .ok (.getfield 35, 3) := by decide +kernel
theorem d11_30 : decode prog_14_method_8_code 30 = .ok (.iconst 1, 1) := by decide +kernel
theorem d11_31 : decode prog_14_method_8_code 31 = .ok (.isub, 1) := by decide +kernel
theorem d11_32 : decode prog_14_method_8_code 32 = .ok (.dup_x1, 1) := by decide +kernel
theorem d11_33 : decode prog_14_method_8_code 33 = .ok (.putfield 35, 3) := by decide +kernel
theorem d11_36 : decode prog_14_method_8_code 36 = .ok (.iaload, 1) := by decide +kernel
theorem d11_37 : decode prog_14_method_8_code 37 = .ok (.istore_n 3, 1) := by decide +kernel
theorem d11_38 : decode prog_14_method_8_code 38 = .ok (.aload_n 0, 1) := by decide +kernel
theorem d11_39 : decode prog_14_method_8_code 39 = .ok (.getfield 21, 3) := by decide +kernel
theorem d11_42 : decode prog_14_method_8_code 42 = .ok (.iload_n 2, 1) := by decide +kernel
theorem d11_43 : decode prog_14_method_8_code 43 = .ok (.ineg, 1) := by decide +kernel
theorem d11_44 : decode prog_14_method_8_code 44 = .ok (.iload_n 3, 1) := by decide +kernel
theorem d11_45 : decode prog_14_method_8_code 45 = .ok (.iastore, 1) := by decide +kernel
theorem d11_46 : decode prog_14_method_8_code 46 = .ok (.aload_n 0, 1) := by decide +kernel
theorem d11_47 : decode prog_14_method_8_code 47 = .ok (.getfield 15, 3) := by decide +kernel
theorem d11_50 : decode prog_14_method_8_code 50 = .ok (.iload_n 3, 1) := by decide +kernel
theorem d11_51 : decode prog_14_method_8_code 51 = .ok (.iload_n 2, 1) := by decide +kernel
theorem d11_52 : decode prog_14_method_8_code 52 = .ok (.iastore, 1) := by decide +kernel
theorem d11_53 : decode prog_14_method_8_code 53 = .ok (.aload_n 0, 1) := by decide +kernel
theorem d11_54 : decode prog_14_method_8_code 54 = .ok (.getfield 15, 3) := by decide +kernel
theorem d11_57 : decode prog_14_method_8_code 57 = .ok (.iload_n 1, 1) := by decide +kernel
theorem d11_58 : decode prog_14_method_8_code 58 = .ok (.iconst 1, 1) := by decide +kernel
theorem d11_59 : decode prog_14_method_8_code 59 = .ok (.iastore, 1) := by decide +kernel
theorem d11_60 : decode prog_14_method_8_code 60 = .ok (.return_, 1) := by decide +kernel
abbrev oy11 : MethodName := ⟨"com/example/tuplewise/tuplewise/engine/CoverCounts", "add", "(I)V"⟩
theorem pn11 : plainFor oy11 = true := by first | exact plainFor_of_name (by first | (simp [plainName, overriddenIn]; done) | decide +kernel) | decide +kernel
theorem pd11 : parseMethodDescriptor oy11.desc = some ⟨[.int], none⟩ := by decide +kernel
abbrev orm1 : Room := { frames := 1, cells := 2, slots := 8, locals := 16 }
abbrev orm3 : Room := { frames := 0, cells := 0, slots := 0, locals := 0 }
abbrev orm6 : Room := { frames := 1, cells := 0, slots := 0, locals := 16 }
abbrev orm5 : Room := { frames := 2, cells := 0, slots := 0, locals := 32 }
abbrev orm7 : Room := { frames := 0, cells := 0, slots := 0, locals := 0 }
abbrev orm9 : Room := { frames := 0, cells := 0, slots := 0, locals := 0 }
abbrev orm8 : Room := { frames := 1, cells := 0, slots := 0, locals := 16 }
abbrev orm4 : Room := { frames := 3, cells := 1, slots := 4, locals := 56 }
abbrev orm11 : Room := { frames := 0, cells := 0, slots := 0, locals := 0 }
abbrev orm10 : Room := { frames := 4, cells := 1, slots := 4, locals := 76 }
set_option maxRecDepth 65536 in
set_option maxHeartbeats 40000000 in
theorem oc3a (l : Launch) (Z : State) (a0 : Array Value) (hw : ∀ d ∈ tables_1, d.before a0 Z = true) (n0 : Nat) (h : Heap) (a b : Int32) (hab : ¬ a < b) : o_C l Z n0 oy3 jdk_29_method_65_code 2 (some .int) orm3 [(.int a), (.int b)] h (fun v h' => v = some (.int a) ∧ h' = h) := by
  refine o_body (Ls := [.val (.int a), .val (.int b)]) pn3 (by first | (simp [argsToLocals, Value.category]; done) | rfl) (fun κ B => ?_)
  refine o_iloadN (pc := 0) B d3_0 rfl ?_
  refine o_iloadN (pc := 1) B d3_1 rfl ?_
  refine o_icmp_lt (pc := 2) (pc' := 9) B d3_2 (by decide) (by decide) (fun hc2 => False.elim (hab hc2)) (fun hc2 => ?_)
  refine o_iloadN (pc := 5) B d3_5 rfl ?_
  refine o_goto (pc := 6) (pc' := 10) B d3_6 (by decide) (by decide) ?_
  exact o_ireturn (pc := 10) B d3_10 (by decide) (by decide) (⟨rfl, rfl⟩)
set_option maxRecDepth 65536 in
set_option maxHeartbeats 40000000 in
theorem oc3b (l : Launch) (Z : State) (a0 : Array Value) (hw : ∀ d ∈ tables_1, d.before a0 Z = true) (n0 : Nat) (h : Heap) (a b : Int32) (hab : a < b) : o_C l Z n0 oy3 jdk_29_method_65_code 2 (some .int) orm3 [(.int a), (.int b)] h (fun v h' => v = some (.int b) ∧ h' = h) := by
  refine o_body (Ls := [.val (.int a), .val (.int b)]) pn3 (by first | (simp [argsToLocals, Value.category]; done) | rfl) (fun κ B => ?_)
  refine o_iloadN (pc := 0) B d3_0 rfl ?_
  refine o_iloadN (pc := 1) B d3_1 rfl ?_
  refine o_icmp_lt (pc := 2) (pc' := 9) B d3_2 (by decide) (by decide) (fun hc2 => ?_) (fun hc2 => False.elim (hc2 hab))
  refine o_iloadN (pc := 9) B d3_9 rfl ?_
  exact o_ireturn (pc := 10) B d3_10 (by decide) (by decide) (⟨rfl, rfl⟩)
theorem own_neg {p : Nat} (hp : p < 2 ^ 31) : (-(Int32.ofNat p)).toInt = -(p : Int) := by
  rw [Int32.toInt_neg, own_toInt hp]; apply Int.bmod_eq_of_le <;> omega
theorem own_negpos {p : Nat} (hp : p < 2 ^ 31) : ¬ (0 : Int32) < -(Int32.ofNat p) := by
  rw [Int32.lt_iff_toInt_lt, own_neg hp]
  have z : (0 : Int32).toInt = 0 := rfl
  omega
theorem own_zpos {p : Nat} (h0 : 0 < p) (hp : p < 2 ^ 31) : (0 : Int32) < Int32.ofNat p := by
  rw [Int32.lt_iff_toInt_lt, own_toInt hp]
  have z : (0 : Int32).toInt = 0 := rfl
  omega
theorem own_eq0 {p : Nat} (hp : p < 2 ^ 31) : Int32.ofNat p = 0 ↔ p = 0 := own_inj (b := 0) hp (by decide)
set_option maxRecDepth 65536 in
set_option maxHeartbeats 40000000 in
theorem oc6 (l : Launch) (Z : State) (a0 : Array Value) (hw : ∀ d ∈ tables_1, d.before a0 Z = true) (n0 : Nat) (h : Heap) (o ac am : Addr) (n m t u : Nat) (E : Nat → Nat) (C M : List Int32) (hn : n ≤ 4) (ht : t ≤ 4) (O : own_Ob Z n0 h o ac am (Int32.ofNat m) C M) (J : own_J n m t E C M) (hu : u < n) : o_C l Z n0 oy6 prog_14_method_5_code 2 (some .int) orm6 [(.ref o), (.int (Int32.ofNat u))] h (fun v h' => v = some (.int (Int32.ofNat (E u))) ∧ h' = h) := by
  refine o_body (Ls := [.val (.ref o), .val (.int (Int32.ofNat u))]) pn6 (by first | (simp [argsToLocals, Value.category]; done) | rfl) (fun κ B => ?_)
  obtain ⟨j1, j2, j3, j4, j5, j6, j7⟩ := J
  have hE := j4 u
  refine o_aloadN (pc := 0) B d6_0 rfl rfl ?_
  refine o_getF (pc := 1) B d6_1 (hw _ (List.mem_of_getElem? (i := 10) rfl)) (O.fc) ?_
  refine o_iloadN (pc := 4) B d6_4 rfl ?_
  by_cases e : E u = 0
  · obtain ⟨p, p1, p2, p3⟩ := (j5 u hu).2 e
    refine o_iaload (pc := 5) B (u) d6_5 (O.pc_) (rfl) (own_map p2) ?_
    refine o_iconst (pc := 6) B (0 : Int32) d6_6 (by decide) ?_
    by_cases z : -(Int32.ofNat p) < 0
    · refine o_callS2 (pc := 7) B 0 d6_7 (hw _ (List.mem_of_getElem? (i := 12) rfl)) (hw _ (List.mem_of_getElem? (i := 13) rfl)) (hw _ (List.mem_of_getElem? (i := 14) rfl)) (hw _ (List.mem_of_getElem? (i := 15) rfl)) (by decide) pd3 rfl (by first | exact Nat.zero_le _ | exact Nat.le_of_ble_eq_true rfl | simp [Value.category]) (by decide) (by decide) (by decide) (by decide) rfl (oc3b l Z a0 hw n0 _ _ _ z) ?_
      rintro v h' ⟨rfl, rfl⟩
      exact o_ireturn (pc := 10) B d6_10 (by decide) (by decide) (⟨by rw [e]; rfl, rfl⟩)
    refine o_callS2 (pc := 7) B 0 d6_7 (hw _ (List.mem_of_getElem? (i := 12) rfl)) (hw _ (List.mem_of_getElem? (i := 13) rfl)) (hw _ (List.mem_of_getElem? (i := 14) rfl)) (hw _ (List.mem_of_getElem? (i := 15) rfl)) (by decide) pd3 rfl (by first | exact Nat.zero_le _ | exact Nat.le_of_ble_eq_true rfl | simp [Value.category]) (by decide) (by decide) (by decide) (by decide) rfl (oc3a l Z a0 hw n0 _ _ _ z) ?_
    rintro v h' ⟨rfl, rfl⟩
    have p0 : p = 0 := by
      rw [Int32.lt_iff_toInt_lt, own_neg (by omega)] at z
      have z0 : (0 : Int32).toInt = 0 := rfl
      omega
    exact o_ireturn (pc := 10) B d6_10 (by decide) (by decide) (⟨(by rw [e, p0]; rfl), rfl⟩)
  refine o_iaload (pc := 5) B (u) d6_5 (O.pc_) (rfl) (own_map ((j5 u hu).1 (by omega))) ?_
  refine o_iconst (pc := 6) B (0 : Int32) d6_6 (by decide) ?_
  refine o_callS2 (pc := 7) B 0 d6_7 (hw _ (List.mem_of_getElem? (i := 12) rfl)) (hw _ (List.mem_of_getElem? (i := 13) rfl)) (hw _ (List.mem_of_getElem? (i := 14) rfl)) (hw _ (List.mem_of_getElem? (i := 15) rfl)) (by decide) pd3 rfl (by first | exact Nat.zero_le _ | exact Nat.le_of_ble_eq_true rfl | simp [Value.category]) (by decide) (by decide) (by decide) (by decide) rfl (oc3a l Z a0 hw n0 _ _ _ (own_nn (by omega))) ?_
  rintro v h' ⟨rfl, rfl⟩
  exact o_ireturn (pc := 10) B d6_10 (by decide) (by decide) (⟨rfl, rfl⟩)
set_option maxRecDepth 65536 in
set_option maxHeartbeats 40000000 in
theorem oc7 (l : Launch) (Z : State) (a0 : Array Value) (hw : ∀ d ∈ tables_1, d.before a0 Z = true) (n0 : Nat) (h : Heap) (o : Addr) (m : Int32) (F : Fld Z h o own_CC "missingCount" "I" (.int m)) : o_C l Z n0 oy7 prog_14_method_6_code 1 (some .int) orm7 [(.ref o)] h (fun v h' => v = some (.int m) ∧ h' = h) := by
  refine o_body (Ls := [.val (.ref o)]) pn7 (by first | (simp [argsToLocals, Value.category]; done) | rfl) (fun κ B => ?_)
  refine o_aloadN (pc := 0) B d7_0 rfl rfl ?_
  refine o_getF (pc := 1) B d7_1 (hw _ (List.mem_of_getElem? (i := 18) rfl)) (F) ?_
  exact o_ireturn (pc := 4) B d7_4 (by decide) (by decide) (⟨rfl, rfl⟩)
set_option maxRecDepth 65536 in
set_option maxHeartbeats 40000000 in
theorem oc9 (l : Launch) (Z : State) (a0 : Array Value) (hw : ∀ d ∈ tables_1, d.before a0 Z = true) (n0 : Nat) (h : Heap) (o ac am : Addr) (mc : Int32) (C M : List Int32) (p : Nat) (y : Int32) (O : own_Ob Z n0 h o ac am mc C M) (hp : M[p]? = some y) : o_C l Z n0 oy9 prog_14_method_7_code 2 (some .int) orm9 [(.ref o), (.int (Int32.ofNat p))] h (fun v h' => v = some (.int y) ∧ h' = h) := by
  refine o_body (Ls := [.val (.ref o), .val (.int (Int32.ofNat p))]) pn9 (by first | (simp [argsToLocals, Value.category]; done) | rfl) (fun κ B => ?_)
  refine o_aloadN (pc := 0) B d9_0 rfl rfl ?_
  refine o_getF (pc := 1) B d9_1 (hw _ (List.mem_of_getElem? (i := 16) rfl)) (O.fm) ?_
  refine o_iloadN (pc := 4) B d9_4 rfl ?_
  refine o_iaload (pc := 5) B (p) d9_5 (O.pm_) (rfl) (own_map hp) ?_
  exact o_ireturn (pc := 6) B d9_6 (by decide) (by decide) (⟨rfl, rfl⟩)
set_option maxRecDepth 65536 in
set_option maxHeartbeats 40000000 in
theorem oc5 (l : Launch) (Z : State) (a0 : Array Value) (hw : ∀ d ∈ tables_1, d.before a0 Z = true) (n0 : Nat) (h : Heap) (o ac am ae : Addr) (n m t u : Nat) (E : Nat → Nat) (C M : List Int32) (hn : n ≤ 4) (ht : t ≤ 4) (O : own_Ob Z n0 h o ac am (Int32.ofNat m) C M) (J : own_J n m t E C M) (A : o_IA Z h ae (own_el E)) (hu : u < 4) : o_C l Z n0 oy5 method_5_code 4 (some .boolean) orm5 [(.ref o), (.int (Int32.ofNat u)), (.int (Int32.ofNat n)), (.ref ae)] h (fun v h' => v = some (.int 1) ∧ h' = h) := by
  refine o_body (Ls := [.val (.ref o), .val (.int (Int32.ofNat u)), .val (.int (Int32.ofNat n)), .val (.ref ae)]) pn5 (by first | (simp [argsToLocals, Value.category]; done) | rfl) (fun κ B => ?_)
  refine o_iloadN (pc := 0) B d5_0 rfl ?_
  refine o_iloadN (pc := 1) B d5_1 rfl ?_
  refine o_icmp_lt (pc := 2) (pc' := 7) B d5_2 (by decide) (by decide) (fun hc2 => ?_) (fun hc2 => ?_)
  · have hun : u < n := (own_ltn (by omega) (by omega)).mp hc2
    refine o_aloadN (pc := 7) B d5_7 rfl rfl ?_
    refine o_iloadN (pc := 8) B d5_8 rfl ?_
    refine o_callV1 (pc := 9) B 0 d5_9 (hw _ (List.mem_of_getElem? (i := 27) rfl)) (hw _ (List.mem_of_getElem? (i := 28) rfl)) (hw _ (List.mem_of_getElem? (i := 30) rfl)) (hw _ (List.mem_of_getElem? (i := 29) rfl)) (hw _ (List.mem_of_getElem? (i := 3) rfl)) (hw _ (List.mem_of_getElem? (i := 31) rfl)) (by decide) pd6 rfl (by first | exact Nat.zero_le _ | exact Nat.le_of_ble_eq_true rfl | simp [Value.category]) (by decide) (by decide) (by decide) (by decide) rfl (O.ex) (oc6 l Z a0 hw n0 _ o ac am n m t u E C M hn ht O J hun) ?_
    rintro v h' ⟨rfl, rfl⟩
    refine o_aloadN (pc := 12) B d5_12 rfl rfl ?_
    refine o_iloadN (pc := 13) B d5_13 rfl ?_
    refine o_iaload (pc := 14) B (u) d5_14 (A) (rfl) (own_map (own_el_at E hu)) ?_
    refine o_icmp_ne (pc := 15) (pc' := 22) B d5_15 (by decide) (by decide) (fun hc15 => False.elim ((hc15 rfl))) (fun hc15 => ?_)
    refine o_iconst (pc := 18) B (1 : Int32) d5_18 (by decide) ?_
    refine o_goto (pc := 19) (pc' := 23) B d5_19 (by decide) (by decide) ?_
    exact o_zreturn (pc := 23) B d5_23 (by decide) (by decide) (⟨rfl, rfl⟩)
  refine o_iconst (pc := 5) B (1 : Int32) d5_5 (by decide) ?_
  exact o_zreturn (pc := 6) B d5_6 (by decide) (by decide) (⟨rfl, rfl⟩)
set_option maxRecDepth 65536 in
set_option maxHeartbeats 40000000 in
theorem oc8 (l : Launch) (Z : State) (a0 : Array Value) (hw : ∀ d ∈ tables_1, d.before a0 Z = true) (n0 : Nat) (h : Heap) (o ac am ae asn : Addr) (n m t p : Nat) (E : Nat → Nat) (C M Sn : List Int32) (hn : n ≤ 4) (ht : t ≤ 4) (gs : n0 ≤ asn) (O : own_Ob Z n0 h o ac am (Int32.ofNat m) C M) (J : own_J n m t E C M) (A : o_IA Z h ae (own_el E)) (G : o_ZA Z h asn Sn) (hp : p < 4) (hS : own_S m p M Sn) : o_C l Z n0 oy8 method_6_code 7 (some .boolean) orm8 [(.ref o), (.int (Int32.ofNat p)), (.int (Int32.ofNat m)), (.int (Int32.ofNat n)), (.ref ae), (.ref asn)] h (fun v h' => v = some (.int 1) ∧ Keep h h' [asn] ∧ ∃ Sn', o_ZA Z h' asn Sn' ∧ own_S m (p + 1) M Sn') := by
  refine o_body (Ls := [.val (.ref o), .val (.int (Int32.ofNat p)), .val (.int (Int32.ofNat m)), .val (.int (Int32.ofNat n)), .val (.ref ae), .val (.ref asn), .unset]) pn8 (by first | (simp [argsToLocals, Value.category]; done) | rfl) (fun κ B => ?_)
  have hm : m ≤ n := J.2.2.1
  refine o_iloadN (pc := 0) B d8_0 rfl ?_
  refine o_iloadN (pc := 1) B d8_1 rfl ?_
  refine o_icmp_lt (pc := 2) (pc' := 7) B d8_2 (by decide) (by decide) (fun hc2 => ?_) (fun hc2 => ?_)
  · have hpm : p < m := (own_ltn (by omega) (by omega)).mp hc2
    obtain ⟨i, i1, i2, i3, i4⟩ := J.2.2.2.2.2.1 p hpm
    refine o_aloadN (pc := 7) B d8_7 rfl rfl ?_
    refine o_iloadN (pc := 8) B d8_8 rfl ?_
    refine o_callV1 (pc := 9) B 0 d8_9 (hw _ (List.mem_of_getElem? (i := 41) rfl)) (hw _ (List.mem_of_getElem? (i := 42) rfl)) (hw _ (List.mem_of_getElem? (i := 44) rfl)) (hw _ (List.mem_of_getElem? (i := 43) rfl)) (hw _ (List.mem_of_getElem? (i := 3) rfl)) (hw _ (List.mem_of_getElem? (i := 45) rfl)) (by decide) pd9 rfl (by first | exact Nat.zero_le _ | exact Nat.le_of_ble_eq_true rfl | simp [Value.category]) (by decide) (by decide) (by decide) (by decide) rfl (O.ex) (oc9 l Z a0 hw n0 _ o ac am _ C M p _ O i2) ?_
    rintro v h' ⟨rfl, rfl⟩
    refine o_istore_7_6 (pc := 12) B d8_12 rfl ?_
    refine o_iload (pc := 14) B d8_14 rfl ?_
    refine o_if_lt (pc := 16) (pc' := 25) B d8_16 (by decide) (by decide) (fun hc16 => False.elim ((own_nn (by omega) hc16))) (fun hc16 => ?_)
    refine o_iload (pc := 19) B d8_19 rfl ?_
    refine o_iloadN (pc := 21) B d8_21 rfl ?_
    refine o_icmp_lt (pc := 22) (pc' := 27) B d8_22 (by decide) (by decide) (fun hc22 => ?_) (fun hc22 => False.elim ((hc22 ((own_ltn (by omega) (by omega)).mpr i1))))
    refine o_aload (pc := 27) B d8_27 rfl rfl ?_
    refine o_iload (pc := 29) B d8_29 rfl ?_
    refine o_iaload (pc := 31) B (i) d8_31 (A) (rfl) (own_map (own_el_at E (by omega))) ?_
    rw [i3]
    refine o_if_ne (pc := 32) (pc' := 43) B d8_32 (by decide) (by decide) (fun hc32 => False.elim ((hc32 rfl))) (fun hc32 => ?_)
    refine o_aload (pc := 35) B d8_35 rfl rfl ?_
    refine o_iload (pc := 37) B d8_37 rfl ?_
    refine o_baload (pc := 39) B (i) d8_39 (G) (rfl) (own_map (hS.2 p i (Nat.le_refl _) hpm (by omega) i2)) ?_
    refine o_if_eq (pc := 40) (pc' := 45) B d8_40 (by decide) (by decide) (fun hc40 => ?_) (fun hc40 => False.elim ((hc40 rfl)))
    refine o_aload (pc := 45) B d8_45 rfl rfl ?_
    refine o_iload (pc := 47) B d8_47 rfl ?_
    refine o_iconst (pc := 49) B (1 : Int32) d8_49 (by decide) ?_
    refine o_bastore (pc := 50) B (i) d8_50 (G) (rfl) (own_mlt (hS.2 p i (Nat.le_refl _) hpm (by omega) i2)) (gs) ?_
    intro h1 W1
    refine o_iconst (pc := 51) B (1 : Int32) d8_51 (by decide) ?_
    exact o_zreturn (pc := 52) B d8_52 (by decide) (by decide) (⟨rfl, Keep.of_wr W1, _, o_ZA.same G W1, own_S_step hn J hS hpm (by omega) i2⟩)
  refine o_iconst (pc := 5) B (1 : Int32) d8_5 (by decide) ?_
  exact o_zreturn (pc := 6) B d8_6 (by decide) (by decide) (⟨rfl, Keep.refl _ _, Sn, G, own_S_more hS⟩)
set_option maxRecDepth 65536 in
set_option maxHeartbeats 40000000 in
theorem oc4 (l : Launch) (Z : State) (a0 : Array Value) (hw : ∀ d ∈ tables_1, d.before a0 Z = true) (n0 : Nat) (h : Heap) (o ac am ae : Addr) (n m t : Nat) (E : Nat → Nat) (C M : List Int32) (hn : n ≤ 4) (ht : t ≤ 4) (Z0 : n0 ≤ h.size) (O : own_Ob Z n0 h o ac am (Int32.ofNat m) C M) (J : own_J n m t E C M) (A : o_IA Z h ae (own_el E)) : o_C l Z n0 oy4 method_4_code 7 (some .boolean) orm4 [(.ref o), (.int (Int32.ofNat n)), (.ref ae)] h (fun v h' => v = some (.int 1) ∧ Keep h h' []) := by
  refine o_body (Ls := [.val (.ref o), .val (.int (Int32.ofNat n)), .val (.ref ae), .unset, .unset, .unset, .unset]) pn4 (by first | (simp [argsToLocals, Value.category]; done) | rfl) (fun κ B => ?_)
  have hm : m ≤ n := J.2.2.1
  have hE := J.2.2.2.1
  have ez : own_zz E n 4 = m := J.2.2.2.2.2.2.symm
  have T57 : o_Go κ (fun v h' => v = some (.int 1) ∧ Keep h h' []) h 0 0 57 [.val (.ref o), .val (.int (Int32.ofNat n)), .val (.ref ae), .val (.int (Int32.ofNat (own_zz E n 4))), .unset, .unset, .unset] [] := by
    refine o_aloadN (pc := 57) B d4_57 rfl rfl ?_
    refine o_iconst (pc := 58) B (0 : Int32) d4_58 (by decide) ?_
    refine o_iloadN (pc := 59) B d4_59 rfl ?_
    refine o_aloadN (pc := 60) B d4_60 rfl rfl ?_
    refine o_callS4 (pc := 61) B 0 d4_61 (hw _ (List.mem_of_getElem? (i := 24) rfl)) (hw _ (List.mem_of_getElem? (i := 25) rfl)) (hw _ (List.mem_of_getElem? (i := 22) rfl)) (hw _ (List.mem_of_getElem? (i := 26) rfl)) (by decide) pd5 rfl (by first | exact Nat.zero_le _ | exact Nat.le_of_ble_eq_true rfl | simp [Value.category]) (by decide) (by decide) (by decide) (by decide) rfl (oc5 l Z a0 hw n0 _ o ac am ae n m t 0 E C M hn ht O J A (by decide)) ?_
    rintro v h' ⟨rfl, rfl⟩
    refine o_if_eq (pc := 64) (pc' := 101) B d4_64 (by decide) (by decide) (fun hc64 => False.elim (by revert hc64; decide)) (fun hc64 => ?_)
    refine o_aloadN (pc := 67) B d4_67 rfl rfl ?_
    refine o_iconst (pc := 68) B (1 : Int32) d4_68 (by decide) ?_
    refine o_iloadN (pc := 69) B d4_69 rfl ?_
    refine o_aloadN (pc := 70) B d4_70 rfl rfl ?_
    refine o_callS4 (pc := 71) B 0 d4_71 (hw _ (List.mem_of_getElem? (i := 24) rfl)) (hw _ (List.mem_of_getElem? (i := 25) rfl)) (hw _ (List.mem_of_getElem? (i := 22) rfl)) (hw _ (List.mem_of_getElem? (i := 26) rfl)) (by decide) pd5 rfl (by first | exact Nat.zero_le _ | exact Nat.le_of_ble_eq_true rfl | simp [Value.category]) (by decide) (by decide) (by decide) (by decide) rfl (oc5 l Z a0 hw n0 _ o ac am ae n m t 1 E C M hn ht O J A (by decide)) ?_
    rintro v h' ⟨rfl, rfl⟩
    refine o_if_eq (pc := 74) (pc' := 101) B d4_74 (by decide) (by decide) (fun hc74 => False.elim (by revert hc74; decide)) (fun hc74 => ?_)
    refine o_aloadN (pc := 77) B d4_77 rfl rfl ?_
    refine o_iconst (pc := 78) B (2 : Int32) d4_78 (by decide) ?_
    refine o_iloadN (pc := 79) B d4_79 rfl ?_
    refine o_aloadN (pc := 80) B d4_80 rfl rfl ?_
    refine o_callS4 (pc := 81) B 0 d4_81 (hw _ (List.mem_of_getElem? (i := 24) rfl)) (hw _ (List.mem_of_getElem? (i := 25) rfl)) (hw _ (List.mem_of_getElem? (i := 22) rfl)) (hw _ (List.mem_of_getElem? (i := 26) rfl)) (by decide) pd5 rfl (by first | exact Nat.zero_le _ | exact Nat.le_of_ble_eq_true rfl | simp [Value.category]) (by decide) (by decide) (by decide) (by decide) rfl (oc5 l Z a0 hw n0 _ o ac am ae n m t 2 E C M hn ht O J A (by decide)) ?_
    rintro v h' ⟨rfl, rfl⟩
    refine o_if_eq (pc := 84) (pc' := 101) B d4_84 (by decide) (by decide) (fun hc84 => False.elim (by revert hc84; decide)) (fun hc84 => ?_)
    refine o_aloadN (pc := 87) B d4_87 rfl rfl ?_
    refine o_iconst (pc := 88) B (3 : Int32) d4_88 (by decide) ?_
    refine o_iloadN (pc := 89) B d4_89 rfl ?_
    refine o_aloadN (pc := 90) B d4_90 rfl rfl ?_
    refine o_callS4 (pc := 91) B 0 d4_91 (hw _ (List.mem_of_getElem? (i := 24) rfl)) (hw _ (List.mem_of_getElem? (i := 25) rfl)) (hw _ (List.mem_of_getElem? (i := 22) rfl)) (hw _ (List.mem_of_getElem? (i := 26) rfl)) (by decide) pd5 rfl (by first | exact Nat.zero_le _ | exact Nat.le_of_ble_eq_true rfl | simp [Value.category]) (by decide) (by decide) (by decide) (by decide) rfl (oc5 l Z a0 hw n0 _ o ac am ae n m t 3 E C M hn ht O J A (by decide)) ?_
    rintro v h' ⟨rfl, rfl⟩
    refine o_if_eq (pc := 94) (pc' := 101) B d4_94 (by decide) (by decide) (fun hc94 => False.elim (by revert hc94; decide)) (fun hc94 => ?_)
    refine o_iconst (pc := 97) B (1 : Int32) d4_97 (by decide) ?_
    refine o_goto (pc := 98) (pc' := 102) B d4_98 (by decide) (by decide) ?_
    refine o_istore_7_4 (pc := 102) B d4_102 rfl ?_
    refine o_iload (pc := 104) B d4_104 rfl ?_
    refine o_if_ne (pc := 106) (pc' := 111) B d4_106 (by decide) (by decide) (fun hc106 => ?_) (fun hc106 => False.elim (by revert hc106; decide))
    refine o_aloadN (pc := 111) B d4_111 rfl rfl ?_
    refine o_callV0 (pc := 112) B 0 d4_112 (hw _ (List.mem_of_getElem? (i := 32) rfl)) (hw _ (List.mem_of_getElem? (i := 33) rfl)) (hw _ (List.mem_of_getElem? (i := 35) rfl)) (hw _ (List.mem_of_getElem? (i := 34) rfl)) (hw _ (List.mem_of_getElem? (i := 3) rfl)) (hw _ (List.mem_of_getElem? (i := 36) rfl)) (by decide) pd7 rfl (by first | exact Nat.zero_le _ | exact Nat.le_of_ble_eq_true rfl | simp [Value.category]) (by decide) (by decide) (by decide) (by decide) rfl (O.ex) (oc7 l Z a0 hw n0 _ o _ O.fs) ?_
    rintro v h' ⟨rfl, rfl⟩
    refine o_istore_7_5 (pc := 115) B d4_115 rfl ?_
    refine o_iload (pc := 117) B d4_117 rfl ?_
    refine o_iloadN (pc := 119) B d4_119 rfl ?_
    rw [ez]
    refine o_icmp_eq (pc := 120) (pc' := 125) B d4_120 (by decide) (by decide) (fun hc120 => ?_) (fun hc120 => False.elim ((hc120 rfl)))
    refine o_iconst (pc := 125) B (4 : Int32) d4_125 (by decide) ?_
    refine o_newarray (pc := 126) B (4) (4) d4_126 (hw _ (List.mem_of_getElem? (i := 37) rfl)) (by decide) (by first | decide | omega) (by first | decide | omega) (by decide) (by decide) ?_
    intro h1 E1 lt1 A1
    obtain ⟨asn, gs, es⟩ : ∃ a, n0 ≤ a ∧ a = h'.size := ⟨_, Z0, rfl⟩
    rw [← es] at A1 ⊢
    have G0 : o_ZA Z h1 asn [0, 0, 0, 0] := A1
    have K1 : Keep h' h1 [] := (Keep.refl h' []).ext E1
    have nso : o ≠ asn := o_ne (by have := o_lt O.ex.lt; omega)
    have nsc : ac ≠ asn := o_ne (by have := o_lt O.pc_.lt; omega)
    have nsm : am ≠ asn := o_ne (by have := o_lt O.pm_.lt; omega)
    have nse : ae ≠ asn := o_ne (by have := o_lt A.lt; omega)
    have O1 := O.keep K1 nin0 nin0 nin0
    have A1' : o_IA Z h1 ae (own_el E) := A.keep K1 nin0
    have S0 : own_S m 0 M [0, 0, 0, 0] := ⟨rfl, fun q i _ _ hi _ => by
      have h4 : i = 0 ∨ i = 1 ∨ i = 2 ∨ i = 3 := by omega
      rcases h4 with rfl | rfl | rfl | rfl <;> rfl⟩
    have ar1 : asn ∉ ([] : List Addr) := nin0
    refine o_astore_7_6 (pc := 128) B d4_128 rfl rfl ?_
    refine o_aloadN (pc := 130) B d4_130 rfl rfl ?_
    refine o_iconst (pc := 131) B (0 : Int32) d4_131 (by decide) ?_
    refine o_iload (pc := 132) B d4_132 rfl ?_
    refine o_iloadN (pc := 134) B d4_134 rfl ?_
    refine o_aloadN (pc := 135) B d4_135 rfl rfl ?_
    refine o_aload (pc := 136) B d4_136 rfl rfl ?_
    refine o_callS6 (pc := 138) B 0 d4_138 (hw _ (List.mem_of_getElem? (i := 38) rfl)) (hw _ (List.mem_of_getElem? (i := 39) rfl)) (hw _ (List.mem_of_getElem? (i := 22) rfl)) (hw _ (List.mem_of_getElem? (i := 40) rfl)) (by decide) pd8 rfl (by first | exact Nat.zero_le _ | exact Nat.le_of_ble_eq_true rfl | simp [Value.category]) (by decide) (by decide) (by decide) (by decide) rfl (oc8 l Z a0 hw n0 _ o ac am ae asn n m t 0 E C M _ hn ht gs O1 J A1' G0 (by decide) S0) ?_
    rintro v h2 ⟨rfl, Q2, Sn1, G1, S1⟩
    have K2 : Keep h' h2 [] := K1.trans Q2 (fun x hx => Or.inr (by rw [List.mem_singleton.mp hx, es]; exact Nat.le_refl _))
    have O2 := O.keep K2 nin0 nin0 nin0
    have A2' : o_IA Z h2 ae (own_el E) := A.keep K2 nin0
    refine o_if_eq (pc := 141) (pc' := 190) B d4_141 (by decide) (by decide) (fun hc141 => False.elim (by revert hc141; decide)) (fun hc141 => ?_)
    refine o_aloadN (pc := 144) B d4_144 rfl rfl ?_
    refine o_iconst (pc := 145) B (1 : Int32) d4_145 (by decide) ?_
    refine o_iload (pc := 146) B d4_146 rfl ?_
    refine o_iloadN (pc := 148) B d4_148 rfl ?_
    refine o_aloadN (pc := 149) B d4_149 rfl rfl ?_
    refine o_aload (pc := 150) B d4_150 rfl rfl ?_
    refine o_callS6 (pc := 152) B 0 d4_152 (hw _ (List.mem_of_getElem? (i := 38) rfl)) (hw _ (List.mem_of_getElem? (i := 39) rfl)) (hw _ (List.mem_of_getElem? (i := 22) rfl)) (hw _ (List.mem_of_getElem? (i := 40) rfl)) (by decide) pd8 rfl (by first | exact Nat.zero_le _ | exact Nat.le_of_ble_eq_true rfl | simp [Value.category]) (by decide) (by decide) (by decide) (by decide) rfl (oc8 l Z a0 hw n0 _ o ac am ae asn n m t 1 E C M _ hn ht gs O2 J A2' G1 (by decide) S1) ?_
    rintro v h3 ⟨rfl, Q3, Sn2, G2, S2⟩
    have K3 : Keep h' h3 [] := K2.trans Q3 (fun x hx => Or.inr (by rw [List.mem_singleton.mp hx, es]; exact Nat.le_refl _))
    have O3 := O.keep K3 nin0 nin0 nin0
    have A3' : o_IA Z h3 ae (own_el E) := A.keep K3 nin0
    refine o_if_eq (pc := 155) (pc' := 190) B d4_155 (by decide) (by decide) (fun hc155 => False.elim (by revert hc155; decide)) (fun hc155 => ?_)
    refine o_aloadN (pc := 158) B d4_158 rfl rfl ?_
    refine o_iconst (pc := 159) B (2 : Int32) d4_159 (by decide) ?_
    refine o_iload (pc := 160) B d4_160 rfl ?_
    refine o_iloadN (pc := 162) B d4_162 rfl ?_
    refine o_aloadN (pc := 163) B d4_163 rfl rfl ?_
    refine o_aload (pc := 164) B d4_164 rfl rfl ?_
    refine o_callS6 (pc := 166) B 0 d4_166 (hw _ (List.mem_of_getElem? (i := 38) rfl)) (hw _ (List.mem_of_getElem? (i := 39) rfl)) (hw _ (List.mem_of_getElem? (i := 22) rfl)) (hw _ (List.mem_of_getElem? (i := 40) rfl)) (by decide) pd8 rfl (by first | exact Nat.zero_le _ | exact Nat.le_of_ble_eq_true rfl | simp [Value.category]) (by decide) (by decide) (by decide) (by decide) rfl (oc8 l Z a0 hw n0 _ o ac am ae asn n m t 2 E C M _ hn ht gs O3 J A3' G2 (by decide) S2) ?_
    rintro v h4 ⟨rfl, Q4, Sn3, G3, S3⟩
    have K4 : Keep h' h4 [] := K3.trans Q4 (fun x hx => Or.inr (by rw [List.mem_singleton.mp hx, es]; exact Nat.le_refl _))
    have O4 := O.keep K4 nin0 nin0 nin0
    have A4' : o_IA Z h4 ae (own_el E) := A.keep K4 nin0
    refine o_if_eq (pc := 169) (pc' := 190) B d4_169 (by decide) (by decide) (fun hc169 => False.elim (by revert hc169; decide)) (fun hc169 => ?_)
    refine o_aloadN (pc := 172) B d4_172 rfl rfl ?_
    refine o_iconst (pc := 173) B (3 : Int32) d4_173 (by decide) ?_
    refine o_iload (pc := 174) B d4_174 rfl ?_
    refine o_iloadN (pc := 176) B d4_176 rfl ?_
    refine o_aloadN (pc := 177) B d4_177 rfl rfl ?_
    refine o_aload (pc := 178) B d4_178 rfl rfl ?_
    refine o_callS6 (pc := 180) B 0 d4_180 (hw _ (List.mem_of_getElem? (i := 38) rfl)) (hw _ (List.mem_of_getElem? (i := 39) rfl)) (hw _ (List.mem_of_getElem? (i := 22) rfl)) (hw _ (List.mem_of_getElem? (i := 40) rfl)) (by decide) pd8 rfl (by first | exact Nat.zero_le _ | exact Nat.le_of_ble_eq_true rfl | simp [Value.category]) (by decide) (by decide) (by decide) (by decide) rfl (oc8 l Z a0 hw n0 _ o ac am ae asn n m t 3 E C M _ hn ht gs O4 J A4' G3 (by decide) S3) ?_
    rintro v h5 ⟨rfl, Q5, Sn4, G4, S4⟩
    have K5 : Keep h' h5 [] := K4.trans Q5 (fun x hx => Or.inr (by rw [List.mem_singleton.mp hx, es]; exact Nat.le_refl _))
    have O5 := O.keep K5 nin0 nin0 nin0
    have A5' : o_IA Z h5 ae (own_el E) := A.keep K5 nin0
    refine o_if_eq (pc := 183) (pc' := 190) B d4_183 (by decide) (by decide) (fun hc183 => False.elim (by revert hc183; decide)) (fun hc183 => ?_)
    refine o_iconst (pc := 186) B (1 : Int32) d4_186 (by decide) ?_
    refine o_goto (pc := 187) (pc' := 191) B d4_187 (by decide) (by decide) ?_
    exact o_zreturn (pc := 191) B d4_191 (by decide) (by decide) (⟨rfl, K5⟩)
  have T43 : o_Go κ (fun v h' => v = some (.int 1) ∧ Keep h h' []) h 0 0 43 [.val (.ref o), .val (.int (Int32.ofNat n)), .val (.ref ae), .val (.int (Int32.ofNat (own_zz E n 3))), .unset, .unset, .unset] [] := by
    refine o_iloadN (pc := 43) B d4_43 rfl ?_
    refine o_iconst (pc := 44) B (3 : Int32) d4_44 (by decide) ?_
    refine o_icmp_le (pc := 45) (pc' := 57) B d4_45 (by decide) (by decide) (fun hc45 => ?_) (fun hc45 => ?_)
    · have q : ¬ 3 < n := fun z => hc45 ((own_ltn (a := 3) (by decide) (by omega)).mpr z)
      have e : own_zz E n 4 = own_zz E n 3 := by show own_zz E n 3 + _ = _; simp [q]
      rw [e] at T57; exact T57
    refine o_aloadN (pc := 48) B d4_48 rfl rfl ?_
    refine o_iconst (pc := 49) B (3 : Int32) d4_49 (by decide) ?_
    refine o_iaload (pc := 50) B (3) d4_50 (A) (rfl) (rfl) ?_
    have q : 3 < n := (own_ltn (a := 3) (by decide) (by omega)).mp hc45
    refine o_if_ne (pc := 51) (pc' := 57) B d4_51 (by decide) (by decide) (fun hc51 => ?_) (fun hc51 => ?_)
    · have q2 : ¬ E 3 = 0 := fun z => hc51 ((own_eq0 (by have := hE 3; omega)).mpr z)
      have e : own_zz E n 4 = own_zz E n 3 := by show own_zz E n 3 + _ = _; simp [q2]
      rw [e] at T57; exact T57
    have q2 : E 3 = 0 := (own_eq0 (by have := hE 3; omega)).mp hc51
    have e : own_zz E n 4 = own_zz E n 3 + 1 := by show own_zz E n 3 + _ = _; simp [q, q2]
    rw [e, ← own_one] at T57
    refine o_iinc_7_3 (pc := 54) B (1 : Int32) _ d4_54 (by decide) rfl ?_
    exact T57
  have T29 : o_Go κ (fun v h' => v = some (.int 1) ∧ Keep h h' []) h 0 0 29 [.val (.ref o), .val (.int (Int32.ofNat n)), .val (.ref ae), .val (.int (Int32.ofNat (own_zz E n 2))), .unset, .unset, .unset] [] := by
    refine o_iloadN (pc := 29) B d4_29 rfl ?_
    refine o_iconst (pc := 30) B (2 : Int32) d4_30 (by decide) ?_
    refine o_icmp_le (pc := 31) (pc' := 43) B d4_31 (by decide) (by decide) (fun hc31 => ?_) (fun hc31 => ?_)
    · have q : ¬ 2 < n := fun z => hc31 ((own_ltn (a := 2) (by decide) (by omega)).mpr z)
      have e : own_zz E n 3 = own_zz E n 2 := by show own_zz E n 2 + _ = _; simp [q]
      rw [e] at T43; exact T43
    refine o_aloadN (pc := 34) B d4_34 rfl rfl ?_
    refine o_iconst (pc := 35) B (2 : Int32) d4_35 (by decide) ?_
    refine o_iaload (pc := 36) B (2) d4_36 (A) (rfl) (rfl) ?_
    have q : 2 < n := (own_ltn (a := 2) (by decide) (by omega)).mp hc31
    refine o_if_ne (pc := 37) (pc' := 43) B d4_37 (by decide) (by decide) (fun hc37 => ?_) (fun hc37 => ?_)
    · have q2 : ¬ E 2 = 0 := fun z => hc37 ((own_eq0 (by have := hE 2; omega)).mpr z)
      have e : own_zz E n 3 = own_zz E n 2 := by show own_zz E n 2 + _ = _; simp [q2]
      rw [e] at T43; exact T43
    have q2 : E 2 = 0 := (own_eq0 (by have := hE 2; omega)).mp hc37
    have e : own_zz E n 3 = own_zz E n 2 + 1 := by show own_zz E n 2 + _ = _; simp [q, q2]
    rw [e, ← own_one] at T43
    refine o_iinc_7_3 (pc := 40) B (1 : Int32) _ d4_40 (by decide) rfl ?_
    exact T43
  have T15 : o_Go κ (fun v h' => v = some (.int 1) ∧ Keep h h' []) h 0 0 15 [.val (.ref o), .val (.int (Int32.ofNat n)), .val (.ref ae), .val (.int (Int32.ofNat (own_zz E n 1))), .unset, .unset, .unset] [] := by
    refine o_iloadN (pc := 15) B d4_15 rfl ?_
    refine o_iconst (pc := 16) B (1 : Int32) d4_16 (by decide) ?_
    refine o_icmp_le (pc := 17) (pc' := 29) B d4_17 (by decide) (by decide) (fun hc17 => ?_) (fun hc17 => ?_)
    · have q : ¬ 1 < n := fun z => hc17 ((own_ltn (a := 1) (by decide) (by omega)).mpr z)
      have e : own_zz E n 2 = own_zz E n 1 := by show own_zz E n 1 + _ = _; simp [q]
      rw [e] at T29; exact T29
    refine o_aloadN (pc := 20) B d4_20 rfl rfl ?_
    refine o_iconst (pc := 21) B (1 : Int32) d4_21 (by decide) ?_
    refine o_iaload (pc := 22) B (1) d4_22 (A) (rfl) (rfl) ?_
    have q : 1 < n := (own_ltn (a := 1) (by decide) (by omega)).mp hc17
    refine o_if_ne (pc := 23) (pc' := 29) B d4_23 (by decide) (by decide) (fun hc23 => ?_) (fun hc23 => ?_)
    · have q2 : ¬ E 1 = 0 := fun z => hc23 ((own_eq0 (by have := hE 1; omega)).mpr z)
      have e : own_zz E n 2 = own_zz E n 1 := by show own_zz E n 1 + _ = _; simp [q2]
      rw [e] at T29; exact T29
    have q2 : E 1 = 0 := (own_eq0 (by have := hE 1; omega)).mp hc23
    have e : own_zz E n 2 = own_zz E n 1 + 1 := by show own_zz E n 1 + _ = _; simp [q, q2]
    rw [e, ← own_one] at T29
    refine o_iinc_7_3 (pc := 26) B (1 : Int32) _ d4_26 (by decide) rfl ?_
    exact T29
  refine o_iconst (pc := 0) B (0 : Int32) d4_0 (by decide) ?_
  refine o_istoreN_7_3 (pc := 1) B d4_1 rfl ?_
  refine o_iloadN (pc := 2) B d4_2 rfl ?_
  refine o_if_le (pc := 3) (pc' := 15) B d4_3 (by decide) (by decide) (fun hc3 => ?_) (fun hc3 => ?_)
  · have q : ¬ 0 < n := fun z => hc3 (own_zpos z (by omega))
    have e : own_zz E n 1 = 0 := by show 0 + _ = _; simp [q]
    rw [e] at T15; exact T15
  refine o_aloadN (pc := 6) B d4_6 rfl rfl ?_
  refine o_iconst (pc := 7) B (0 : Int32) d4_7 (by decide) ?_
  refine o_iaload (pc := 8) B (0) d4_8 (A) (rfl) (rfl) ?_
  refine o_if_ne (pc := 9) (pc' := 15) B d4_9 (by decide) (by decide) (fun hc9 => ?_) (fun hc9 => ?_)
  · have q2 : ¬ E 0 = 0 := fun z => hc9 ((own_eq0 (by have := hE 0; omega)).mpr z)
    have e : own_zz E n 1 = 0 := by show 0 + _ = _; simp [q2]
    rw [e] at T15; exact T15
  have q : 0 < n := by
    rw [Int32.lt_iff_toInt_lt, own_toInt (by omega)] at hc3
    have z : (0 : Int32).toInt = 0 := rfl
    omega
  have q2 : E 0 = 0 := (own_eq0 (by have := hE 0; omega)).mp hc9
  have e : own_zz E n 1 = 1 := by show 0 + _ = _; simp [q, q2]
  rw [e] at T15
  refine o_iinc_7_3 (pc := 12) B (1 : Int32) (1 : Int32) d4_12 (by decide) (by decide) ?_
  exact T15
set_option maxRecDepth 65536 in
set_option maxHeartbeats 40000000 in
theorem oc11 (l : Launch) (Z : State) (a0 : Array Value) (hw : ∀ d ∈ tables_1, d.before a0 Z = true) (n0 : Nat) (h : Heap) (o ac am : Addr) (n m t u : Nat) (E : Nat → Nat) (C M : List Int32) (hn : n ≤ 4) (ht : t ≤ 4) (O : own_Ob Z n0 h o ac am (Int32.ofNat m) C M) (J : own_J n m t E C M) (hu : u < n) : o_C l Z n0 oy11 prog_14_method_8_code 4 none orm11 [(.ref o), (.int (Int32.ofNat u))] h (fun v h' => v = none ∧ Keep h h' [o, ac, am] ∧ ∃ m' C' M', own_Ob Z n0 h' o ac am (Int32.ofNat m') C' M' ∧ own_J n m' (t + 1) (own_up E u) C' M') := by
  refine o_body (Ls := [.val (.ref o), .val (.int (Int32.ofNat u)), .unset, .unset]) pn11 (by first | (simp [argsToLocals, Value.category]; done) | rfl) (fun κ B => ?_)
  have J' := J
  obtain ⟨j1, j2, j3, j4, j5, j6, j7⟩ := J'
  have hE := j4 u
  have mo : o ∈ [o, ac, am] := List.mem_cons_self ..
  have mc : ac ∈ [o, ac, am] := List.mem_cons_of_mem _ (List.mem_cons_self ..)
  have mm : am ∈ [o, ac, am] := List.mem_cons_of_mem _ (List.mem_cons_of_mem _ (List.mem_cons_self ..))
  refine o_aloadN (pc := 0) B d11_0 rfl rfl ?_
  refine o_getF (pc := 1) B d11_1 (hw _ (List.mem_of_getElem? (i := 10) rfl)) (O.fc) ?_
  refine o_iloadN (pc := 4) B d11_4 rfl ?_
  by_cases e : 0 < E u
  · have c1 := (j5 u hu).1 e
    refine o_iaload (pc := 5) B (u) d11_5 (O.pc_) (rfl) (own_map c1) ?_
    refine o_istoreN_4_2 (pc := 6) B d11_6 rfl ?_
    refine o_iloadN (pc := 7) B d11_7 rfl ?_
    refine o_if_le (pc := 8) (pc' := 21) B d11_8 (by decide) (by decide) (fun hc8 => False.elim ((hc8 (own_zpos e (by omega))))) (fun hc8 => ?_)
    refine o_aloadN (pc := 11) B d11_11 rfl rfl ?_
    refine o_getF (pc := 12) B d11_12 (hw _ (List.mem_of_getElem? (i := 10) rfl)) (O.fc) ?_
    refine o_iloadN (pc := 15) B d11_15 rfl ?_
    refine o_iloadN (pc := 16) B d11_16 rfl ?_
    refine o_iconst (pc := 17) B (1 : Int32) d11_17 (by decide) ?_
    refine o_iadd (pc := 18) B d11_18 ?_
    refine o_iastore (pc := 19) B (u) d11_19 (O.pc_) (rfl) (own_mlt c1) (O.gc) ?_
    intro h1 W1
    exact o_return (pc := 20) B d11_20 (by decide) (by decide) (⟨rfl, (Keep.refl _ _).wr W1 (Or.inl mc), m, _, _, O.cnt W1, own_J_pos hn J hu e⟩)
  have e0 : E u = 0 := by omega
  obtain ⟨p, p1, p2, p3⟩ := (j5 u hu).2 e0
  obtain ⟨L, L1, L2, L3, L4⟩ := j6 (m - 1) (by omega)
  refine o_iaload (pc := 5) B (u) d11_5 (O.pc_) (rfl) (own_map p2) ?_
  refine o_istoreN_4_2 (pc := 6) B d11_6 rfl ?_
  refine o_iloadN (pc := 7) B d11_7 rfl ?_
  refine o_if_le (pc := 8) (pc' := 21) B d11_8 (by decide) (by decide) (fun hc8 => ?_) (fun hc8 => False.elim ((own_negpos (by omega) hc8)))
  refine o_aloadN (pc := 21) B d11_21 rfl rfl ?_
  refine o_getF (pc := 22) B d11_22 (hw _ (List.mem_of_getElem? (i := 16) rfl)) (O.fm) ?_
  refine o_aloadN (pc := 25) B d11_25 rfl rfl ?_
  refine o_dup (pc := 26) B d11_26 rfl ?_
  refine o_getF (pc := 27) B d11_27 (hw _ (List.mem_of_getElem? (i := 18) rfl)) (O.fs) ?_
  refine o_iconst (pc := 30) B (1 : Int32) d11_30 (by decide) ?_
  refine o_isub (pc := 31) B d11_31 ?_
  have em : Int32.ofNat m - 1 = Int32.ofNat (m - 1) := by
    have : Int32.ofNat m = Int32.ofNat (m - 1) + 1 := by rw [own_one]; congr 1; omega
    rw [this, Int32.add_sub_cancel]
  rw [em]
  refine o_dup_x1 (pc := 32) B d11_32 rfl rfl ?_
  refine o_putF (pc := 33) (ty := .int) B d11_33 (hw _ (List.mem_of_getElem? (i := 18) rfl)) (O.fs) (O.ex) (Or.inl (hw _ (List.mem_of_getElem? (i := 19) rfl))) (hw _ (List.mem_of_getElem? (i := 2) rfl)) (by decide) rfl rfl (O.go) ?_
  intro h1 W1
  have O1 := O.size hw W1
  have K1 : Keep h h1 [o, ac, am] := (Keep.refl _ _).wr W1 (Or.inl mo)
  refine o_iaload (pc := 36) B (m - 1) d11_36 (O1.pm_) (rfl) (own_map L2) ?_
  refine o_istoreN_4_3 (pc := 37) B d11_37 rfl ?_
  refine o_aloadN (pc := 38) B d11_38 rfl rfl ?_
  refine o_getF (pc := 39) B d11_39 (hw _ (List.mem_of_getElem? (i := 16) rfl)) (O1.fm) ?_
  refine o_iloadN (pc := 42) B d11_42 rfl ?_
  refine o_ineg (pc := 43) B d11_43 ?_
  rw [Int32.neg_neg]
  refine o_iloadN (pc := 44) B d11_44 rfl ?_
  refine o_iastore (pc := 45) B (p) d11_45 (O1.pm_) (rfl) (own_mlt p3) (O1.gm) ?_
  intro h2 W2
  have O2 := O1.mis W2
  have K2 := K1.wr W2 (Or.inl mm)
  refine o_aloadN (pc := 46) B d11_46 rfl rfl ?_
  refine o_getF (pc := 47) B d11_47 (hw _ (List.mem_of_getElem? (i := 10) rfl)) (O2.fc) ?_
  refine o_iloadN (pc := 50) B d11_50 rfl ?_
  refine o_iloadN (pc := 51) B d11_51 rfl ?_
  refine o_iastore (pc := 52) B (L) d11_52 (O2.pc_) (rfl) (own_mlt L4) (O2.gc) ?_
  intro h3 W3
  have O3 := O2.cnt W3
  have K3 := K2.wr W3 (Or.inl mc)
  refine o_aloadN (pc := 53) B d11_53 rfl rfl ?_
  refine o_getF (pc := 54) B d11_54 (hw _ (List.mem_of_getElem? (i := 10) rfl)) (O3.fc) ?_
  refine o_iloadN (pc := 57) B d11_57 rfl ?_
  refine o_iconst (pc := 58) B (1 : Int32) d11_58 (by decide) ?_
  refine o_iastore (pc := 59) B (u) d11_59 (O3.pc_) (rfl) (by rw [List.length_map, List.length_set, j1]; exact hu) (O3.gc) ?_
  intro h4 W4
  exact o_return (pc := 60) B d11_60 (by decide) (by decide) (⟨rfl, K3.wr W4 (Or.inl mc), m - 1, _, _, O3.cnt W4, own_J_zero hn J hu e0 p1 p2 p3 L1 L2 L3 L4⟩)
set_option maxRecDepth 65536 in
set_option maxHeartbeats 40000000 in
theorem oc10 (l : Launch) (Z : State) (a0 : Array Value) (hw : ∀ d ∈ tables_1, d.before a0 Z = true) (n0 : Nat) (h : Heap) (o ac am ae : Addr) (n m t u : Nat) (E : Nat → Nat) (C M : List Int32) (hn : n ≤ 4) (ht : t < 4) (ge : n0 ≤ ae) (n1 : ae ≠ o) (n2 : ae ≠ ac) (n3 : ae ≠ am) (Z0 : n0 ≤ h.size) (O : own_Ob Z n0 h o ac am (Int32.ofNat m) C M) (J : own_J n m t E C M) (A : o_IA Z h ae (own_el E)) (hu : u < n) : o_C l Z n0 oy10 method_3_code 4 (some .boolean) orm10 [(.ref o), (.int (Int32.ofNat n)), (.ref ae), (.int (Int32.ofNat u))] h (fun v h' => v = some (.int 1) ∧ h.size ≤ h'.size ∧ ∃ m' C' M', own_Ob Z n0 h' o ac am (Int32.ofNat m') C' M' ∧ own_J n m' (t + 1) (own_up E u) C' M' ∧ o_IA Z h' ae (own_el (own_up E u))) := by
  refine o_body (Ls := [.val (.ref o), .val (.int (Int32.ofNat n)), .val (.ref ae), .val (.int (Int32.ofNat u))]) pn10 (by first | (simp [argsToLocals, Value.category]; done) | rfl) (fun κ B => ?_)
  refine o_aloadN (pc := 0) B d10_0 rfl rfl ?_
  refine o_iloadN (pc := 1) B d10_1 rfl ?_
  refine o_callV1 (pc := 2) B 0 d10_2 (hw _ (List.mem_of_getElem? (i := 50) rfl)) (hw _ (List.mem_of_getElem? (i := 51) rfl)) (hw _ (List.mem_of_getElem? (i := 53) rfl)) (hw _ (List.mem_of_getElem? (i := 52) rfl)) (hw _ (List.mem_of_getElem? (i := 3) rfl)) (hw _ (List.mem_of_getElem? (i := 54) rfl)) (by decide) pd11 rfl (by first | exact Nat.zero_le _ | exact Nat.le_of_ble_eq_true rfl | simp [Value.category]) (by decide) (by decide) (by decide) (by decide) rfl (O.ex) (oc11 l Z a0 hw n0 _ o ac am n m t u E C M hn (by omega) O J hu) ?_
  rintro v h1 ⟨rfl, K1, m1, C1, M1, O1, J1⟩
  have A1 : o_IA Z h1 ae (own_el E) := A.keep K1 (ninS n1 (ninS n2 (ninS n3 nin0)))
  refine o_aloadN (pc := 5) B d10_5 rfl rfl ?_
  refine o_iloadN (pc := 6) B d10_6 rfl ?_
  refine o_aloadN (pc := 7) B d10_7 rfl rfl ?_
  refine o_iloadN (pc := 8) B d10_8 rfl ?_
  refine o_iaload (pc := 9) B (u) d10_9 (A1) (rfl) (own_map (own_el_at E (by omega))) ?_
  refine o_iconst (pc := 10) B (1 : Int32) d10_10 (by decide) ?_
  refine o_iadd (pc := 11) B d10_11 ?_
  refine o_iastore (pc := 12) B (u) d10_12 (A1) (rfl) (own_mlt (own_el_at E (by omega))) (ge) ?_
  intro h2 W2
  have A2 : o_IA Z h2 ae (own_el (own_up E u)) := by have := o_IA.same A1 W2; rwa [own_el_set E (by omega)] at this
  have O2 := O1.keep (Keep.of_wr W2) (ninS (Ne.symm n1) nin0) (ninS (Ne.symm n2) nin0) (ninS (Ne.symm n3) nin0)
  have z1 := K1.1
  have z2 := W2.size
  refine o_aloadN (pc := 13) B d10_13 rfl rfl ?_
  refine o_iloadN (pc := 14) B d10_14 rfl ?_
  refine o_aloadN (pc := 15) B d10_15 rfl rfl ?_
  refine o_callS3 (pc := 16) B 0 d10_16 (hw _ (List.mem_of_getElem? (i := 20) rfl)) (hw _ (List.mem_of_getElem? (i := 21) rfl)) (hw _ (List.mem_of_getElem? (i := 22) rfl)) (hw _ (List.mem_of_getElem? (i := 23) rfl)) (by decide) pd4 rfl (by first | exact Nat.zero_le _ | exact Nat.le_of_ble_eq_true rfl | simp [Value.category]) (by decide) (by decide) (by decide) (by decide) rfl (oc4 l Z a0 hw n0 _ o ac am ae n m1 (t + 1) (own_up E u) C1 M1 hn (by omega) (by omega) O2 J1 A2) ?_
  rintro v h3 ⟨rfl, K3⟩
  have z3 := K3.1
  exact o_zreturn (pc := 19) B d10_19 (by decide) (by decide) (⟨rfl, by omega, m1, C1, M1, O2.keep K3 nin0 nin0 nin0, J1, A2.keep K3 nin0⟩)
set_option maxRecDepth 65536 in
set_option maxHeartbeats 40000000 in
theorem oc1_1 (l : Launch) (Z : State) (a0 : Array Value) (hw : ∀ d ∈ tables_1, d.before a0 Z = true) (n0 : Nat) (h : Heap) (o : Addr) (u1 u2 u3 : Value) (go : n0 ≤ o) (Z0 : n0 ≤ h.size) (E : Exa Z h o own_CC) (F1 : Fld Z h o own_CC "counts" "[I" u1) (F2 : Fld Z h o own_CC "missing" "[I" u2) (F3 : Fld Z h o own_CC "missingCount" "I" u3) : o_C l Z n0 oy1 prog_14_method_2_code 3 none orm1 [(.ref o), (.int 1)] h (fun v h' => v = none ∧ ∃ ac am, own_Ob Z n0 h' o ac am (Int32.ofNat 1) [-(Int32.ofNat 0)] [Int32.ofNat 0] ∧ Keep h h' [o] ∧ h.size ≤ ac ∧ h.size ≤ am) := by
  refine o_body (Ls := [.val (.ref o), .val (.int 1), .unset]) pn1 (by first | (simp [argsToLocals, Value.category]; done) | rfl) (fun κ B => ?_)
  refine o_aloadN (pc := 0) B d1_0 rfl rfl ?_
  refine o_initO (pc := 1) B (W := 0) d1_1 (hw _ (List.mem_of_getElem? (i := 7) rfl)) (hw _ (List.mem_of_getElem? (i := 8) rfl)) (hw _ (List.mem_of_getElem? (i := 9) rfl)) (by decide) (by first | exact Nat.zero_le _ | exact Nat.le_of_ble_eq_true rfl | simp [Value.category]) (by decide) rfl ?_
  refine o_aloadN (pc := 4) B d1_4 rfl rfl ?_
  refine o_iloadN (pc := 5) B d1_5 rfl ?_
  refine o_newarray (pc := 6) B (1) (4) d1_6 (hw _ (List.mem_of_getElem? (i := 0) rfl)) (by decide) (by first | decide | omega) (by first | decide | omega) (by decide) (by decide) ?_
  intro h1 E1 lt1 A1
  obtain ⟨ac, gc, ec⟩ : ∃ a, n0 ≤ a ∧ a = h.size := ⟨_, Z0, rfl⟩
  have oc : o ≠ ac := o_ne (by have := o_lt E.lt; omega)
  rw [← ec] at A1 ⊢
  have A1' : o_IA Z h1 ac [0] := A1
  have K1 : Keep h h1 [o] := (Keep.refl _ _).ext E1
  refine o_putF (pc := 8) (ty := (.array .int)) B d1_8 (hw _ (List.mem_of_getElem? (i := 10) rfl)) (F1.ext E1) (E.ext E1) (Or.inr ⟨(hw _ (List.mem_of_getElem? (i := 11) rfl)), rfl, rfl⟩) (hw _ (List.mem_of_getElem? (i := 2) rfl)) (by decide) rfl rfl (go) ?_
  intro h2 W2
  have hs : h2.size = h1.size := W2.size
  have K2 : Keep h h2 [o] := K1.wr W2 (Or.inl (List.mem_cons_self ..))
  refine o_aloadN (pc := 11) B d1_11 rfl rfl ?_
  refine o_iloadN (pc := 12) B d1_12 rfl ?_
  refine o_iconst (pc := 13) B (1 : Int32) d1_13 (by decide) ?_
  refine o_callS2 (pc := 14) B 1 d1_14 (hw _ (List.mem_of_getElem? (i := 12) rfl)) (hw _ (List.mem_of_getElem? (i := 13) rfl)) (hw _ (List.mem_of_getElem? (i := 14) rfl)) (hw _ (List.mem_of_getElem? (i := 15) rfl)) (by decide) pd3 rfl (by first | exact Nat.zero_le _ | exact Nat.le_of_ble_eq_true rfl | simp [Value.category]) (by decide) (by decide) (by decide) (by decide) rfl (oc3a l Z a0 hw n0 _ 1 1 (by decide)) ?_
  rintro v h' ⟨rfl, rfl⟩
  refine o_newarray (pc := 17) B (1) (4) d1_17 (hw _ (List.mem_of_getElem? (i := 0) rfl)) (by decide) (by first | decide | omega) (by first | decide | omega) (by decide) (by decide) ?_
  intro h3 E3 lt3 A3
  obtain ⟨am, gm, em⟩ : ∃ a, n0 ≤ a ∧ a = Array.size (α := Cell) _ := ⟨_, (by omega : n0 ≤ h1.size), hs.symm⟩
  rw [← em] at A3 ⊢
  have om : o ≠ am := o_ne (by have := o_lt E.lt; omega)
  have cm : ac ≠ am := o_ne (by omega)
  have A3' : o_IA Z h3 am [0] := A3
  have K3 := K2.ext E3
  have F2' : Fld Z h3 o own_CC "missing" "[I" u2 := ((F2.ext E1).other W2 (Or.inr (slot_ne (C := own_CC) (Or.inl (hw _ (List.mem_of_getElem? (i := 17) rfl))) (Or.inr (hw _ (List.mem_of_getElem? (i := 11) rfl))) (by decide) (by decide : parseFieldDescriptor "[I" = some (.array .int)) (by decide : parseFieldDescriptor "[I" = some (.array .int))))).ext E3
  refine o_putF (pc := 19) (ty := (.array .int)) B d1_19 (hw _ (List.mem_of_getElem? (i := 16) rfl)) (F2') (((E.ext E1).wr W2).ext E3) (Or.inl (hw _ (List.mem_of_getElem? (i := 17) rfl))) (hw _ (List.mem_of_getElem? (i := 2) rfl)) (by decide) rfl rfl (go) ?_
  intro h4 W4
  have K4 := K3.wr W4 (Or.inl (List.mem_cons_self ..))
  have F1' : Fld Z h4 o own_CC "counts" "[I" (.ref ac) := (((F1.ext E1).same W2).ext E3).other W4 (Or.inr (slot_ne (C := own_CC) (Or.inr (hw _ (List.mem_of_getElem? (i := 11) rfl))) (Or.inl (hw _ (List.mem_of_getElem? (i := 17) rfl))) (by decide) (by decide : parseFieldDescriptor "[I" = some (.array .int)) (by decide : parseFieldDescriptor "[I" = some (.array .int))))
  have F2'' : Fld Z h4 o own_CC "missing" "[I" (.ref am) := F2'.same W4
  have F3' : Fld Z h4 o own_CC "missingCount" "I" u3 := (((F3.ext E1).other W2 (Or.inr (slot_ne (C := own_CC) (Or.inl (hw _ (List.mem_of_getElem? (i := 19) rfl))) (Or.inr (hw _ (List.mem_of_getElem? (i := 11) rfl))) (by decide) (by decide : parseFieldDescriptor "I" = some .int) (by decide : parseFieldDescriptor "[I" = some (.array .int))))).ext E3).other W4 (Or.inr (slot_ne (C := own_CC) (Or.inl (hw _ (List.mem_of_getElem? (i := 19) rfl))) (Or.inl (hw _ (List.mem_of_getElem? (i := 17) rfl))) (by decide) (by decide : parseFieldDescriptor "I" = some .int) (by decide : parseFieldDescriptor "[I" = some (.array .int))))
  have Ex4 : Exa Z h4 o own_CC := (((E.ext E1).wr W2).ext E3).wr W4
  have C4 : o_IA Z h4 ac [0] := ((A1'.other W2 (Ne.symm oc)).ext E3).other W4 (Ne.symm oc)
  have M4 : o_IA Z h4 am [0] := A3'.other W4 (Ne.symm om)
  refine o_iconst (pc := 22) B (0 : Int32) d1_22 (by decide) ?_
  refine o_istoreN_3_2 (pc := 23) B d1_23 rfl ?_
  refine o_iloadN (pc := 24) B d1_24 rfl ?_
  refine o_iloadN (pc := 25) B d1_25 rfl ?_
  refine o_icmp_ge (pc := 26) (pc' := 50) B d1_26 (by decide) (by decide) (fun hc26 => False.elim (by revert hc26; decide)) (fun hc26 => ?_)
  refine o_aloadN (pc := 29) B d1_29 rfl rfl ?_
  refine o_getF (pc := 30) B d1_30 (hw _ (List.mem_of_getElem? (i := 10) rfl)) (F1') ?_
  refine o_iloadN (pc := 33) B d1_33 rfl ?_
  refine o_iloadN (pc := 34) B d1_34 rfl ?_
  refine o_ineg (pc := 35) B d1_35 ?_
  refine o_iastore (pc := 36) B (0) d1_36 (C4) (by decide) (by show 0 < 1; decide) (gc) ?_
  intro h5 W5
  have K5 := K4.wr W5 (Or.inr (o_le (by omega)))
  have F1_5 := F1'.other W5 (Or.inl oc)
  have F2_5 := F2''.other W5 (Or.inl oc)
  have F3_5 := F3'.other W5 (Or.inl oc)
  have Ex5 := Ex4.wr W5
  have C5 : o_IA Z h5 ac [-(0 : Int32)] := o_IA.same C4 W5
  have M5 := M4.other W5 (Ne.symm cm)
  refine o_aloadN (pc := 37) B d1_37 rfl rfl ?_
  refine o_getF (pc := 38) B d1_38 (hw _ (List.mem_of_getElem? (i := 16) rfl)) (F2_5) ?_
  refine o_iloadN (pc := 41) B d1_41 rfl ?_
  refine o_iloadN (pc := 42) B d1_42 rfl ?_
  refine o_iastore (pc := 43) B (0) d1_43 (M5) (by decide) (by show 0 < 1; decide) (gm) ?_
  intro h6 W6
  have K6 := K5.wr W6 (Or.inr (o_le (by omega)))
  have F1_6 := F1_5.other W6 (Or.inl om)
  have F2_6 := F2_5.other W6 (Or.inl om)
  have F3_6 := F3_5.other W6 (Or.inl om)
  have Ex6 := Ex5.wr W6
  have M6 : o_IA Z h6 am [(0 : Int32)] := o_IA.same M5 W6
  have C6 := C5.other W6 cm
  refine o_iinc_3_2 (pc := 44) B (1 : Int32) (1 : Int32) d1_44 (by decide) (by decide) ?_
  refine o_goto (pc := 47) (pc' := 24) B d1_47 (by decide) (by decide) ?_
  refine o_iloadN (pc := 24) B d1_24 rfl ?_
  refine o_iloadN (pc := 25) B d1_25 rfl ?_
  refine o_icmp_ge (pc := 26) (pc' := 50) B d1_26 (by decide) (by decide) (fun hc26 => ?_) (fun hc26 => False.elim (by revert hc26; decide))
  refine o_aloadN (pc := 50) B d1_50 rfl rfl ?_
  refine o_iloadN (pc := 51) B d1_51 rfl ?_
  refine o_putF (pc := 52) (ty := .int) B d1_52 (hw _ (List.mem_of_getElem? (i := 18) rfl)) (F3_6) (Ex6) (Or.inl (hw _ (List.mem_of_getElem? (i := 19) rfl))) (hw _ (List.mem_of_getElem? (i := 2) rfl)) (by decide) rfl rfl (go) ?_
  intro h99 W99
  exact o_return (pc := 55) B d1_55 (by decide) (by decide) (⟨rfl, ac, am, ⟨go, gc, gm, oc, om, cm, Ex6.wr W99, F1_6.other W99 (Or.inr (slot_ne (C := own_CC) (Or.inr (hw _ (List.mem_of_getElem? (i := 11) rfl))) (Or.inl (hw _ (List.mem_of_getElem? (i := 19) rfl))) (by decide) (by decide : parseFieldDescriptor "[I" = some (.array .int)) (by decide : parseFieldDescriptor "I" = some .int))), F2_6.other W99 (Or.inr (slot_ne (C := own_CC) (Or.inl (hw _ (List.mem_of_getElem? (i := 17) rfl))) (Or.inl (hw _ (List.mem_of_getElem? (i := 19) rfl))) (by decide) (by decide : parseFieldDescriptor "[I" = some (.array .int)) (by decide : parseFieldDescriptor "I" = some .int))), F3_6.same W99, C6.other W99 (Ne.symm oc), M6.other W99 (Ne.symm om)⟩, K6.wr W99 (Or.inl (List.mem_cons_self ..)), o_le (by omega), o_le (by omega)⟩)
set_option maxRecDepth 65536 in
set_option maxHeartbeats 40000000 in
theorem oc1_2 (l : Launch) (Z : State) (a0 : Array Value) (hw : ∀ d ∈ tables_1, d.before a0 Z = true) (n0 : Nat) (h : Heap) (o : Addr) (u1 u2 u3 : Value) (go : n0 ≤ o) (Z0 : n0 ≤ h.size) (E : Exa Z h o own_CC) (F1 : Fld Z h o own_CC "counts" "[I" u1) (F2 : Fld Z h o own_CC "missing" "[I" u2) (F3 : Fld Z h o own_CC "missingCount" "I" u3) : o_C l Z n0 oy1 prog_14_method_2_code 3 none orm1 [(.ref o), (.int 2)] h (fun v h' => v = none ∧ ∃ ac am, own_Ob Z n0 h' o ac am (Int32.ofNat 2) [-(Int32.ofNat 0), -(Int32.ofNat 1)] [Int32.ofNat 0, Int32.ofNat 1] ∧ Keep h h' [o] ∧ h.size ≤ ac ∧ h.size ≤ am) := by
  refine o_body (Ls := [.val (.ref o), .val (.int 2), .unset]) pn1 (by first | (simp [argsToLocals, Value.category]; done) | rfl) (fun κ B => ?_)
  refine o_aloadN (pc := 0) B d1_0 rfl rfl ?_
  refine o_initO (pc := 1) B (W := 0) d1_1 (hw _ (List.mem_of_getElem? (i := 7) rfl)) (hw _ (List.mem_of_getElem? (i := 8) rfl)) (hw _ (List.mem_of_getElem? (i := 9) rfl)) (by decide) (by first | exact Nat.zero_le _ | exact Nat.le_of_ble_eq_true rfl | simp [Value.category]) (by decide) rfl ?_
  refine o_aloadN (pc := 4) B d1_4 rfl rfl ?_
  refine o_iloadN (pc := 5) B d1_5 rfl ?_
  refine o_newarray (pc := 6) B (2) (4) d1_6 (hw _ (List.mem_of_getElem? (i := 0) rfl)) (by decide) (by first | decide | omega) (by first | decide | omega) (by decide) (by decide) ?_
  intro h1 E1 lt1 A1
  obtain ⟨ac, gc, ec⟩ : ∃ a, n0 ≤ a ∧ a = h.size := ⟨_, Z0, rfl⟩
  have oc : o ≠ ac := o_ne (by have := o_lt E.lt; omega)
  rw [← ec] at A1 ⊢
  have A1' : o_IA Z h1 ac [0, 0] := A1
  have K1 : Keep h h1 [o] := (Keep.refl _ _).ext E1
  refine o_putF (pc := 8) (ty := (.array .int)) B d1_8 (hw _ (List.mem_of_getElem? (i := 10) rfl)) (F1.ext E1) (E.ext E1) (Or.inr ⟨(hw _ (List.mem_of_getElem? (i := 11) rfl)), rfl, rfl⟩) (hw _ (List.mem_of_getElem? (i := 2) rfl)) (by decide) rfl rfl (go) ?_
  intro h2 W2
  have hs : h2.size = h1.size := W2.size
  have K2 : Keep h h2 [o] := K1.wr W2 (Or.inl (List.mem_cons_self ..))
  refine o_aloadN (pc := 11) B d1_11 rfl rfl ?_
  refine o_iloadN (pc := 12) B d1_12 rfl ?_
  refine o_iconst (pc := 13) B (1 : Int32) d1_13 (by decide) ?_
  refine o_callS2 (pc := 14) B 1 d1_14 (hw _ (List.mem_of_getElem? (i := 12) rfl)) (hw _ (List.mem_of_getElem? (i := 13) rfl)) (hw _ (List.mem_of_getElem? (i := 14) rfl)) (hw _ (List.mem_of_getElem? (i := 15) rfl)) (by decide) pd3 rfl (by first | exact Nat.zero_le _ | exact Nat.le_of_ble_eq_true rfl | simp [Value.category]) (by decide) (by decide) (by decide) (by decide) rfl (oc3a l Z a0 hw n0 _ 2 1 (by decide)) ?_
  rintro v h' ⟨rfl, rfl⟩
  refine o_newarray (pc := 17) B (2) (4) d1_17 (hw _ (List.mem_of_getElem? (i := 0) rfl)) (by decide) (by first | decide | omega) (by first | decide | omega) (by decide) (by decide) ?_
  intro h3 E3 lt3 A3
  obtain ⟨am, gm, em⟩ : ∃ a, n0 ≤ a ∧ a = Array.size (α := Cell) _ := ⟨_, (by omega : n0 ≤ h1.size), hs.symm⟩
  rw [← em] at A3 ⊢
  have om : o ≠ am := o_ne (by have := o_lt E.lt; omega)
  have cm : ac ≠ am := o_ne (by omega)
  have A3' : o_IA Z h3 am [0, 0] := A3
  have K3 := K2.ext E3
  have F2' : Fld Z h3 o own_CC "missing" "[I" u2 := ((F2.ext E1).other W2 (Or.inr (slot_ne (C := own_CC) (Or.inl (hw _ (List.mem_of_getElem? (i := 17) rfl))) (Or.inr (hw _ (List.mem_of_getElem? (i := 11) rfl))) (by decide) (by decide : parseFieldDescriptor "[I" = some (.array .int)) (by decide : parseFieldDescriptor "[I" = some (.array .int))))).ext E3
  refine o_putF (pc := 19) (ty := (.array .int)) B d1_19 (hw _ (List.mem_of_getElem? (i := 16) rfl)) (F2') (((E.ext E1).wr W2).ext E3) (Or.inl (hw _ (List.mem_of_getElem? (i := 17) rfl))) (hw _ (List.mem_of_getElem? (i := 2) rfl)) (by decide) rfl rfl (go) ?_
  intro h4 W4
  have K4 := K3.wr W4 (Or.inl (List.mem_cons_self ..))
  have F1' : Fld Z h4 o own_CC "counts" "[I" (.ref ac) := (((F1.ext E1).same W2).ext E3).other W4 (Or.inr (slot_ne (C := own_CC) (Or.inr (hw _ (List.mem_of_getElem? (i := 11) rfl))) (Or.inl (hw _ (List.mem_of_getElem? (i := 17) rfl))) (by decide) (by decide : parseFieldDescriptor "[I" = some (.array .int)) (by decide : parseFieldDescriptor "[I" = some (.array .int))))
  have F2'' : Fld Z h4 o own_CC "missing" "[I" (.ref am) := F2'.same W4
  have F3' : Fld Z h4 o own_CC "missingCount" "I" u3 := (((F3.ext E1).other W2 (Or.inr (slot_ne (C := own_CC) (Or.inl (hw _ (List.mem_of_getElem? (i := 19) rfl))) (Or.inr (hw _ (List.mem_of_getElem? (i := 11) rfl))) (by decide) (by decide : parseFieldDescriptor "I" = some .int) (by decide : parseFieldDescriptor "[I" = some (.array .int))))).ext E3).other W4 (Or.inr (slot_ne (C := own_CC) (Or.inl (hw _ (List.mem_of_getElem? (i := 19) rfl))) (Or.inl (hw _ (List.mem_of_getElem? (i := 17) rfl))) (by decide) (by decide : parseFieldDescriptor "I" = some .int) (by decide : parseFieldDescriptor "[I" = some (.array .int))))
  have Ex4 : Exa Z h4 o own_CC := (((E.ext E1).wr W2).ext E3).wr W4
  have C4 : o_IA Z h4 ac [0, 0] := ((A1'.other W2 (Ne.symm oc)).ext E3).other W4 (Ne.symm oc)
  have M4 : o_IA Z h4 am [0, 0] := A3'.other W4 (Ne.symm om)
  refine o_iconst (pc := 22) B (0 : Int32) d1_22 (by decide) ?_
  refine o_istoreN_3_2 (pc := 23) B d1_23 rfl ?_
  refine o_iloadN (pc := 24) B d1_24 rfl ?_
  refine o_iloadN (pc := 25) B d1_25 rfl ?_
  refine o_icmp_ge (pc := 26) (pc' := 50) B d1_26 (by decide) (by decide) (fun hc26 => False.elim (by revert hc26; decide)) (fun hc26 => ?_)
  refine o_aloadN (pc := 29) B d1_29 rfl rfl ?_
  refine o_getF (pc := 30) B d1_30 (hw _ (List.mem_of_getElem? (i := 10) rfl)) (F1') ?_
  refine o_iloadN (pc := 33) B d1_33 rfl ?_
  refine o_iloadN (pc := 34) B d1_34 rfl ?_
  refine o_ineg (pc := 35) B d1_35 ?_
  refine o_iastore (pc := 36) B (0) d1_36 (C4) (by decide) (by show 0 < 2; decide) (gc) ?_
  intro h5 W5
  have K5 := K4.wr W5 (Or.inr (o_le (by omega)))
  have F1_5 := F1'.other W5 (Or.inl oc)
  have F2_5 := F2''.other W5 (Or.inl oc)
  have F3_5 := F3'.other W5 (Or.inl oc)
  have Ex5 := Ex4.wr W5
  have C5 : o_IA Z h5 ac [-(0 : Int32), 0] := o_IA.same C4 W5
  have M5 := M4.other W5 (Ne.symm cm)
  refine o_aloadN (pc := 37) B d1_37 rfl rfl ?_
  refine o_getF (pc := 38) B d1_38 (hw _ (List.mem_of_getElem? (i := 16) rfl)) (F2_5) ?_
  refine o_iloadN (pc := 41) B d1_41 rfl ?_
  refine o_iloadN (pc := 42) B d1_42 rfl ?_
  refine o_iastore (pc := 43) B (0) d1_43 (M5) (by decide) (by show 0 < 2; decide) (gm) ?_
  intro h6 W6
  have K6 := K5.wr W6 (Or.inr (o_le (by omega)))
  have F1_6 := F1_5.other W6 (Or.inl om)
  have F2_6 := F2_5.other W6 (Or.inl om)
  have F3_6 := F3_5.other W6 (Or.inl om)
  have Ex6 := Ex5.wr W6
  have M6 : o_IA Z h6 am [(0 : Int32), 0] := o_IA.same M5 W6
  have C6 := C5.other W6 cm
  refine o_iinc_3_2 (pc := 44) B (1 : Int32) (1 : Int32) d1_44 (by decide) (by decide) ?_
  refine o_goto (pc := 47) (pc' := 24) B d1_47 (by decide) (by decide) ?_
  refine o_iloadN (pc := 24) B d1_24 rfl ?_
  refine o_iloadN (pc := 25) B d1_25 rfl ?_
  refine o_icmp_ge (pc := 26) (pc' := 50) B d1_26 (by decide) (by decide) (fun hc26 => False.elim (by revert hc26; decide)) (fun hc26 => ?_)
  refine o_aloadN (pc := 29) B d1_29 rfl rfl ?_
  refine o_getF (pc := 30) B d1_30 (hw _ (List.mem_of_getElem? (i := 10) rfl)) (F1_6) ?_
  refine o_iloadN (pc := 33) B d1_33 rfl ?_
  refine o_iloadN (pc := 34) B d1_34 rfl ?_
  refine o_ineg (pc := 35) B d1_35 ?_
  refine o_iastore (pc := 36) B (1) d1_36 (C6) (by decide) (by show 1 < 2; decide) (gc) ?_
  intro h7 W7
  have K7 := K6.wr W7 (Or.inr (o_le (by omega)))
  have F1_7 := F1_6.other W7 (Or.inl oc)
  have F2_7 := F2_6.other W7 (Or.inl oc)
  have F3_7 := F3_6.other W7 (Or.inl oc)
  have Ex7 := Ex6.wr W7
  have C7 : o_IA Z h7 ac [-(0 : Int32), -(1 : Int32)] := o_IA.same C6 W7
  have M7 := M6.other W7 (Ne.symm cm)
  refine o_aloadN (pc := 37) B d1_37 rfl rfl ?_
  refine o_getF (pc := 38) B d1_38 (hw _ (List.mem_of_getElem? (i := 16) rfl)) (F2_7) ?_
  refine o_iloadN (pc := 41) B d1_41 rfl ?_
  refine o_iloadN (pc := 42) B d1_42 rfl ?_
  refine o_iastore (pc := 43) B (1) d1_43 (M7) (by decide) (by show 1 < 2; decide) (gm) ?_
  intro h8 W8
  have K8 := K7.wr W8 (Or.inr (o_le (by omega)))
  have F1_8 := F1_7.other W8 (Or.inl om)
  have F2_8 := F2_7.other W8 (Or.inl om)
  have F3_8 := F3_7.other W8 (Or.inl om)
  have Ex8 := Ex7.wr W8
  have M8 : o_IA Z h8 am [(0 : Int32), (1 : Int32)] := o_IA.same M7 W8
  have C8 := C7.other W8 cm
  refine o_iinc_3_2 (pc := 44) B (1 : Int32) (2 : Int32) d1_44 (by decide) (by decide) ?_
  refine o_goto (pc := 47) (pc' := 24) B d1_47 (by decide) (by decide) ?_
  refine o_iloadN (pc := 24) B d1_24 rfl ?_
  refine o_iloadN (pc := 25) B d1_25 rfl ?_
  refine o_icmp_ge (pc := 26) (pc' := 50) B d1_26 (by decide) (by decide) (fun hc26 => ?_) (fun hc26 => False.elim (by revert hc26; decide))
  refine o_aloadN (pc := 50) B d1_50 rfl rfl ?_
  refine o_iloadN (pc := 51) B d1_51 rfl ?_
  refine o_putF (pc := 52) (ty := .int) B d1_52 (hw _ (List.mem_of_getElem? (i := 18) rfl)) (F3_8) (Ex8) (Or.inl (hw _ (List.mem_of_getElem? (i := 19) rfl))) (hw _ (List.mem_of_getElem? (i := 2) rfl)) (by decide) rfl rfl (go) ?_
  intro h99 W99
  exact o_return (pc := 55) B d1_55 (by decide) (by decide) (⟨rfl, ac, am, ⟨go, gc, gm, oc, om, cm, Ex8.wr W99, F1_8.other W99 (Or.inr (slot_ne (C := own_CC) (Or.inr (hw _ (List.mem_of_getElem? (i := 11) rfl))) (Or.inl (hw _ (List.mem_of_getElem? (i := 19) rfl))) (by decide) (by decide : parseFieldDescriptor "[I" = some (.array .int)) (by decide : parseFieldDescriptor "I" = some .int))), F2_8.other W99 (Or.inr (slot_ne (C := own_CC) (Or.inl (hw _ (List.mem_of_getElem? (i := 17) rfl))) (Or.inl (hw _ (List.mem_of_getElem? (i := 19) rfl))) (by decide) (by decide : parseFieldDescriptor "[I" = some (.array .int)) (by decide : parseFieldDescriptor "I" = some .int))), F3_8.same W99, C8.other W99 (Ne.symm oc), M8.other W99 (Ne.symm om)⟩, K8.wr W99 (Or.inl (List.mem_cons_self ..)), o_le (by omega), o_le (by omega)⟩)
set_option maxRecDepth 65536 in
set_option maxHeartbeats 40000000 in
theorem oc1_3 (l : Launch) (Z : State) (a0 : Array Value) (hw : ∀ d ∈ tables_1, d.before a0 Z = true) (n0 : Nat) (h : Heap) (o : Addr) (u1 u2 u3 : Value) (go : n0 ≤ o) (Z0 : n0 ≤ h.size) (E : Exa Z h o own_CC) (F1 : Fld Z h o own_CC "counts" "[I" u1) (F2 : Fld Z h o own_CC "missing" "[I" u2) (F3 : Fld Z h o own_CC "missingCount" "I" u3) : o_C l Z n0 oy1 prog_14_method_2_code 3 none orm1 [(.ref o), (.int 3)] h (fun v h' => v = none ∧ ∃ ac am, own_Ob Z n0 h' o ac am (Int32.ofNat 3) [-(Int32.ofNat 0), -(Int32.ofNat 1), -(Int32.ofNat 2)] [Int32.ofNat 0, Int32.ofNat 1, Int32.ofNat 2] ∧ Keep h h' [o] ∧ h.size ≤ ac ∧ h.size ≤ am) := by
  refine o_body (Ls := [.val (.ref o), .val (.int 3), .unset]) pn1 (by first | (simp [argsToLocals, Value.category]; done) | rfl) (fun κ B => ?_)
  refine o_aloadN (pc := 0) B d1_0 rfl rfl ?_
  refine o_initO (pc := 1) B (W := 0) d1_1 (hw _ (List.mem_of_getElem? (i := 7) rfl)) (hw _ (List.mem_of_getElem? (i := 8) rfl)) (hw _ (List.mem_of_getElem? (i := 9) rfl)) (by decide) (by first | exact Nat.zero_le _ | exact Nat.le_of_ble_eq_true rfl | simp [Value.category]) (by decide) rfl ?_
  refine o_aloadN (pc := 4) B d1_4 rfl rfl ?_
  refine o_iloadN (pc := 5) B d1_5 rfl ?_
  refine o_newarray (pc := 6) B (3) (4) d1_6 (hw _ (List.mem_of_getElem? (i := 0) rfl)) (by decide) (by first | decide | omega) (by first | decide | omega) (by decide) (by decide) ?_
  intro h1 E1 lt1 A1
  obtain ⟨ac, gc, ec⟩ : ∃ a, n0 ≤ a ∧ a = h.size := ⟨_, Z0, rfl⟩
  have oc : o ≠ ac := o_ne (by have := o_lt E.lt; omega)
  rw [← ec] at A1 ⊢
  have A1' : o_IA Z h1 ac [0, 0, 0] := A1
  have K1 : Keep h h1 [o] := (Keep.refl _ _).ext E1
  refine o_putF (pc := 8) (ty := (.array .int)) B d1_8 (hw _ (List.mem_of_getElem? (i := 10) rfl)) (F1.ext E1) (E.ext E1) (Or.inr ⟨(hw _ (List.mem_of_getElem? (i := 11) rfl)), rfl, rfl⟩) (hw _ (List.mem_of_getElem? (i := 2) rfl)) (by decide) rfl rfl (go) ?_
  intro h2 W2
  have hs : h2.size = h1.size := W2.size
  have K2 : Keep h h2 [o] := K1.wr W2 (Or.inl (List.mem_cons_self ..))
  refine o_aloadN (pc := 11) B d1_11 rfl rfl ?_
  refine o_iloadN (pc := 12) B d1_12 rfl ?_
  refine o_iconst (pc := 13) B (1 : Int32) d1_13 (by decide) ?_
  refine o_callS2 (pc := 14) B 1 d1_14 (hw _ (List.mem_of_getElem? (i := 12) rfl)) (hw _ (List.mem_of_getElem? (i := 13) rfl)) (hw _ (List.mem_of_getElem? (i := 14) rfl)) (hw _ (List.mem_of_getElem? (i := 15) rfl)) (by decide) pd3 rfl (by first | exact Nat.zero_le _ | exact Nat.le_of_ble_eq_true rfl | simp [Value.category]) (by decide) (by decide) (by decide) (by decide) rfl (oc3a l Z a0 hw n0 _ 3 1 (by decide)) ?_
  rintro v h' ⟨rfl, rfl⟩
  refine o_newarray (pc := 17) B (3) (4) d1_17 (hw _ (List.mem_of_getElem? (i := 0) rfl)) (by decide) (by first | decide | omega) (by first | decide | omega) (by decide) (by decide) ?_
  intro h3 E3 lt3 A3
  obtain ⟨am, gm, em⟩ : ∃ a, n0 ≤ a ∧ a = Array.size (α := Cell) _ := ⟨_, (by omega : n0 ≤ h1.size), hs.symm⟩
  rw [← em] at A3 ⊢
  have om : o ≠ am := o_ne (by have := o_lt E.lt; omega)
  have cm : ac ≠ am := o_ne (by omega)
  have A3' : o_IA Z h3 am [0, 0, 0] := A3
  have K3 := K2.ext E3
  have F2' : Fld Z h3 o own_CC "missing" "[I" u2 := ((F2.ext E1).other W2 (Or.inr (slot_ne (C := own_CC) (Or.inl (hw _ (List.mem_of_getElem? (i := 17) rfl))) (Or.inr (hw _ (List.mem_of_getElem? (i := 11) rfl))) (by decide) (by decide : parseFieldDescriptor "[I" = some (.array .int)) (by decide : parseFieldDescriptor "[I" = some (.array .int))))).ext E3
  refine o_putF (pc := 19) (ty := (.array .int)) B d1_19 (hw _ (List.mem_of_getElem? (i := 16) rfl)) (F2') (((E.ext E1).wr W2).ext E3) (Or.inl (hw _ (List.mem_of_getElem? (i := 17) rfl))) (hw _ (List.mem_of_getElem? (i := 2) rfl)) (by decide) rfl rfl (go) ?_
  intro h4 W4
  have K4 := K3.wr W4 (Or.inl (List.mem_cons_self ..))
  have F1' : Fld Z h4 o own_CC "counts" "[I" (.ref ac) := (((F1.ext E1).same W2).ext E3).other W4 (Or.inr (slot_ne (C := own_CC) (Or.inr (hw _ (List.mem_of_getElem? (i := 11) rfl))) (Or.inl (hw _ (List.mem_of_getElem? (i := 17) rfl))) (by decide) (by decide : parseFieldDescriptor "[I" = some (.array .int)) (by decide : parseFieldDescriptor "[I" = some (.array .int))))
  have F2'' : Fld Z h4 o own_CC "missing" "[I" (.ref am) := F2'.same W4
  have F3' : Fld Z h4 o own_CC "missingCount" "I" u3 := (((F3.ext E1).other W2 (Or.inr (slot_ne (C := own_CC) (Or.inl (hw _ (List.mem_of_getElem? (i := 19) rfl))) (Or.inr (hw _ (List.mem_of_getElem? (i := 11) rfl))) (by decide) (by decide : parseFieldDescriptor "I" = some .int) (by decide : parseFieldDescriptor "[I" = some (.array .int))))).ext E3).other W4 (Or.inr (slot_ne (C := own_CC) (Or.inl (hw _ (List.mem_of_getElem? (i := 19) rfl))) (Or.inl (hw _ (List.mem_of_getElem? (i := 17) rfl))) (by decide) (by decide : parseFieldDescriptor "I" = some .int) (by decide : parseFieldDescriptor "[I" = some (.array .int))))
  have Ex4 : Exa Z h4 o own_CC := (((E.ext E1).wr W2).ext E3).wr W4
  have C4 : o_IA Z h4 ac [0, 0, 0] := ((A1'.other W2 (Ne.symm oc)).ext E3).other W4 (Ne.symm oc)
  have M4 : o_IA Z h4 am [0, 0, 0] := A3'.other W4 (Ne.symm om)
  refine o_iconst (pc := 22) B (0 : Int32) d1_22 (by decide) ?_
  refine o_istoreN_3_2 (pc := 23) B d1_23 rfl ?_
  refine o_iloadN (pc := 24) B d1_24 rfl ?_
  refine o_iloadN (pc := 25) B d1_25 rfl ?_
  refine o_icmp_ge (pc := 26) (pc' := 50) B d1_26 (by decide) (by decide) (fun hc26 => False.elim (by revert hc26; decide)) (fun hc26 => ?_)
  refine o_aloadN (pc := 29) B d1_29 rfl rfl ?_
  refine o_getF (pc := 30) B d1_30 (hw _ (List.mem_of_getElem? (i := 10) rfl)) (F1') ?_
  refine o_iloadN (pc := 33) B d1_33 rfl ?_
  refine o_iloadN (pc := 34) B d1_34 rfl ?_
  refine o_ineg (pc := 35) B d1_35 ?_
  refine o_iastore (pc := 36) B (0) d1_36 (C4) (by decide) (by show 0 < 3; decide) (gc) ?_
  intro h5 W5
  have K5 := K4.wr W5 (Or.inr (o_le (by omega)))
  have F1_5 := F1'.other W5 (Or.inl oc)
  have F2_5 := F2''.other W5 (Or.inl oc)
  have F3_5 := F3'.other W5 (Or.inl oc)
  have Ex5 := Ex4.wr W5
  have C5 : o_IA Z h5 ac [-(0 : Int32), 0, 0] := o_IA.same C4 W5
  have M5 := M4.other W5 (Ne.symm cm)
  refine o_aloadN (pc := 37) B d1_37 rfl rfl ?_
  refine o_getF (pc := 38) B d1_38 (hw _ (List.mem_of_getElem? (i := 16) rfl)) (F2_5) ?_
  refine o_iloadN (pc := 41) B d1_41 rfl ?_
  refine o_iloadN (pc := 42) B d1_42 rfl ?_
  refine o_iastore (pc := 43) B (0) d1_43 (M5) (by decide) (by show 0 < 3; decide) (gm) ?_
  intro h6 W6
  have K6 := K5.wr W6 (Or.inr (o_le (by omega)))
  have F1_6 := F1_5.other W6 (Or.inl om)
  have F2_6 := F2_5.other W6 (Or.inl om)
  have F3_6 := F3_5.other W6 (Or.inl om)
  have Ex6 := Ex5.wr W6
  have M6 : o_IA Z h6 am [(0 : Int32), 0, 0] := o_IA.same M5 W6
  have C6 := C5.other W6 cm
  refine o_iinc_3_2 (pc := 44) B (1 : Int32) (1 : Int32) d1_44 (by decide) (by decide) ?_
  refine o_goto (pc := 47) (pc' := 24) B d1_47 (by decide) (by decide) ?_
  refine o_iloadN (pc := 24) B d1_24 rfl ?_
  refine o_iloadN (pc := 25) B d1_25 rfl ?_
  refine o_icmp_ge (pc := 26) (pc' := 50) B d1_26 (by decide) (by decide) (fun hc26 => False.elim (by revert hc26; decide)) (fun hc26 => ?_)
  refine o_aloadN (pc := 29) B d1_29 rfl rfl ?_
  refine o_getF (pc := 30) B d1_30 (hw _ (List.mem_of_getElem? (i := 10) rfl)) (F1_6) ?_
  refine o_iloadN (pc := 33) B d1_33 rfl ?_
  refine o_iloadN (pc := 34) B d1_34 rfl ?_
  refine o_ineg (pc := 35) B d1_35 ?_
  refine o_iastore (pc := 36) B (1) d1_36 (C6) (by decide) (by show 1 < 3; decide) (gc) ?_
  intro h7 W7
  have K7 := K6.wr W7 (Or.inr (o_le (by omega)))
  have F1_7 := F1_6.other W7 (Or.inl oc)
  have F2_7 := F2_6.other W7 (Or.inl oc)
  have F3_7 := F3_6.other W7 (Or.inl oc)
  have Ex7 := Ex6.wr W7
  have C7 : o_IA Z h7 ac [-(0 : Int32), -(1 : Int32), 0] := o_IA.same C6 W7
  have M7 := M6.other W7 (Ne.symm cm)
  refine o_aloadN (pc := 37) B d1_37 rfl rfl ?_
  refine o_getF (pc := 38) B d1_38 (hw _ (List.mem_of_getElem? (i := 16) rfl)) (F2_7) ?_
  refine o_iloadN (pc := 41) B d1_41 rfl ?_
  refine o_iloadN (pc := 42) B d1_42 rfl ?_
  refine o_iastore (pc := 43) B (1) d1_43 (M7) (by decide) (by show 1 < 3; decide) (gm) ?_
  intro h8 W8
  have K8 := K7.wr W8 (Or.inr (o_le (by omega)))
  have F1_8 := F1_7.other W8 (Or.inl om)
  have F2_8 := F2_7.other W8 (Or.inl om)
  have F3_8 := F3_7.other W8 (Or.inl om)
  have Ex8 := Ex7.wr W8
  have M8 : o_IA Z h8 am [(0 : Int32), (1 : Int32), 0] := o_IA.same M7 W8
  have C8 := C7.other W8 cm
  refine o_iinc_3_2 (pc := 44) B (1 : Int32) (2 : Int32) d1_44 (by decide) (by decide) ?_
  refine o_goto (pc := 47) (pc' := 24) B d1_47 (by decide) (by decide) ?_
  refine o_iloadN (pc := 24) B d1_24 rfl ?_
  refine o_iloadN (pc := 25) B d1_25 rfl ?_
  refine o_icmp_ge (pc := 26) (pc' := 50) B d1_26 (by decide) (by decide) (fun hc26 => False.elim (by revert hc26; decide)) (fun hc26 => ?_)
  refine o_aloadN (pc := 29) B d1_29 rfl rfl ?_
  refine o_getF (pc := 30) B d1_30 (hw _ (List.mem_of_getElem? (i := 10) rfl)) (F1_8) ?_
  refine o_iloadN (pc := 33) B d1_33 rfl ?_
  refine o_iloadN (pc := 34) B d1_34 rfl ?_
  refine o_ineg (pc := 35) B d1_35 ?_
  refine o_iastore (pc := 36) B (2) d1_36 (C8) (by decide) (by show 2 < 3; decide) (gc) ?_
  intro h9 W9
  have K9 := K8.wr W9 (Or.inr (o_le (by omega)))
  have F1_9 := F1_8.other W9 (Or.inl oc)
  have F2_9 := F2_8.other W9 (Or.inl oc)
  have F3_9 := F3_8.other W9 (Or.inl oc)
  have Ex9 := Ex8.wr W9
  have C9 : o_IA Z h9 ac [-(0 : Int32), -(1 : Int32), -(2 : Int32)] := o_IA.same C8 W9
  have M9 := M8.other W9 (Ne.symm cm)
  refine o_aloadN (pc := 37) B d1_37 rfl rfl ?_
  refine o_getF (pc := 38) B d1_38 (hw _ (List.mem_of_getElem? (i := 16) rfl)) (F2_9) ?_
  refine o_iloadN (pc := 41) B d1_41 rfl ?_
  refine o_iloadN (pc := 42) B d1_42 rfl ?_
  refine o_iastore (pc := 43) B (2) d1_43 (M9) (by decide) (by show 2 < 3; decide) (gm) ?_
  intro h10 W10
  have K10 := K9.wr W10 (Or.inr (o_le (by omega)))
  have F1_10 := F1_9.other W10 (Or.inl om)
  have F2_10 := F2_9.other W10 (Or.inl om)
  have F3_10 := F3_9.other W10 (Or.inl om)
  have Ex10 := Ex9.wr W10
  have M10 : o_IA Z h10 am [(0 : Int32), (1 : Int32), (2 : Int32)] := o_IA.same M9 W10
  have C10 := C9.other W10 cm
  refine o_iinc_3_2 (pc := 44) B (1 : Int32) (3 : Int32) d1_44 (by decide) (by decide) ?_
  refine o_goto (pc := 47) (pc' := 24) B d1_47 (by decide) (by decide) ?_
  refine o_iloadN (pc := 24) B d1_24 rfl ?_
  refine o_iloadN (pc := 25) B d1_25 rfl ?_
  refine o_icmp_ge (pc := 26) (pc' := 50) B d1_26 (by decide) (by decide) (fun hc26 => ?_) (fun hc26 => False.elim (by revert hc26; decide))
  refine o_aloadN (pc := 50) B d1_50 rfl rfl ?_
  refine o_iloadN (pc := 51) B d1_51 rfl ?_
  refine o_putF (pc := 52) (ty := .int) B d1_52 (hw _ (List.mem_of_getElem? (i := 18) rfl)) (F3_10) (Ex10) (Or.inl (hw _ (List.mem_of_getElem? (i := 19) rfl))) (hw _ (List.mem_of_getElem? (i := 2) rfl)) (by decide) rfl rfl (go) ?_
  intro h99 W99
  exact o_return (pc := 55) B d1_55 (by decide) (by decide) (⟨rfl, ac, am, ⟨go, gc, gm, oc, om, cm, Ex10.wr W99, F1_10.other W99 (Or.inr (slot_ne (C := own_CC) (Or.inr (hw _ (List.mem_of_getElem? (i := 11) rfl))) (Or.inl (hw _ (List.mem_of_getElem? (i := 19) rfl))) (by decide) (by decide : parseFieldDescriptor "[I" = some (.array .int)) (by decide : parseFieldDescriptor "I" = some .int))), F2_10.other W99 (Or.inr (slot_ne (C := own_CC) (Or.inl (hw _ (List.mem_of_getElem? (i := 17) rfl))) (Or.inl (hw _ (List.mem_of_getElem? (i := 19) rfl))) (by decide) (by decide : parseFieldDescriptor "[I" = some (.array .int)) (by decide : parseFieldDescriptor "I" = some .int))), F3_10.same W99, C10.other W99 (Ne.symm oc), M10.other W99 (Ne.symm om)⟩, K10.wr W99 (Or.inl (List.mem_cons_self ..)), o_le (by omega), o_le (by omega)⟩)
set_option maxRecDepth 65536 in
set_option maxHeartbeats 40000000 in
theorem oc1_4 (l : Launch) (Z : State) (a0 : Array Value) (hw : ∀ d ∈ tables_1, d.before a0 Z = true) (n0 : Nat) (h : Heap) (o : Addr) (u1 u2 u3 : Value) (go : n0 ≤ o) (Z0 : n0 ≤ h.size) (E : Exa Z h o own_CC) (F1 : Fld Z h o own_CC "counts" "[I" u1) (F2 : Fld Z h o own_CC "missing" "[I" u2) (F3 : Fld Z h o own_CC "missingCount" "I" u3) : o_C l Z n0 oy1 prog_14_method_2_code 3 none orm1 [(.ref o), (.int 4)] h (fun v h' => v = none ∧ ∃ ac am, own_Ob Z n0 h' o ac am (Int32.ofNat 4) [-(Int32.ofNat 0), -(Int32.ofNat 1), -(Int32.ofNat 2), -(Int32.ofNat 3)] [Int32.ofNat 0, Int32.ofNat 1, Int32.ofNat 2, Int32.ofNat 3] ∧ Keep h h' [o] ∧ h.size ≤ ac ∧ h.size ≤ am) := by
  refine o_body (Ls := [.val (.ref o), .val (.int 4), .unset]) pn1 (by first | (simp [argsToLocals, Value.category]; done) | rfl) (fun κ B => ?_)
  refine o_aloadN (pc := 0) B d1_0 rfl rfl ?_
  refine o_initO (pc := 1) B (W := 0) d1_1 (hw _ (List.mem_of_getElem? (i := 7) rfl)) (hw _ (List.mem_of_getElem? (i := 8) rfl)) (hw _ (List.mem_of_getElem? (i := 9) rfl)) (by decide) (by first | exact Nat.zero_le _ | exact Nat.le_of_ble_eq_true rfl | simp [Value.category]) (by decide) rfl ?_
  refine o_aloadN (pc := 4) B d1_4 rfl rfl ?_
  refine o_iloadN (pc := 5) B d1_5 rfl ?_
  refine o_newarray (pc := 6) B (4) (4) d1_6 (hw _ (List.mem_of_getElem? (i := 0) rfl)) (by decide) (by first | decide | omega) (by first | decide | omega) (by decide) (by decide) ?_
  intro h1 E1 lt1 A1
  obtain ⟨ac, gc, ec⟩ : ∃ a, n0 ≤ a ∧ a = h.size := ⟨_, Z0, rfl⟩
  have oc : o ≠ ac := o_ne (by have := o_lt E.lt; omega)
  rw [← ec] at A1 ⊢
  have A1' : o_IA Z h1 ac [0, 0, 0, 0] := A1
  have K1 : Keep h h1 [o] := (Keep.refl _ _).ext E1
  refine o_putF (pc := 8) (ty := (.array .int)) B d1_8 (hw _ (List.mem_of_getElem? (i := 10) rfl)) (F1.ext E1) (E.ext E1) (Or.inr ⟨(hw _ (List.mem_of_getElem? (i := 11) rfl)), rfl, rfl⟩) (hw _ (List.mem_of_getElem? (i := 2) rfl)) (by decide) rfl rfl (go) ?_
  intro h2 W2
  have hs : h2.size = h1.size := W2.size
  have K2 : Keep h h2 [o] := K1.wr W2 (Or.inl (List.mem_cons_self ..))
  refine o_aloadN (pc := 11) B d1_11 rfl rfl ?_
  refine o_iloadN (pc := 12) B d1_12 rfl ?_
  refine o_iconst (pc := 13) B (1 : Int32) d1_13 (by decide) ?_
  refine o_callS2 (pc := 14) B 1 d1_14 (hw _ (List.mem_of_getElem? (i := 12) rfl)) (hw _ (List.mem_of_getElem? (i := 13) rfl)) (hw _ (List.mem_of_getElem? (i := 14) rfl)) (hw _ (List.mem_of_getElem? (i := 15) rfl)) (by decide) pd3 rfl (by first | exact Nat.zero_le _ | exact Nat.le_of_ble_eq_true rfl | simp [Value.category]) (by decide) (by decide) (by decide) (by decide) rfl (oc3a l Z a0 hw n0 _ 4 1 (by decide)) ?_
  rintro v h' ⟨rfl, rfl⟩
  refine o_newarray (pc := 17) B (4) (4) d1_17 (hw _ (List.mem_of_getElem? (i := 0) rfl)) (by decide) (by first | decide | omega) (by first | decide | omega) (by decide) (by decide) ?_
  intro h3 E3 lt3 A3
  obtain ⟨am, gm, em⟩ : ∃ a, n0 ≤ a ∧ a = Array.size (α := Cell) _ := ⟨_, (by omega : n0 ≤ h1.size), hs.symm⟩
  rw [← em] at A3 ⊢
  have om : o ≠ am := o_ne (by have := o_lt E.lt; omega)
  have cm : ac ≠ am := o_ne (by omega)
  have A3' : o_IA Z h3 am [0, 0, 0, 0] := A3
  have K3 := K2.ext E3
  have F2' : Fld Z h3 o own_CC "missing" "[I" u2 := ((F2.ext E1).other W2 (Or.inr (slot_ne (C := own_CC) (Or.inl (hw _ (List.mem_of_getElem? (i := 17) rfl))) (Or.inr (hw _ (List.mem_of_getElem? (i := 11) rfl))) (by decide) (by decide : parseFieldDescriptor "[I" = some (.array .int)) (by decide : parseFieldDescriptor "[I" = some (.array .int))))).ext E3
  refine o_putF (pc := 19) (ty := (.array .int)) B d1_19 (hw _ (List.mem_of_getElem? (i := 16) rfl)) (F2') (((E.ext E1).wr W2).ext E3) (Or.inl (hw _ (List.mem_of_getElem? (i := 17) rfl))) (hw _ (List.mem_of_getElem? (i := 2) rfl)) (by decide) rfl rfl (go) ?_
  intro h4 W4
  have K4 := K3.wr W4 (Or.inl (List.mem_cons_self ..))
  have F1' : Fld Z h4 o own_CC "counts" "[I" (.ref ac) := (((F1.ext E1).same W2).ext E3).other W4 (Or.inr (slot_ne (C := own_CC) (Or.inr (hw _ (List.mem_of_getElem? (i := 11) rfl))) (Or.inl (hw _ (List.mem_of_getElem? (i := 17) rfl))) (by decide) (by decide : parseFieldDescriptor "[I" = some (.array .int)) (by decide : parseFieldDescriptor "[I" = some (.array .int))))
  have F2'' : Fld Z h4 o own_CC "missing" "[I" (.ref am) := F2'.same W4
  have F3' : Fld Z h4 o own_CC "missingCount" "I" u3 := (((F3.ext E1).other W2 (Or.inr (slot_ne (C := own_CC) (Or.inl (hw _ (List.mem_of_getElem? (i := 19) rfl))) (Or.inr (hw _ (List.mem_of_getElem? (i := 11) rfl))) (by decide) (by decide : parseFieldDescriptor "I" = some .int) (by decide : parseFieldDescriptor "[I" = some (.array .int))))).ext E3).other W4 (Or.inr (slot_ne (C := own_CC) (Or.inl (hw _ (List.mem_of_getElem? (i := 19) rfl))) (Or.inl (hw _ (List.mem_of_getElem? (i := 17) rfl))) (by decide) (by decide : parseFieldDescriptor "I" = some .int) (by decide : parseFieldDescriptor "[I" = some (.array .int))))
  have Ex4 : Exa Z h4 o own_CC := (((E.ext E1).wr W2).ext E3).wr W4
  have C4 : o_IA Z h4 ac [0, 0, 0, 0] := ((A1'.other W2 (Ne.symm oc)).ext E3).other W4 (Ne.symm oc)
  have M4 : o_IA Z h4 am [0, 0, 0, 0] := A3'.other W4 (Ne.symm om)
  refine o_iconst (pc := 22) B (0 : Int32) d1_22 (by decide) ?_
  refine o_istoreN_3_2 (pc := 23) B d1_23 rfl ?_
  refine o_iloadN (pc := 24) B d1_24 rfl ?_
  refine o_iloadN (pc := 25) B d1_25 rfl ?_
  refine o_icmp_ge (pc := 26) (pc' := 50) B d1_26 (by decide) (by decide) (fun hc26 => False.elim (by revert hc26; decide)) (fun hc26 => ?_)
  refine o_aloadN (pc := 29) B d1_29 rfl rfl ?_
  refine o_getF (pc := 30) B d1_30 (hw _ (List.mem_of_getElem? (i := 10) rfl)) (F1') ?_
  refine o_iloadN (pc := 33) B d1_33 rfl ?_
  refine o_iloadN (pc := 34) B d1_34 rfl ?_
  refine o_ineg (pc := 35) B d1_35 ?_
  refine o_iastore (pc := 36) B (0) d1_36 (C4) (by decide) (by show 0 < 4; decide) (gc) ?_
  intro h5 W5
  have K5 := K4.wr W5 (Or.inr (o_le (by omega)))
  have F1_5 := F1'.other W5 (Or.inl oc)
  have F2_5 := F2''.other W5 (Or.inl oc)
  have F3_5 := F3'.other W5 (Or.inl oc)
  have Ex5 := Ex4.wr W5
  have C5 : o_IA Z h5 ac [-(0 : Int32), 0, 0, 0] := o_IA.same C4 W5
  have M5 := M4.other W5 (Ne.symm cm)
  refine o_aloadN (pc := 37) B d1_37 rfl rfl ?_
  refine o_getF (pc := 38) B d1_38 (hw _ (List.mem_of_getElem? (i := 16) rfl)) (F2_5) ?_
  refine o_iloadN (pc := 41) B d1_41 rfl ?_
  refine o_iloadN (pc := 42) B d1_42 rfl ?_
  refine o_iastore (pc := 43) B (0) d1_43 (M5) (by decide) (by show 0 < 4; decide) (gm) ?_
  intro h6 W6
  have K6 := K5.wr W6 (Or.inr (o_le (by omega)))
  have F1_6 := F1_5.other W6 (Or.inl om)
  have F2_6 := F2_5.other W6 (Or.inl om)
  have F3_6 := F3_5.other W6 (Or.inl om)
  have Ex6 := Ex5.wr W6
  have M6 : o_IA Z h6 am [(0 : Int32), 0, 0, 0] := o_IA.same M5 W6
  have C6 := C5.other W6 cm
  refine o_iinc_3_2 (pc := 44) B (1 : Int32) (1 : Int32) d1_44 (by decide) (by decide) ?_
  refine o_goto (pc := 47) (pc' := 24) B d1_47 (by decide) (by decide) ?_
  refine o_iloadN (pc := 24) B d1_24 rfl ?_
  refine o_iloadN (pc := 25) B d1_25 rfl ?_
  refine o_icmp_ge (pc := 26) (pc' := 50) B d1_26 (by decide) (by decide) (fun hc26 => False.elim (by revert hc26; decide)) (fun hc26 => ?_)
  refine o_aloadN (pc := 29) B d1_29 rfl rfl ?_
  refine o_getF (pc := 30) B d1_30 (hw _ (List.mem_of_getElem? (i := 10) rfl)) (F1_6) ?_
  refine o_iloadN (pc := 33) B d1_33 rfl ?_
  refine o_iloadN (pc := 34) B d1_34 rfl ?_
  refine o_ineg (pc := 35) B d1_35 ?_
  refine o_iastore (pc := 36) B (1) d1_36 (C6) (by decide) (by show 1 < 4; decide) (gc) ?_
  intro h7 W7
  have K7 := K6.wr W7 (Or.inr (o_le (by omega)))
  have F1_7 := F1_6.other W7 (Or.inl oc)
  have F2_7 := F2_6.other W7 (Or.inl oc)
  have F3_7 := F3_6.other W7 (Or.inl oc)
  have Ex7 := Ex6.wr W7
  have C7 : o_IA Z h7 ac [-(0 : Int32), -(1 : Int32), 0, 0] := o_IA.same C6 W7
  have M7 := M6.other W7 (Ne.symm cm)
  refine o_aloadN (pc := 37) B d1_37 rfl rfl ?_
  refine o_getF (pc := 38) B d1_38 (hw _ (List.mem_of_getElem? (i := 16) rfl)) (F2_7) ?_
  refine o_iloadN (pc := 41) B d1_41 rfl ?_
  refine o_iloadN (pc := 42) B d1_42 rfl ?_
  refine o_iastore (pc := 43) B (1) d1_43 (M7) (by decide) (by show 1 < 4; decide) (gm) ?_
  intro h8 W8
  have K8 := K7.wr W8 (Or.inr (o_le (by omega)))
  have F1_8 := F1_7.other W8 (Or.inl om)
  have F2_8 := F2_7.other W8 (Or.inl om)
  have F3_8 := F3_7.other W8 (Or.inl om)
  have Ex8 := Ex7.wr W8
  have M8 : o_IA Z h8 am [(0 : Int32), (1 : Int32), 0, 0] := o_IA.same M7 W8
  have C8 := C7.other W8 cm
  refine o_iinc_3_2 (pc := 44) B (1 : Int32) (2 : Int32) d1_44 (by decide) (by decide) ?_
  refine o_goto (pc := 47) (pc' := 24) B d1_47 (by decide) (by decide) ?_
  refine o_iloadN (pc := 24) B d1_24 rfl ?_
  refine o_iloadN (pc := 25) B d1_25 rfl ?_
  refine o_icmp_ge (pc := 26) (pc' := 50) B d1_26 (by decide) (by decide) (fun hc26 => False.elim (by revert hc26; decide)) (fun hc26 => ?_)
  refine o_aloadN (pc := 29) B d1_29 rfl rfl ?_
  refine o_getF (pc := 30) B d1_30 (hw _ (List.mem_of_getElem? (i := 10) rfl)) (F1_8) ?_
  refine o_iloadN (pc := 33) B d1_33 rfl ?_
  refine o_iloadN (pc := 34) B d1_34 rfl ?_
  refine o_ineg (pc := 35) B d1_35 ?_
  refine o_iastore (pc := 36) B (2) d1_36 (C8) (by decide) (by show 2 < 4; decide) (gc) ?_
  intro h9 W9
  have K9 := K8.wr W9 (Or.inr (o_le (by omega)))
  have F1_9 := F1_8.other W9 (Or.inl oc)
  have F2_9 := F2_8.other W9 (Or.inl oc)
  have F3_9 := F3_8.other W9 (Or.inl oc)
  have Ex9 := Ex8.wr W9
  have C9 : o_IA Z h9 ac [-(0 : Int32), -(1 : Int32), -(2 : Int32), 0] := o_IA.same C8 W9
  have M9 := M8.other W9 (Ne.symm cm)
  refine o_aloadN (pc := 37) B d1_37 rfl rfl ?_
  refine o_getF (pc := 38) B d1_38 (hw _ (List.mem_of_getElem? (i := 16) rfl)) (F2_9) ?_
  refine o_iloadN (pc := 41) B d1_41 rfl ?_
  refine o_iloadN (pc := 42) B d1_42 rfl ?_
  refine o_iastore (pc := 43) B (2) d1_43 (M9) (by decide) (by show 2 < 4; decide) (gm) ?_
  intro h10 W10
  have K10 := K9.wr W10 (Or.inr (o_le (by omega)))
  have F1_10 := F1_9.other W10 (Or.inl om)
  have F2_10 := F2_9.other W10 (Or.inl om)
  have F3_10 := F3_9.other W10 (Or.inl om)
  have Ex10 := Ex9.wr W10
  have M10 : o_IA Z h10 am [(0 : Int32), (1 : Int32), (2 : Int32), 0] := o_IA.same M9 W10
  have C10 := C9.other W10 cm
  refine o_iinc_3_2 (pc := 44) B (1 : Int32) (3 : Int32) d1_44 (by decide) (by decide) ?_
  refine o_goto (pc := 47) (pc' := 24) B d1_47 (by decide) (by decide) ?_
  refine o_iloadN (pc := 24) B d1_24 rfl ?_
  refine o_iloadN (pc := 25) B d1_25 rfl ?_
  refine o_icmp_ge (pc := 26) (pc' := 50) B d1_26 (by decide) (by decide) (fun hc26 => False.elim (by revert hc26; decide)) (fun hc26 => ?_)
  refine o_aloadN (pc := 29) B d1_29 rfl rfl ?_
  refine o_getF (pc := 30) B d1_30 (hw _ (List.mem_of_getElem? (i := 10) rfl)) (F1_10) ?_
  refine o_iloadN (pc := 33) B d1_33 rfl ?_
  refine o_iloadN (pc := 34) B d1_34 rfl ?_
  refine o_ineg (pc := 35) B d1_35 ?_
  refine o_iastore (pc := 36) B (3) d1_36 (C10) (by decide) (by show 3 < 4; decide) (gc) ?_
  intro h11 W11
  have K11 := K10.wr W11 (Or.inr (o_le (by omega)))
  have F1_11 := F1_10.other W11 (Or.inl oc)
  have F2_11 := F2_10.other W11 (Or.inl oc)
  have F3_11 := F3_10.other W11 (Or.inl oc)
  have Ex11 := Ex10.wr W11
  have C11 : o_IA Z h11 ac [-(0 : Int32), -(1 : Int32), -(2 : Int32), -(3 : Int32)] := o_IA.same C10 W11
  have M11 := M10.other W11 (Ne.symm cm)
  refine o_aloadN (pc := 37) B d1_37 rfl rfl ?_
  refine o_getF (pc := 38) B d1_38 (hw _ (List.mem_of_getElem? (i := 16) rfl)) (F2_11) ?_
  refine o_iloadN (pc := 41) B d1_41 rfl ?_
  refine o_iloadN (pc := 42) B d1_42 rfl ?_
  refine o_iastore (pc := 43) B (3) d1_43 (M11) (by decide) (by show 3 < 4; decide) (gm) ?_
  intro h12 W12
  have K12 := K11.wr W12 (Or.inr (o_le (by omega)))
  have F1_12 := F1_11.other W12 (Or.inl om)
  have F2_12 := F2_11.other W12 (Or.inl om)
  have F3_12 := F3_11.other W12 (Or.inl om)
  have Ex12 := Ex11.wr W12
  have M12 : o_IA Z h12 am [(0 : Int32), (1 : Int32), (2 : Int32), (3 : Int32)] := o_IA.same M11 W12
  have C12 := C11.other W12 cm
  refine o_iinc_3_2 (pc := 44) B (1 : Int32) (4 : Int32) d1_44 (by decide) (by decide) ?_
  refine o_goto (pc := 47) (pc' := 24) B d1_47 (by decide) (by decide) ?_
  refine o_iloadN (pc := 24) B d1_24 rfl ?_
  refine o_iloadN (pc := 25) B d1_25 rfl ?_
  refine o_icmp_ge (pc := 26) (pc' := 50) B d1_26 (by decide) (by decide) (fun hc26 => ?_) (fun hc26 => False.elim (by revert hc26; decide))
  refine o_aloadN (pc := 50) B d1_50 rfl rfl ?_
  refine o_iloadN (pc := 51) B d1_51 rfl ?_
  refine o_putF (pc := 52) (ty := .int) B d1_52 (hw _ (List.mem_of_getElem? (i := 18) rfl)) (F3_12) (Ex12) (Or.inl (hw _ (List.mem_of_getElem? (i := 19) rfl))) (hw _ (List.mem_of_getElem? (i := 2) rfl)) (by decide) rfl rfl (go) ?_
  intro h99 W99
  exact o_return (pc := 55) B d1_55 (by decide) (by decide) (⟨rfl, ac, am, ⟨go, gc, gm, oc, om, cm, Ex12.wr W99, F1_12.other W99 (Or.inr (slot_ne (C := own_CC) (Or.inr (hw _ (List.mem_of_getElem? (i := 11) rfl))) (Or.inl (hw _ (List.mem_of_getElem? (i := 19) rfl))) (by decide) (by decide : parseFieldDescriptor "[I" = some (.array .int)) (by decide : parseFieldDescriptor "I" = some .int))), F2_12.other W99 (Or.inr (slot_ne (C := own_CC) (Or.inl (hw _ (List.mem_of_getElem? (i := 17) rfl))) (Or.inl (hw _ (List.mem_of_getElem? (i := 19) rfl))) (by decide) (by decide : parseFieldDescriptor "[I" = some (.array .int)) (by decide : parseFieldDescriptor "I" = some .int))), F3_12.same W99, C12.other W99 (Ne.symm oc), M12.other W99 (Ne.symm om)⟩, K12.wr W99 (Or.inl (List.mem_cons_self ..)), o_le (by omega), o_le (by omega)⟩)
theorem own_num (b : Int32) {n : Nat} (h0 : 0 < n) (hn : n ≤ 4) : ∃ u, u < n ∧ (b &&& 2147483647) % Int32.ofNat n = Int32.ofNat u := by
  have e : b &&& 2147483647 = Int32.ofNat (b.toBitVec.toNat % 2 ^ 31) := by
    apply Int32.toBitVec_inj.mp; apply BitVec.eq_of_toNat_eq
    have m := Nat.mod_lt b.toBitVec.toNat (show 0 < 2 ^ 31 by decide)
    rw [own_i32n _ (by omega), Int32.toBitVec_and, BitVec.toNat_and]
    exact Nat.and_two_pow_sub_one_eq_mod _ 31
  have m := Nat.mod_lt b.toBitVec.toNat (show 0 < 2 ^ 31 by decide)
  exact ⟨_, Nat.mod_lt _ h0, by rw [e, own_rem m (by omega)]⟩
theorem own_c (x : Int32) : x &&& 3 = 0 ∨ x &&& 3 = 1 ∨ x &&& 3 = 2 ∨ x &&& 3 = 3 := by
  have e := own_and x (j := 2) (by decide)
  have m := Nat.mod_lt x.toBitVec.toNat (show 0 < 2 ^ 2 by decide)
  have e' : x &&& 3 = Int32.ofNat (x.toBitVec.toNat % 2 ^ 2) := e
  have h4 : ∀ q : Nat, q < 2 ^ 2 → q = 0 ∨ q = 1 ∨ q = 2 ∨ q = 3 := by omega
  rw [e']
  rcases h4 _ m with q | q | q | q <;> rw [q] <;> simp
set_option maxRecDepth 65536 in
set_option maxHeartbeats 40000000 in
theorem own_tail (l : Launch) (Z : State) (a0 : Array Value) (hw : ∀ d ∈ tables_1, d.before a0 Z = true) (n0 : Nat) (h : Heap) (κ : o_K) (B : o_Bo κ l Z n0 room_1 x code maxLocals ret) (xa xb xc xd xf : Int32) (o ac am ae : Addr) (n : Nat) (C M : List Int32) (h0 : 0 < n) (hn : n ≤ 4) (ge : n0 ≤ ae) (n1 : ae ≠ o) (n2 : ae ≠ ac) (n3 : ae ≠ am) (Z0 : n0 ≤ h.size) (O : own_Ob Z n0 h o ac am (Int32.ofNat n) C M) (J : own_J n n 0 (fun _ => 0) C M) (A : o_IA Z h ae (own_el (fun _ => 0))) :
    o_Go κ (fun v h' => v = some (.int 1)) h 4 15 21 [.val (.int xa), .val (.int xb), .val (.int xc), .val (.int xd), .val (.int xf), .val (.int (Int32.ofNat n)), .val (.ref ae), .unset, .unset] [.ref o] := by
  have nz : Int32.ofNat n ≠ 0 := own_ne0 h0 (by omega)
  refine o_astore_9_7 (pc := 21) B at_21 rfl rfl ?_
  refine o_aload (pc := 23) B at_23 rfl rfl ?_
  refine o_iload (pc := 25) B at_25 rfl ?_
  refine o_aload (pc := 27) B at_27 rfl rfl ?_
  refine o_callS3 (pc := 29) B 0 at_29 (hw _ (List.mem_of_getElem? (i := 20) rfl)) (hw _ (List.mem_of_getElem? (i := 21) rfl)) (hw _ (List.mem_of_getElem? (i := 22) rfl)) (hw _ (List.mem_of_getElem? (i := 23) rfl)) (by decide) pd4 rfl (by first | exact Nat.zero_le _ | exact Nat.le_of_ble_eq_true rfl | simp [Value.category]) (by decide) (by decide) (by decide) (by decide) rfl (oc4 l Z a0 hw n0 _ o ac am ae n n 0 (fun _ => 0) C M hn (by decide) Z0 O J A) ?_
  rintro v h1 ⟨rfl, K1⟩
  have O1 := O.keep K1 nin0 nin0 nin0
  have A1 : o_IA Z h1 ae (own_el (fun _ => 0)) := A.keep K1 nin0
  have J1 := J
  have z1 := K1.1
  refine o_istore_9_8 (pc := 32) B at_32 rfl ?_
  refine o_iload (pc := 34) B at_34 rfl ?_
  refine o_if_eq (pc := 36) (pc' := 62) B at_36 (by decide) (by decide) (fun hc36 => False.elim (by revert hc36; decide)) (fun hc36 => ?_)
  refine o_aload (pc := 39) B at_39 rfl rfl ?_
  refine o_iload (pc := 41) B at_41 rfl ?_
  refine o_aload (pc := 43) B at_43 rfl rfl ?_
  refine o_iloadN (pc := 45) B at_45 rfl ?_
  refine o_ldc (pc := 46) B (x := (2147483647 : Int32)) at_46 (hw _ (List.mem_of_getElem? (i := 46) rfl)) ?_
  refine o_iand (pc := 48) B at_48 ?_
  refine o_iload (pc := 49) B at_49 rfl ?_
  refine o_irem (pc := 51) B at_51 (nz) ?_
  obtain ⟨u1, hu1, eu1⟩ := own_num xb h0 hn
  rw [eu1]
  refine o_callS4 (pc := 52) B 0 at_52 (hw _ (List.mem_of_getElem? (i := 47) rfl)) (hw _ (List.mem_of_getElem? (i := 48) rfl)) (hw _ (List.mem_of_getElem? (i := 22) rfl)) (hw _ (List.mem_of_getElem? (i := 49) rfl)) (by decide) pd10 rfl (by first | exact Nat.zero_le _ | exact Nat.le_of_ble_eq_true rfl | simp [Value.category]) (by decide) (by decide) (by decide) (by decide) rfl (oc10 l Z a0 hw n0 _ o ac am ae n n 0 u1 (fun _ => 0) C M hn (by decide) ge n1 n2 n3 (by omega) O1 J1 A1 hu1) ?_
  rintro v h2 ⟨rfl, z2, m2, C2, M2, O2, J2, A2⟩
  refine o_if_eq (pc := 55) (pc' := 62) B at_55 (by decide) (by decide) (fun hc55 => False.elim (by revert hc55; decide)) (fun hc55 => ?_)
  refine o_iconst (pc := 58) B (1 : Int32) at_58 (by decide) ?_
  refine o_goto (pc := 59) (pc' := 63) B at_59 (by decide) (by decide) ?_
  refine o_istore_9_8 (pc := 63) B at_63 rfl ?_
  refine o_iload (pc := 65) B at_65 rfl ?_
  refine o_if_eq (pc := 67) (pc' := 93) B at_67 (by decide) (by decide) (fun hc67 => False.elim (by revert hc67; decide)) (fun hc67 => ?_)
  refine o_aload (pc := 70) B at_70 rfl rfl ?_
  refine o_iload (pc := 72) B at_72 rfl ?_
  refine o_aload (pc := 74) B at_74 rfl rfl ?_
  refine o_iloadN (pc := 76) B at_76 rfl ?_
  refine o_ldc (pc := 77) B (x := (2147483647 : Int32)) at_77 (hw _ (List.mem_of_getElem? (i := 46) rfl)) ?_
  refine o_iand (pc := 79) B at_79 ?_
  refine o_iload (pc := 80) B at_80 rfl ?_
  refine o_irem (pc := 82) B at_82 (nz) ?_
  obtain ⟨u2, hu2, eu2⟩ := own_num xc h0 hn
  rw [eu2]
  refine o_callS4 (pc := 83) B 0 at_83 (hw _ (List.mem_of_getElem? (i := 47) rfl)) (hw _ (List.mem_of_getElem? (i := 48) rfl)) (hw _ (List.mem_of_getElem? (i := 22) rfl)) (hw _ (List.mem_of_getElem? (i := 49) rfl)) (by decide) pd10 rfl (by first | exact Nat.zero_le _ | exact Nat.le_of_ble_eq_true rfl | simp [Value.category]) (by decide) (by decide) (by decide) (by decide) rfl (oc10 l Z a0 hw n0 _ o ac am ae n m2 1 u2 (own_up (fun _ => 0) u1) C2 M2 hn (by decide) ge n1 n2 n3 (by omega) O2 J2 A2 hu2) ?_
  rintro v h3 ⟨rfl, z3, m3, C3, M3, O3, J3, A3⟩
  refine o_if_eq (pc := 86) (pc' := 93) B at_86 (by decide) (by decide) (fun hc86 => False.elim (by revert hc86; decide)) (fun hc86 => ?_)
  refine o_iconst (pc := 89) B (1 : Int32) at_89 (by decide) ?_
  refine o_goto (pc := 90) (pc' := 94) B at_90 (by decide) (by decide) ?_
  refine o_istore_9_8 (pc := 94) B at_94 rfl ?_
  refine o_iload (pc := 96) B at_96 rfl ?_
  refine o_if_eq (pc := 98) (pc' := 124) B at_98 (by decide) (by decide) (fun hc98 => False.elim (by revert hc98; decide)) (fun hc98 => ?_)
  refine o_aload (pc := 101) B at_101 rfl rfl ?_
  refine o_iload (pc := 103) B at_103 rfl ?_
  refine o_aload (pc := 105) B at_105 rfl rfl ?_
  refine o_iloadN (pc := 107) B at_107 rfl ?_
  refine o_ldc (pc := 108) B (x := (2147483647 : Int32)) at_108 (hw _ (List.mem_of_getElem? (i := 46) rfl)) ?_
  refine o_iand (pc := 110) B at_110 ?_
  refine o_iload (pc := 111) B at_111 rfl ?_
  refine o_irem (pc := 113) B at_113 (nz) ?_
  obtain ⟨u3, hu3, eu3⟩ := own_num xd h0 hn
  rw [eu3]
  refine o_callS4 (pc := 114) B 0 at_114 (hw _ (List.mem_of_getElem? (i := 47) rfl)) (hw _ (List.mem_of_getElem? (i := 48) rfl)) (hw _ (List.mem_of_getElem? (i := 22) rfl)) (hw _ (List.mem_of_getElem? (i := 49) rfl)) (by decide) pd10 rfl (by first | exact Nat.zero_le _ | exact Nat.le_of_ble_eq_true rfl | simp [Value.category]) (by decide) (by decide) (by decide) (by decide) rfl (oc10 l Z a0 hw n0 _ o ac am ae n m3 2 u3 (own_up (own_up (fun _ => 0) u1) u2) C3 M3 hn (by decide) ge n1 n2 n3 (by omega) O3 J3 A3 hu3) ?_
  rintro v h4 ⟨rfl, z4, m4, C4, M4, O4, J4, A4⟩
  refine o_if_eq (pc := 117) (pc' := 124) B at_117 (by decide) (by decide) (fun hc117 => False.elim (by revert hc117; decide)) (fun hc117 => ?_)
  refine o_iconst (pc := 120) B (1 : Int32) at_120 (by decide) ?_
  refine o_goto (pc := 121) (pc' := 125) B at_121 (by decide) (by decide) ?_
  refine o_istore_9_8 (pc := 125) B at_125 rfl ?_
  refine o_iload (pc := 127) B at_127 rfl ?_
  refine o_if_eq (pc := 129) (pc' := 156) B at_129 (by decide) (by decide) (fun hc129 => False.elim (by revert hc129; decide)) (fun hc129 => ?_)
  refine o_aload (pc := 132) B at_132 rfl rfl ?_
  refine o_iload (pc := 134) B at_134 rfl ?_
  refine o_aload (pc := 136) B at_136 rfl rfl ?_
  refine o_iload (pc := 138) B at_138 rfl ?_
  refine o_ldc (pc := 140) B (x := (2147483647 : Int32)) at_140 (hw _ (List.mem_of_getElem? (i := 46) rfl)) ?_
  refine o_iand (pc := 142) B at_142 ?_
  refine o_iload (pc := 143) B at_143 rfl ?_
  refine o_irem (pc := 145) B at_145 (nz) ?_
  obtain ⟨u4, hu4, eu4⟩ := own_num xf h0 hn
  rw [eu4]
  refine o_callS4 (pc := 146) B 0 at_146 (hw _ (List.mem_of_getElem? (i := 47) rfl)) (hw _ (List.mem_of_getElem? (i := 48) rfl)) (hw _ (List.mem_of_getElem? (i := 22) rfl)) (hw _ (List.mem_of_getElem? (i := 49) rfl)) (by decide) pd10 rfl (by first | exact Nat.zero_le _ | exact Nat.le_of_ble_eq_true rfl | simp [Value.category]) (by decide) (by decide) (by decide) (by decide) rfl (oc10 l Z a0 hw n0 _ o ac am ae n m4 3 u4 (own_up (own_up (own_up (fun _ => 0) u1) u2) u3) C4 M4 hn (by decide) ge n1 n2 n3 (by omega) O4 J4 A4 hu4) ?_
  rintro v h5 ⟨rfl, z5, m5, C5, M5, O5, J5, A5⟩
  refine o_if_eq (pc := 149) (pc' := 156) B at_149 (by decide) (by decide) (fun hc149 => False.elim (by revert hc149; decide)) (fun hc149 => ?_)
  refine o_iconst (pc := 152) B (1 : Int32) at_152 (by decide) ?_
  refine o_goto (pc := 153) (pc' := 157) B at_153 (by decide) (by decide) ?_
  refine o_istore_9_8 (pc := 157) B at_157 rfl ?_
  refine o_iload (pc := 159) B at_159 rfl ?_
  exact o_zreturn (pc := 161) B at_161 (by decide) (by decide) (rfl)
set_option maxRecDepth 65536 in
set_option maxHeartbeats 40000000 in
theorem oc0 (l : Launch) (Z : State) (a0 : Array Value) (hw : ∀ d ∈ tables_1, d.before a0 Z = true) (n0 : Nat) (h : Heap) (xa xb xc xd xf : Int32) (Z0 : n0 ≤ h.size) : o_C l Z n0 Jvm.Pilot.@@N@@.x code maxLocals ret room_1 [(.int xa), (.int xb), (.int xc), (.int xd), (.int xf)] h (fun v h' => v = some (.int 1)) := by
  refine o_body (Ls := [.val (.int xa), .val (.int xb), .val (.int xc), .val (.int xd), .val (.int xf), .unset, .unset, .unset, .unset]) pn0 (by first | (simp [argsToLocals, Value.category, maxLocals]; done) | rfl) (fun κ B => ?_)
  refine o_iconst (pc := 0) B (1 : Int32) at_0 (by decide) ?_
  refine o_iloadN (pc := 1) B at_1 rfl ?_
  refine o_iconst (pc := 2) B (3 : Int32) at_2 (by decide) ?_
  refine o_iand (pc := 3) B at_3 ?_
  rcases own_c xa with e | e | e | e
  · rw [e]
    refine o_iadd_c (pc := 4) B (1 : Int32) at_4 (by decide) ?_
    refine o_istore_9_5 (pc := 5) B at_5 rfl ?_
    refine o_iconst (pc := 7) B (4 : Int32) at_7 (by decide) ?_
    refine o_newarray (pc := 8) B (4) (4) at_8 (hw _ (List.mem_of_getElem? (i := 0) rfl)) (by decide) (by first | decide | omega) (by first | decide | omega) (by decide) (by decide) ?_
    intro h1 E1 lt1 A1
    obtain ⟨ae, ge, ee⟩ : ∃ a, n0 ≤ a ∧ a = h.size := ⟨_, Z0, rfl⟩
    rw [← ee] at A1 ⊢
    have A1' : o_IA Z h1 ae (own_el (fun _ => 0)) := A1
    refine o_astore_9_6 (pc := 10) B at_10 rfl rfl ?_
    refine o_new (pc := 12) B at_12 (hw _ (List.mem_of_getElem? (i := 1) rfl)) (hw _ (List.mem_of_getElem? (i := 2) rfl)) (hw _ (List.mem_of_getElem? (i := 3) rfl)) (by decide) (by decide) ?_
    intro h2 E2 X2 D2
    obtain ⟨o, go, eo⟩ : ∃ a, n0 ≤ a ∧ a = h1.size := ⟨_, (by omega), rfl⟩
    rw [← eo] at X2 ⊢
    have F1 : Fld Z h2 o own_CC "counts" "[I" .null := eo ▸ D2 (Or.inr (hw _ (List.mem_of_getElem? (i := 11) rfl))) (ty := .array .int) (by decide)
    have F2 : Fld Z h2 o own_CC "missing" "[I" .null := eo ▸ D2 (Or.inl (hw _ (List.mem_of_getElem? (i := 17) rfl))) (ty := .array .int) (by decide)
    have F3 : Fld Z h2 o own_CC "missingCount" "I" (.int 0) := eo ▸ D2 (Or.inl (hw _ (List.mem_of_getElem? (i := 19) rfl))) (ty := .int) (by decide)
    have A2 := A1'.ext E2
    have z2 := E2.1
    refine o_dup (pc := 15) B at_15 rfl ?_
    refine o_iload (pc := 16) B at_16 rfl ?_
    refine o_callN1 (pc := 18) B 1 at_18 rfl (hw _ (List.mem_of_getElem? (i := 4) rfl)) (hw _ (List.mem_of_getElem? (i := 5) rfl)) (hw _ (List.mem_of_getElem? (i := 3) rfl)) (hw _ (List.mem_of_getElem? (i := 6) rfl)) (by decide) pd1 rfl (by first | exact Nat.zero_le _ | exact Nat.le_of_ble_eq_true rfl | simp [Value.category]) (by decide) (by decide) (by decide) (by decide) rfl (oc1_1 l Z a0 hw n0 _ o .null .null (.int 0) go (by omega) X2 F1 F2 F3) ?_
    rintro v h3 ⟨rfl, ac, am, O3, K3, gc, gm⟩
    have q1 := o_lt A2.lt
    have q2 := o_lt X2.lt
    have q3 := o_lt A1'.lt
    have gc' := o_le gc
    have gm' := o_le gm
    have z3 := K3.1
    exact own_tail l Z a0 hw n0 _ κ B _ _ _ _ _ o ac am ae 1 _ _ (by decide) (by decide) ge (o_ne (by omega)) (o_ne (by omega)) (o_ne (by omega)) (by omega) O3 (own_J_init (by decide) rfl rfl (fun i hi => by
      have h4 : i = 0 ∨ i = 1 ∨ i = 2 ∨ i = 3 := by omega
      rcases h4 with rfl | rfl | rfl | rfl <;> first | exact ⟨rfl, rfl⟩ | omega)) (A2.keep K3 (ninS (o_ne (by omega)) nin0))
  · rw [e]
    refine o_iadd_c (pc := 4) B (2 : Int32) at_4 (by decide) ?_
    refine o_istore_9_5 (pc := 5) B at_5 rfl ?_
    refine o_iconst (pc := 7) B (4 : Int32) at_7 (by decide) ?_
    refine o_newarray (pc := 8) B (4) (4) at_8 (hw _ (List.mem_of_getElem? (i := 0) rfl)) (by decide) (by first | decide | omega) (by first | decide | omega) (by decide) (by decide) ?_
    intro h1 E1 lt1 A1
    obtain ⟨ae, ge, ee⟩ : ∃ a, n0 ≤ a ∧ a = h.size := ⟨_, Z0, rfl⟩
    rw [← ee] at A1 ⊢
    have A1' : o_IA Z h1 ae (own_el (fun _ => 0)) := A1
    refine o_astore_9_6 (pc := 10) B at_10 rfl rfl ?_
    refine o_new (pc := 12) B at_12 (hw _ (List.mem_of_getElem? (i := 1) rfl)) (hw _ (List.mem_of_getElem? (i := 2) rfl)) (hw _ (List.mem_of_getElem? (i := 3) rfl)) (by decide) (by decide) ?_
    intro h2 E2 X2 D2
    obtain ⟨o, go, eo⟩ : ∃ a, n0 ≤ a ∧ a = h1.size := ⟨_, (by omega), rfl⟩
    rw [← eo] at X2 ⊢
    have F1 : Fld Z h2 o own_CC "counts" "[I" .null := eo ▸ D2 (Or.inr (hw _ (List.mem_of_getElem? (i := 11) rfl))) (ty := .array .int) (by decide)
    have F2 : Fld Z h2 o own_CC "missing" "[I" .null := eo ▸ D2 (Or.inl (hw _ (List.mem_of_getElem? (i := 17) rfl))) (ty := .array .int) (by decide)
    have F3 : Fld Z h2 o own_CC "missingCount" "I" (.int 0) := eo ▸ D2 (Or.inl (hw _ (List.mem_of_getElem? (i := 19) rfl))) (ty := .int) (by decide)
    have A2 := A1'.ext E2
    have z2 := E2.1
    refine o_dup (pc := 15) B at_15 rfl ?_
    refine o_iload (pc := 16) B at_16 rfl ?_
    refine o_callN1 (pc := 18) B 1 at_18 rfl (hw _ (List.mem_of_getElem? (i := 4) rfl)) (hw _ (List.mem_of_getElem? (i := 5) rfl)) (hw _ (List.mem_of_getElem? (i := 3) rfl)) (hw _ (List.mem_of_getElem? (i := 6) rfl)) (by decide) pd1 rfl (by first | exact Nat.zero_le _ | exact Nat.le_of_ble_eq_true rfl | simp [Value.category]) (by decide) (by decide) (by decide) (by decide) rfl (oc1_2 l Z a0 hw n0 _ o .null .null (.int 0) go (by omega) X2 F1 F2 F3) ?_
    rintro v h3 ⟨rfl, ac, am, O3, K3, gc, gm⟩
    have q1 := o_lt A2.lt
    have q2 := o_lt X2.lt
    have q3 := o_lt A1'.lt
    have gc' := o_le gc
    have gm' := o_le gm
    have z3 := K3.1
    exact own_tail l Z a0 hw n0 _ κ B _ _ _ _ _ o ac am ae 2 _ _ (by decide) (by decide) ge (o_ne (by omega)) (o_ne (by omega)) (o_ne (by omega)) (by omega) O3 (own_J_init (by decide) rfl rfl (fun i hi => by
      have h4 : i = 0 ∨ i = 1 ∨ i = 2 ∨ i = 3 := by omega
      rcases h4 with rfl | rfl | rfl | rfl <;> first | exact ⟨rfl, rfl⟩ | omega)) (A2.keep K3 (ninS (o_ne (by omega)) nin0))
  · rw [e]
    refine o_iadd_c (pc := 4) B (3 : Int32) at_4 (by decide) ?_
    refine o_istore_9_5 (pc := 5) B at_5 rfl ?_
    refine o_iconst (pc := 7) B (4 : Int32) at_7 (by decide) ?_
    refine o_newarray (pc := 8) B (4) (4) at_8 (hw _ (List.mem_of_getElem? (i := 0) rfl)) (by decide) (by first | decide | omega) (by first | decide | omega) (by decide) (by decide) ?_
    intro h1 E1 lt1 A1
    obtain ⟨ae, ge, ee⟩ : ∃ a, n0 ≤ a ∧ a = h.size := ⟨_, Z0, rfl⟩
    rw [← ee] at A1 ⊢
    have A1' : o_IA Z h1 ae (own_el (fun _ => 0)) := A1
    refine o_astore_9_6 (pc := 10) B at_10 rfl rfl ?_
    refine o_new (pc := 12) B at_12 (hw _ (List.mem_of_getElem? (i := 1) rfl)) (hw _ (List.mem_of_getElem? (i := 2) rfl)) (hw _ (List.mem_of_getElem? (i := 3) rfl)) (by decide) (by decide) ?_
    intro h2 E2 X2 D2
    obtain ⟨o, go, eo⟩ : ∃ a, n0 ≤ a ∧ a = h1.size := ⟨_, (by omega), rfl⟩
    rw [← eo] at X2 ⊢
    have F1 : Fld Z h2 o own_CC "counts" "[I" .null := eo ▸ D2 (Or.inr (hw _ (List.mem_of_getElem? (i := 11) rfl))) (ty := .array .int) (by decide)
    have F2 : Fld Z h2 o own_CC "missing" "[I" .null := eo ▸ D2 (Or.inl (hw _ (List.mem_of_getElem? (i := 17) rfl))) (ty := .array .int) (by decide)
    have F3 : Fld Z h2 o own_CC "missingCount" "I" (.int 0) := eo ▸ D2 (Or.inl (hw _ (List.mem_of_getElem? (i := 19) rfl))) (ty := .int) (by decide)
    have A2 := A1'.ext E2
    have z2 := E2.1
    refine o_dup (pc := 15) B at_15 rfl ?_
    refine o_iload (pc := 16) B at_16 rfl ?_
    refine o_callN1 (pc := 18) B 1 at_18 rfl (hw _ (List.mem_of_getElem? (i := 4) rfl)) (hw _ (List.mem_of_getElem? (i := 5) rfl)) (hw _ (List.mem_of_getElem? (i := 3) rfl)) (hw _ (List.mem_of_getElem? (i := 6) rfl)) (by decide) pd1 rfl (by first | exact Nat.zero_le _ | exact Nat.le_of_ble_eq_true rfl | simp [Value.category]) (by decide) (by decide) (by decide) (by decide) rfl (oc1_3 l Z a0 hw n0 _ o .null .null (.int 0) go (by omega) X2 F1 F2 F3) ?_
    rintro v h3 ⟨rfl, ac, am, O3, K3, gc, gm⟩
    have q1 := o_lt A2.lt
    have q2 := o_lt X2.lt
    have q3 := o_lt A1'.lt
    have gc' := o_le gc
    have gm' := o_le gm
    have z3 := K3.1
    exact own_tail l Z a0 hw n0 _ κ B _ _ _ _ _ o ac am ae 3 _ _ (by decide) (by decide) ge (o_ne (by omega)) (o_ne (by omega)) (o_ne (by omega)) (by omega) O3 (own_J_init (by decide) rfl rfl (fun i hi => by
      have h4 : i = 0 ∨ i = 1 ∨ i = 2 ∨ i = 3 := by omega
      rcases h4 with rfl | rfl | rfl | rfl <;> first | exact ⟨rfl, rfl⟩ | omega)) (A2.keep K3 (ninS (o_ne (by omega)) nin0))
  · rw [e]
    refine o_iadd_c (pc := 4) B (4 : Int32) at_4 (by decide) ?_
    refine o_istore_9_5 (pc := 5) B at_5 rfl ?_
    refine o_iconst (pc := 7) B (4 : Int32) at_7 (by decide) ?_
    refine o_newarray (pc := 8) B (4) (4) at_8 (hw _ (List.mem_of_getElem? (i := 0) rfl)) (by decide) (by first | decide | omega) (by first | decide | omega) (by decide) (by decide) ?_
    intro h1 E1 lt1 A1
    obtain ⟨ae, ge, ee⟩ : ∃ a, n0 ≤ a ∧ a = h.size := ⟨_, Z0, rfl⟩
    rw [← ee] at A1 ⊢
    have A1' : o_IA Z h1 ae (own_el (fun _ => 0)) := A1
    refine o_astore_9_6 (pc := 10) B at_10 rfl rfl ?_
    refine o_new (pc := 12) B at_12 (hw _ (List.mem_of_getElem? (i := 1) rfl)) (hw _ (List.mem_of_getElem? (i := 2) rfl)) (hw _ (List.mem_of_getElem? (i := 3) rfl)) (by decide) (by decide) ?_
    intro h2 E2 X2 D2
    obtain ⟨o, go, eo⟩ : ∃ a, n0 ≤ a ∧ a = h1.size := ⟨_, (by omega), rfl⟩
    rw [← eo] at X2 ⊢
    have F1 : Fld Z h2 o own_CC "counts" "[I" .null := eo ▸ D2 (Or.inr (hw _ (List.mem_of_getElem? (i := 11) rfl))) (ty := .array .int) (by decide)
    have F2 : Fld Z h2 o own_CC "missing" "[I" .null := eo ▸ D2 (Or.inl (hw _ (List.mem_of_getElem? (i := 17) rfl))) (ty := .array .int) (by decide)
    have F3 : Fld Z h2 o own_CC "missingCount" "I" (.int 0) := eo ▸ D2 (Or.inl (hw _ (List.mem_of_getElem? (i := 19) rfl))) (ty := .int) (by decide)
    have A2 := A1'.ext E2
    have z2 := E2.1
    refine o_dup (pc := 15) B at_15 rfl ?_
    refine o_iload (pc := 16) B at_16 rfl ?_
    refine o_callN1 (pc := 18) B 1 at_18 rfl (hw _ (List.mem_of_getElem? (i := 4) rfl)) (hw _ (List.mem_of_getElem? (i := 5) rfl)) (hw _ (List.mem_of_getElem? (i := 3) rfl)) (hw _ (List.mem_of_getElem? (i := 6) rfl)) (by decide) pd1 rfl (by first | exact Nat.zero_le _ | exact Nat.le_of_ble_eq_true rfl | simp [Value.category]) (by decide) (by decide) (by decide) (by decide) rfl (oc1_4 l Z a0 hw n0 _ o .null .null (.int 0) go (by omega) X2 F1 F2 F3) ?_
    rintro v h3 ⟨rfl, ac, am, O3, K3, gc, gm⟩
    have q1 := o_lt A2.lt
    have q2 := o_lt X2.lt
    have q3 := o_lt A1'.lt
    have gc' := o_le gc
    have gm' := o_le gm
    have z3 := K3.1
    exact own_tail l Z a0 hw n0 _ κ B _ _ _ _ _ o ac am ae 4 _ _ (by decide) (by decide) ge (o_ne (by omega)) (o_ne (by omega)) (o_ne (by omega)) (by omega) O3 (own_J_init (by decide) rfl rfl (fun i hi => by
      have h4 : i = 0 ∨ i = 1 ∨ i = 2 ∨ i = 3 := by omega
      rcases h4 with rfl | rfl | rfl | rfl <;> first | exact ⟨rfl, rfl⟩ | omega)) (A2.keep K3 (ninS (o_ne (by omega)) nin0))
set_option maxRecDepth 65536 in
set_option maxHeartbeats 40000000 in
theorem comes_1 {Post : Tables → Env → Array Value → State → Outcome → State → Prop} (hpost : ∀ tb e args s v u, (limb_1_1.after args s (.returned v) u = true ∧ limb_1_2.after args s (.returned v) u = true ∧ True) → FrameEnd s (.returned v) u (Jvm.fieldLocs frame_1_writes args s ++ Jvm.arrayLocs frame_1_arrays args s ++ Jvm.staticLocs frame_1_statics s) 32 192 → Post tb e args s (.returned v) u) :
    ArmFor flags0 classFile x code maxLocals ret World_1 tables_1 room_1 Calls_1 rest_1 Pre_1 Post := by
  intro l hfl _ _ p e ha hc hk s m args below hf hA hF happ hP
  obtain ⟨hcalls, hrest, hpre⟩ := hP
  obtain ⟨-, -, -, hnamed, -, -, -, hat⟩ := (Spec.applies_iff hf).mp happ
  obtain ⟨hg, hn⟩ := and_e (Cond.before_iff.mp (show (Jvm.Cond.and given_1 narrow_1).before args s = true from hpre))
  obtain ⟨hcnt, g0⟩ := and_e hg
  obtain ⟨q0, g1⟩ := and_e g0
  obtain ⟨q1, g2⟩ := and_e g1
  obtain ⟨q2, g3⟩ := and_e g2
  obtain ⟨q3, g4⟩ := and_e g3
  obtain ⟨w0, w1, w2, w3, w4, rfl⟩ : ∃ w0 w1 w2 w3 w4 : Value, args = #[w0, w1, w2, w3, w4] := by
    have hs : args.size = 5 := by simpa [Cond.value, given_1] using hcnt
    obtain ⟨L⟩ := args
    match L, hs with
    | [w0, w1, w2, w3, w4], _ => exact ⟨w0, w1, w2, w3, w4, rfl⟩
  have hw := fun d (hd : d ∈ tables_1) => atoms_spec (ws := Jvm.Cond.code x code maxLocals ret :: tables_1) hat d (List.mem_cons_of_mem _ hd)
  obtain ⟨i0, e0⟩ := is_v q0
  obtain rfl : w0 = (.int i0) := Option.some.inj e0
  obtain ⟨i1, e1⟩ := is_v q1
  obtain rfl : w1 = (.int i1) := Option.some.inj e1
  obtain ⟨i2, e2⟩ := is_v q2
  obtain rfl : w2 = (.int i2) := Option.some.inj e2
  obtain ⟨i3, e3⟩ := is_v q3
  obtain rfl : w3 = (.int i3) := Option.some.inj e3
  obtain ⟨i4, e4⟩ := is_v g4
  obtain rfl : w4 = (.int i4) := Option.some.inj e4
  obtain ⟨n, o, h1, h2, h3, _, L, rfl, ⟨rfl, N⟩, hq⟩ := (oc0 l s _ hw s.heap.size s.heap i0 i1 i2 i3 i4 (Nat.le_refl _)) tables_1 p e ha hc hk s m _ below hf ((Spec.applies_iff_loose hf).mp happ).1 ⟨rfl, State.Warmed39.refl s, rfl⟩ trivial
  refine ⟨n, _, h1, h2, h3, hpost _ _ _ _ _ _ ⟨Cond.after_iff.mpr rfl, Cond.after_iff.mpr (eq_i res_at (Term.int_eval (1)) rfl), trivial⟩ ⟨hq.1, hq.2.1, (hq.2.2.sift fun y hy => Or.inr (N y hy)).mono (by decide) (by decide)⟩⟩
theorem main_1_1 : Claimed_1_1 := comes_1 fun _ _ _ _ _ _ h hF => ⟨h.1, hF⟩
theorem main_1_2 : Claimed_1_2 := comes_1 fun _ _ _ _ _ _ h hF => ⟨h.2.1, hF⟩
end Jvm.Pilot.@@N@@
namespace Jvm.Pilot.@@N@@
open Jvm Jvm.ClassFile Sem Op Lib Jvm.Free Jvm.Stand Jvm.Pilot.@@N@@.Jvm.D
/-! MADE BY PROGRAM (witnessworld.py) out of the Statement's table words and the real class files: 12 classes; the members and pool entries that the words name. The judged class is class 1, her method 1. -/
namespace start1
open Jvm.ClassFile
def u (s : String) : CpInfo := .utf8 (stringToUtf16 s)
/-- a pool by its gaps: so many unusable entries, then the entry; so many at the end -/
def gap : Nat → List CpInfo → List CpInfo
  | 0, r => r
  | n + 1, r => .unusable :: gap n r
def poolList (es : List (Nat × CpInfo)) (last : Nat) : List CpInfo := es.foldr (fun e r => gap e.1 (e.2 :: r)) (gap last [])
def pool (es : List (Nat × CpInfo)) (last : Nat) : Array CpInfo := ⟨poolList es last⟩
def fileOf (pool : Array CpInfo) (this : Nat) (attrs : Array Attribute := #[]) (ms : Array MethodInfo := #[]) (fl : Nat := 33) (sup : Nat := 0) (ifs : Array Nat := #[]) (fds : Array FieldInfo := #[]) : ClassFile where
  minorVersion := 0
  majorVersion := 65
  constantPool := pool
  accessFlags := fl
  thisClass := this
  superClass := sup
  interfaces := ifs
  fields := fds
  methods := ms
  attributes := attrs
def plain (name : String) (sup : Option ClassId) : Class where
  name := name
  kind := .ordinary
  loader := none
  accessFlags := 33
  super := sup
  interfaces := #[]
  cf := none
  fields := #[]
  methods := #[]
  instanceTypes := #[]
  staticTypes := #[]
  resolved := #[]
  callSites := []
  init := .initialized
  statics := none
  mirror := none

def pool0 : Array CpInfo := pool [(5, u "<init>"), (0, u "()V"), (1, .class_ 10), (1, u "java/lang/Object")] 113

def k0c0 : Code := { maxStack := 0, maxLocals := 1, code := object_method_1_code, exceptionTable := #[], attributes := #[] }
def k0m0 : Method := { name := "<init>", desc := "()V", sig := { parameters := [], returnType := none }, accessFlags := 1, code := some k0c0 }
/-- java/lang/Object -/
def k0 : Class := { plain "java/lang/Object" none with
  accessFlags := 33
  interfaces := #[]
  cf := some (fileOf pool0 8 #[] #[{ accessFlags := 1, nameIndex := 5, descriptorIndex := 6, attributes := #[] }] 33 0 #[] #[])
  fields := #[]
  methods := #[k0m0]
  instanceTypes := #[]
  staticTypes := #[]
  resolved := Array.replicate 124 none
  statics := none }

def pool1 : Array CpInfo := pool [(2, .class_ 4), (1, u "java/lang/Object"), (0, u "<init>"), (0, u "()V"), (0, .class_ 8), (0, u "com/example/tuplewise/tuplewise/engine/CoverCounts"), (0, .methodref 7 10), (0, .nameAndType 5 11), (0, u "(I)V"), (0, .methodref 13 14), (0, .class_ 15), (0, .nameAndType 16 17), (0, u "com/example/tuplewise/tuplewise/engine/CoverCountsAddPinLaw"), (0, u "check"), (0, u "(Lcom/example/tuplewise/tuplewise/engine/CoverCounts;I[I)Z"), (0, .integer 2147483647), (0, .methodref 13 20), (0, .nameAndType 21 22), (0, u "step"), (0, u "(Lcom/example/tuplewise/tuplewise/engine/CoverCounts;I[II)Z"), (0, .methodref 7 24), (0, .nameAndType 25 11), (0, u "add"), (0, .methodref 13 27), (0, .nameAndType 28 29), (0, u "countAt"), (0, u "(Lcom/example/tuplewise/tuplewise/engine/CoverCounts;II[I)Z"), (0, .methodref 7 31), (0, .nameAndType 32 33), (0, u "missing"), (0, u "()I"), (0, .methodref 13 35), (0, .nameAndType 36 37), (0, u "placeOk"), (0, u "(Lcom/example/tuplewise/tuplewise/engine/CoverCounts;III[I[Z)Z"), (0, .methodref 7 39), (0, .nameAndType 40 41), (0, u "count"), (0, u "(I)I"), (0, .methodref 7 43), (0, .nameAndType 32 41), (2, u "law"), (0, u "(IIIII)Z")] 7

def k1m0 : Method := { name := "<init>", desc := "()V", sig := { parameters := [], returnType := none }, accessFlags := 1, code := none }
def k1c1 : Code := { maxStack := 5, maxLocals := 9, code := code, exceptionTable := #[], attributes := #[] }
def k1m1 : Method := { name := "law", desc := "(IIIII)Z", sig := { parameters := [.int, .int, .int, .int, .int], returnType := some .boolean }, accessFlags := 9, code := some k1c1 }
def k1c2 : Code := { maxStack := 4, maxLocals := 4, code := method_3_code, exceptionTable := #[], attributes := #[] }
def k1m2 : Method := { name := "step", desc := "(Lcom/example/tuplewise/tuplewise/engine/CoverCounts;I[II)Z", sig := { parameters := [(.object "com/example/tuplewise/tuplewise/engine/CoverCounts"), .int, (.array .int), .int], returnType := some .boolean }, accessFlags := 10, code := some k1c2 }
def k1c3 : Code := { maxStack := 6, maxLocals := 7, code := method_4_code, exceptionTable := #[], attributes := #[] }
def k1m3 : Method := { name := "check", desc := "(Lcom/example/tuplewise/tuplewise/engine/CoverCounts;I[I)Z", sig := { parameters := [(.object "com/example/tuplewise/tuplewise/engine/CoverCounts"), .int, (.array .int)], returnType := some .boolean }, accessFlags := 10, code := some k1c3 }
def k1c4 : Code := { maxStack := 3, maxLocals := 4, code := method_5_code, exceptionTable := #[], attributes := #[] }
def k1m4 : Method := { name := "countAt", desc := "(Lcom/example/tuplewise/tuplewise/engine/CoverCounts;II[I)Z", sig := { parameters := [(.object "com/example/tuplewise/tuplewise/engine/CoverCounts"), .int, .int, (.array .int)], returnType := some .boolean }, accessFlags := 10, code := some k1c4 }
def k1c5 : Code := { maxStack := 3, maxLocals := 7, code := method_6_code, exceptionTable := #[], attributes := #[] }
def k1m5 : Method := { name := "placeOk", desc := "(Lcom/example/tuplewise/tuplewise/engine/CoverCounts;III[I[Z)Z", sig := { parameters := [(.object "com/example/tuplewise/tuplewise/engine/CoverCounts"), .int, .int, .int, (.array .int), (.array .boolean)], returnType := some .boolean }, accessFlags := 10, code := some k1c5 }
/-- com/example/tuplewise/tuplewise/engine/CoverCountsAddPinLaw -/
def k1 : Class := { plain "com/example/tuplewise/tuplewise/engine/CoverCountsAddPinLaw" (some 0) with
  accessFlags := 49
  interfaces := #[]
  cf := some (fileOf pool1 13 #[] #[{ accessFlags := 1, nameIndex := 5, descriptorIndex := 6, attributes := #[] }, { accessFlags := 9, nameIndex := 46, descriptorIndex := 47, attributes := #[] }, { accessFlags := 10, nameIndex := 21, descriptorIndex := 22, attributes := #[] }, { accessFlags := 10, nameIndex := 16, descriptorIndex := 17, attributes := #[] }, { accessFlags := 10, nameIndex := 28, descriptorIndex := 29, attributes := #[] }, { accessFlags := 10, nameIndex := 36, descriptorIndex := 37, attributes := #[] }] 49 2 #[] #[])
  fields := #[]
  methods := #[k1m0, k1m1, k1m2, k1m3, k1m4, k1m5]
  instanceTypes := #[]
  staticTypes := #[]
  resolved := Array.replicate 55 none
  statics := none }

def pool2 : Array CpInfo := pool [(3, .methodref 4 5), (0, .class_ 6), (0, .nameAndType 7 8), (0, u "java/lang/Object"), (0, u "<init>"), (0, u "()V"), (4, u "count"), (1, .fieldref 16 17), (0, .class_ 18), (0, .nameAndType 19 20), (0, u "com/example/tuplewise/tuplewise/engine/CoverCounts"), (0, u "counts"), (0, u "[I"), (0, .fieldref 16 22), (0, .nameAndType 23 20), (0, u "missing"), (5, .methodref 30 31), (0, .class_ 32), (0, .nameAndType 33 34), (0, u "java/lang/Math"), (0, u "max"), (0, u "(II)I"), (0, .fieldref 16 36), (0, .nameAndType 37 38), (0, u "missingCount"), (0, u "I"), (17, u "()I"), (35, u "(I)V"), (6, u "EXCLUDED"), (7, u "(I)I"), (0, u "add")] 5

def k2c0 : Code := { maxStack := 3, maxLocals := 3, code := prog_14_method_2_code, exceptionTable := #[], attributes := #[] }
def k2m0 : Method := { name := "<init>", desc := "(I)V", sig := { parameters := [.int], returnType := none }, accessFlags := 0, code := some k2c0 }
def k2c1 : Code := { maxStack := 2, maxLocals := 2, code := prog_14_method_5_code, exceptionTable := #[], attributes := #[] }
def k2m1 : Method := { name := "count", desc := "(I)I", sig := { parameters := [.int], returnType := some .int }, accessFlags := 0, code := some k2c1 }
def k2c2 : Code := { maxStack := 1, maxLocals := 1, code := prog_14_method_6_code, exceptionTable := #[], attributes := #[] }
def k2m2 : Method := { name := "missing", desc := "()I", sig := { parameters := [], returnType := some .int }, accessFlags := 0, code := some k2c2 }
def k2c3 : Code := { maxStack := 2, maxLocals := 2, code := prog_14_method_7_code, exceptionTable := #[], attributes := #[] }
def k2m3 : Method := { name := "missing", desc := "(I)I", sig := { parameters := [.int], returnType := some .int }, accessFlags := 0, code := some k2c3 }
def k2c4 : Code := { maxStack := 4, maxLocals := 4, code := prog_14_method_8_code, exceptionTable := #[], attributes := #[] }
def k2m4 : Method := { name := "add", desc := "(I)V", sig := { parameters := [.int], returnType := none }, accessFlags := 0, code := some k2c4 }
/-- com/example/tuplewise/tuplewise/engine/CoverCounts -/
def k2 : Class := { plain "com/example/tuplewise/tuplewise/engine/CoverCounts" (some 0) with
  accessFlags := 48
  interfaces := #[]
  cf := some (fileOf pool2 16 #[] #[{ accessFlags := 0, nameIndex := 7, descriptorIndex := 92, attributes := #[] }, { accessFlags := 0, nameIndex := 13, descriptorIndex := 107, attributes := #[] }, { accessFlags := 0, nameIndex := 23, descriptorIndex := 56, attributes := #[] }, { accessFlags := 0, nameIndex := 23, descriptorIndex := 107, attributes := #[] }, { accessFlags := 0, nameIndex := 108, descriptorIndex := 92, attributes := #[] }] 48 4 #[] #[{ accessFlags := 26, nameIndex := 99, descriptorIndex := 38, attributes := #[] }, { accessFlags := 18, nameIndex := 19, descriptorIndex := 20, attributes := #[] }, { accessFlags := 2, nameIndex := 23, descriptorIndex := 20, attributes := #[] }, { accessFlags := 2, nameIndex := 37, descriptorIndex := 38, attributes := #[] }])
  fields := #[{ name := "EXCLUDED", type := .int, accessFlags := 26, slot := 0, constantValue := 0 }, { name := "counts", type := (.array .int), accessFlags := 18, slot := 0, constantValue := 0 }, { name := "missing", type := (.array .int), accessFlags := 2, slot := 1, constantValue := 0 }, { name := "missingCount", type := .int, accessFlags := 2, slot := 2, constantValue := 0 }]
  methods := #[k2m0, k2m1, k2m2, k2m3, k2m4]
  instanceTypes := #[(.array .int), (.array .int), .int]
  staticTypes := #[.int]
  resolved := Array.replicate 114 none
  statics := none }

def pool3 : Array CpInfo := pool [(1, .class_ 2), (0, u "java/lang/Math"), (1, .class_ 6), (1, u "java/lang/Object"), (0, u "<init>"), (0, u "()V"), (89, .class_ 100), (1, u "java/lang/Math$RandomNumberGeneratorHolder"), (71, u "negativeZeroFloatBits"), (0, u "J"), (2, u "negativeZeroDoubleBits"), (21, u "max"), (46, u "$assertionsDisabled"), (0, u "Z"), (88, u "(II)I"), (2, u "twoToTheDoubleScaleDown"), (0, u "D"), (4, u "twoToTheDoubleScaleUp"), (9, u "E"), (3, u "PI"), (2, u "TAU"), (2, u "DEGREES_TO_RADIANS"), (0, u "RADIANS_TO_DEGREES")] 94

def k3m0 : Method := { name := "<init>", desc := "()V", sig := { parameters := [], returnType := none }, accessFlags := 2, code := none }
def k3c1 : Code := { maxStack := 2, maxLocals := 2, code := jdk_29_method_65_code, exceptionTable := #[], attributes := #[] }
def k3m1 : Method := { name := "max", desc := "(II)I", sig := { parameters := [.int, .int], returnType := some .int }, accessFlags := 9, code := some k3c1 }
/-- java/lang/Math -/
def k3 : Class := { plain "java/lang/Math" (some 0) with
  accessFlags := 49
  interfaces := #[]
  cf := some (fileOf pool3 1 #[.nestMembers #[98]] #[{ accessFlags := 2, nameIndex := 7, descriptorIndex := 8, attributes := #[] }, { accessFlags := 9, nameIndex := 198, descriptorIndex := 335, attributes := #[] }] 49 4 #[] #[{ accessFlags := 25, nameIndex := 354, descriptorIndex := 339, attributes := #[] }, { accessFlags := 25, nameIndex := 358, descriptorIndex := 339, attributes := #[] }, { accessFlags := 25, nameIndex := 361, descriptorIndex := 339, attributes := #[] }, { accessFlags := 26, nameIndex := 364, descriptorIndex := 339, attributes := #[] }, { accessFlags := 26, nameIndex := 365, descriptorIndex := 339, attributes := #[] }, { accessFlags := 26, nameIndex := 172, descriptorIndex := 173, attributes := #[] }, { accessFlags := 26, nameIndex := 176, descriptorIndex := 173, attributes := #[] }, { accessFlags := 8, nameIndex := 344, descriptorIndex := 339, attributes := #[] }, { accessFlags := 8, nameIndex := 338, descriptorIndex := 339, attributes := #[] }, { accessFlags := 4120, nameIndex := 245, descriptorIndex := 246, attributes := #[] }])
  fields := #[{ name := "E", type := .double, accessFlags := 25, slot := 0, constantValue := 0 }, { name := "PI", type := .double, accessFlags := 25, slot := 1, constantValue := 0 }, { name := "TAU", type := .double, accessFlags := 25, slot := 2, constantValue := 0 }, { name := "DEGREES_TO_RADIANS", type := .double, accessFlags := 26, slot := 3, constantValue := 0 }, { name := "RADIANS_TO_DEGREES", type := .double, accessFlags := 26, slot := 4, constantValue := 0 }, { name := "negativeZeroFloatBits", type := .long, accessFlags := 26, slot := 5, constantValue := 0 }, { name := "negativeZeroDoubleBits", type := .long, accessFlags := 26, slot := 6, constantValue := 0 }, { name := "twoToTheDoubleScaleUp", type := .double, accessFlags := 8, slot := 7, constantValue := 0 }, { name := "twoToTheDoubleScaleDown", type := .double, accessFlags := 8, slot := 8, constantValue := 0 }, { name := "$assertionsDisabled", type := .boolean, accessFlags := 4120, slot := 9, constantValue := 0 }]
  methods := #[k3m0, k3m1]
  instanceTypes := #[]
  staticTypes := #[.double, .double, .double, .double, .double, .long, .long, .double, .double, .boolean]
  resolved := Array.replicate 460 none
  statics := none }

def pool4 : Array CpInfo := pool [(1, u "java/lang/Cloneable"), (0, .class_ 1), (0, u "java/lang/Object"), (0, .class_ 3)] 3

/-- java/lang/Cloneable -/
def k4 : Class := { plain "java/lang/Cloneable" (some 0) with
  accessFlags := 1537
  interfaces := #[]
  cf := some (fileOf pool4 2 #[] #[] 1537 4 #[] #[])
  fields := #[]
  methods := #[]
  instanceTypes := #[]
  staticTypes := #[]
  resolved := Array.replicate 8 none
  statics := none }

def pool5 : Array CpInfo := pool [(1, u "java/io/Serializable"), (0, .class_ 1), (0, u "java/lang/Object"), (0, .class_ 3)] 3

/-- java/io/Serializable -/
def k5 : Class := { plain "java/io/Serializable" (some 0) with
  accessFlags := 1537
  interfaces := #[]
  cf := some (fileOf pool5 2 #[] #[] 1537 4 #[] #[])
  fields := #[]
  methods := #[]
  instanceTypes := #[]
  staticTypes := #[]
  resolved := Array.replicate 8 none
  statics := none }

/-- the primitive boolean -/
def k6 : Class := { plain "boolean" none with kind := .primitive 'Z', accessFlags := 0x411 }
/-- [Z -/
def k7 : Class := { plain "[Z" (some 0) with kind := .array 6 .boolean, interfaces := #[4, 5], accessFlags := 1041 }

/-- the primitive byte -/
def k8 : Class := { plain "byte" none with kind := .primitive 'B', accessFlags := 0x411 }
/-- [B -/
def k9 : Class := { plain "[B" (some 0) with kind := .array 8 .byte, interfaces := #[4, 5], accessFlags := 1041 }

/-- the primitive int -/
def k10 : Class := { plain "int" none with kind := .primitive 'I', accessFlags := 0x411 }
/-- [I -/
def k11 : Class := { plain "[I" (some 0) with kind := .array 10 .int, interfaces := #[4, 5], accessFlags := 1041 }

def heap : Heap := #[]
def classes : Array Class := #[k0, k1, k2, k3, k4, k5, k6, k7, k8, k9, k10, k11]
def interned : List (Array UInt16 × Addr) := []
def slotsUsed : Nat := 0
def theMethod : MethodId := ⟨1, 1⟩
def args0 : Array Value := #[.int 5, .int 7, .int 3, .int 9, .int 2]
def aboutOver (below : List Frame) : State where
  vm := { classes := classes, interned := interned.toArray }
  heap := heap
  slotsUsed := slotsUsed
  threads := #[{ frames := .invoking theMethod args0 :: below }]
def below0 : List Frame := [.native { method := ⟨0, 0⟩, args := #[] }]
def about1 : State := aboutOver below0
def p0 : Program := .bare "" "" ""
def e0 : Env := launch0.env 0 0 0
theorem w_frames : about1.frames = Frame.invoking theMethod args0 :: below0 := rfl
set_option maxRecDepth 65536 in
theorem w_args : argsFit about1.vm theMethod args0 = true := by decide +kernel
set_option maxRecDepth 65536 in
theorem w_heap : heapFits about1 = true := by decide +kernel
set_option maxRecDepth 65536 in
theorem w_runnable : about1.curStatus? = some .runnable := by decide +kernel
set_option maxRecDepth 65536 in
theorem w_alone : about1.alone = true := by decide +kernel
set_option maxRecDepth 65536 in
theorem w_named : about1.methodNamed? x = some theMethod := by decide +kernel
set_option maxRecDepth 65536 in
theorem w_hears : about1.hears theMethod below0 = true := by decide +kernel
set_option maxRecDepth 65536 in
theorem w_ripe : about1.ripe theMethod args0 below0 = true := by decide +kernel
theorem w_running : about1.status = .running := rfl
set_option maxRecDepth 65536 in
theorem w_room : about1.hasRoom e0.platform room_1 = true :=
  launch0.hasRoom_least _ room_1 (by decide +kernel) (by decide +kernel) (by decide +kernel) (by decide +kernel) (by decide +kernel) (by decide +kernel)
theorem allAtoms_all (ts : List Jvm.Cond) (a : Array Jvm.Value) (st : Jvm.State) : (allAtoms ts).before a st = ts.all (fun c => c.before a st) := by
  induction ts with
  | nil => rfl
  | cons c t ih =>
    show (Jvm.Cond.and c (allAtoms t)).before a st = _
    rw [Jvm.Cond.before_and, ih, List.all_cons]
def words1 : List Jvm.Cond := Jvm.Cond.code x code maxLocals ret :: tables_1
/-- a 'code' word, met by the world's own term for the bytes: nothing is compared byte by byte -/
theorem code_word {y : MethodName} {bytes : ByteArray} {mx : Nat} {rt : Option FieldType} {a : Array Value} {s : State} {m : MethodId} {meth : Method} {c : Code} (h1 : s.methodNamed? y = some m) (h2 : s.vm.method? m = some meth) (h3 : meth.code = some c) (h4 : c.code = bytes)
    (h5 : (c.maxLocals == mx && c.exceptionTable.isEmpty && decide (c.maxStack ≤ mostOperands) && decide (meth.sig.returnType = rt) && !meth.locks && decide (parseMethodDescriptor y.desc = some meth.sig)) = true) : (Jvm.Cond.code y bytes mx rt).before a s = true := by
  simp only [Bool.and_eq_true, beq_iff_eq, Bool.not_eq_true', decide_eq_true_eq] at h5
  obtain ⟨⟨⟨⟨⟨g1, g2⟩, g3⟩, g4⟩, g5⟩, g6⟩ := h5
  simp [Cond.before, Cond.holds, Cond.value, h1, h2, h3, h4, g1, g2, g3, g4, g5, g6]
def isCode : Jvm.Cond → Bool
  | .code _ _ _ _ => true
  | _ => false
theorem all_split {L : List Jvm.Cond} {P : Jvm.Cond → Bool} (h1 : L.all (fun c => isCode c || P c) = true) (h2 : ∀ c ∈ L.filter isCode, P c = true) : L.all P = true := by
  refine List.all_eq_true.mpr fun c hc => ?_
  have h := List.all_eq_true.mp h1 c hc
  rcases Bool.eq_false_or_eq_true (isCode c) with hi | hi
  · exact h2 c (List.mem_filter.mpr ⟨hc, hi⟩)
  · simpa [hi] using h
set_option maxRecDepth 65536 in
theorem w_c0 : (Jvm.Cond.code x code maxLocals ret).before args0 about1 = true := code_word (m := ⟨1, 1⟩) (meth := k1m1) (c := k1c1) (by decide +kernel) rfl rfl rfl (by decide +kernel)
set_option maxRecDepth 65536 in
theorem w_c1 : (Jvm.Cond.code ({ cls := "com/example/tuplewise/tuplewise/engine/CoverCounts", name := "<init>", desc := "(I)V" } : Jvm.MethodName) prog_14_method_2_code (3 : Nat) (Option.none : Option Jvm.ClassFile.FieldType)).before args0 about1 = true := code_word (m := ⟨2, 0⟩) (meth := k2m0) (c := k2c0) (by decide +kernel) rfl rfl rfl (by decide +kernel)
set_option maxRecDepth 65536 in
theorem w_c2 : (Jvm.Cond.code ({ cls := "java/lang/Object", name := "<init>", desc := "()V" } : Jvm.MethodName) object_method_1_code (1 : Nat) (Option.none : Option Jvm.ClassFile.FieldType)).before args0 about1 = true := code_word (m := ⟨0, 0⟩) (meth := k0m0) (c := k0c0) (by decide +kernel) rfl rfl rfl (by decide +kernel)
set_option maxRecDepth 65536 in
theorem w_c3 : (Jvm.Cond.code ({ cls := "java/lang/Math", name := "max", desc := "(II)I" } : Jvm.MethodName) jdk_29_method_65_code (2 : Nat) (Option.some Jvm.ClassFile.FieldType.int)).before args0 about1 = true := code_word (m := ⟨3, 1⟩) (meth := k3m1) (c := k3c1) (by decide +kernel) rfl rfl rfl (by decide +kernel)
set_option maxRecDepth 65536 in
theorem w_c4 : (Jvm.Cond.code ({ cls := "com/example/tuplewise/tuplewise/engine/CoverCountsAddPinLaw", name := "check", desc := "(Lcom/example/tuplewise/tuplewise/engine/CoverCounts;I[I)Z" } : Jvm.MethodName) method_4_code (7 : Nat) (Option.some Jvm.ClassFile.FieldType.boolean)).before args0 about1 = true := code_word (m := ⟨1, 3⟩) (meth := k1m3) (c := k1c3) (by decide +kernel) rfl rfl rfl (by decide +kernel)
set_option maxRecDepth 65536 in
theorem w_c5 : (Jvm.Cond.code ({ cls := "com/example/tuplewise/tuplewise/engine/CoverCountsAddPinLaw", name := "countAt", desc := "(Lcom/example/tuplewise/tuplewise/engine/CoverCounts;II[I)Z" } : Jvm.MethodName) method_5_code (4 : Nat) (Option.some Jvm.ClassFile.FieldType.boolean)).before args0 about1 = true := code_word (m := ⟨1, 4⟩) (meth := k1m4) (c := k1c4) (by decide +kernel) rfl rfl rfl (by decide +kernel)
set_option maxRecDepth 65536 in
theorem w_c6 : (Jvm.Cond.code ({ cls := "com/example/tuplewise/tuplewise/engine/CoverCounts", name := "count", desc := "(I)I" } : Jvm.MethodName) prog_14_method_5_code (2 : Nat) (Option.some Jvm.ClassFile.FieldType.int)).before args0 about1 = true := code_word (m := ⟨2, 1⟩) (meth := k2m1) (c := k2c1) (by decide +kernel) rfl rfl rfl (by decide +kernel)
set_option maxRecDepth 65536 in
theorem w_c7 : (Jvm.Cond.code ({ cls := "com/example/tuplewise/tuplewise/engine/CoverCounts", name := "missing", desc := "()I" } : Jvm.MethodName) prog_14_method_6_code (1 : Nat) (Option.some Jvm.ClassFile.FieldType.int)).before args0 about1 = true := code_word (m := ⟨2, 2⟩) (meth := k2m2) (c := k2c2) (by decide +kernel) rfl rfl rfl (by decide +kernel)
set_option maxRecDepth 65536 in
theorem w_c8 : (Jvm.Cond.code ({ cls := "com/example/tuplewise/tuplewise/engine/CoverCountsAddPinLaw", name := "placeOk", desc := "(Lcom/example/tuplewise/tuplewise/engine/CoverCounts;III[I[Z)Z" } : Jvm.MethodName) method_6_code (7 : Nat) (Option.some Jvm.ClassFile.FieldType.boolean)).before args0 about1 = true := code_word (m := ⟨1, 5⟩) (meth := k1m5) (c := k1c5) (by decide +kernel) rfl rfl rfl (by decide +kernel)
set_option maxRecDepth 65536 in
theorem w_c9 : (Jvm.Cond.code ({ cls := "com/example/tuplewise/tuplewise/engine/CoverCounts", name := "missing", desc := "(I)I" } : Jvm.MethodName) prog_14_method_7_code (2 : Nat) (Option.some Jvm.ClassFile.FieldType.int)).before args0 about1 = true := code_word (m := ⟨2, 3⟩) (meth := k2m3) (c := k2c3) (by decide +kernel) rfl rfl rfl (by decide +kernel)
set_option maxRecDepth 65536 in
theorem w_c10 : (Jvm.Cond.code ({ cls := "com/example/tuplewise/tuplewise/engine/CoverCountsAddPinLaw", name := "step", desc := "(Lcom/example/tuplewise/tuplewise/engine/CoverCounts;I[II)Z" } : Jvm.MethodName) method_3_code (4 : Nat) (Option.some Jvm.ClassFile.FieldType.boolean)).before args0 about1 = true := code_word (m := ⟨1, 2⟩) (meth := k1m2) (c := k1c2) (by decide +kernel) rfl rfl rfl (by decide +kernel)
set_option maxRecDepth 65536 in
theorem w_c11 : (Jvm.Cond.code ({ cls := "com/example/tuplewise/tuplewise/engine/CoverCounts", name := "add", desc := "(I)V" } : Jvm.MethodName) prog_14_method_8_code (4 : Nat) (Option.none : Option Jvm.ClassFile.FieldType)).before args0 about1 = true := code_word (m := ⟨2, 4⟩) (meth := k2m4) (c := k2c4) (by decide +kernel) rfl rfl rfl (by decide +kernel)
def codes1 : List Jvm.Cond := [Jvm.Cond.code x code maxLocals ret, Jvm.Cond.code ({ cls := "com/example/tuplewise/tuplewise/engine/CoverCounts", name := "<init>", desc := "(I)V" } : Jvm.MethodName) prog_14_method_2_code (3 : Nat) (Option.none : Option Jvm.ClassFile.FieldType), Jvm.Cond.code ({ cls := "java/lang/Object", name := "<init>", desc := "()V" } : Jvm.MethodName) object_method_1_code (1 : Nat) (Option.none : Option Jvm.ClassFile.FieldType), Jvm.Cond.code ({ cls := "java/lang/Math", name := "max", desc := "(II)I" } : Jvm.MethodName) jdk_29_method_65_code (2 : Nat) (Option.some Jvm.ClassFile.FieldType.int), Jvm.Cond.code ({ cls := "com/example/tuplewise/tuplewise/engine/CoverCountsAddPinLaw", name := "check", desc := "(Lcom/example/tuplewise/tuplewise/engine/CoverCounts;I[I)Z" } : Jvm.MethodName) method_4_code (7 : Nat) (Option.some Jvm.ClassFile.FieldType.boolean), Jvm.Cond.code ({ cls := "com/example/tuplewise/tuplewise/engine/CoverCountsAddPinLaw", name := "countAt", desc := "(Lcom/example/tuplewise/tuplewise/engine/CoverCounts;II[I)Z" } : Jvm.MethodName) method_5_code (4 : Nat) (Option.some Jvm.ClassFile.FieldType.boolean), Jvm.Cond.code ({ cls := "com/example/tuplewise/tuplewise/engine/CoverCounts", name := "count", desc := "(I)I" } : Jvm.MethodName) prog_14_method_5_code (2 : Nat) (Option.some Jvm.ClassFile.FieldType.int), Jvm.Cond.code ({ cls := "com/example/tuplewise/tuplewise/engine/CoverCounts", name := "missing", desc := "()I" } : Jvm.MethodName) prog_14_method_6_code (1 : Nat) (Option.some Jvm.ClassFile.FieldType.int), Jvm.Cond.code ({ cls := "com/example/tuplewise/tuplewise/engine/CoverCountsAddPinLaw", name := "placeOk", desc := "(Lcom/example/tuplewise/tuplewise/engine/CoverCounts;III[I[Z)Z" } : Jvm.MethodName) method_6_code (7 : Nat) (Option.some Jvm.ClassFile.FieldType.boolean), Jvm.Cond.code ({ cls := "com/example/tuplewise/tuplewise/engine/CoverCounts", name := "missing", desc := "(I)I" } : Jvm.MethodName) prog_14_method_7_code (2 : Nat) (Option.some Jvm.ClassFile.FieldType.int), Jvm.Cond.code ({ cls := "com/example/tuplewise/tuplewise/engine/CoverCountsAddPinLaw", name := "step", desc := "(Lcom/example/tuplewise/tuplewise/engine/CoverCounts;I[II)Z" } : Jvm.MethodName) method_3_code (4 : Nat) (Option.some Jvm.ClassFile.FieldType.boolean), Jvm.Cond.code ({ cls := "com/example/tuplewise/tuplewise/engine/CoverCounts", name := "add", desc := "(I)V" } : Jvm.MethodName) prog_14_method_8_code (4 : Nat) (Option.none : Option Jvm.ClassFile.FieldType)]
set_option maxRecDepth 65536 in
theorem codes_eq : words1.filter isCode = codes1 := rfl
theorem w_codes : ∀ c ∈ words1.filter isCode, c.before args0 about1 = true := by
  rw [codes_eq]
  intro c hc
  simp only [codes1, List.mem_cons, List.not_mem_nil, or_false] at hc
  rcases hc with rfl | rfl | rfl | rfl | rfl | rfl | rfl | rfl | rfl | rfl | rfl | rfl
  · exact w_c0
  · exact w_c1
  · exact w_c2
  · exact w_c3
  · exact w_c4
  · exact w_c5
  · exact w_c6
  · exact w_c7
  · exact w_c8
  · exact w_c9
  · exact w_c10
  · exact w_c11
set_option maxRecDepth 65536 in
theorem w_t1 : (words1.take 24).all (fun c => isCode c || c.before args0 about1) = true := by decide +kernel
set_option maxRecDepth 65536 in
theorem w_t2 : ((words1.drop 24).take 24).all (fun c => isCode c || c.before args0 about1) = true := by decide +kernel
set_option maxRecDepth 65536 in
theorem w_t3 : ((words1.drop 24).drop 24).all (fun c => isCode c || c.before args0 about1) = true := by decide +kernel
theorem w_tables : (allAtoms (Jvm.Cond.code x code maxLocals ret :: tables_1)).before args0 about1 = true := by
  rw [allAtoms_all]
  show words1.all (fun c => c.before args0 about1) = true
  refine all_split ?_ w_codes
  rw [← List.take_append_drop 24 words1, List.all_append, w_t1, ← List.take_append_drop 24 (words1.drop 24), List.all_append, w_t2, w_t3]
  rfl
set_option maxRecDepth 65536 in
theorem w_case : (Jvm.Cond.and given_1 narrow_1).before args0 about1 = true := by decide +kernel
theorem w_applies : (headSpec (Jvm.Cond.code x code maxLocals ret :: tables_1) room_1).applies x e0.platform about1 = true :=
  (Spec.applies_iff w_frames).mpr ⟨w_running, w_runnable, w_alone, w_named, w_hears, w_ripe, w_room, w_tables⟩
theorem atStart : AtStart classFile x code maxLocals ret World_1 tables_1 room_1 Calls_1 rest_1 Pre_1 launch0 p0 e0 about1 theMethod args0 below0 :=
  ⟨lists_1, trivial, launch0.admits_env _ _ _, launch0.least_env, fairChoices_fair.cas, fairChoices_fair.clock, w_frames, w_args, w_heap, w_applies, trivial, trivial, w_case⟩
end start1
theorem witness_1 : WitnessClaimed_1 := ⟨start1.p0, start1.e0, start1.about1, start1.theMethod, start1.args0, start1.below0, start1.atStart⟩
end Jvm.Pilot.@@N@@
