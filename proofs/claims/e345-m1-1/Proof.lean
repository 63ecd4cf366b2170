import JvmDerived
import JvmDerived.Pilot.@@N@@Statement
import JvmDerived.Pilot.@@N@@Code
set_option linter.unusedVariables false
set_option linter.unusedSimpArgs false
namespace Jvm.Pilot.@@N@@
open Jvm Jvm.ClassFile Sem Op Lib Jvm.Free Jvm.Stand Jvm.LawKit Jvm.RoadKit Bundle Jvm.Pilot.@@N@@.Jvm.D
abbrev o_K : Type := Program × Launch × Env × Room × State × MethodId × Array Value × List Frame × Method × Code × State × Nat
/-- from heap h, with k cells and n slots made so far, at pc with locals Ls and stack St, the invocation comes to its end, and Q holds of what it returns and of the heap -/
def o_Go (κ : o_K) (Q : Option Value → Heap → Prop) (h : Heap) (k n pc : Nat) (Ls : List Slot) (St : List Value) : Prop :=
  match κ with
  | (p, l, e, R, s, m, args, below, meth, c, Z, n0) =>
    ∀ (T : State) (locs : List Loc), Stand p l e R s m args below meth c T locs k n → Fr n0 locs → T.heap = h →
      ∃ (s₂ : State) (o : Outcome), Steps p.tables e below (T.setTop (mkF m pc Ls.toArray St)) s₂ ∧ s₂.status = .running ∧ Ended s₂ below o ∧
        ∃ v L, o = .returned v ∧ (Q v s₂.heap ∧ Fr n0 L) ∧ FrameEnd s o s₂ L R.cells R.slots
/-- the standing facts of one invocation of y -/
def o_Bo (κ : o_K) (l : Launch) (Z : State) (n0 : Nat) (R : Room) (y : MethodName) (bytes : ByteArray) (ml : Nat) (ret : Option FieldType) : Prop :=
  ∃ (p : Program) (e : Env) (s : State) (m : MethodId) (args : Array Value) (below : List Frame) (meth : Method) (c : Code), κ = (p, l, e, R, s, m, args, below, meth, c, Z, n0) ∧ p.tables.exec = Jvm.exec ∧ Z.Warmed39 s.vm ∧ c.code = bytes ∧ c.maxLocals = ml ∧ s.vm.findClass y.cls = some m.cls ∧ meth.sig.returnType = ret ∧ meth.locks = false ∧ meth.name = y.name
/-- the contract of y at the arguments 'as' and the heap h -/
def o_C (l : Launch) (Z : State) (n0 : Nat) (y : MethodName) (bytes : ByteArray) (ml : Nat) (ret : Option FieldType) (rm : Room) (as : List Value) (h : Heap) (Q : Option Value → Heap → Prop) : Prop :=
  ∀ ws : List Jvm.Cond, MetFree l y (head1 (Jvm.Cond.code y bytes ml ret :: ws) rm) (fun a U => a = as.toArray ∧ Z.Warmed39 U.vm ∧ U.heap = h) (fun _ _ _ _ _ => True) (fun _ U o U' => ∃ v L, o = .returned v ∧ (Q v U'.heap ∧ Fr n0 L) ∧ FrameEnd U o U' L rm.cells rm.slots)
theorem o_lt {a b : Nat} (h : a < b) : a < b := h
theorem o_le {a b : Nat} (h : a ≤ b) : a ≤ b := h
theorem o_ne {a b : Nat} (h : a ≠ b) : a ≠ b := h
section Fw
variable {κ : o_K} {l : Launch} {Z : State} {n0 : Nat} {R : Room} {y : MethodName} {bytes : ByteArray} {ml : Nat} {ret : Option FieldType} {Q : Option Value → Heap → Prop} {h : Heap} {k n pc : Nat} {Ls : List Slot} {St : List Value} {a0 : Array Value}
theorem o_body {rm : Room} {as : List Value} (hpn : plainFor y = true) (hef : argsToLocals as.toArray ml = Ls.toArray) (H : ∀ κ, o_Bo κ l Z n0 rm y bytes ml ret → o_Go κ Q h 0 0 0 Ls []) : o_C l Z n0 y bytes ml ret rm as h Q := by
  intro ws
  refine MetFree.of_bodySF hpn hisR ?_
  intro p e s m args below meth c s₁ Bd hml0 hP hK
  obtain ⟨rfl, hZ, hh⟩ := hP
  have X0 : Stand p l e rm s m as.toArray below meth c s₁ [] 0 0 := Stand.of_body Bd
  have e0 : s₁.heap = h := by rw [← hh, Bd.state]; rfl
  have hown := findClass_of_methodNamed Bd.named
  have hnm := (name_of_methodNamed Bd.named Bd.method).1
  obtain ⟨s₂, o, st, r1, r2, v, L, rfl, ⟨q, N⟩, fe⟩ := H (p, l, e, rm, s, m, as.toArray, below, meth, c, Z, n0) ⟨p, e, s, m, _, below, meth, c, rfl, Bd.exec, hZ, Bd.bytes, hml0, hown, Bd.returns, Bd.notSynchronized, hnm⟩ s₁ [] X0 (Fr.nil _) e0
  refine ⟨s₂, _, ?_, r1, r2, v, L, rfl, ⟨q, N⟩, fe⟩
  exact castTop (g' := mkF m 0 Ls.toArray []) (by unfold entryFrame; rw [hef]) st
theorem o_C.imp {rm : Room} {as : List Value} {Q' : Option Value → Heap → Prop} (C : o_C l Z n0 y bytes ml ret rm as h Q) (H : ∀ v h', Q v h' → Q' v h') : o_C l Z n0 y bytes ml ret rm as h Q' := by
  intro ws p e ha hc hk s m args below hf happ hP hK
  obtain ⟨n, o, h1, h2, h3, v, L, e1, ⟨q, N⟩, fe⟩ := C ws p e ha hc hk s m args below hf happ hP hK
  exact ⟨n, o, h1, h2, h3, v, L, e1, ⟨H _ _ q, N⟩, fe⟩
theorem o_imp {Q' : Option Value → Heap → Prop} (H : ∀ v h', Q v h' → Q' v h') (G : o_Go κ Q h k n pc Ls St) : o_Go κ Q' h k n pc Ls St := by
  obtain ⟨p, l, e, R, s, m, args, below, meth, c, Z, n0⟩ := κ
  intro T locs X N eT
  obtain ⟨s₂, o, st, r1, r2, v, L, e1, ⟨q, N⟩, fe⟩ := G T locs X N eT
  exact ⟨s₂, o, st, r1, r2, v, L, e1, ⟨H _ _ q, N⟩, fe⟩
theorem o_mono {k' n' : Nat} (hk : k ≤ k') (hn : n ≤ n') (G : o_Go κ Q h k' n' pc Ls St) : o_Go κ Q h k n pc Ls St := by
  obtain ⟨p, l, e, R, s, m, args, below, meth, c, Z, n0⟩ := κ
  intro T locs X N eT
  exact G T locs (X.more hk hn) N eT
theorem o_sim (B : o_Bo κ l Z n0 R y bytes ml ret) {pc' : Nat} {Ls' : List Slot} {St' : List Value} (f : ∀ (p : Program) (e : Env) (m : MethodId) (below : List Frame) (c : Code) (T target : State), At T m c below → p.tables.exec = Jvm.exec → c.code = bytes → Steps p.tables e below (T.setTop (mkF m pc' Ls'.toArray St')) target → Steps p.tables e below (T.setTop (mkF m pc Ls.toArray St)) target) (K : o_Go κ Q h k n pc' Ls' St') : o_Go κ Q h k n pc Ls St := by
  obtain ⟨p, e, s, m, args, below, meth, c, rfl, hx, hZ, hby, hml, hown, hret, hlk, hnm⟩ := B
  intro T locs X N eT
  obtain ⟨s₂, o, st, r⟩ := K T locs X N eT
  exact ⟨s₂, o, f p e m below c T s₂ X.here hx hby st, r⟩
theorem o_get {i : Nat} {x : Slot} (hl : Ls[i]? = some x) : Ls.toArray[i]? = some x := by simpa using hl
def o_ok1 : Slot → Bool
  | .unset => true
  | .val w => w.category == 1
  | .second => false
theorem o_ok1_spec {o : Slot} (ho : o_ok1 o = true) : o = .unset ∨ ∃ w, o = .val w ∧ w.category = 1 := by
  cases o <;> simp [o_ok1] at ho ⊢; exact ho
theorem o_store1 {i : Nat} {o : Slot} {v : Value} (hold : Ls[i]? = some o) (ho : o_ok1 o = true) (hv : v.category = 1) : storeLocals Ls.toArray i v = some (Ls.set i (.val v)).toArray := by
  rw [XS.store1 (o_get hold) (o_ok1_spec ho) hv]; simp
def o_okl : Slot → Slot → Bool
  | .second, _ => false
  | _, .val w => w.category == 1
  | _, _ => true
theorem o_storel {i : Nat} {o o' : Slot} {v : Value} (hold : Ls[i]? = some o) (hold' : Ls[i + 1]? = some o') (ho : o_okl o o' = true) (hv : v.category = 2) : storeLocals Ls.toArray i v = some ((Ls.set i (.val v)).set (i + 1) .second).toArray := by
  obtain ⟨hi, hget⟩ := List.getElem?_eq_some_iff.mp hold
  obtain ⟨hi', hget'⟩ := List.getElem?_eq_some_iff.mp hold'
  have hne : i ≠ i + 1 := by omega
  have hne' : i + 1 ≠ i := by omega
  cases o with
  | second => simp [o_okl] at ho
  | unset =>
    cases o' with
    | val w =>
      have hw : w.category = 1 := by simpa [o_okl] using ho
      simp [storeLocals, storeSelf, setAt, hi, hi', hget, hget', hv, hw, List.getElem?_set, hne, hold, hold']
    | _ => simp [storeLocals, storeSelf, setAt, hi, hi', hget, hget', hv, List.getElem?_set, hne, hold, hold']
  | val u =>
    by_cases hu : u.category = 2
    · cases o' with
      | val w =>
        have hw : w.category = 1 := by simpa [o_okl] using ho
        simp [storeLocals, storeSelf, setAt, hi, hi', hget, hget', hv, hu, hw, List.getElem?_set, hne, hne', hold, hold', List.set_comm _ _ hne', List.set_set]
      | _ => simp [storeLocals, storeSelf, setAt, hi, hi', hget, hget', hv, hu, List.getElem?_set, hne, hne', hold, hold', List.set_comm _ _ hne', List.set_set]
    · cases o' with
      | val w =>
        have hw : w.category = 1 := by simpa [o_okl] using ho
        simp [storeLocals, storeSelf, setAt, hi, hi', hget, hget', hv, hu, hw, List.getElem?_set, hne, hold, hold']
      | _ => simp [storeLocals, storeSelf, setAt, hi, hi', hget, hget', hv, hu, List.getElem?_set, hne, hold, hold']
theorem o_iloadN (B : o_Bo κ l Z n0 R y bytes ml ret) {i : Fin 4} {x : Int32} (hd : decode bytes pc = .ok (.iload_n i, 1)) (hl : Ls[i.val]? = some (.val (.int x))) (K : o_Go κ Q h k n (pc + 1) Ls (.int x :: St)) : o_Go κ Q h k n pc Ls (St) := o_sim B (fun p e m below c T target X hx hby st => XS.iloadN X hx rfl (hb hby hd) (o_get hl) st) K
theorem o_iload (B : o_Bo κ l Z n0 R y bytes ml ret) {i : Nat} {x : Int32} (hd : decode bytes pc = .ok (.iload i, 2)) (hl : Ls[i]? = some (.val (.int x))) (K : o_Go κ Q h k n (pc + 2) Ls (.int x :: St)) : o_Go κ Q h k n pc Ls (St) := o_sim B (fun p e m below c T target X hx hby st => XS.iload X hx rfl (hb hby hd) (o_get hl) st) K
theorem o_lloadN (B : o_Bo κ l Z n0 R y bytes ml ret) {i : Fin 4} {x : Int64} (hd : decode bytes pc = .ok (.lload_n i, 1)) (hl : Ls[i.val]? = some (.val (.long x))) (K : o_Go κ Q h k n (pc + 1) Ls (.long x :: St)) : o_Go κ Q h k n pc Ls (St) := o_sim B (fun p e m below c T target X hx hby st => XT.lloadN X hx rfl (hb hby hd) (o_get hl) st) K
theorem o_lload (B : o_Bo κ l Z n0 R y bytes ml ret) {i : Nat} {x : Int64} (hd : decode bytes pc = .ok (.lload i, 2)) (hl : Ls[i]? = some (.val (.long x))) (K : o_Go κ Q h k n (pc + 2) Ls (.long x :: St)) : o_Go κ Q h k n pc Ls (St) := o_sim B (fun p e m below c T target X hx hby st => XT.lload X hx rfl (hb hby hd) (o_get hl) st) K
theorem o_aloadN (B : o_Bo κ l Z n0 R y bytes ml ret) {i : Fin 4} {v : Value} (hd : decode bytes pc = .ok (.aload_n i, 1)) (hl : Ls[i.val]? = some (.val v)) (hv : v.isRef = true) (K : o_Go κ Q h k n (pc + 1) Ls (v :: St)) : o_Go κ Q h k n pc Ls (St) := o_sim B (fun p e m below c T target X hx hby st => XS.aloadN X hx rfl (hb hby hd) (o_get hl) hv st) K
theorem o_aload (B : o_Bo κ l Z n0 R y bytes ml ret) {i : Nat} {v : Value} (hd : decode bytes pc = .ok (.aload i, 2)) (hl : Ls[i]? = some (.val v)) (hv : v.isRef = true) (K : o_Go κ Q h k n (pc + 2) Ls (v :: St)) : o_Go κ Q h k n pc Ls (St) := o_sim B (fun p e m below c T target X hx hby st => XS.aload X hx rfl (hb hby hd) (o_get hl) hv st) K
theorem o_istoreN (B : o_Bo κ l Z n0 R y bytes ml ret) {i : Fin 4} {x : Int32} {o : Slot} (hd : decode bytes pc = .ok (.istore_n i, 1)) (hold : Ls[i.val]? = some o) (ho : o_ok1 o = true) (K : o_Go κ Q h k n (pc + 1) (Ls.set i.val (.val (.int x))) (St)) : o_Go κ Q h k n pc Ls (.int x :: St) := o_sim B (fun p e m below c T target X hx hby st => XS.istoreN X hx rfl (hb hby hd) rfl (o_store1 hold ho rfl) st) K
theorem o_istore (B : o_Bo κ l Z n0 R y bytes ml ret) {i : Nat} {x : Int32} {o : Slot} (hd : decode bytes pc = .ok (.istore i, 2)) (hold : Ls[i]? = some o) (ho : o_ok1 o = true) (K : o_Go κ Q h k n (pc + 2) (Ls.set i (.val (.int x))) (St)) : o_Go κ Q h k n pc Ls (.int x :: St) := o_sim B (fun p e m below c T target X hx hby st => XS.istore X hx rfl (hb hby hd) rfl (o_store1 hold ho rfl) st) K
theorem o_astoreN (B : o_Bo κ l Z n0 R y bytes ml ret) {i : Fin 4} {v : Value} {o : Slot} (hd : decode bytes pc = .ok (.astore_n i, 1)) (hv : v.isRef = true) (hold : Ls[i.val]? = some o) (ho : o_ok1 o = true) (K : o_Go κ Q h k n (pc + 1) (Ls.set i.val (.val v)) (St)) : o_Go κ Q h k n pc Ls (v :: St) := o_sim B (fun p e m below c T target X hx hby st => XS.astoreN X hx rfl (hb hby hd) rfl hv (o_store1 hold ho (by cases v <;> simp [Value.isRef] at hv <;> rfl)) st) K
theorem o_astore (B : o_Bo κ l Z n0 R y bytes ml ret) {i : Nat} {v : Value} {o : Slot} (hd : decode bytes pc = .ok (.astore i, 2)) (hv : v.isRef = true) (hold : Ls[i]? = some o) (ho : o_ok1 o = true) (K : o_Go κ Q h k n (pc + 2) (Ls.set i (.val v)) (St)) : o_Go κ Q h k n pc Ls (v :: St) := o_sim B (fun p e m below c T target X hx hby st => XS.astore X hx rfl (hb hby hd) rfl hv (o_store1 hold ho (by cases v <;> simp [Value.isRef] at hv <;> rfl)) st) K
theorem o_lstoreN (B : o_Bo κ l Z n0 R y bytes ml ret) {i : Fin 4} {x : Int64} {o o2 : Slot} (hd : decode bytes pc = .ok (.lstore_n i, 1)) (hold : Ls[i.val]? = some o) (hold2 : Ls[i.val + 1]? = some o2) (ho : o_okl o o2 = true) (K : o_Go κ Q h k n (pc + 1) ((Ls.set i.val (.val (.long x))).set (i.val + 1) .second) (St)) : o_Go κ Q h k n pc Ls (.long x :: St) := o_sim B (fun p e m below c T target X hx hby st => XT.lstoreN X hx rfl (hb hby hd) rfl (o_storel hold hold2 ho rfl) st) K
theorem o_lstore (B : o_Bo κ l Z n0 R y bytes ml ret) {i : Nat} {x : Int64} {o o2 : Slot} (hd : decode bytes pc = .ok (.lstore i, 2)) (hold : Ls[i]? = some o) (hold2 : Ls[i + 1]? = some o2) (ho : o_okl o o2 = true) (K : o_Go κ Q h k n (pc + 2) ((Ls.set i (.val (.long x))).set (i + 1) .second) (St)) : o_Go κ Q h k n pc Ls (.long x :: St) := o_sim B (fun p e m below c T target X hx hby st => XT.lstore X hx rfl (hb hby hd) rfl (o_storel hold hold2 ho rfl) st) K
theorem o_iinc (B : o_Bo κ l Z n0 R y bytes ml ret) {i : Nat} {cst : Int} {x : Int32} (v : Int32) (hd : decode bytes pc = .ok (.iinc i cst, 3)) (hv : Int32.ofInt cst = v) (hl : Ls[i]? = some (.val (.int x))) (K : o_Go κ Q h k n (pc + 3) (Ls.set i (.val (.int (x + v)))) (St)) : o_Go κ Q h k n pc Ls (St) := o_sim B (fun p e m below c T target X hx hby st => XT.iincV X hx rfl v (hb hby hd) hv (o_get hl) (o_store1 hl rfl rfl) st) K
theorem o_iconst (B : o_Bo κ l Z n0 R y bytes ml ret) {i : Int} (v : Int32) (hd : decode bytes pc = .ok (.iconst i, 1)) (hv : Int32.ofInt i = v) (K : o_Go κ Q h k n (pc + 1) Ls (.int v :: St)) : o_Go κ Q h k n pc Ls (St) := o_sim B (fun p e m below c T target X hx hby st => XT.iconstV X hx rfl v (hb hby hd) hv st) K
theorem o_bipush (B : o_Bo κ l Z n0 R y bytes ml ret) {i : Int} (v : Int32) (hd : decode bytes pc = .ok (.bipush i, 2)) (hv : (Int8.ofInt i).toInt32 = v) (K : o_Go κ Q h k n (pc + 2) Ls (.int v :: St)) : o_Go κ Q h k n pc Ls (St) := o_sim B (fun p e m below c T target X hx hby st => XT.bipushV X hx rfl v (hb hby hd) hv st) K
theorem o_sipush (B : o_Bo κ l Z n0 R y bytes ml ret) {i : Int} (v : Int32) (hd : decode bytes pc = .ok (.sipush i, 3)) (hv : (Int16.ofInt i).toInt32 = v) (K : o_Go κ Q h k n (pc + 3) Ls (.int v :: St)) : o_Go κ Q h k n pc Ls (St) := o_sim B (fun p e m below c T target X hx hby st => XT.sipushV X hx rfl v (hb hby hd) hv st) K
theorem o_lconst (B : o_Bo κ l Z n0 R y bytes ml ret) {i : Fin 2} (v : Int64) (hd : decode bytes pc = .ok (.lconst i, 1)) (hv : Int64.ofNat i = v) (K : o_Go κ Q h k n (pc + 1) Ls (.long v :: St)) : o_Go κ Q h k n pc Ls (St) := o_sim B (fun p e m below c T target X hx hby st => XT.lconstV X hx rfl v (hb hby hd) hv st) K
theorem o_aconst_null (B : o_Bo κ l Z n0 R y bytes ml ret)  (hd : decode bytes pc = .ok (.aconst_null, 1)) (K : o_Go κ Q h k n (pc + 1) Ls (.null :: St)) : o_Go κ Q h k n pc Ls (St) := o_sim B (fun p e m below c T target X hx hby st => XS.aconstNull X hx rfl (hb hby hd) st) K
theorem o_iadd (B : o_Bo κ l Z n0 R y bytes ml ret) {x y : Int32} (hd : decode bytes pc = .ok (.iadd, 1)) (K : o_Go κ Q h k n (pc + 1) Ls (.int (x + y) :: St)) : o_Go κ Q h k n pc Ls (.int y :: .int x :: St) := o_sim B (fun p e m below c T target X hx hby st => XS.iadd X hx rfl (hb hby hd) rfl st) K
theorem o_isub (B : o_Bo κ l Z n0 R y bytes ml ret) {x y : Int32} (hd : decode bytes pc = .ok (.isub, 1)) (K : o_Go κ Q h k n (pc + 1) Ls (.int (x - y) :: St)) : o_Go κ Q h k n pc Ls (.int y :: .int x :: St) := o_sim B (fun p e m below c T target X hx hby st => XS.isub X hx rfl (hb hby hd) rfl st) K
theorem o_iand (B : o_Bo κ l Z n0 R y bytes ml ret) {x y : Int32} (hd : decode bytes pc = .ok (.iand, 1)) (K : o_Go κ Q h k n (pc + 1) Ls (.int (x &&& y) :: St)) : o_Go κ Q h k n pc Ls (.int y :: .int x :: St) := o_sim B (fun p e m below c T target X hx hby st => XS.iand X hx rfl (hb hby hd) rfl st) K
theorem o_imul (B : o_Bo κ l Z n0 R y bytes ml ret) {x y : Int32} (hd : decode bytes pc = .ok (.imul, 1)) (K : o_Go κ Q h k n (pc + 1) Ls (.int (x * y) :: St)) : o_Go κ Q h k n pc Ls (.int y :: .int x :: St) := o_sim B (fun p e m below c T target X hx hby st => XS.imul X hx rfl (hb hby hd) rfl st) K
theorem o_ior (B : o_Bo κ l Z n0 R y bytes ml ret) {x y : Int32} (hd : decode bytes pc = .ok (.ior, 1)) (K : o_Go κ Q h k n (pc + 1) Ls (.int (x ||| y) :: St)) : o_Go κ Q h k n pc Ls (.int y :: .int x :: St) := o_sim B (fun p e m below c T target X hx hby st => XT.ior X hx rfl (hb hby hd) rfl st) K
theorem o_ixor (B : o_Bo κ l Z n0 R y bytes ml ret) {x y : Int32} (hd : decode bytes pc = .ok (.ixor, 1)) (K : o_Go κ Q h k n (pc + 1) Ls (.int (x ^^^ y) :: St)) : o_Go κ Q h k n pc Ls (.int y :: .int x :: St) := o_sim B (fun p e m below c T target X hx hby st => XT.ixor X hx rfl (hb hby hd) rfl st) K
theorem o_ishl (B : o_Bo κ l Z n0 R y bytes ml ret) {x y : Int32} (hd : decode bytes pc = .ok (.ishl, 1)) (K : o_Go κ Q h k n (pc + 1) Ls (.int (x <<< (y &&& 31)) :: St)) : o_Go κ Q h k n pc Ls (.int y :: .int x :: St) := o_sim B (fun p e m below c T target X hx hby st => XT.ishl X hx rfl (hb hby hd) rfl st) K
theorem o_ishr (B : o_Bo κ l Z n0 R y bytes ml ret) {x y : Int32} (hd : decode bytes pc = .ok (.ishr, 1)) (K : o_Go κ Q h k n (pc + 1) Ls (.int (x >>> (y &&& 31)) :: St)) : o_Go κ Q h k n pc Ls (.int y :: .int x :: St) := o_sim B (fun p e m below c T target X hx hby st => XT.ishr X hx rfl (hb hby hd) rfl st) K
theorem o_iushr (B : o_Bo κ l Z n0 R y bytes ml ret) {x y : Int32} (hd : decode bytes pc = .ok (.iushr, 1)) (K : o_Go κ Q h k n (pc + 1) Ls (.int (XT.ushr x y) :: St)) : o_Go κ Q h k n pc Ls (.int y :: .int x :: St) := o_sim B (fun p e m below c T target X hx hby st => XT.iushr X hx rfl (hb hby hd) rfl st) K
theorem o_idiv (B : o_Bo κ l Z n0 R y bytes ml ret) {x y : Int32} (hd : decode bytes pc = .ok (.idiv, 1)) (hy : y ≠ 0) (K : o_Go κ Q h k n (pc + 1) Ls (.int (x / y) :: St)) : o_Go κ Q h k n pc Ls (.int y :: .int x :: St) := o_sim B (fun p e m below c T target X hx hby st => XS.idiv X hx rfl (hb hby hd) rfl hy st) K
theorem o_irem (B : o_Bo κ l Z n0 R y bytes ml ret) {x y : Int32} (hd : decode bytes pc = .ok (.irem, 1)) (hy : y ≠ 0) (K : o_Go κ Q h k n (pc + 1) Ls (.int (x % y) :: St)) : o_Go κ Q h k n pc Ls (.int y :: .int x :: St) := o_sim B (fun p e m below c T target X hx hby st => XS.irem X hx rfl (hb hby hd) rfl hy (by rw [irem_eq_mod]; exact st)) K
theorem o_ineg (B : o_Bo κ l Z n0 R y bytes ml ret) {x : Int32} (hd : decode bytes pc = .ok (.ineg, 1)) (K : o_Go κ Q h k n (pc + 1) Ls (.int (-x) :: St)) : o_Go κ Q h k n pc Ls (.int x :: St) := o_sim B (fun p e m below c T target X hx hby st => XS.ineg X hx rfl (hb hby hd) rfl st) K
theorem o_ladd (B : o_Bo κ l Z n0 R y bytes ml ret) {x y : Int64} (hd : decode bytes pc = .ok (.ladd, 1)) (K : o_Go κ Q h k n (pc + 1) Ls (.long (x + y) :: St)) : o_Go κ Q h k n pc Ls (.long y :: .long x :: St) := o_sim B (fun p e m below c T target X hx hby st => XT.ladd X hx rfl (hb hby hd) rfl st) K
theorem o_lsub (B : o_Bo κ l Z n0 R y bytes ml ret) {x y : Int64} (hd : decode bytes pc = .ok (.lsub, 1)) (K : o_Go κ Q h k n (pc + 1) Ls (.long (x - y) :: St)) : o_Go κ Q h k n pc Ls (.long y :: .long x :: St) := o_sim B (fun p e m below c T target X hx hby st => XT.lsub X hx rfl (hb hby hd) rfl st) K
theorem o_lmul (B : o_Bo κ l Z n0 R y bytes ml ret) {x y : Int64} (hd : decode bytes pc = .ok (.lmul, 1)) (K : o_Go κ Q h k n (pc + 1) Ls (.long (x * y) :: St)) : o_Go κ Q h k n pc Ls (.long y :: .long x :: St) := o_sim B (fun p e m below c T target X hx hby st => XT.lmul X hx rfl (hb hby hd) rfl st) K
theorem o_land (B : o_Bo κ l Z n0 R y bytes ml ret) {x y : Int64} (hd : decode bytes pc = .ok (.land, 1)) (K : o_Go κ Q h k n (pc + 1) Ls (.long (x &&& y) :: St)) : o_Go κ Q h k n pc Ls (.long y :: .long x :: St) := o_sim B (fun p e m below c T target X hx hby st => XT.land X hx rfl (hb hby hd) rfl st) K
theorem o_lor (B : o_Bo κ l Z n0 R y bytes ml ret) {x y : Int64} (hd : decode bytes pc = .ok (.lor, 1)) (K : o_Go κ Q h k n (pc + 1) Ls (.long (x ||| y) :: St)) : o_Go κ Q h k n pc Ls (.long y :: .long x :: St) := o_sim B (fun p e m below c T target X hx hby st => XT.lor X hx rfl (hb hby hd) rfl st) K
theorem o_lxor (B : o_Bo κ l Z n0 R y bytes ml ret) {x y : Int64} (hd : decode bytes pc = .ok (.lxor, 1)) (K : o_Go κ Q h k n (pc + 1) Ls (.long (x ^^^ y) :: St)) : o_Go κ Q h k n pc Ls (.long y :: .long x :: St) := o_sim B (fun p e m below c T target X hx hby st => XT.lxor X hx rfl (hb hby hd) rfl st) K
theorem o_lshl (B : o_Bo κ l Z n0 R y bytes ml ret) {x : Int64} {y : Int32} (hd : decode bytes pc = .ok (.lshl, 1)) (K : o_Go κ Q h k n (pc + 1) Ls (.long (x <<< (y.toInt64 &&& 63)) :: St)) : o_Go κ Q h k n pc Ls (.int y :: .long x :: St) := o_sim B (fun p e m below c T target X hx hby st => XT.lshl X hx rfl (hb hby hd) rfl st) K
theorem o_lshr (B : o_Bo κ l Z n0 R y bytes ml ret) {x : Int64} {y : Int32} (hd : decode bytes pc = .ok (.lshr, 1)) (K : o_Go κ Q h k n (pc + 1) Ls (.long (x >>> (y.toInt64 &&& 63)) :: St)) : o_Go κ Q h k n pc Ls (.int y :: .long x :: St) := o_sim B (fun p e m below c T target X hx hby st => XT.lshr X hx rfl (hb hby hd) rfl st) K
theorem o_lushr (B : o_Bo κ l Z n0 R y bytes ml ret) {x : Int64} {y : Int32} (hd : decode bytes pc = .ok (.lushr, 1)) (K : o_Go κ Q h k n (pc + 1) Ls (.long (XT.ushrL x y) :: St)) : o_Go κ Q h k n pc Ls (.int y :: .long x :: St) := o_sim B (fun p e m below c T target X hx hby st => XT.lushr X hx rfl (hb hby hd) rfl st) K
theorem o_ldiv (B : o_Bo κ l Z n0 R y bytes ml ret) {x y : Int64} (hd : decode bytes pc = .ok (.ldiv, 1)) (hy : y ≠ 0) (K : o_Go κ Q h k n (pc + 1) Ls (.long (x / y) :: St)) : o_Go κ Q h k n pc Ls (.long y :: .long x :: St) := o_sim B (fun p e m below c T target X hx hby st => XT.ldiv X hx rfl (hb hby hd) rfl hy st) K
theorem o_lrem (B : o_Bo κ l Z n0 R y bytes ml ret) {x y : Int64} (hd : decode bytes pc = .ok (.lrem, 1)) (hy : y ≠ 0) (K : o_Go κ Q h k n (pc + 1) Ls (.long (x - (x / y) * y) :: St)) : o_Go κ Q h k n pc Ls (.long y :: .long x :: St) := o_sim B (fun p e m below c T target X hx hby st => XT.lrem X hx rfl (hb hby hd) rfl hy st) K
theorem o_lneg (B : o_Bo κ l Z n0 R y bytes ml ret) {x : Int64} (hd : decode bytes pc = .ok (.lneg, 1)) (K : o_Go κ Q h k n (pc + 1) Ls (.long (-x) :: St)) : o_Go κ Q h k n pc Ls (.long x :: St) := o_sim B (fun p e m below c T target X hx hby st => XT.lneg X hx rfl (hb hby hd) rfl st) K
theorem o_i2l (B : o_Bo κ l Z n0 R y bytes ml ret) {x : Int32} (hd : decode bytes pc = .ok (.i2l, 1)) (K : o_Go κ Q h k n (pc + 1) Ls (.long x.toInt64 :: St)) : o_Go κ Q h k n pc Ls (.int x :: St) := o_sim B (fun p e m below c T target X hx hby st => XT.i2l X hx rfl (hb hby hd) rfl st) K
theorem o_l2i (B : o_Bo κ l Z n0 R y bytes ml ret) {x : Int64} (hd : decode bytes pc = .ok (.l2i, 1)) (K : o_Go κ Q h k n (pc + 1) Ls (.int x.toInt32 :: St)) : o_Go κ Q h k n pc Ls (.long x :: St) := o_sim B (fun p e m below c T target X hx hby st => XT.l2i X hx rfl (hb hby hd) rfl st) K
theorem o_lcmp (B : o_Bo κ l Z n0 R y bytes ml ret) {x y : Int64} (hd : decode bytes pc = .ok (.lcmp, 1)) (K : o_Go κ Q h k n (pc + 1) Ls (.int (XT.cmpL x y) :: St)) : o_Go κ Q h k n pc Ls (.long y :: .long x :: St) := o_sim B (fun p e m below c T target X hx hby st => XT.lcmp X hx rfl (hb hby hd) rfl st) K
theorem o_dup (B : o_Bo κ l Z n0 R y bytes ml ret) {v : Value} (hd : decode bytes pc = .ok (.dup, 1)) (hv : v.category = 1) (K : o_Go κ Q h k n (pc + 1) Ls (v :: v :: St)) : o_Go κ Q h k n pc Ls (v :: St) := o_sim B (fun p e m below c T target X hx hby st => XS.dup X hx rfl (hb hby hd) rfl hv st) K
theorem o_pop (B : o_Bo κ l Z n0 R y bytes ml ret) {v : Value} (hd : decode bytes pc = .ok (.pop, 1)) (hv : v.category = 1) (K : o_Go κ Q h k n (pc + 1) Ls (St)) : o_Go κ Q h k n pc Ls (v :: St) := o_sim B (fun p e m below c T target X hx hby st => XT.pop X hx rfl (hb hby hd) rfl hv st) K
theorem o_dup_x1 (B : o_Bo κ l Z n0 R y bytes ml ret) {v w : Value} (hd : decode bytes pc = .ok (.dup_x1, 1)) (hv : v.category = 1) (hw : w.category = 1) (K : o_Go κ Q h k n (pc + 1) Ls (v :: w :: v :: St)) : o_Go κ Q h k n pc Ls (v :: w :: St) := o_sim B (fun p e m below c T target X hx hby st => XT.dupX1 X hx rfl (hb hby hd) rfl hv hw st) K
theorem o_dup2 (B : o_Bo κ l Z n0 R y bytes ml ret) {v w : Value} (hd : decode bytes pc = .ok (.dup2, 1)) (hv : v.category = 1) (hw : w.category = 1) (K : o_Go κ Q h k n (pc + 1) Ls (v :: w :: v :: w :: St)) : o_Go κ Q h k n pc Ls (v :: w :: St) := o_sim B (fun p e m below c T target X hx hby st => XT.dup2 X hx rfl (hb hby hd) rfl hv hw st) K
theorem o_dup2L (B : o_Bo κ l Z n0 R y bytes ml ret) {x : Int64} (hd : decode bytes pc = .ok (.dup2, 1)) (K : o_Go κ Q h k n (pc + 1) Ls (.long x :: .long x :: St)) : o_Go κ Q h k n pc Ls (.long x :: St) := o_sim B (fun p e m below c T target X hx hby st => XT.dup2L X hx rfl (hb hby hd) rfl st) K
theorem o_goto (B : o_Bo κ l Z n0 R y bytes ml ret) {o : Int} {pc' : Nat} (hd : decode bytes pc = .ok (.goto o, 3)) (ho : 0 ≤ (pc : Int) + o) (hp : ((pc : Int) + o).toNat = pc') (K : o_Go κ Q h k n pc' Ls St) : o_Go κ Q h k n pc Ls St := o_sim B (fun p e m below c T target X hx hby st => XS.goto X hx rfl (pc0 := pc) rfl (hb hby hd) ho hp st) K
theorem o_if_eq (B : o_Bo κ l Z n0 R y bytes ml ret) {o : Int} {pc' : Nat} {x : Int32} (hd : decode bytes pc = .ok (.ifCond .eq o, 3)) (ho : 0 ≤ (pc : Int) + o) (hp : ((pc : Int) + o).toNat = pc') (K1 : x = 0 → o_Go κ Q h k n pc' Ls St) (K2 : ¬ x = 0 → o_Go κ Q h k n (pc + 3) Ls St) : o_Go κ Q h k n pc Ls (.int x :: St) := by
  by_cases hc : x = 0
  · exact o_sim B (fun p e m below c T target X hx hby st => XS.ifYes X hx rfl (pc0 := pc) rfl (hb hby hd) rfl (XT.i0_eq_t hc) ho hp st) (K1 hc)
  · exact o_sim B (fun p e m below c T target X hx hby st => XS.ifNo X hx rfl (hb hby hd) rfl (XT.i0_eq_f hc) st) (K2 hc)
theorem o_icmp_eq (B : o_Bo κ l Z n0 R y bytes ml ret) {o : Int} {pc' : Nat} {x w : Int32} (hd : decode bytes pc = .ok (.if_icmp .eq o, 3)) (ho : 0 ≤ (pc : Int) + o) (hp : ((pc : Int) + o).toNat = pc') (K1 : x = w → o_Go κ Q h k n pc' Ls St) (K2 : ¬ x = w → o_Go κ Q h k n (pc + 3) Ls St) : o_Go κ Q h k n pc Ls (.int w :: .int x :: St) := by
  by_cases hc : x = w
  · exact o_sim B (fun p e m below c T target X hx hby st => XS.icmpYes X hx rfl (pc0 := pc) rfl (hb hby hd) rfl (XT.ii_eq_t hc) ho hp st) (K1 hc)
  · exact o_sim B (fun p e m below c T target X hx hby st => XS.icmpNo X hx rfl (hb hby hd) rfl (XT.ii_eq_f hc) st) (K2 hc)
theorem o_lif_eq (B : o_Bo κ l Z n0 R y bytes ml ret) {o : Int} {pc' : Nat} {x w : Int64} (hd : decode bytes pc = .ok (.ifCond .eq o, 3)) (ho : 0 ≤ (pc : Int) + o) (hp : ((pc : Int) + o).toNat = pc') (K1 : x = w → o_Go κ Q h k n pc' Ls St) (K2 : ¬ x = w → o_Go κ Q h k n (pc + 3) Ls St) : o_Go κ Q h k n pc Ls (.int (XT.cmpL x w) :: St) := by
  by_cases hc : x = w
  · exact o_sim B (fun p e m below c T target X hx hby st => XS.ifYes X hx rfl (pc0 := pc) rfl (hb hby hd) rfl (XT.ll_eq_t hc) ho hp st) (K1 hc)
  · exact o_sim B (fun p e m below c T target X hx hby st => XS.ifNo X hx rfl (hb hby hd) rfl (XT.ll_eq_f hc) st) (K2 hc)
theorem o_if_ne (B : o_Bo κ l Z n0 R y bytes ml ret) {o : Int} {pc' : Nat} {x : Int32} (hd : decode bytes pc = .ok (.ifCond .ne o, 3)) (ho : 0 ≤ (pc : Int) + o) (hp : ((pc : Int) + o).toNat = pc') (K1 : ¬ x = 0 → o_Go κ Q h k n pc' Ls St) (K2 : x = 0 → o_Go κ Q h k n (pc + 3) Ls St) : o_Go κ Q h k n pc Ls (.int x :: St) := by
  by_cases hc : x = 0
  · exact o_sim B (fun p e m below c T target X hx hby st => XS.ifNo X hx rfl (hb hby hd) rfl (XT.i0_ne_f hc) st) (K2 hc)
  · exact o_sim B (fun p e m below c T target X hx hby st => XS.ifYes X hx rfl (pc0 := pc) rfl (hb hby hd) rfl (XT.i0_ne_t hc) ho hp st) (K1 hc)
theorem o_icmp_ne (B : o_Bo κ l Z n0 R y bytes ml ret) {o : Int} {pc' : Nat} {x w : Int32} (hd : decode bytes pc = .ok (.if_icmp .ne o, 3)) (ho : 0 ≤ (pc : Int) + o) (hp : ((pc : Int) + o).toNat = pc') (K1 : ¬ x = w → o_Go κ Q h k n pc' Ls St) (K2 : x = w → o_Go κ Q h k n (pc + 3) Ls St) : o_Go κ Q h k n pc Ls (.int w :: .int x :: St) := by
  by_cases hc : x = w
  · exact o_sim B (fun p e m below c T target X hx hby st => XS.icmpNo X hx rfl (hb hby hd) rfl (XT.ii_ne_f hc) st) (K2 hc)
  · exact o_sim B (fun p e m below c T target X hx hby st => XS.icmpYes X hx rfl (pc0 := pc) rfl (hb hby hd) rfl (XT.ii_ne_t hc) ho hp st) (K1 hc)
theorem o_lif_ne (B : o_Bo κ l Z n0 R y bytes ml ret) {o : Int} {pc' : Nat} {x w : Int64} (hd : decode bytes pc = .ok (.ifCond .ne o, 3)) (ho : 0 ≤ (pc : Int) + o) (hp : ((pc : Int) + o).toNat = pc') (K1 : ¬ x = w → o_Go κ Q h k n pc' Ls St) (K2 : x = w → o_Go κ Q h k n (pc + 3) Ls St) : o_Go κ Q h k n pc Ls (.int (XT.cmpL x w) :: St) := by
  by_cases hc : x = w
  · exact o_sim B (fun p e m below c T target X hx hby st => XS.ifNo X hx rfl (hb hby hd) rfl (XT.ll_ne_f hc) st) (K2 hc)
  · exact o_sim B (fun p e m below c T target X hx hby st => XS.ifYes X hx rfl (pc0 := pc) rfl (hb hby hd) rfl (XT.ll_ne_t hc) ho hp st) (K1 hc)
theorem o_if_lt (B : o_Bo κ l Z n0 R y bytes ml ret) {o : Int} {pc' : Nat} {x : Int32} (hd : decode bytes pc = .ok (.ifCond .lt o, 3)) (ho : 0 ≤ (pc : Int) + o) (hp : ((pc : Int) + o).toNat = pc') (K1 : x < 0 → o_Go κ Q h k n pc' Ls St) (K2 : ¬ x < 0 → o_Go κ Q h k n (pc + 3) Ls St) : o_Go κ Q h k n pc Ls (.int x :: St) := by
  by_cases hc : x < 0
  · exact o_sim B (fun p e m below c T target X hx hby st => XS.ifYes X hx rfl (pc0 := pc) rfl (hb hby hd) rfl (XT.i0_lt_t hc) ho hp st) (K1 hc)
  · exact o_sim B (fun p e m below c T target X hx hby st => XS.ifNo X hx rfl (hb hby hd) rfl (XT.i0_lt_f hc) st) (K2 hc)
theorem o_icmp_lt (B : o_Bo κ l Z n0 R y bytes ml ret) {o : Int} {pc' : Nat} {x w : Int32} (hd : decode bytes pc = .ok (.if_icmp .lt o, 3)) (ho : 0 ≤ (pc : Int) + o) (hp : ((pc : Int) + o).toNat = pc') (K1 : x < w → o_Go κ Q h k n pc' Ls St) (K2 : ¬ x < w → o_Go κ Q h k n (pc + 3) Ls St) : o_Go κ Q h k n pc Ls (.int w :: .int x :: St) := by
  by_cases hc : x < w
  · exact o_sim B (fun p e m below c T target X hx hby st => XS.icmpYes X hx rfl (pc0 := pc) rfl (hb hby hd) rfl (XT.ii_lt_t hc) ho hp st) (K1 hc)
  · exact o_sim B (fun p e m below c T target X hx hby st => XS.icmpNo X hx rfl (hb hby hd) rfl (XT.ii_lt_f hc) st) (K2 hc)
theorem o_lif_lt (B : o_Bo κ l Z n0 R y bytes ml ret) {o : Int} {pc' : Nat} {x w : Int64} (hd : decode bytes pc = .ok (.ifCond .lt o, 3)) (ho : 0 ≤ (pc : Int) + o) (hp : ((pc : Int) + o).toNat = pc') (K1 : x < w → o_Go κ Q h k n pc' Ls St) (K2 : ¬ x < w → o_Go κ Q h k n (pc + 3) Ls St) : o_Go κ Q h k n pc Ls (.int (XT.cmpL x w) :: St) := by
  by_cases hc : x < w
  · exact o_sim B (fun p e m below c T target X hx hby st => XS.ifYes X hx rfl (pc0 := pc) rfl (hb hby hd) rfl (XT.ll_lt_t hc) ho hp st) (K1 hc)
  · exact o_sim B (fun p e m below c T target X hx hby st => XS.ifNo X hx rfl (hb hby hd) rfl (XT.ll_lt_f hc) st) (K2 hc)
theorem o_if_ge (B : o_Bo κ l Z n0 R y bytes ml ret) {o : Int} {pc' : Nat} {x : Int32} (hd : decode bytes pc = .ok (.ifCond .ge o, 3)) (ho : 0 ≤ (pc : Int) + o) (hp : ((pc : Int) + o).toNat = pc') (K1 : ¬ x < 0 → o_Go κ Q h k n pc' Ls St) (K2 : x < 0 → o_Go κ Q h k n (pc + 3) Ls St) : o_Go κ Q h k n pc Ls (.int x :: St) := by
  by_cases hc : x < 0
  · exact o_sim B (fun p e m below c T target X hx hby st => XS.ifNo X hx rfl (hb hby hd) rfl (XT.i0_ge_f hc) st) (K2 hc)
  · exact o_sim B (fun p e m below c T target X hx hby st => XS.ifYes X hx rfl (pc0 := pc) rfl (hb hby hd) rfl (XT.i0_ge_t hc) ho hp st) (K1 hc)
theorem o_icmp_ge (B : o_Bo κ l Z n0 R y bytes ml ret) {o : Int} {pc' : Nat} {x w : Int32} (hd : decode bytes pc = .ok (.if_icmp .ge o, 3)) (ho : 0 ≤ (pc : Int) + o) (hp : ((pc : Int) + o).toNat = pc') (K1 : ¬ x < w → o_Go κ Q h k n pc' Ls St) (K2 : x < w → o_Go κ Q h k n (pc + 3) Ls St) : o_Go κ Q h k n pc Ls (.int w :: .int x :: St) := by
  by_cases hc : x < w
  · exact o_sim B (fun p e m below c T target X hx hby st => XS.icmpNo X hx rfl (hb hby hd) rfl (XT.ii_ge_f hc) st) (K2 hc)
  · exact o_sim B (fun p e m below c T target X hx hby st => XS.icmpYes X hx rfl (pc0 := pc) rfl (hb hby hd) rfl (XT.ii_ge_t hc) ho hp st) (K1 hc)
theorem o_lif_ge (B : o_Bo κ l Z n0 R y bytes ml ret) {o : Int} {pc' : Nat} {x w : Int64} (hd : decode bytes pc = .ok (.ifCond .ge o, 3)) (ho : 0 ≤ (pc : Int) + o) (hp : ((pc : Int) + o).toNat = pc') (K1 : ¬ x < w → o_Go κ Q h k n pc' Ls St) (K2 : x < w → o_Go κ Q h k n (pc + 3) Ls St) : o_Go κ Q h k n pc Ls (.int (XT.cmpL x w) :: St) := by
  by_cases hc : x < w
  · exact o_sim B (fun p e m below c T target X hx hby st => XS.ifNo X hx rfl (hb hby hd) rfl (XT.ll_ge_f hc) st) (K2 hc)
  · exact o_sim B (fun p e m below c T target X hx hby st => XS.ifYes X hx rfl (pc0 := pc) rfl (hb hby hd) rfl (XT.ll_ge_t hc) ho hp st) (K1 hc)
theorem o_if_gt (B : o_Bo κ l Z n0 R y bytes ml ret) {o : Int} {pc' : Nat} {x : Int32} (hd : decode bytes pc = .ok (.ifCond .gt o, 3)) (ho : 0 ≤ (pc : Int) + o) (hp : ((pc : Int) + o).toNat = pc') (K1 : 0 < x → o_Go κ Q h k n pc' Ls St) (K2 : ¬ 0 < x → o_Go κ Q h k n (pc + 3) Ls St) : o_Go κ Q h k n pc Ls (.int x :: St) := by
  by_cases hc : 0 < x
  · exact o_sim B (fun p e m below c T target X hx hby st => XS.ifYes X hx rfl (pc0 := pc) rfl (hb hby hd) rfl (XT.i0_gt_t hc) ho hp st) (K1 hc)
  · exact o_sim B (fun p e m below c T target X hx hby st => XS.ifNo X hx rfl (hb hby hd) rfl (XT.i0_gt_f hc) st) (K2 hc)
theorem o_icmp_gt (B : o_Bo κ l Z n0 R y bytes ml ret) {o : Int} {pc' : Nat} {x w : Int32} (hd : decode bytes pc = .ok (.if_icmp .gt o, 3)) (ho : 0 ≤ (pc : Int) + o) (hp : ((pc : Int) + o).toNat = pc') (K1 : w < x → o_Go κ Q h k n pc' Ls St) (K2 : ¬ w < x → o_Go κ Q h k n (pc + 3) Ls St) : o_Go κ Q h k n pc Ls (.int w :: .int x :: St) := by
  by_cases hc : w < x
  · exact o_sim B (fun p e m below c T target X hx hby st => XS.icmpYes X hx rfl (pc0 := pc) rfl (hb hby hd) rfl (XT.ii_gt_t hc) ho hp st) (K1 hc)
  · exact o_sim B (fun p e m below c T target X hx hby st => XS.icmpNo X hx rfl (hb hby hd) rfl (XT.ii_gt_f hc) st) (K2 hc)
theorem o_lif_gt (B : o_Bo κ l Z n0 R y bytes ml ret) {o : Int} {pc' : Nat} {x w : Int64} (hd : decode bytes pc = .ok (.ifCond .gt o, 3)) (ho : 0 ≤ (pc : Int) + o) (hp : ((pc : Int) + o).toNat = pc') (K1 : w < x → o_Go κ Q h k n pc' Ls St) (K2 : ¬ w < x → o_Go κ Q h k n (pc + 3) Ls St) : o_Go κ Q h k n pc Ls (.int (XT.cmpL x w) :: St) := by
  by_cases hc : w < x
  · exact o_sim B (fun p e m below c T target X hx hby st => XS.ifYes X hx rfl (pc0 := pc) rfl (hb hby hd) rfl (XT.ll_gt_t hc) ho hp st) (K1 hc)
  · exact o_sim B (fun p e m below c T target X hx hby st => XS.ifNo X hx rfl (hb hby hd) rfl (XT.ll_gt_f hc) st) (K2 hc)
theorem o_if_le (B : o_Bo κ l Z n0 R y bytes ml ret) {o : Int} {pc' : Nat} {x : Int32} (hd : decode bytes pc = .ok (.ifCond .le o, 3)) (ho : 0 ≤ (pc : Int) + o) (hp : ((pc : Int) + o).toNat = pc') (K1 : ¬ 0 < x → o_Go κ Q h k n pc' Ls St) (K2 : 0 < x → o_Go κ Q h k n (pc + 3) Ls St) : o_Go κ Q h k n pc Ls (.int x :: St) := by
  by_cases hc : 0 < x
  · exact o_sim B (fun p e m below c T target X hx hby st => XS.ifNo X hx rfl (hb hby hd) rfl (XT.i0_le_f hc) st) (K2 hc)
  · exact o_sim B (fun p e m below c T target X hx hby st => XS.ifYes X hx rfl (pc0 := pc) rfl (hb hby hd) rfl (XT.i0_le_t hc) ho hp st) (K1 hc)
theorem o_icmp_le (B : o_Bo κ l Z n0 R y bytes ml ret) {o : Int} {pc' : Nat} {x w : Int32} (hd : decode bytes pc = .ok (.if_icmp .le o, 3)) (ho : 0 ≤ (pc : Int) + o) (hp : ((pc : Int) + o).toNat = pc') (K1 : ¬ w < x → o_Go κ Q h k n pc' Ls St) (K2 : w < x → o_Go κ Q h k n (pc + 3) Ls St) : o_Go κ Q h k n pc Ls (.int w :: .int x :: St) := by
  by_cases hc : w < x
  · exact o_sim B (fun p e m below c T target X hx hby st => XS.icmpNo X hx rfl (hb hby hd) rfl (XT.ii_le_f hc) st) (K2 hc)
  · exact o_sim B (fun p e m below c T target X hx hby st => XS.icmpYes X hx rfl (pc0 := pc) rfl (hb hby hd) rfl (XT.ii_le_t hc) ho hp st) (K1 hc)
theorem o_lif_le (B : o_Bo κ l Z n0 R y bytes ml ret) {o : Int} {pc' : Nat} {x w : Int64} (hd : decode bytes pc = .ok (.ifCond .le o, 3)) (ho : 0 ≤ (pc : Int) + o) (hp : ((pc : Int) + o).toNat = pc') (K1 : ¬ w < x → o_Go κ Q h k n pc' Ls St) (K2 : w < x → o_Go κ Q h k n (pc + 3) Ls St) : o_Go κ Q h k n pc Ls (.int (XT.cmpL x w) :: St) := by
  by_cases hc : w < x
  · exact o_sim B (fun p e m below c T target X hx hby st => XS.ifNo X hx rfl (hb hby hd) rfl (XT.ll_le_f hc) st) (K2 hc)
  · exact o_sim B (fun p e m below c T target X hx hby st => XS.ifYes X hx rfl (pc0 := pc) rfl (hb hby hd) rfl (XT.ll_le_t hc) ho hp st) (K1 hc)
theorem o_ifnull_N (B : o_Bo κ l Z n0 R y bytes ml ret) {o : Int} {pc' : Nat} (hd : decode bytes pc = .ok (.ifnull o, 3)) (ho : 0 ≤ (pc : Int) + o) (hp : ((pc : Int) + o).toNat = pc') (K : o_Go κ Q h k n pc' Ls St) : o_Go κ Q h k n pc Ls (.null :: St) := o_sim B (fun p e m below c T target X hx hby st => XS.ifnullYes X hx rfl (pc0 := pc) rfl (hb hby hd) rfl ho hp st) K
theorem o_ifnull_R (B : o_Bo κ l Z n0 R y bytes ml ret) {o : Int} {b : Addr} (hd : decode bytes pc = .ok (.ifnull o, 3)) (K : o_Go κ Q h k n (pc + 3) Ls St) : o_Go κ Q h k n pc Ls (.ref b :: St) := o_sim B (fun p e m below c T target X hx hby st => XS.ifnullNo X hx rfl (hb hby hd) rfl st) K
theorem o_ifnonnull_R (B : o_Bo κ l Z n0 R y bytes ml ret) {o : Int} {pc' : Nat} {b : Addr} (hd : decode bytes pc = .ok (.ifnonnull o, 3)) (ho : 0 ≤ (pc : Int) + o) (hp : ((pc : Int) + o).toNat = pc') (K : o_Go κ Q h k n pc' Ls St) : o_Go κ Q h k n pc Ls (.ref b :: St) := o_sim B (fun p e m below c T target X hx hby st => XT.ifnonnullYes X hx rfl (pc0 := pc) rfl (hb hby hd) rfl ho hp st) K
theorem o_ifnonnull_N (B : o_Bo κ l Z n0 R y bytes ml ret) {o : Int} (hd : decode bytes pc = .ok (.ifnonnull o, 3)) (K : o_Go κ Q h k n (pc + 3) Ls St) : o_Go κ Q h k n pc Ls (.null :: St) := o_sim B (fun p e m below c T target X hx hby st => XT.ifnonnullNo X hx rfl (hb hby hd) rfl st) K
theorem o_acmp_eq (B : o_Bo κ l Z n0 R y bytes ml ret) {o : Int} {pc' : Nat} {v w : Value} (hv : v.isRef = true) (hw : w.isRef = true) (hd : decode bytes pc = .ok (.if_acmp .eq o, 3)) (ho : 0 ≤ (pc : Int) + o) (hp : ((pc : Int) + o).toNat = pc') (K1 : v = w → o_Go κ Q h k n pc' Ls St) (K2 : ¬ v = w → o_Go κ Q h k n (pc + 3) Ls St) : o_Go κ Q h k n pc Ls (w :: v :: St) := by
  by_cases hc : v = w
  · exact o_sim B (fun p e m below c T target X hx hby st => XT.acmpYes X hx rfl (pc0 := pc) rfl (hb hby hd) rfl hv hw (by simp [XT.acmp, hc]) ho hp st) (K1 hc)
  · exact o_sim B (fun p e m below c T target X hx hby st => XT.acmpNo X hx rfl (hb hby hd) rfl hv hw (by simp [XT.acmp, hc]) st) (K2 hc)
theorem o_acmp_ne (B : o_Bo κ l Z n0 R y bytes ml ret) {o : Int} {pc' : Nat} {v w : Value} (hv : v.isRef = true) (hw : w.isRef = true) (hd : decode bytes pc = .ok (.if_acmp .ne o, 3)) (ho : 0 ≤ (pc : Int) + o) (hp : ((pc : Int) + o).toNat = pc') (K1 : ¬ v = w → o_Go κ Q h k n pc' Ls St) (K2 : v = w → o_Go κ Q h k n (pc + 3) Ls St) : o_Go κ Q h k n pc Ls (w :: v :: St) := by
  by_cases hc : v = w
  · exact o_sim B (fun p e m below c T target X hx hby st => XT.acmpNo X hx rfl (hb hby hd) rfl hv hw (by simp [XT.acmp, hc]) st) (K2 hc)
  · exact o_sim B (fun p e m below c T target X hx hby st => XT.acmpYes X hx rfl (pc0 := pc) rfl (hb hby hd) rfl hv hw (by simp [XT.acmp, hc]) ho hp st) (K1 hc)
theorem o_ldc (B : o_Bo κ l Z n0 R y bytes ml ret) {idx : Nat} {x : Int32} (hd : decode bytes pc = .ok (.ldc idx, 2)) (w : (Cond.constant y.cls idx x).before a0 Z = true) (K : o_Go κ Q h k n (pc + 2) Ls (.int x :: St)) : o_Go κ Q h k n pc Ls St := by
  obtain ⟨p, e, s, m, args, below, meth, c, rfl, hx, hZ, hby, hml, hown, hret, hlk, hnm⟩ := B
  intro T locs X N eT
  obtain ⟨s₂, o, st, r⟩ := K T locs X N eT
  exact ⟨s₂, o, Stand.ldcI X hx hown (mv hZ w) rfl (hb hby hd) st, r⟩
theorem o_ldc_w (B : o_Bo κ l Z n0 R y bytes ml ret) {idx : Nat} {x : Int32} (hd : decode bytes pc = .ok (.ldc_w idx, 3)) (w : (Cond.constant y.cls idx x).before a0 Z = true) (K : o_Go κ Q h k n (pc + 3) Ls (.int x :: St)) : o_Go κ Q h k n pc Ls St := by
  obtain ⟨p, e, s, m, args, below, meth, c, rfl, hx, hZ, hby, hml, hown, hret, hlk, hnm⟩ := B
  intro T locs X N eT
  obtain ⟨s₂, o, st, r⟩ := K T locs X N eT
  exact ⟨s₂, o, Stand.ldcWI X hx hown (mv hZ w) rfl (hb hby hd) st, r⟩
theorem o_ldc2_w (B : o_Bo κ l Z n0 R y bytes ml ret) {idx : Nat} {x : Int64} (hd : decode bytes pc = .ok (.ldc2_w idx, 3)) (w : (Cond.constantLong y.cls idx x).before a0 Z = true) (K : o_Go κ Q h k n (pc + 3) Ls (.long x :: St)) : o_Go κ Q h k n pc Ls St := by
  obtain ⟨p, e, s, m, args, below, meth, c, rfl, hx, hZ, hby, hml, hown, hret, hlk, hnm⟩ := B
  intro T locs X N eT
  obtain ⟨s₂, o, st, r⟩ := K T locs X N eT
  exact ⟨s₂, o, Stand.ldc2J X hx hown (mv hZ w) rfl (hb hby hd) st, r⟩
theorem o_out (B : o_Bo κ l Z n0 R y bytes ml ret) {v : Option Value} (hv : ret = none → v = none) (hk : k ≤ R.cells) (hn : n ≤ R.slots) (q : Q v h)
    (f : ∀ (p : Program) (e : Env) (s : State) (m : MethodId) (args : Array Value) (below : List Frame) (meth : Method) (c : Code) (T : State) (locs : List Loc), Stand p l e R s m args below meth c T locs k n → p.tables.exec = Jvm.exec → c.code = bytes → meth.sig.returnType = ret → ∀ fs : List Frame, (∀ (f : JFrame) (acts : List Action), f.method = m → f.locked = none → f.entered = [] → (doReturn e (T.setTop f) acts v).1 = T.setFrames fs) → Steps p.tables e below (T.setTop (mkF m pc Ls.toArray St)) (T.setFrames fs)) : o_Go κ Q h k n pc Ls St := by
  obtain ⟨p, e, s, m, args, below, meth, c, rfl, hx, hZ, hby, hml, hown, hret, hlk, hnm⟩ := B
  intro T locs X N eT
  obtain ⟨fs, hr, hrun, hended, hW, hsame⟩ := X.leave (v := v) (fun hh => hv (hret.symm.trans hh)) hlk
  refine ⟨_, _, f p e s m args below meth c T locs X hx hby hret fs hr, hrun, hended, _, _, rfl, ⟨?_, N⟩, ⟨_, rfl⟩, hW, hsame.mono hk hn⟩
  have e1 : (T.setFrames fs).heap = h := eT
  rw [e1]; exact q
theorem o_ireturn (B : o_Bo κ l Z n0 R y bytes ml (some .int)) {x : Int32} (hd : decode bytes pc = .ok (.ireturn, 1)) (hk : k ≤ R.cells) (hn : n ≤ R.slots) (q : Q (some (.int x)) h) : o_Go κ Q h k n pc Ls (.int x :: St) :=
  o_out B (fun hh => by cases hh) hk hn q fun p e s m args below meth c T locs X hx hby hret fs hr => retOut X hx hret rfl (Or.inl ⟨rfl, Or.inl rfl, _, rfl⟩) (hb hby hd) hr
theorem o_zreturn (B : o_Bo κ l Z n0 R y bytes ml (some .boolean)) {x : Int32} (hd : decode bytes pc = .ok (.ireturn, 1)) (hk : k ≤ R.cells) (hn : n ≤ R.slots) (q : Q (some (.int (nar .boolean x))) h) : o_Go κ Q h k n pc Ls (.int x :: St) :=
  o_out B (fun hh => by cases hh) hk hn q fun p e s m args below meth c T locs X hx hby hret fs hr => retN X hx hret (by simp) (hb hby hd) hr
theorem o_lreturn (B : o_Bo κ l Z n0 R y bytes ml (some .long)) {x : Int64} (hd : decode bytes pc = .ok (.lreturn, 1)) (hk : k ≤ R.cells) (hn : n ≤ R.slots) (q : Q (some (.long x)) h) : o_Go κ Q h k n pc Ls (.long x :: St) :=
  o_out B (fun hh => by cases hh) hk hn q fun p e s m args below meth c T locs X hx hby hret fs hr => retOut X hx hret rfl (Or.inr (Or.inl ⟨rfl, rfl, _, rfl⟩)) (hb hby hd) hr
theorem o_areturn {t : FieldType} (B : o_Bo κ l Z n0 R y bytes ml (some t)) {v : Value} (ht : t.isReference = true) (hn' : narrow t v = v) (hv : v.isRef = true) (hd : decode bytes pc = .ok (.areturn, 1)) (hk : k ≤ R.cells) (hn : n ≤ R.slots) (q : Q (some v) h) : o_Go κ Q h k n pc Ls (v :: St) :=
  o_out B (fun hh => by cases hh) hk hn q fun p e s m args below meth c T locs X hx hby hret fs hr => retOut X hx hret hn' (Or.inr (Or.inr (Or.inr (Or.inr ⟨rfl, ht, hv⟩)))) (hb hby hd) hr
theorem o_return (B : o_Bo κ l Z n0 R y bytes ml none) (hd : decode bytes pc = .ok (.return_, 1)) (hk : k ≤ R.cells) (hn : n ≤ R.slots) (q : Q none h) : o_Go κ Q h k n pc Ls [] :=
  o_out B (fun _ => rfl) hk hn q fun p e s m args below meth c T locs X hx hby hret fs hr => X.returnOut hx hret (hb hby hd) hr
theorem o_getF (B : o_Bo κ l Z n0 R y bytes ml ret) {O nm d : String} {idx : Nat} {a : Addr} {v : Value} (hd : decode bytes pc = .ok (.getfield idx, 3)) (w : (Cond.fieldLink y.cls idx O nm d).before a0 Z = true) (F : Fld Z h a O nm d v) (K : o_Go κ Q h k n (pc + 3) Ls (v :: St)) : o_Go κ Q h k n pc Ls (.ref a :: St) := by
  obtain ⟨p, e, s, m, args, below, meth, c, rfl, hx, hZ, hby, hml, hown, hret, hlk, hnm⟩ := B
  intro T locs X N eT
  obtain ⟨T', X', e', st'⟩ := getF X hx hZ hown (host := "") (Or.inl w) Via.refl eT F (g := mkF m pc Ls.toArray (.ref a :: St)) rfl rfl (hb hby hd)
  obtain ⟨s₂, o, st, r⟩ := K T' locs X' N e'
  exact ⟨s₂, o, st' _ st, r⟩
theorem o_putF (B : o_Bo κ l Z n0 R y bytes ml ret) {O nm d C : String} {idx kk : Nat} {a : Addr} {v old : Value} {ty : FieldType} (hd : decode bytes pc = .ok (.putfield idx, 3)) (w : (Cond.fieldLink y.cls idx O nm d).before a0 Z = true) (F : Fld Z h a O nm d old) (E : Exa Z h a C) (L : (Cond.lays C O nm d).before a0 Z = true ∨ ((Cond.laysFinal C O nm d).before a0 Z = true ∧ y.cls = O ∧ y.name = "<init>")) (wi : (Cond.instantiable C kk).before a0 Z = true)
    (hty : parseFieldDescriptor d = some ty) (hn : narrow ty v = v) (hf : fits ty v = true) (ge : n0 ≤ a) (K : ∀ h', Wr h h' a (Jvm.RoadKit.slotOf Z O nm d) v → o_Go κ Q h' k n (pc + 3) Ls St) : o_Go κ Q h k n pc Ls (v :: .ref a :: St) := by
  obtain ⟨p, e, s, m, args, below, meth, c, rfl, hx, hZ, hby, hml, hown, hret, hlk, hnm⟩ := B
  intro T locs X N eT
  have L' : (Cond.lays C O nm d).before a0 Z = true ∨ ((Cond.laysFinal C O nm d).before a0 Z = true ∧ y.cls = O ∧ meth.name = "<init>") := L.imp id fun q => ⟨q.1, q.2.1, hnm.trans q.2.2⟩
  obtain ⟨T', h', X', e', W, st'⟩ := putF X hx hZ hown (host := "") (Or.inl w) Via.refl eT F E L' wi hty hn hf (g := mkF m pc Ls.toArray (v :: .ref a :: St)) rfl rfl (hb hby hd)
  obtain ⟨s₂, o, st, r⟩ := K h' W T' _ X' (Fr.snoc X' N ge) e'
  exact ⟨s₂, o, st' _ st, r⟩
theorem o_getS (B : o_Bo κ l Z n0 R y bytes ml ret) {O nm d : String} {idx : Nat} {v : Value} (hd : decode bytes pc = .ok (.getstatic idx, 3)) (w : (Cond.fieldLink y.cls idx O nm d).before a0 Z = true) (F : Sta Z h O nm d v) (K : o_Go κ Q h k n (pc + 3) Ls (v :: St)) : o_Go κ Q h k n pc Ls St := by
  obtain ⟨p, e, s, m, args, below, meth, c, rfl, hx, hZ, hby, hml, hown, hret, hlk, hnm⟩ := B
  intro T locs X N eT
  obtain ⟨T', X', e', st'⟩ := getS (host := "") X hx hZ hown w Via.refl eT F (g := mkF m pc Ls.toArray St) rfl (hb hby hd)
  obtain ⟨s₂, o, st, r⟩ := K T' locs X' N e'
  exact ⟨s₂, o, st' _ st, r⟩
theorem o_new (B : o_Bo κ l Z n0 R y bytes ml ret) {C : String} {idx nn : Nat} (hd : decode bytes pc = .ok (.new idx, 3)) (w : (Cond.classLink y.cls idx C).before a0 Z = true) (wi : (Cond.instantiable C nn).before a0 Z = true) (wz : (Cond.initialized C).before a0 Z = true) (hc : k + 1 ≤ R.cells) (hl : n + nn ≤ R.slots)
    (K : ∀ h', Ext h h' → Exa Z h' h.size C → (∀ {O nm d : String} {ty : FieldType}, Laid Z a0 C O nm d → parseFieldDescriptor d = some ty → Fld Z h' h.size O nm d (defaultValue ty)) → o_Go κ Q h' (k + 1) (n + nn) (pc + 3) Ls (.ref h.size :: St)) : o_Go κ Q h k n pc Ls St := by
  obtain ⟨p, e, s, m, args, below, meth, c, rfl, hx, hZ, hby, hml, hown, hret, hlk, hnm⟩ := B
  intro T locs X N eT
  obtain ⟨T', h', X', e', E, A, D, -, st'⟩ := newO X hx hZ hown w wi wz eT (g := mkF m pc Ls.toArray St) rfl (hb hby hd) hc hl
  obtain ⟨s₂, o, st, r⟩ := K h' E A (fun L q => D L q) T' _ X' N e'
  exact ⟨s₂, o, st' _ st, r⟩
theorem o_initO (B : o_Bo κ l Z n0 R y bytes ml ret) {idx W : Nat} {a : Addr} (hd : decode bytes pc = .ok (.invokespecial idx, 3)) (w1 : (Cond.methodLink y.cls idx Lib.objectInit).before a0 Z = true) (w2 : (Cond.instanceMethod Lib.objectInit).before a0 Z = true) (w3 : (Cond.code Lib.objectInit ⟨#[0xb1]⟩ 1 none).before a0 Z = true)
    (hf : 1 ≤ R.frames) (hW : (St.map fun v => v.category).sum ≤ W) (hl : W + 12 ≤ R.locals) (hLs : Ls.length = ml) (K : o_Go κ Q h k n (pc + 3) Ls St) : o_Go κ Q h k n pc Ls (.ref a :: St) := by
  obtain ⟨p, e, s, m, args, below, meth, c, rfl, hx, hZ, hby, hml, hown, hret, hlk, hnm⟩ := B
  intro T locs X N eT
  obtain ⟨T', X', e', st'⟩ := initO X hx hZ hown w1 w2 w3 eT (g := mkF m pc Ls.toArray (.ref a :: St)) rfl (by rw [hml, ← hLs]; simp) rfl (hb hby hd) hf (W := W) (by simpa using hW) hl
  obtain ⟨s₂, o, st, r⟩ := K T' _ X' N e'
  exact ⟨s₂, o, st' _ st, r⟩
/-- an array of the component type ty that holds the list vs -/
def o_AR (Z : State) (h : Heap) (a : Addr) (ty : FieldType) (vs : List Value) : Prop := ∃ c : Cell, Arr Z h a c ty ∧ c.slots = vs.toArray ∧ vs.length < 2 ^ 31
abbrev o_IA (Z : State) (h : Heap) (a : Addr) (L : List Int32) : Prop := o_AR Z h a .int (L.map Value.int)
abbrev o_LA (Z : State) (h : Heap) (a : Addr) (L : List Int64) : Prop := o_AR Z h a .long (L.map Value.long)
abbrev o_ZA (Z : State) (h : Heap) (a : Addr) (L : List Int32) : Prop := o_AR Z h a .boolean (L.map Value.int)
theorem o_AR.lt {h : Heap} {a : Addr} {ty : FieldType} {vs : List Value} (A : o_AR Z h a ty vs) : a < h.size := by obtain ⟨c, A, -⟩ := A; exact A.lt
theorem o_AR.ext {h h' : Heap} {a : Addr} {ty : FieldType} {vs : List Value} (A : o_AR Z h a ty vs) (E : Ext h h') : o_AR Z h' a ty vs := by obtain ⟨c, A, r⟩ := A; exact ⟨c, A.ext E, r⟩
theorem o_AR.other {h h' : Heap} {a b : Addr} {sl : Nat} {v : Value} {ty : FieldType} {vs : List Value} (A : o_AR Z h a ty vs) (W : Wr h h' b sl v) (q : a ≠ b) : o_AR Z h' a ty vs := by obtain ⟨c, A, r⟩ := A; exact ⟨c, A.other W q, r⟩
theorem o_AR.keep {h h' : Heap} {a : Addr} {ws : List Addr} {ty : FieldType} {vs : List Value} (A : o_AR Z h a ty vs) (K : Keep h h' ws) (q : a ∉ ws) : o_AR Z h' a ty vs := by obtain ⟨c, A, r⟩ := A; exact ⟨c, ⟨K.2.1 a c A.1 q, A.2⟩, r⟩
theorem o_AR.same {h h' : Heap} {a : Addr} {i : Nat} {v : Value} {ty : FieldType} {vs : List Value} (A : o_AR Z h a ty vs) (W : Wr h h' a i v) : o_AR Z h' a ty (vs.set i v) := by
  obtain ⟨c, A, e, q⟩ := A
  exact ⟨_, A.same W, by simp [Cell.setSlot, e], by simpa using q⟩
theorem o_IA.same {h h' : Heap} {a : Addr} {i : Nat} {x : Int32} {L : List Int32} (A : o_IA Z h a L) (W : Wr h h' a i (.int x)) : o_IA Z h' a (L.set i x) := by
  have := o_AR.same A W; rwa [← List.map_set] at this
theorem o_LA.same {h h' : Heap} {a : Addr} {i : Nat} {x : Int64} {L : List Int64} (A : o_LA Z h a L) (W : Wr h h' a i (.long x)) : o_LA Z h' a (L.set i x) := by
  have := o_AR.same A W; rwa [← List.map_set] at this
theorem o_ZA.same {h h' : Heap} {a : Addr} {i : Nat} {x : Int32} {L : List Int32} (A : o_ZA Z h a L) (W : Wr h h' a i (.int x)) : o_ZA Z h' a (L.set i x) := by
  have := o_AR.same A W; rwa [← List.map_set] at this
theorem o_IA.len {h : Heap} {a : Addr} {L : List Int32} (A : o_IA Z h a L) : L.length < 2 ^ 31 := by obtain ⟨c, A, e, q⟩ := A; simpa using q
theorem o_LA.len {h : Heap} {a : Addr} {L : List Int64} (A : o_LA Z h a L) : L.length < 2 ^ 31 := by obtain ⟨c, A, e, q⟩ := A; simpa using q
theorem o_nat {i N : Nat} (hi : i < N) (hN : N < 2 ^ 31) : (Int32.ofNat i).toNatClampNeg = i ∧ ¬ (Int32.ofNat i < 0) := by
  have e : (Int32.ofNat i).toInt = i := Int32.toInt_ofNat_of_lt (by omega)
  refine ⟨by simp only [Int32.toNatClampNeg, e]; rfl, ?_⟩
  rw [Int32.lt_iff_toInt_lt, e]; show ¬ (i : Int) < 0; omega
theorem o_in {c : Cell} {vs : List Value} {i : Nat} {j : Int32} (es : c.slots = vs.toArray) (q : vs.length < 2 ^ 31) (hj : j = Int32.ofNat i) (hi : i < vs.length) : ¬ (j < 0 ∨ c.slots.size ≤ j.toNatClampNeg) ∧ j.toNatClampNeg = i := by
  subst hj
  obtain ⟨h1, h2⟩ := o_nat hi q
  refine ⟨?_, h1⟩
  rintro (g | g)
  · exact h2 g
  · rw [h1, es] at g; simp at g; omega
theorem o_iaload (B : o_Bo κ l Z n0 R y bytes ml ret) {a : Addr} {vs : List Value} {j : Int32} {v : Value} (i : Nat) (hd : decode bytes pc = .ok (.iaload, 1)) (A : o_AR Z h a .int vs) (hj : j = Int32.ofNat i) (hv : vs[i]? = some v) (K : o_Go κ Q h k n (pc + 1) Ls (v :: St)) : o_Go κ Q h k n pc Ls (.int j :: .ref a :: St) := by
  obtain ⟨p, e, s, m, args, below, meth, c, rfl, hx, hZ, hby, hml, hown, hret, hlk, hnm⟩ := B
  intro T locs X N eT
  obtain ⟨cl, A, es, q⟩ := A
  obtain ⟨hi, hget⟩ := List.getElem?_eq_some_iff.mp hv
  obtain ⟨h1, h2⟩ := o_in es q hj hi
  obtain ⟨s₂, o, st, r⟩ := K T _ X N eT
  exact ⟨s₂, o, X.iaload hx (by rw [eT]; exact A.1) (State.isArrayOf_alike hZ.alike A.2.1) A.2.2 h1 (by rw [h2, es]; simpa using hv) (g := mkF m pc Ls.toArray (.int j :: .ref a :: St)) rfl rfl (hb hby hd) _ st, r⟩
theorem o_laload (B : o_Bo κ l Z n0 R y bytes ml ret) {a : Addr} {vs : List Value} {j : Int32} {v : Value} (i : Nat) (hd : decode bytes pc = .ok (.laload, 1)) (A : o_AR Z h a .long vs) (hj : j = Int32.ofNat i) (hv : vs[i]? = some v) (K : o_Go κ Q h k n (pc + 1) Ls (v :: St)) : o_Go κ Q h k n pc Ls (.int j :: .ref a :: St) := by
  obtain ⟨p, e, s, m, args, below, meth, c, rfl, hx, hZ, hby, hml, hown, hret, hlk, hnm⟩ := B
  intro T locs X N eT
  obtain ⟨cl, A, es, q⟩ := A
  obtain ⟨hi, hget⟩ := List.getElem?_eq_some_iff.mp hv
  obtain ⟨h1, h2⟩ := o_in es q hj hi
  obtain ⟨s₂, o, st, r⟩ := K T _ X N eT
  exact ⟨s₂, o, X.laload hx (by rw [eT]; exact A.1) (State.isArrayOf_alike hZ.alike A.2.1) A.2.2 h1 (by rw [h2, es]; simpa using hv) (g := mkF m pc Ls.toArray (.int j :: .ref a :: St)) rfl rfl (hb hby hd) _ st, r⟩
theorem o_baload (B : o_Bo κ l Z n0 R y bytes ml ret) {a : Addr} {vs : List Value} {j : Int32} {v : Value} (i : Nat) (hd : decode bytes pc = .ok (.baload, 1)) (A : o_AR Z h a .boolean vs) (hj : j = Int32.ofNat i) (hv : vs[i]? = some v) (K : o_Go κ Q h k n (pc + 1) Ls (v :: St)) : o_Go κ Q h k n pc Ls (.int j :: .ref a :: St) := by
  obtain ⟨p, e, s, m, args, below, meth, c, rfl, hx, hZ, hby, hml, hown, hret, hlk, hnm⟩ := B
  intro T locs X N eT
  obtain ⟨cl, A, es, q⟩ := A
  obtain ⟨hi, hget⟩ := List.getElem?_eq_some_iff.mp hv
  obtain ⟨h1, h2⟩ := o_in es q hj hi
  obtain ⟨s₂, o, st, r⟩ := K T _ X N eT
  exact ⟨s₂, o, X.baloadBooleans hx (by rw [eT]; exact A.1) (State.isArrayOf_alike hZ.alike A.2.1) A.2.2 h1 (by rw [h2, es]; simpa using hv) (g := mkF m pc Ls.toArray (.int j :: .ref a :: St)) rfl rfl (hb hby hd) _ st, r⟩
theorem o_aaload (B : o_Bo κ l Z n0 R y bytes ml ret) {ty : FieldType} {a : Addr} {vs : List Value} {j : Int32} {v : Value} (i : Nat) (hty : ty.isReference = true) (hd : decode bytes pc = .ok (.aaload, 1)) (A : o_AR Z h a ty vs) (hj : j = Int32.ofNat i) (hv : vs[i]? = some v) (K : o_Go κ Q h k n (pc + 1) Ls (v :: St)) : o_Go κ Q h k n pc Ls (.int j :: .ref a :: St) := by
  obtain ⟨p, e, s, m, args, below, meth, c, rfl, hx, hZ, hby, hml, hown, hret, hlk, hnm⟩ := B
  intro T locs X N eT
  obtain ⟨cl, A, es, q⟩ := A
  obtain ⟨hi, hget⟩ := List.getElem?_eq_some_iff.mp hv
  obtain ⟨h1, h2⟩ := o_in es q hj hi
  obtain ⟨s₂, o, st, r⟩ := K T _ X N eT
  exact ⟨s₂, o, X.aaload hx (by rw [eT]; exact A.1) (State.isArrayOf_alike hZ.alike A.2.1) hty A.2.2 h1 (by rw [h2, es]; simpa using hv) (g := mkF m pc Ls.toArray (.int j :: .ref a :: St)) rfl rfl (hb hby hd) _ st, r⟩
theorem o_arraylength (B : o_Bo κ l Z n0 R y bytes ml ret) {ty : FieldType} {a : Addr} {vs : List Value} (hd : decode bytes pc = .ok (.arraylength, 1)) (A : o_AR Z h a ty vs) (K : o_Go κ Q h k n (pc + 1) Ls (.int (Int32.ofNat vs.length) :: St)) : o_Go κ Q h k n pc Ls (.ref a :: St) := by
  obtain ⟨p, e, s, m, args, below, meth, c, rfl, hx, hZ, hby, hml, hown, hret, hlk, hnm⟩ := B
  intro T locs X N eT
  obtain ⟨cl, A, es, q⟩ := A
  obtain ⟨s₂, o, st, r⟩ := K T _ X N eT
  have ez : cl.slots.size.toInt32 = Int32.ofNat vs.length := by rw [es]; simp
  exact ⟨s₂, o, X.arraylength hx (by rw [eT]; exact A.1) (State.isArrayOf_alike hZ.alike A.2.1) (g := mkF m pc Ls.toArray (.ref a :: St)) rfl rfl (hb hby hd) _ (by rw [ez]; exact st), r⟩
theorem o_iastore (B : o_Bo κ l Z n0 R y bytes ml ret) {a : Addr} {vs : List Value} {j : Int32} {x : Int32} (i : Nat) (hd : decode bytes pc = .ok (.iastore, 1)) (A : o_AR Z h a .int vs) (hj : j = Int32.ofNat i) (hi : i < vs.length) (ge : n0 ≤ a) (K : ∀ h', Wr h h' a i (.int x) → o_Go κ Q h' k n (pc + 1) Ls St) : o_Go κ Q h k n pc Ls (.int x :: .int j :: .ref a :: St) := by
  obtain ⟨p, e, s, m, args, below, meth, c, rfl, hx, hZ, hby, hml, hown, hret, hlk, hnm⟩ := B
  intro T locs X N eT
  obtain ⟨cl, A, es, q⟩ := A
  obtain ⟨h1, h2⟩ := o_in es q hj hi
  obtain ⟨T', h', X', e', W, st'⟩ := stI X hx hZ eT A h1 (g := mkF m pc Ls.toArray (.int x :: .int j :: .ref a :: St)) rfl rfl (hb hby hd)
  have W' := W
  rw [h2] at W'
  obtain ⟨s₂, o, st, r⟩ := K h' W' T' _ X' (Fr.snoc X' N ge) e'
  exact ⟨s₂, o, st' _ st, r⟩
theorem o_lastore (B : o_Bo κ l Z n0 R y bytes ml ret) {a : Addr} {vs : List Value} {j : Int32} {x : Int64} (i : Nat) (hd : decode bytes pc = .ok (.lastore, 1)) (A : o_AR Z h a .long vs) (hj : j = Int32.ofNat i) (hi : i < vs.length) (ge : n0 ≤ a) (K : ∀ h', Wr h h' a i (.long x) → o_Go κ Q h' k n (pc + 1) Ls St) : o_Go κ Q h k n pc Ls (.long x :: .int j :: .ref a :: St) := by
  obtain ⟨p, e, s, m, args, below, meth, c, rfl, hx, hZ, hby, hml, hown, hret, hlk, hnm⟩ := B
  intro T locs X N eT
  obtain ⟨cl, A, es, q⟩ := A
  obtain ⟨h1, h2⟩ := o_in es q hj hi
  obtain ⟨T', h', X', e', W, st'⟩ := stJ X hx hZ eT A h1 (g := mkF m pc Ls.toArray (.long x :: .int j :: .ref a :: St)) rfl rfl (hb hby hd)
  have W' := W
  rw [h2] at W'
  obtain ⟨s₂, o, st, r⟩ := K h' W' T' _ X' (Fr.snoc X' N ge) e'
  exact ⟨s₂, o, st' _ st, r⟩
theorem o_bastore (B : o_Bo κ l Z n0 R y bytes ml ret) {a : Addr} {vs : List Value} {j : Int32} {x : Int32} (i : Nat) (hd : decode bytes pc = .ok (.bastore, 1)) (A : o_AR Z h a .boolean vs) (hj : j = Int32.ofNat i) (hi : i < vs.length) (ge : n0 ≤ a) (K : ∀ h', Wr h h' a i (.int (nar .boolean x)) → o_Go κ Q h' k n (pc + 1) Ls St) : o_Go κ Q h k n pc Ls (.int x :: .int j :: .ref a :: St) := by
  obtain ⟨p, e, s, m, args, below, meth, c, rfl, hx, hZ, hby, hml, hown, hret, hlk, hnm⟩ := B
  intro T locs X N eT
  obtain ⟨cl, A, es, q⟩ := A
  obtain ⟨h1, h2⟩ := o_in es q hj hi
  obtain ⟨T', h', X', e', W, st'⟩ := stZ X hx hZ eT A h1 (g := mkF m pc Ls.toArray (.int x :: .int j :: .ref a :: St)) rfl rfl (hb hby hd)
  have W' := W
  rw [h2] at W'
  obtain ⟨s₂, o, st, r⟩ := K h' W' T' _ X' (Fr.snoc X' N ge) e'
  exact ⟨s₂, o, st' _ st, r⟩
theorem o_newarray (B : o_Bo κ l Z n0 R y bytes ml ret) {aty : ArrayType} {cnt : Int32} (cN cap : Nat) (hd : decode bytes pc = .ok (.newarray aty, 2)) (w : (Cond.arrayClass (newarray.typeOf aty)).before a0 Z = true) (hcnt : cnt = Int32.ofNat cN) (hcap : cN ≤ cap) (hbig : cap * 8 ≤ 536870912) (hc : k + 1 ≤ R.cells) (hl : n + cap ≤ R.slots)
    (K : ∀ h', Ext h h' → h.size < h'.size → o_AR Z h' h.size (newarray.typeOf aty) (List.replicate cN (defaultValue (newarray.typeOf aty))) → o_Go κ Q h' (k + 1) (n + cap) (pc + 2) Ls (.ref h.size :: St)) : o_Go κ Q h k n pc Ls (.int cnt :: St) := by
  obtain ⟨p, e, s, m, args, below, meth, c, rfl, hx, hZ, hby, hml, hown, hret, hlk, hnm⟩ := B
  intro T locs X N eT
  obtain ⟨h1, h2⟩ := o_nat (i := cN) (N := cN + 1) (by omega) (by omega)
  obtain ⟨T', h', cA, X', e', E, A, st'⟩ := newP X hx hZ w eT (g := mkF m pc Ls.toArray (.int cnt :: St)) rfl (hb hby hd) rfl (by rw [hcnt]; exact h2) (cap := cap) (by rw [hcnt, h1]; exact hcap) hbig hc hl
  obtain ⟨s₂, o, st, r⟩ := K h' E A.lt ⟨_, A, by simp [newA, hcnt, h1], by simp; omega⟩ T' _ X' N e'
  exact ⟨s₂, o, st' _ st, r⟩
theorem o_iadd_c (B : o_Bo κ l Z n0 R y bytes ml ret) {x y : Int32} (z : Int32) (hd : decode bytes pc = .ok (.iadd, 1)) (hz : x + y = z) (K : o_Go κ Q h k n (pc + 1) Ls (.int z :: St)) : o_Go κ Q h k n pc Ls (.int y :: .int x :: St) := o_iadd B hd (hz.symm ▸ K)
theorem o_isub_c (B : o_Bo κ l Z n0 R y bytes ml ret) {x y : Int32} (z : Int32) (hd : decode bytes pc = .ok (.isub, 1)) (hz : x - y = z) (K : o_Go κ Q h k n (pc + 1) Ls (.int z :: St)) : o_Go κ Q h k n pc Ls (.int y :: .int x :: St) := o_isub B hd (hz.symm ▸ K)
theorem o_iand_c (B : o_Bo κ l Z n0 R y bytes ml ret) {x y : Int32} (z : Int32) (hd : decode bytes pc = .ok (.iand, 1)) (hz : x &&& y = z) (K : o_Go κ Q h k n (pc + 1) Ls (.int z :: St)) : o_Go κ Q h k n pc Ls (.int y :: .int x :: St) := o_iand B hd (hz.symm ▸ K)
theorem o_imul_c (B : o_Bo κ l Z n0 R y bytes ml ret) {x y : Int32} (z : Int32) (hd : decode bytes pc = .ok (.imul, 1)) (hz : x * y = z) (K : o_Go κ Q h k n (pc + 1) Ls (.int z :: St)) : o_Go κ Q h k n pc Ls (.int y :: .int x :: St) := o_imul B hd (hz.symm ▸ K)
theorem o_ior_c (B : o_Bo κ l Z n0 R y bytes ml ret) {x y : Int32} (z : Int32) (hd : decode bytes pc = .ok (.ior, 1)) (hz : x ||| y = z) (K : o_Go κ Q h k n (pc + 1) Ls (.int z :: St)) : o_Go κ Q h k n pc Ls (.int y :: .int x :: St) := o_ior B hd (hz.symm ▸ K)
theorem o_ixor_c (B : o_Bo κ l Z n0 R y bytes ml ret) {x y : Int32} (z : Int32) (hd : decode bytes pc = .ok (.ixor, 1)) (hz : x ^^^ y = z) (K : o_Go κ Q h k n (pc + 1) Ls (.int z :: St)) : o_Go κ Q h k n pc Ls (.int y :: .int x :: St) := o_ixor B hd (hz.symm ▸ K)
theorem o_ishl_c (B : o_Bo κ l Z n0 R y bytes ml ret) {x y : Int32} (z : Int32) (hd : decode bytes pc = .ok (.ishl, 1)) (hz : x <<< (y &&& 31) = z) (K : o_Go κ Q h k n (pc + 1) Ls (.int z :: St)) : o_Go κ Q h k n pc Ls (.int y :: .int x :: St) := o_ishl B hd (hz.symm ▸ K)
theorem o_ishr_c (B : o_Bo κ l Z n0 R y bytes ml ret) {x y : Int32} (z : Int32) (hd : decode bytes pc = .ok (.ishr, 1)) (hz : x >>> (y &&& 31) = z) (K : o_Go κ Q h k n (pc + 1) Ls (.int z :: St)) : o_Go κ Q h k n pc Ls (.int y :: .int x :: St) := o_ishr B hd (hz.symm ▸ K)
theorem o_iushr_c (B : o_Bo κ l Z n0 R y bytes ml ret) {x y : Int32} (z : Int32) (hd : decode bytes pc = .ok (.iushr, 1)) (hz : XT.ushr x y = z) (K : o_Go κ Q h k n (pc + 1) Ls (.int z :: St)) : o_Go κ Q h k n pc Ls (.int y :: .int x :: St) := o_iushr B hd (hz.symm ▸ K)
theorem o_idiv_c (B : o_Bo κ l Z n0 R y bytes ml ret) {x y : Int32} (z : Int32) (hd : decode bytes pc = .ok (.idiv, 1)) (hy : y ≠ 0) (hz : x / y = z) (K : o_Go κ Q h k n (pc + 1) Ls (.int z :: St)) : o_Go κ Q h k n pc Ls (.int y :: .int x :: St) := o_idiv B hd hy (hz.symm ▸ K)
theorem o_irem_c (B : o_Bo κ l Z n0 R y bytes ml ret) {x y : Int32} (z : Int32) (hd : decode bytes pc = .ok (.irem, 1)) (hy : y ≠ 0) (hz : x % y = z) (K : o_Go κ Q h k n (pc + 1) Ls (.int z :: St)) : o_Go κ Q h k n pc Ls (.int y :: .int x :: St) := o_irem B hd hy (hz.symm ▸ K)
theorem o_arraylen (B : o_Bo κ l Z n0 R y bytes ml ret) {ty : FieldType} {a : Addr} {vs : List Value} (z : Int32) (hd : decode bytes pc = .ok (.arraylength, 1)) (A : o_AR Z h a ty vs) (hz : Int32.ofNat vs.length = z) (K : o_Go κ Q h k n (pc + 1) Ls (.int z :: St)) : o_Go κ Q h k n pc Ls (.ref a :: St) := o_arraylength B hd A (hz.symm ▸ K)
theorem o_callS (B : o_Bo κ l Z n0 R y bytes ml ret) {yc : MethodName} {bc : ByteArray} {mc : Nat} {rc : Option FieldType} {rm : Room} {as rest : List Value} {Qc : Option Value → Heap → Prop} {idx : Nat} (W : Nat) (hd : decode bytes pc = .ok (.invokestatic idx, 3))
    (w1 : (Cond.methodLink y.cls idx yc).before a0 Z = true) (w2 : (Cond.static yc).before a0 Z = true) (w3 : (Cond.initialized yc.cls).before a0 Z = true) (w4 : (Cond.code yc bc mc rc).before a0 Z = true) (hy : yc.cls ≠ "java/lang/invoke/MethodHandle" ∧ yc.cls ≠ "java/lang/invoke/VarHandle") {ps : List FieldType} {r0 : Option FieldType} (pd : parseMethodDescriptor yc.desc = some ⟨ps, r0⟩) (hlen : as.length = ps.length)
    (hW : (rest.map fun v => v.category).sum ≤ W) (hf : rm.frames + 1 ≤ R.frames) (hl : W + (mc + 11) + rm.locals ≤ R.locals) (hc : k + rm.cells ≤ R.cells) (hs : n + rm.slots ≤ R.slots) (hLs : Ls.length = ml)
    (C : o_C l Z n0 yc bc mc rc rm as h Qc) (K : ∀ v h', Qc v h' → o_Go κ Q h' (k + rm.cells) (n + rm.slots) (pc + 3) Ls (v.toList ++ rest)) : o_Go κ Q h k n pc Ls (as.reverse ++ rest) := by
  obtain ⟨p, e, s, m, args, below, meth, c, rfl, hx, hZ, hby, hml, hown, hret, hlk, hnm⟩ := B
  intro T locs X N eT
  obtain ⟨v, vm1, ⟨T', L', k', n'⟩, -, X', ⟨Lc, hQ, l', y', z'⟩, st'⟩ := Jvm.LawKit.callS X hx (y := yc) hown (mvT hZ w1) (mvT hZ w2) (mvT hZ w3) (mvT hZ w4) hy (backOf (W := W) (Q := fun v h L => Qc v h ∧ Fr n0 L) (C []) hZ w4 w3 hf hl) (g := mkF m pc Ls.toArray (as.reverse ++ rest)) rfl (by rw [hml, ← hLs]; simp) (argsL := as) (rest := rest) (lenOf pd hlen) rfl (by simpa using hW) (hb hby hd) (fun _ _ => ⟨rfl, eT, hc, hs⟩)
  dsimp only [Pt.U, Pt.locs, Pt.cells, Pt.slots] at X' l' y' z' st' hQ
  subst l' y' z'
  obtain ⟨hq, Nc⟩ := hQ
  obtain ⟨s₂, o, st, r⟩ := K v T'.heap hq T' _ X' (Fr.app N Nc) rfl
  exact ⟨s₂, o, st' _ st, r⟩
theorem o_callN (B : o_Bo κ l Z n0 R y bytes ml ret) {yc : MethodName} {bc : ByteArray} {mc : Nat} {rm : Room} {as rest : List Value} {a : Addr} {Qc : Option Value → Heap → Prop} {idx : Nat} (W : Nat) (hd : decode bytes pc = .ok (.invokespecial idx, 3)) (hin : yc.name = "<init>")
    (w1 : (Cond.methodLink y.cls idx yc).before a0 Z = true) (w2 : (Cond.instanceMethod yc).before a0 Z = true) (w3 : (Cond.initialized yc.cls).before a0 Z = true) (w4 : (Cond.code yc bc mc none).before a0 Z = true) (hy : yc.cls ≠ "java/lang/invoke/MethodHandle" ∧ yc.cls ≠ "java/lang/invoke/VarHandle") {ps : List FieldType} {r0 : Option FieldType} (pd : parseMethodDescriptor yc.desc = some ⟨ps, r0⟩) (hlen : as.length = ps.length)
    (hW : (rest.map fun v => v.category).sum ≤ W) (hf : rm.frames + 1 ≤ R.frames) (hl : W + (mc + 11) + rm.locals ≤ R.locals) (hc : k + rm.cells ≤ R.cells) (hs : n + rm.slots ≤ R.slots) (hLs : Ls.length = ml)
    (C : o_C l Z n0 yc bc mc none rm (.ref a :: as) h Qc) (K : ∀ v h', Qc v h' → o_Go κ Q h' (k + rm.cells) (n + rm.slots) (pc + 3) Ls (v.toList ++ rest)) : o_Go κ Q h k n pc Ls (as.reverse ++ .ref a :: rest) := by
  obtain ⟨p, e, s, m, args, below, meth, c, rfl, hx, hZ, hby, hml, hown, hret, hlk, hnm⟩ := B
  intro T locs X N eT
  obtain ⟨v, vm1, ⟨T', L', k', n'⟩, -, X', ⟨Lc, hQ, l', y', z'⟩, st'⟩ := X.specialBack hx (y := yc) hin hown (mvT hZ w1) (mvT hZ w2) (mvT hZ w4) hy (backOf (W := W) (Q := fun v h L => Qc v h ∧ Fr n0 L) (C []) hZ w4 w3 hf hl) (g := mkF m pc Ls.toArray (as.reverse ++ .ref a :: rest)) rfl (by rw [hml, ← hLs]; simp) (Steps.refl _) (a := a) (argsL := as) (rest := rest) (lenOf pd hlen) rfl (by simpa using hW) (hb hby hd) (fun _ _ => ⟨rfl, eT, hc, hs⟩)
  dsimp only [Pt.U, Pt.locs, Pt.cells, Pt.slots] at X' l' y' z' st' hQ
  subst l' y' z'
  obtain ⟨hq, Nc⟩ := hQ
  obtain ⟨s₂, o, st, r⟩ := K v T'.heap hq T' _ X' (Fr.app N Nc) rfl
  exact ⟨s₂, o, st'.trans st, r⟩
theorem o_callV (B : o_Bo κ l Z n0 R y bytes ml ret) {yc : MethodName} {Cn : String} {bc : ByteArray} {mc : Nat} {rc : Option FieldType} {rm : Room} {as rest : List Value} {a : Addr} {Qc : Option Value → Heap → Prop} {idx : Nat} (W : Nat) (hd : decode bytes pc = .ok (.invokevirtual idx, 3))
    (w1 : (Cond.methodLink y.cls idx yc).before a0 Z = true) (w2 : (Cond.declares yc).before a0 Z = true) (w5 : (Cond.selects Cn yc yc).before a0 Z = true) (w6 : (Cond.instanceMethod yc).before a0 Z = true) (w3 : (Cond.initialized yc.cls).before a0 Z = true) (w4 : (Cond.code yc bc mc rc).before a0 Z = true) (hy : yc.cls ≠ "java/lang/invoke/MethodHandle" ∧ yc.cls ≠ "java/lang/invoke/VarHandle") {ps : List FieldType} {r0 : Option FieldType} (pd : parseMethodDescriptor yc.desc = some ⟨ps, r0⟩) (hlen : as.length = ps.length)
    (hW : (rest.map fun v => v.category).sum ≤ W) (hf : rm.frames + 1 ≤ R.frames) (hl : W + (mc + 11) + rm.locals ≤ R.locals) (hc : k + rm.cells ≤ R.cells) (hs : n + rm.slots ≤ R.slots) (hLs : Ls.length = ml) (E : Exa Z h a Cn)
    (C : o_C l Z n0 yc bc mc rc rm (.ref a :: as) h Qc) (K : ∀ v h', Qc v h' → o_Go κ Q h' (k + rm.cells) (n + rm.slots) (pc + 3) Ls (v.toList ++ rest)) : o_Go κ Q h k n pc Ls (as.reverse ++ .ref a :: rest) := by
  obtain ⟨p, e, s, m, args, below, meth, c, rfl, hx, hZ, hby, hml, hown, hret, hlk, hnm⟩ := B
  intro T locs X N eT
  obtain ⟨cq, kq, qa, qb, qc⟩ := isOf hZ eT E
  obtain ⟨v, vm1, ⟨T', L', k', n'⟩, -, X', ⟨Lc, hQ, l', y', z'⟩, st'⟩ := X.virtualBack hx (y := yc) (z := yc) hown (mvT hZ w1) (mvT hZ w2) (notFace_of_selects (args := #[]) (mvT hZ w5)) (mvT hZ w5) (mvT hZ w6) hy (backOf (W := W) (Q := fun v h L => Qc v h ∧ Fr n0 L) (C []) hZ w4 w3 hf hl) qa qc (g := mkF m pc Ls.toArray (as.reverse ++ .ref a :: rest)) rfl (by rw [hml, ← hLs]; simp) (Steps.refl _) (argsL := as) (rest := rest) (lenOf pd hlen) rfl (by simpa using hW) (hb hby hd) (fun _ _ => ⟨rfl, eT, hc, hs⟩)
  dsimp only [Pt.U, Pt.locs, Pt.cells, Pt.slots] at X' l' y' z' st' hQ
  subst l' y' z'
  obtain ⟨hq, Nc⟩ := hQ
  obtain ⟨s₂, o, st, r⟩ := K v T'.heap hq T' _ X' (Fr.app N Nc) rfl
  exact ⟨s₂, o, st'.trans st, r⟩
theorem o_callS0 (B : o_Bo κ l Z n0 R y bytes ml ret) {yc : MethodName} {bc : ByteArray} {mc : Nat} {rc : Option FieldType} {rm : Room} {rest : List Value} {Qc : Option Value → Heap → Prop} {idx : Nat} (W : Nat) (hd : decode bytes pc = .ok (.invokestatic idx, 3)) (w1 : (Cond.methodLink y.cls idx yc).before a0 Z = true) (w2 : (Cond.static yc).before a0 Z = true) (w3 : (Cond.initialized yc.cls).before a0 Z = true) (w4 : (Cond.code yc bc mc rc).before a0 Z = true) (hy : yc.cls ≠ "java/lang/invoke/MethodHandle" ∧ yc.cls ≠ "java/lang/invoke/VarHandle") {ps : List FieldType} {r0 : Option FieldType} (pd : parseMethodDescriptor yc.desc = some ⟨ps, r0⟩) (hlen : 0 = ps.length) (hW : (rest.map fun v => v.category).sum ≤ W) (hf : rm.frames + 1 ≤ R.frames) (hl : W + (mc + 11) + rm.locals ≤ R.locals) (hc : k + rm.cells ≤ R.cells) (hs : n + rm.slots ≤ R.slots) (hLs : Ls.length = ml) (C : o_C l Z n0 yc bc mc rc rm [] h Qc) (K : ∀ v h', Qc v h' → o_Go κ Q h' (k + rm.cells) (n + rm.slots) (pc + 3) Ls (v.toList ++ rest)) : o_Go κ Q h k n pc Ls (rest) := o_callS B W hd w1 w2 w3 w4 hy pd (as := []) hlen hW hf hl hc hs hLs C K
theorem o_callN0 (B : o_Bo κ l Z n0 R y bytes ml ret) {yc : MethodName} {bc : ByteArray} {mc : Nat} {rm : Room} {rest : List Value} {a : Addr} {Qc : Option Value → Heap → Prop} {idx : Nat} (W : Nat) (hd : decode bytes pc = .ok (.invokespecial idx, 3)) (hin : yc.name = "<init>") (w1 : (Cond.methodLink y.cls idx yc).before a0 Z = true) (w2 : (Cond.instanceMethod yc).before a0 Z = true) (w3 : (Cond.initialized yc.cls).before a0 Z = true) (w4 : (Cond.code yc bc mc none).before a0 Z = true) (hy : yc.cls ≠ "java/lang/invoke/MethodHandle" ∧ yc.cls ≠ "java/lang/invoke/VarHandle") {ps : List FieldType} {r0 : Option FieldType} (pd : parseMethodDescriptor yc.desc = some ⟨ps, r0⟩) (hlen : 0 = ps.length) (hW : (rest.map fun v => v.category).sum ≤ W) (hf : rm.frames + 1 ≤ R.frames) (hl : W + (mc + 11) + rm.locals ≤ R.locals) (hc : k + rm.cells ≤ R.cells) (hs : n + rm.slots ≤ R.slots) (hLs : Ls.length = ml) (C : o_C l Z n0 yc bc mc none rm (.ref a :: []) h Qc) (K : ∀ v h', Qc v h' → o_Go κ Q h' (k + rm.cells) (n + rm.slots) (pc + 3) Ls (v.toList ++ rest)) : o_Go κ Q h k n pc Ls (.ref a :: rest) := o_callN B W hd hin w1 w2 w3 w4 hy pd (as := []) hlen hW hf hl hc hs hLs C K
theorem o_callV0 (B : o_Bo κ l Z n0 R y bytes ml ret) {yc : MethodName} {Cn : String} {bc : ByteArray} {mc : Nat} {rc : Option FieldType} {rm : Room} {rest : List Value} {a : Addr} {Qc : Option Value → Heap → Prop} {idx : Nat} (W : Nat) (hd : decode bytes pc = .ok (.invokevirtual idx, 3)) (w1 : (Cond.methodLink y.cls idx yc).before a0 Z = true) (w2 : (Cond.declares yc).before a0 Z = true) (w5 : (Cond.selects Cn yc yc).before a0 Z = true) (w6 : (Cond.instanceMethod yc).before a0 Z = true) (w3 : (Cond.initialized yc.cls).before a0 Z = true) (w4 : (Cond.code yc bc mc rc).before a0 Z = true) (hy : yc.cls ≠ "java/lang/invoke/MethodHandle" ∧ yc.cls ≠ "java/lang/invoke/VarHandle") {ps : List FieldType} {r0 : Option FieldType} (pd : parseMethodDescriptor yc.desc = some ⟨ps, r0⟩) (hlen : 0 = ps.length) (hW : (rest.map fun v => v.category).sum ≤ W) (hf : rm.frames + 1 ≤ R.frames) (hl : W + (mc + 11) + rm.locals ≤ R.locals) (hc : k + rm.cells ≤ R.cells) (hs : n + rm.slots ≤ R.slots) (hLs : Ls.length = ml) (E : Exa Z h a Cn) (C : o_C l Z n0 yc bc mc rc rm (.ref a :: []) h Qc) (K : ∀ v h', Qc v h' → o_Go κ Q h' (k + rm.cells) (n + rm.slots) (pc + 3) Ls (v.toList ++ rest)) : o_Go κ Q h k n pc Ls (.ref a :: rest) := o_callV B W hd w1 w2 w5 w6 w3 w4 hy pd (as := []) hlen hW hf hl hc hs hLs E C K
theorem o_callS1 (B : o_Bo κ l Z n0 R y bytes ml ret) {yc : MethodName} {bc : ByteArray} {mc : Nat} {rc : Option FieldType} {rm : Room} {v0 : Value} {rest : List Value} {Qc : Option Value → Heap → Prop} {idx : Nat} (W : Nat) (hd : decode bytes pc = .ok (.invokestatic idx, 3)) (w1 : (Cond.methodLink y.cls idx yc).before a0 Z = true) (w2 : (Cond.static yc).before a0 Z = true) (w3 : (Cond.initialized yc.cls).before a0 Z = true) (w4 : (Cond.code yc bc mc rc).before a0 Z = true) (hy : yc.cls ≠ "java/lang/invoke/MethodHandle" ∧ yc.cls ≠ "java/lang/invoke/VarHandle") {ps : List FieldType} {r0 : Option FieldType} (pd : parseMethodDescriptor yc.desc = some ⟨ps, r0⟩) (hlen : 1 = ps.length) (hW : (rest.map fun v => v.category).sum ≤ W) (hf : rm.frames + 1 ≤ R.frames) (hl : W + (mc + 11) + rm.locals ≤ R.locals) (hc : k + rm.cells ≤ R.cells) (hs : n + rm.slots ≤ R.slots) (hLs : Ls.length = ml) (C : o_C l Z n0 yc bc mc rc rm [v0] h Qc) (K : ∀ v h', Qc v h' → o_Go κ Q h' (k + rm.cells) (n + rm.slots) (pc + 3) Ls (v.toList ++ rest)) : o_Go κ Q h k n pc Ls (v0 :: rest) := o_callS B W hd w1 w2 w3 w4 hy pd (as := [v0]) hlen hW hf hl hc hs hLs C K
theorem o_callN1 (B : o_Bo κ l Z n0 R y bytes ml ret) {yc : MethodName} {bc : ByteArray} {mc : Nat} {rm : Room} {v0 : Value} {rest : List Value} {a : Addr} {Qc : Option Value → Heap → Prop} {idx : Nat} (W : Nat) (hd : decode bytes pc = .ok (.invokespecial idx, 3)) (hin : yc.name = "<init>") (w1 : (Cond.methodLink y.cls idx yc).before a0 Z = true) (w2 : (Cond.instanceMethod yc).before a0 Z = true) (w3 : (Cond.initialized yc.cls).before a0 Z = true) (w4 : (Cond.code yc bc mc none).before a0 Z = true) (hy : yc.cls ≠ "java/lang/invoke/MethodHandle" ∧ yc.cls ≠ "java/lang/invoke/VarHandle") {ps : List FieldType} {r0 : Option FieldType} (pd : parseMethodDescriptor yc.desc = some ⟨ps, r0⟩) (hlen : 1 = ps.length) (hW : (rest.map fun v => v.category).sum ≤ W) (hf : rm.frames + 1 ≤ R.frames) (hl : W + (mc + 11) + rm.locals ≤ R.locals) (hc : k + rm.cells ≤ R.cells) (hs : n + rm.slots ≤ R.slots) (hLs : Ls.length = ml) (C : o_C l Z n0 yc bc mc none rm (.ref a :: [v0]) h Qc) (K : ∀ v h', Qc v h' → o_Go κ Q h' (k + rm.cells) (n + rm.slots) (pc + 3) Ls (v.toList ++ rest)) : o_Go κ Q h k n pc Ls (v0 :: .ref a :: rest) := o_callN B W hd hin w1 w2 w3 w4 hy pd (as := [v0]) hlen hW hf hl hc hs hLs C K
theorem o_callV1 (B : o_Bo κ l Z n0 R y bytes ml ret) {yc : MethodName} {Cn : String} {bc : ByteArray} {mc : Nat} {rc : Option FieldType} {rm : Room} {v0 : Value} {rest : List Value} {a : Addr} {Qc : Option Value → Heap → Prop} {idx : Nat} (W : Nat) (hd : decode bytes pc = .ok (.invokevirtual idx, 3)) (w1 : (Cond.methodLink y.cls idx yc).before a0 Z = true) (w2 : (Cond.declares yc).before a0 Z = true) (w5 : (Cond.selects Cn yc yc).before a0 Z = true) (w6 : (Cond.instanceMethod yc).before a0 Z = true) (w3 : (Cond.initialized yc.cls).before a0 Z = true) (w4 : (Cond.code yc bc mc rc).before a0 Z = true) (hy : yc.cls ≠ "java/lang/invoke/MethodHandle" ∧ yc.cls ≠ "java/lang/invoke/VarHandle") {ps : List FieldType} {r0 : Option FieldType} (pd : parseMethodDescriptor yc.desc = some ⟨ps, r0⟩) (hlen : 1 = ps.length) (hW : (rest.map fun v => v.category).sum ≤ W) (hf : rm.frames + 1 ≤ R.frames) (hl : W + (mc + 11) + rm.locals ≤ R.locals) (hc : k + rm.cells ≤ R.cells) (hs : n + rm.slots ≤ R.slots) (hLs : Ls.length = ml) (E : Exa Z h a Cn) (C : o_C l Z n0 yc bc mc rc rm (.ref a :: [v0]) h Qc) (K : ∀ v h', Qc v h' → o_Go κ Q h' (k + rm.cells) (n + rm.slots) (pc + 3) Ls (v.toList ++ rest)) : o_Go κ Q h k n pc Ls (v0 :: .ref a :: rest) := o_callV B W hd w1 w2 w5 w6 w3 w4 hy pd (as := [v0]) hlen hW hf hl hc hs hLs E C K
theorem o_callS2 (B : o_Bo κ l Z n0 R y bytes ml ret) {yc : MethodName} {bc : ByteArray} {mc : Nat} {rc : Option FieldType} {rm : Room} {v0 v1 : Value} {rest : List Value} {Qc : Option Value → Heap → Prop} {idx : Nat} (W : Nat) (hd : decode bytes pc = .ok (.invokestatic idx, 3)) (w1 : (Cond.methodLink y.cls idx yc).before a0 Z = true) (w2 : (Cond.static yc).before a0 Z = true) (w3 : (Cond.initialized yc.cls).before a0 Z = true) (w4 : (Cond.code yc bc mc rc).before a0 Z = true) (hy : yc.cls ≠ "java/lang/invoke/MethodHandle" ∧ yc.cls ≠ "java/lang/invoke/VarHandle") {ps : List FieldType} {r0 : Option FieldType} (pd : parseMethodDescriptor yc.desc = some ⟨ps, r0⟩) (hlen : 2 = ps.length) (hW : (rest.map fun v => v.category).sum ≤ W) (hf : rm.frames + 1 ≤ R.frames) (hl : W + (mc + 11) + rm.locals ≤ R.locals) (hc : k + rm.cells ≤ R.cells) (hs : n + rm.slots ≤ R.slots) (hLs : Ls.length = ml) (C : o_C l Z n0 yc bc mc rc rm [v0, v1] h Qc) (K : ∀ v h', Qc v h' → o_Go κ Q h' (k + rm.cells) (n + rm.slots) (pc + 3) Ls (v.toList ++ rest)) : o_Go κ Q h k n pc Ls (v1 :: v0 :: rest) := o_callS B W hd w1 w2 w3 w4 hy pd (as := [v0, v1]) hlen hW hf hl hc hs hLs C K
theorem o_callN2 (B : o_Bo κ l Z n0 R y bytes ml ret) {yc : MethodName} {bc : ByteArray} {mc : Nat} {rm : Room} {v0 v1 : Value} {rest : List Value} {a : Addr} {Qc : Option Value → Heap → Prop} {idx : Nat} (W : Nat) (hd : decode bytes pc = .ok (.invokespecial idx, 3)) (hin : yc.name = "<init>") (w1 : (Cond.methodLink y.cls idx yc).before a0 Z = true) (w2 : (Cond.instanceMethod yc).before a0 Z = true) (w3 : (Cond.initialized yc.cls).before a0 Z = true) (w4 : (Cond.code yc bc mc none).before a0 Z = true) (hy : yc.cls ≠ "java/lang/invoke/MethodHandle" ∧ yc.cls ≠ "java/lang/invoke/VarHandle") {ps : List FieldType} {r0 : Option FieldType} (pd : parseMethodDescriptor yc.desc = some ⟨ps, r0⟩) (hlen : 2 = ps.length) (hW : (rest.map fun v => v.category).sum ≤ W) (hf : rm.frames + 1 ≤ R.frames) (hl : W + (mc + 11) + rm.locals ≤ R.locals) (hc : k + rm.cells ≤ R.cells) (hs : n + rm.slots ≤ R.slots) (hLs : Ls.length = ml) (C : o_C l Z n0 yc bc mc none rm (.ref a :: [v0, v1]) h Qc) (K : ∀ v h', Qc v h' → o_Go κ Q h' (k + rm.cells) (n + rm.slots) (pc + 3) Ls (v.toList ++ rest)) : o_Go κ Q h k n pc Ls (v1 :: v0 :: .ref a :: rest) := o_callN B W hd hin w1 w2 w3 w4 hy pd (as := [v0, v1]) hlen hW hf hl hc hs hLs C K
theorem o_callV2 (B : o_Bo κ l Z n0 R y bytes ml ret) {yc : MethodName} {Cn : String} {bc : ByteArray} {mc : Nat} {rc : Option FieldType} {rm : Room} {v0 v1 : Value} {rest : List Value} {a : Addr} {Qc : Option Value → Heap → Prop} {idx : Nat} (W : Nat) (hd : decode bytes pc = .ok (.invokevirtual idx, 3)) (w1 : (Cond.methodLink y.cls idx yc).before a0 Z = true) (w2 : (Cond.declares yc).before a0 Z = true) (w5 : (Cond.selects Cn yc yc).before a0 Z = true) (w6 : (Cond.instanceMethod yc).before a0 Z = true) (w3 : (Cond.initialized yc.cls).before a0 Z = true) (w4 : (Cond.code yc bc mc rc).before a0 Z = true) (hy : yc.cls ≠ "java/lang/invoke/MethodHandle" ∧ yc.cls ≠ "java/lang/invoke/VarHandle") {ps : List FieldType} {r0 : Option FieldType} (pd : parseMethodDescriptor yc.desc = some ⟨ps, r0⟩) (hlen : 2 = ps.length) (hW : (rest.map fun v => v.category).sum ≤ W) (hf : rm.frames + 1 ≤ R.frames) (hl : W + (mc + 11) + rm.locals ≤ R.locals) (hc : k + rm.cells ≤ R.cells) (hs : n + rm.slots ≤ R.slots) (hLs : Ls.length = ml) (E : Exa Z h a Cn) (C : o_C l Z n0 yc bc mc rc rm (.ref a :: [v0, v1]) h Qc) (K : ∀ v h', Qc v h' → o_Go κ Q h' (k + rm.cells) (n + rm.slots) (pc + 3) Ls (v.toList ++ rest)) : o_Go κ Q h k n pc Ls (v1 :: v0 :: .ref a :: rest) := o_callV B W hd w1 w2 w5 w6 w3 w4 hy pd (as := [v0, v1]) hlen hW hf hl hc hs hLs E C K
theorem o_callS3 (B : o_Bo κ l Z n0 R y bytes ml ret) {yc : MethodName} {bc : ByteArray} {mc : Nat} {rc : Option FieldType} {rm : Room} {v0 v1 v2 : Value} {rest : List Value} {Qc : Option Value → Heap → Prop} {idx : Nat} (W : Nat) (hd : decode bytes pc = .ok (.invokestatic idx, 3)) (w1 : (Cond.methodLink y.cls idx yc).before a0 Z = true) (w2 : (Cond.static yc).before a0 Z = true) (w3 : (Cond.initialized yc.cls).before a0 Z = true) (w4 : (Cond.code yc bc mc rc).before a0 Z = true) (hy : yc.cls ≠ "java/lang/invoke/MethodHandle" ∧ yc.cls ≠ "java/lang/invoke/VarHandle") {ps : List FieldType} {r0 : Option FieldType} (pd : parseMethodDescriptor yc.desc = some ⟨ps, r0⟩) (hlen : 3 = ps.length) (hW : (rest.map fun v => v.category).sum ≤ W) (hf : rm.frames + 1 ≤ R.frames) (hl : W + (mc + 11) + rm.locals ≤ R.locals) (hc : k + rm.cells ≤ R.cells) (hs : n + rm.slots ≤ R.slots) (hLs : Ls.length = ml) (C : o_C l Z n0 yc bc mc rc rm [v0, v1, v2] h Qc) (K : ∀ v h', Qc v h' → o_Go κ Q h' (k + rm.cells) (n + rm.slots) (pc + 3) Ls (v.toList ++ rest)) : o_Go κ Q h k n pc Ls (v2 :: v1 :: v0 :: rest) := o_callS B W hd w1 w2 w3 w4 hy pd (as := [v0, v1, v2]) hlen hW hf hl hc hs hLs C K
theorem o_callN3 (B : o_Bo κ l Z n0 R y bytes ml ret) {yc : MethodName} {bc : ByteArray} {mc : Nat} {rm : Room} {v0 v1 v2 : Value} {rest : List Value} {a : Addr} {Qc : Option Value → Heap → Prop} {idx : Nat} (W : Nat) (hd : decode bytes pc = .ok (.invokespecial idx, 3)) (hin : yc.name = "<init>") (w1 : (Cond.methodLink y.cls idx yc).before a0 Z = true) (w2 : (Cond.instanceMethod yc).before a0 Z = true) (w3 : (Cond.initialized yc.cls).before a0 Z = true) (w4 : (Cond.code yc bc mc none).before a0 Z = true) (hy : yc.cls ≠ "java/lang/invoke/MethodHandle" ∧ yc.cls ≠ "java/lang/invoke/VarHandle") {ps : List FieldType} {r0 : Option FieldType} (pd : parseMethodDescriptor yc.desc = some ⟨ps, r0⟩) (hlen : 3 = ps.length) (hW : (rest.map fun v => v.category).sum ≤ W) (hf : rm.frames + 1 ≤ R.frames) (hl : W + (mc + 11) + rm.locals ≤ R.locals) (hc : k + rm.cells ≤ R.cells) (hs : n + rm.slots ≤ R.slots) (hLs : Ls.length = ml) (C : o_C l Z n0 yc bc mc none rm (.ref a :: [v0, v1, v2]) h Qc) (K : ∀ v h', Qc v h' → o_Go κ Q h' (k + rm.cells) (n + rm.slots) (pc + 3) Ls (v.toList ++ rest)) : o_Go κ Q h k n pc Ls (v2 :: v1 :: v0 :: .ref a :: rest) := o_callN B W hd hin w1 w2 w3 w4 hy pd (as := [v0, v1, v2]) hlen hW hf hl hc hs hLs C K
theorem o_callV3 (B : o_Bo κ l Z n0 R y bytes ml ret) {yc : MethodName} {Cn : String} {bc : ByteArray} {mc : Nat} {rc : Option FieldType} {rm : Room} {v0 v1 v2 : Value} {rest : List Value} {a : Addr} {Qc : Option Value → Heap → Prop} {idx : Nat} (W : Nat) (hd : decode bytes pc = .ok (.invokevirtual idx, 3)) (w1 : (Cond.methodLink y.cls idx yc).before a0 Z = true) (w2 : (Cond.declares yc).before a0 Z = true) (w5 : (Cond.selects Cn yc yc).before a0 Z = true) (w6 : (Cond.instanceMethod yc).before a0 Z = true) (w3 : (Cond.initialized yc.cls).before a0 Z = true) (w4 : (Cond.code yc bc mc rc).before a0 Z = true) (hy : yc.cls ≠ "java/lang/invoke/MethodHandle" ∧ yc.cls ≠ "java/lang/invoke/VarHandle") {ps : List FieldType} {r0 : Option FieldType} (pd : parseMethodDescriptor yc.desc = some ⟨ps, r0⟩) (hlen : 3 = ps.length) (hW : (rest.map fun v => v.category).sum ≤ W) (hf : rm.frames + 1 ≤ R.frames) (hl : W + (mc + 11) + rm.locals ≤ R.locals) (hc : k + rm.cells ≤ R.cells) (hs : n + rm.slots ≤ R.slots) (hLs : Ls.length = ml) (E : Exa Z h a Cn) (C : o_C l Z n0 yc bc mc rc rm (.ref a :: [v0, v1, v2]) h Qc) (K : ∀ v h', Qc v h' → o_Go κ Q h' (k + rm.cells) (n + rm.slots) (pc + 3) Ls (v.toList ++ rest)) : o_Go κ Q h k n pc Ls (v2 :: v1 :: v0 :: .ref a :: rest) := o_callV B W hd w1 w2 w5 w6 w3 w4 hy pd (as := [v0, v1, v2]) hlen hW hf hl hc hs hLs E C K
theorem o_callS4 (B : o_Bo κ l Z n0 R y bytes ml ret) {yc : MethodName} {bc : ByteArray} {mc : Nat} {rc : Option FieldType} {rm : Room} {v0 v1 v2 v3 : Value} {rest : List Value} {Qc : Option Value → Heap → Prop} {idx : Nat} (W : Nat) (hd : decode bytes pc = .ok (.invokestatic idx, 3)) (w1 : (Cond.methodLink y.cls idx yc).before a0 Z = true) (w2 : (Cond.static yc).before a0 Z = true) (w3 : (Cond.initialized yc.cls).before a0 Z = true) (w4 : (Cond.code yc bc mc rc).before a0 Z = true) (hy : yc.cls ≠ "java/lang/invoke/MethodHandle" ∧ yc.cls ≠ "java/lang/invoke/VarHandle") {ps : List FieldType} {r0 : Option FieldType} (pd : parseMethodDescriptor yc.desc = some ⟨ps, r0⟩) (hlen : 4 = ps.length) (hW : (rest.map fun v => v.category).sum ≤ W) (hf : rm.frames + 1 ≤ R.frames) (hl : W + (mc + 11) + rm.locals ≤ R.locals) (hc : k + rm.cells ≤ R.cells) (hs : n + rm.slots ≤ R.slots) (hLs : Ls.length = ml) (C : o_C l Z n0 yc bc mc rc rm [v0, v1, v2, v3] h Qc) (K : ∀ v h', Qc v h' → o_Go κ Q h' (k + rm.cells) (n + rm.slots) (pc + 3) Ls (v.toList ++ rest)) : o_Go κ Q h k n pc Ls (v3 :: v2 :: v1 :: v0 :: rest) := o_callS B W hd w1 w2 w3 w4 hy pd (as := [v0, v1, v2, v3]) hlen hW hf hl hc hs hLs C K
theorem o_callN4 (B : o_Bo κ l Z n0 R y bytes ml ret) {yc : MethodName} {bc : ByteArray} {mc : Nat} {rm : Room} {v0 v1 v2 v3 : Value} {rest : List Value} {a : Addr} {Qc : Option Value → Heap → Prop} {idx : Nat} (W : Nat) (hd : decode bytes pc = .ok (.invokespecial idx, 3)) (hin : yc.name = "<init>") (w1 : (Cond.methodLink y.cls idx yc).before a0 Z = true) (w2 : (Cond.instanceMethod yc).before a0 Z = true) (w3 : (Cond.initialized yc.cls).before a0 Z = true) (w4 : (Cond.code yc bc mc none).before a0 Z = true) (hy : yc.cls ≠ "java/lang/invoke/MethodHandle" ∧ yc.cls ≠ "java/lang/invoke/VarHandle") {ps : List FieldType} {r0 : Option FieldType} (pd : parseMethodDescriptor yc.desc = some ⟨ps, r0⟩) (hlen : 4 = ps.length) (hW : (rest.map fun v => v.category).sum ≤ W) (hf : rm.frames + 1 ≤ R.frames) (hl : W + (mc + 11) + rm.locals ≤ R.locals) (hc : k + rm.cells ≤ R.cells) (hs : n + rm.slots ≤ R.slots) (hLs : Ls.length = ml) (C : o_C l Z n0 yc bc mc none rm (.ref a :: [v0, v1, v2, v3]) h Qc) (K : ∀ v h', Qc v h' → o_Go κ Q h' (k + rm.cells) (n + rm.slots) (pc + 3) Ls (v.toList ++ rest)) : o_Go κ Q h k n pc Ls (v3 :: v2 :: v1 :: v0 :: .ref a :: rest) := o_callN B W hd hin w1 w2 w3 w4 hy pd (as := [v0, v1, v2, v3]) hlen hW hf hl hc hs hLs C K
theorem o_callV4 (B : o_Bo κ l Z n0 R y bytes ml ret) {yc : MethodName} {Cn : String} {bc : ByteArray} {mc : Nat} {rc : Option FieldType} {rm : Room} {v0 v1 v2 v3 : Value} {rest : List Value} {a : Addr} {Qc : Option Value → Heap → Prop} {idx : Nat} (W : Nat) (hd : decode bytes pc = .ok (.invokevirtual idx, 3)) (w1 : (Cond.methodLink y.cls idx yc).before a0 Z = true) (w2 : (Cond.declares yc).before a0 Z = true) (w5 : (Cond.selects Cn yc yc).before a0 Z = true) (w6 : (Cond.instanceMethod yc).before a0 Z = true) (w3 : (Cond.initialized yc.cls).before a0 Z = true) (w4 : (Cond.code yc bc mc rc).before a0 Z = true) (hy : yc.cls ≠ "java/lang/invoke/MethodHandle" ∧ yc.cls ≠ "java/lang/invoke/VarHandle") {ps : List FieldType} {r0 : Option FieldType} (pd : parseMethodDescriptor yc.desc = some ⟨ps, r0⟩) (hlen : 4 = ps.length) (hW : (rest.map fun v => v.category).sum ≤ W) (hf : rm.frames + 1 ≤ R.frames) (hl : W + (mc + 11) + rm.locals ≤ R.locals) (hc : k + rm.cells ≤ R.cells) (hs : n + rm.slots ≤ R.slots) (hLs : Ls.length = ml) (E : Exa Z h a Cn) (C : o_C l Z n0 yc bc mc rc rm (.ref a :: [v0, v1, v2, v3]) h Qc) (K : ∀ v h', Qc v h' → o_Go κ Q h' (k + rm.cells) (n + rm.slots) (pc + 3) Ls (v.toList ++ rest)) : o_Go κ Q h k n pc Ls (v3 :: v2 :: v1 :: v0 :: .ref a :: rest) := o_callV B W hd w1 w2 w5 w6 w3 w4 hy pd (as := [v0, v1, v2, v3]) hlen hW hf hl hc hs hLs E C K
theorem o_callS5 (B : o_Bo κ l Z n0 R y bytes ml ret) {yc : MethodName} {bc : ByteArray} {mc : Nat} {rc : Option FieldType} {rm : Room} {v0 v1 v2 v3 v4 : Value} {rest : List Value} {Qc : Option Value → Heap → Prop} {idx : Nat} (W : Nat) (hd : decode bytes pc = .ok (.invokestatic idx, 3)) (w1 : (Cond.methodLink y.cls idx yc).before a0 Z = true) (w2 : (Cond.static yc).before a0 Z = true) (w3 : (Cond.initialized yc.cls).before a0 Z = true) (w4 : (Cond.code yc bc mc rc).before a0 Z = true) (hy : yc.cls ≠ "java/lang/invoke/MethodHandle" ∧ yc.cls ≠ "java/lang/invoke/VarHandle") {ps : List FieldType} {r0 : Option FieldType} (pd : parseMethodDescriptor yc.desc = some ⟨ps, r0⟩) (hlen : 5 = ps.length) (hW : (rest.map fun v => v.category).sum ≤ W) (hf : rm.frames + 1 ≤ R.frames) (hl : W + (mc + 11) + rm.locals ≤ R.locals) (hc : k + rm.cells ≤ R.cells) (hs : n + rm.slots ≤ R.slots) (hLs : Ls.length = ml) (C : o_C l Z n0 yc bc mc rc rm [v0, v1, v2, v3, v4] h Qc) (K : ∀ v h', Qc v h' → o_Go κ Q h' (k + rm.cells) (n + rm.slots) (pc + 3) Ls (v.toList ++ rest)) : o_Go κ Q h k n pc Ls (v4 :: v3 :: v2 :: v1 :: v0 :: rest) := o_callS B W hd w1 w2 w3 w4 hy pd (as := [v0, v1, v2, v3, v4]) hlen hW hf hl hc hs hLs C K
theorem o_callN5 (B : o_Bo κ l Z n0 R y bytes ml ret) {yc : MethodName} {bc : ByteArray} {mc : Nat} {rm : Room} {v0 v1 v2 v3 v4 : Value} {rest : List Value} {a : Addr} {Qc : Option Value → Heap → Prop} {idx : Nat} (W : Nat) (hd : decode bytes pc = .ok (.invokespecial idx, 3)) (hin : yc.name = "<init>") (w1 : (Cond.methodLink y.cls idx yc).before a0 Z = true) (w2 : (Cond.instanceMethod yc).before a0 Z = true) (w3 : (Cond.initialized yc.cls).before a0 Z = true) (w4 : (Cond.code yc bc mc none).before a0 Z = true) (hy : yc.cls ≠ "java/lang/invoke/MethodHandle" ∧ yc.cls ≠ "java/lang/invoke/VarHandle") {ps : List FieldType} {r0 : Option FieldType} (pd : parseMethodDescriptor yc.desc = some ⟨ps, r0⟩) (hlen : 5 = ps.length) (hW : (rest.map fun v => v.category).sum ≤ W) (hf : rm.frames + 1 ≤ R.frames) (hl : W + (mc + 11) + rm.locals ≤ R.locals) (hc : k + rm.cells ≤ R.cells) (hs : n + rm.slots ≤ R.slots) (hLs : Ls.length = ml) (C : o_C l Z n0 yc bc mc none rm (.ref a :: [v0, v1, v2, v3, v4]) h Qc) (K : ∀ v h', Qc v h' → o_Go κ Q h' (k + rm.cells) (n + rm.slots) (pc + 3) Ls (v.toList ++ rest)) : o_Go κ Q h k n pc Ls (v4 :: v3 :: v2 :: v1 :: v0 :: .ref a :: rest) := o_callN B W hd hin w1 w2 w3 w4 hy pd (as := [v0, v1, v2, v3, v4]) hlen hW hf hl hc hs hLs C K
theorem o_callV5 (B : o_Bo κ l Z n0 R y bytes ml ret) {yc : MethodName} {Cn : String} {bc : ByteArray} {mc : Nat} {rc : Option FieldType} {rm : Room} {v0 v1 v2 v3 v4 : Value} {rest : List Value} {a : Addr} {Qc : Option Value → Heap → Prop} {idx : Nat} (W : Nat) (hd : decode bytes pc = .ok (.invokevirtual idx, 3)) (w1 : (Cond.methodLink y.cls idx yc).before a0 Z = true) (w2 : (Cond.declares yc).before a0 Z = true) (w5 : (Cond.selects Cn yc yc).before a0 Z = true) (w6 : (Cond.instanceMethod yc).before a0 Z = true) (w3 : (Cond.initialized yc.cls).before a0 Z = true) (w4 : (Cond.code yc bc mc rc).before a0 Z = true) (hy : yc.cls ≠ "java/lang/invoke/MethodHandle" ∧ yc.cls ≠ "java/lang/invoke/VarHandle") {ps : List FieldType} {r0 : Option FieldType} (pd : parseMethodDescriptor yc.desc = some ⟨ps, r0⟩) (hlen : 5 = ps.length) (hW : (rest.map fun v => v.category).sum ≤ W) (hf : rm.frames + 1 ≤ R.frames) (hl : W + (mc + 11) + rm.locals ≤ R.locals) (hc : k + rm.cells ≤ R.cells) (hs : n + rm.slots ≤ R.slots) (hLs : Ls.length = ml) (E : Exa Z h a Cn) (C : o_C l Z n0 yc bc mc rc rm (.ref a :: [v0, v1, v2, v3, v4]) h Qc) (K : ∀ v h', Qc v h' → o_Go κ Q h' (k + rm.cells) (n + rm.slots) (pc + 3) Ls (v.toList ++ rest)) : o_Go κ Q h k n pc Ls (v4 :: v3 :: v2 :: v1 :: v0 :: .ref a :: rest) := o_callV B W hd w1 w2 w5 w6 w3 w4 hy pd (as := [v0, v1, v2, v3, v4]) hlen hW hf hl hc hs hLs E C K
theorem o_callS6 (B : o_Bo κ l Z n0 R y bytes ml ret) {yc : MethodName} {bc : ByteArray} {mc : Nat} {rc : Option FieldType} {rm : Room} {v0 v1 v2 v3 v4 v5 : Value} {rest : List Value} {Qc : Option Value → Heap → Prop} {idx : Nat} (W : Nat) (hd : decode bytes pc = .ok (.invokestatic idx, 3)) (w1 : (Cond.methodLink y.cls idx yc).before a0 Z = true) (w2 : (Cond.static yc).before a0 Z = true) (w3 : (Cond.initialized yc.cls).before a0 Z = true) (w4 : (Cond.code yc bc mc rc).before a0 Z = true) (hy : yc.cls ≠ "java/lang/invoke/MethodHandle" ∧ yc.cls ≠ "java/lang/invoke/VarHandle") {ps : List FieldType} {r0 : Option FieldType} (pd : parseMethodDescriptor yc.desc = some ⟨ps, r0⟩) (hlen : 6 = ps.length) (hW : (rest.map fun v => v.category).sum ≤ W) (hf : rm.frames + 1 ≤ R.frames) (hl : W + (mc + 11) + rm.locals ≤ R.locals) (hc : k + rm.cells ≤ R.cells) (hs : n + rm.slots ≤ R.slots) (hLs : Ls.length = ml) (C : o_C l Z n0 yc bc mc rc rm [v0, v1, v2, v3, v4, v5] h Qc) (K : ∀ v h', Qc v h' → o_Go κ Q h' (k + rm.cells) (n + rm.slots) (pc + 3) Ls (v.toList ++ rest)) : o_Go κ Q h k n pc Ls (v5 :: v4 :: v3 :: v2 :: v1 :: v0 :: rest) := o_callS B W hd w1 w2 w3 w4 hy pd (as := [v0, v1, v2, v3, v4, v5]) hlen hW hf hl hc hs hLs C K
theorem o_callN6 (B : o_Bo κ l Z n0 R y bytes ml ret) {yc : MethodName} {bc : ByteArray} {mc : Nat} {rm : Room} {v0 v1 v2 v3 v4 v5 : Value} {rest : List Value} {a : Addr} {Qc : Option Value → Heap → Prop} {idx : Nat} (W : Nat) (hd : decode bytes pc = .ok (.invokespecial idx, 3)) (hin : yc.name = "<init>") (w1 : (Cond.methodLink y.cls idx yc).before a0 Z = true) (w2 : (Cond.instanceMethod yc).before a0 Z = true) (w3 : (Cond.initialized yc.cls).before a0 Z = true) (w4 : (Cond.code yc bc mc none).before a0 Z = true) (hy : yc.cls ≠ "java/lang/invoke/MethodHandle" ∧ yc.cls ≠ "java/lang/invoke/VarHandle") {ps : List FieldType} {r0 : Option FieldType} (pd : parseMethodDescriptor yc.desc = some ⟨ps, r0⟩) (hlen : 6 = ps.length) (hW : (rest.map fun v => v.category).sum ≤ W) (hf : rm.frames + 1 ≤ R.frames) (hl : W + (mc + 11) + rm.locals ≤ R.locals) (hc : k + rm.cells ≤ R.cells) (hs : n + rm.slots ≤ R.slots) (hLs : Ls.length = ml) (C : o_C l Z n0 yc bc mc none rm (.ref a :: [v0, v1, v2, v3, v4, v5]) h Qc) (K : ∀ v h', Qc v h' → o_Go κ Q h' (k + rm.cells) (n + rm.slots) (pc + 3) Ls (v.toList ++ rest)) : o_Go κ Q h k n pc Ls (v5 :: v4 :: v3 :: v2 :: v1 :: v0 :: .ref a :: rest) := o_callN B W hd hin w1 w2 w3 w4 hy pd (as := [v0, v1, v2, v3, v4, v5]) hlen hW hf hl hc hs hLs C K
theorem o_callV6 (B : o_Bo κ l Z n0 R y bytes ml ret) {yc : MethodName} {Cn : String} {bc : ByteArray} {mc : Nat} {rc : Option FieldType} {rm : Room} {v0 v1 v2 v3 v4 v5 : Value} {rest : List Value} {a : Addr} {Qc : Option Value → Heap → Prop} {idx : Nat} (W : Nat) (hd : decode bytes pc = .ok (.invokevirtual idx, 3)) (w1 : (Cond.methodLink y.cls idx yc).before a0 Z = true) (w2 : (Cond.declares yc).before a0 Z = true) (w5 : (Cond.selects Cn yc yc).before a0 Z = true) (w6 : (Cond.instanceMethod yc).before a0 Z = true) (w3 : (Cond.initialized yc.cls).before a0 Z = true) (w4 : (Cond.code yc bc mc rc).before a0 Z = true) (hy : yc.cls ≠ "java/lang/invoke/MethodHandle" ∧ yc.cls ≠ "java/lang/invoke/VarHandle") {ps : List FieldType} {r0 : Option FieldType} (pd : parseMethodDescriptor yc.desc = some ⟨ps, r0⟩) (hlen : 6 = ps.length) (hW : (rest.map fun v => v.category).sum ≤ W) (hf : rm.frames + 1 ≤ R.frames) (hl : W + (mc + 11) + rm.locals ≤ R.locals) (hc : k + rm.cells ≤ R.cells) (hs : n + rm.slots ≤ R.slots) (hLs : Ls.length = ml) (E : Exa Z h a Cn) (C : o_C l Z n0 yc bc mc rc rm (.ref a :: [v0, v1, v2, v3, v4, v5]) h Qc) (K : ∀ v h', Qc v h' → o_Go κ Q h' (k + rm.cells) (n + rm.slots) (pc + 3) Ls (v.toList ++ rest)) : o_Go κ Q h k n pc Ls (v5 :: v4 :: v3 :: v2 :: v1 :: v0 :: .ref a :: rest) := o_callV B W hd w1 w2 w5 w6 w3 w4 hy pd (as := [v0, v1, v2, v3, v4, v5]) hlen hW hf hl hc hs hLs E C K
theorem o_callS7 (B : o_Bo κ l Z n0 R y bytes ml ret) {yc : MethodName} {bc : ByteArray} {mc : Nat} {rc : Option FieldType} {rm : Room} {v0 v1 v2 v3 v4 v5 v6 : Value} {rest : List Value} {Qc : Option Value → Heap → Prop} {idx : Nat} (W : Nat) (hd : decode bytes pc = .ok (.invokestatic idx, 3)) (w1 : (Cond.methodLink y.cls idx yc).before a0 Z = true) (w2 : (Cond.static yc).before a0 Z = true) (w3 : (Cond.initialized yc.cls).before a0 Z = true) (w4 : (Cond.code yc bc mc rc).before a0 Z = true) (hy : yc.cls ≠ "java/lang/invoke/MethodHandle" ∧ yc.cls ≠ "java/lang/invoke/VarHandle") {ps : List FieldType} {r0 : Option FieldType} (pd : parseMethodDescriptor yc.desc = some ⟨ps, r0⟩) (hlen : 7 = ps.length) (hW : (rest.map fun v => v.category).sum ≤ W) (hf : rm.frames + 1 ≤ R.frames) (hl : W + (mc + 11) + rm.locals ≤ R.locals) (hc : k + rm.cells ≤ R.cells) (hs : n + rm.slots ≤ R.slots) (hLs : Ls.length = ml) (C : o_C l Z n0 yc bc mc rc rm [v0, v1, v2, v3, v4, v5, v6] h Qc) (K : ∀ v h', Qc v h' → o_Go κ Q h' (k + rm.cells) (n + rm.slots) (pc + 3) Ls (v.toList ++ rest)) : o_Go κ Q h k n pc Ls (v6 :: v5 :: v4 :: v3 :: v2 :: v1 :: v0 :: rest) := o_callS B W hd w1 w2 w3 w4 hy pd (as := [v0, v1, v2, v3, v4, v5, v6]) hlen hW hf hl hc hs hLs C K
theorem o_callN7 (B : o_Bo κ l Z n0 R y bytes ml ret) {yc : MethodName} {bc : ByteArray} {mc : Nat} {rm : Room} {v0 v1 v2 v3 v4 v5 v6 : Value} {rest : List Value} {a : Addr} {Qc : Option Value → Heap → Prop} {idx : Nat} (W : Nat) (hd : decode bytes pc = .ok (.invokespecial idx, 3)) (hin : yc.name = "<init>") (w1 : (Cond.methodLink y.cls idx yc).before a0 Z = true) (w2 : (Cond.instanceMethod yc).before a0 Z = true) (w3 : (Cond.initialized yc.cls).before a0 Z = true) (w4 : (Cond.code yc bc mc none).before a0 Z = true) (hy : yc.cls ≠ "java/lang/invoke/MethodHandle" ∧ yc.cls ≠ "java/lang/invoke/VarHandle") {ps : List FieldType} {r0 : Option FieldType} (pd : parseMethodDescriptor yc.desc = some ⟨ps, r0⟩) (hlen : 7 = ps.length) (hW : (rest.map fun v => v.category).sum ≤ W) (hf : rm.frames + 1 ≤ R.frames) (hl : W + (mc + 11) + rm.locals ≤ R.locals) (hc : k + rm.cells ≤ R.cells) (hs : n + rm.slots ≤ R.slots) (hLs : Ls.length = ml) (C : o_C l Z n0 yc bc mc none rm (.ref a :: [v0, v1, v2, v3, v4, v5, v6]) h Qc) (K : ∀ v h', Qc v h' → o_Go κ Q h' (k + rm.cells) (n + rm.slots) (pc + 3) Ls (v.toList ++ rest)) : o_Go κ Q h k n pc Ls (v6 :: v5 :: v4 :: v3 :: v2 :: v1 :: v0 :: .ref a :: rest) := o_callN B W hd hin w1 w2 w3 w4 hy pd (as := [v0, v1, v2, v3, v4, v5, v6]) hlen hW hf hl hc hs hLs C K
theorem o_callV7 (B : o_Bo κ l Z n0 R y bytes ml ret) {yc : MethodName} {Cn : String} {bc : ByteArray} {mc : Nat} {rc : Option FieldType} {rm : Room} {v0 v1 v2 v3 v4 v5 v6 : Value} {rest : List Value} {a : Addr} {Qc : Option Value → Heap → Prop} {idx : Nat} (W : Nat) (hd : decode bytes pc = .ok (.invokevirtual idx, 3)) (w1 : (Cond.methodLink y.cls idx yc).before a0 Z = true) (w2 : (Cond.declares yc).before a0 Z = true) (w5 : (Cond.selects Cn yc yc).before a0 Z = true) (w6 : (Cond.instanceMethod yc).before a0 Z = true) (w3 : (Cond.initialized yc.cls).before a0 Z = true) (w4 : (Cond.code yc bc mc rc).before a0 Z = true) (hy : yc.cls ≠ "java/lang/invoke/MethodHandle" ∧ yc.cls ≠ "java/lang/invoke/VarHandle") {ps : List FieldType} {r0 : Option FieldType} (pd : parseMethodDescriptor yc.desc = some ⟨ps, r0⟩) (hlen : 7 = ps.length) (hW : (rest.map fun v => v.category).sum ≤ W) (hf : rm.frames + 1 ≤ R.frames) (hl : W + (mc + 11) + rm.locals ≤ R.locals) (hc : k + rm.cells ≤ R.cells) (hs : n + rm.slots ≤ R.slots) (hLs : Ls.length = ml) (E : Exa Z h a Cn) (C : o_C l Z n0 yc bc mc rc rm (.ref a :: [v0, v1, v2, v3, v4, v5, v6]) h Qc) (K : ∀ v h', Qc v h' → o_Go κ Q h' (k + rm.cells) (n + rm.slots) (pc + 3) Ls (v.toList ++ rest)) : o_Go κ Q h k n pc Ls (v6 :: v5 :: v4 :: v3 :: v2 :: v1 :: v0 :: .ref a :: rest) := o_callV B W hd w1 w2 w5 w6 w3 w4 hy pd (as := [v0, v1, v2, v3, v4, v5, v6]) hlen hW hf hl hc hs hLs E C K
end Fw
section Pats
variable {κ : o_K} {l : Launch} {Z : State} {n0 : Nat} {R : Room} {y : MethodName} {bytes : ByteArray} {ml : Nat} {ret : Option FieldType} {Q : Option Value → Heap → Prop} {h : Heap} {k n pc : Nat} {St : List Value}
theorem o_astore_27_10 (B : o_Bo κ l Z n0 R y bytes ml ret) {s0 s1 s2 s3 s4 s5 s6 s7 s8 s9 s10 s11 s12 s13 s14 s15 s16 s17 s18 s19 s20 s21 s22 s23 s24 s25 s26 : Slot} {v : Value} (hd : decode bytes pc = .ok (.astore 10, 2)) (hv : v.isRef = true) (ho : o_ok1 s10 = true) (K : o_Go κ Q h k n (pc + 2) [s0, s1, s2, s3, s4, s5, s6, s7, s8, s9, .val v, s11, s12, s13, s14, s15, s16, s17, s18, s19, s20, s21, s22, s23, s24, s25, s26] St) : o_Go κ Q h k n pc [s0, s1, s2, s3, s4, s5, s6, s7, s8, s9, s10, s11, s12, s13, s14, s15, s16, s17, s18, s19, s20, s21, s22, s23, s24, s25, s26] (v :: St) := o_astore B hd hv rfl ho K
theorem o_iinc_7_6 (B : o_Bo κ l Z n0 R y bytes ml ret) {s0 s1 s2 s3 s4 s5 : Slot} {x : Int32} {cst : Int} (v z : Int32) (hd : decode bytes pc = .ok (.iinc 6 cst, 3)) (hv : Int32.ofInt cst = v) (hz : x + v = z) (K : o_Go κ Q h k n (pc + 3) [s0, s1, s2, s3, s4, s5, .val (.int z)] St) : o_Go κ Q h k n pc [s0, s1, s2, s3, s4, s5, .val (.int x)] St := o_iinc B v hd hv rfl (hz.symm ▸ K)
theorem o_istoreN_7_1 (B : o_Bo κ l Z n0 R y bytes ml ret) {s0 s1 s2 s3 s4 s5 s6 : Slot} {x : Int32} (hd : decode bytes pc = .ok (.istore_n 1, 1)) (ho : o_ok1 s1 = true) (K : o_Go κ Q h k n (pc + 1) [s0, .val (.int x), s2, s3, s4, s5, s6] St) : o_Go κ Q h k n pc [s0, s1, s2, s3, s4, s5, s6] (.int x :: St) := o_istoreN B hd rfl ho K
theorem o_istore_6_4 (B : o_Bo κ l Z n0 R y bytes ml ret) {s0 s1 s2 s3 s4 s5 : Slot} {x : Int32} (hd : decode bytes pc = .ok (.istore 4, 2)) (ho : o_ok1 s4 = true) (K : o_Go κ Q h k n (pc + 2) [s0, s1, s2, s3, .val (.int x), s5] St) : o_Go κ Q h k n pc [s0, s1, s2, s3, s4, s5] (.int x :: St) := o_istore B hd rfl ho K
theorem o_istore_6_5 (B : o_Bo κ l Z n0 R y bytes ml ret) {s0 s1 s2 s3 s4 s5 : Slot} {x : Int32} (hd : decode bytes pc = .ok (.istore 5, 2)) (ho : o_ok1 s5 = true) (K : o_Go κ Q h k n (pc + 2) [s0, s1, s2, s3, s4, .val (.int x)] St) : o_Go κ Q h k n pc [s0, s1, s2, s3, s4, s5] (.int x :: St) := o_istore B hd rfl ho K
theorem o_istore_7_4 (B : o_Bo κ l Z n0 R y bytes ml ret) {s0 s1 s2 s3 s4 s5 s6 : Slot} {x : Int32} (hd : decode bytes pc = .ok (.istore 4, 2)) (ho : o_ok1 s4 = true) (K : o_Go κ Q h k n (pc + 2) [s0, s1, s2, s3, .val (.int x), s5, s6] St) : o_Go κ Q h k n pc [s0, s1, s2, s3, s4, s5, s6] (.int x :: St) := o_istore B hd rfl ho K
theorem o_istore_7_5 (B : o_Bo κ l Z n0 R y bytes ml ret) {s0 s1 s2 s3 s4 s5 s6 : Slot} {x : Int32} (hd : decode bytes pc = .ok (.istore 5, 2)) (ho : o_ok1 s5 = true) (K : o_Go κ Q h k n (pc + 2) [s0, s1, s2, s3, s4, .val (.int x), s6] St) : o_Go κ Q h k n pc [s0, s1, s2, s3, s4, s5, s6] (.int x :: St) := o_istore B hd rfl ho K
theorem o_istore_7_6 (B : o_Bo κ l Z n0 R y bytes ml ret) {s0 s1 s2 s3 s4 s5 s6 : Slot} {x : Int32} (hd : decode bytes pc = .ok (.istore 6, 2)) (ho : o_ok1 s6 = true) (K : o_Go κ Q h k n (pc + 2) [s0, s1, s2, s3, s4, s5, .val (.int x)] St) : o_Go κ Q h k n pc [s0, s1, s2, s3, s4, s5, s6] (.int x :: St) := o_istore B hd rfl ho K
theorem o_istore_27_11 (B : o_Bo κ l Z n0 R y bytes ml ret) {s0 s1 s2 s3 s4 s5 s6 s7 s8 s9 s10 s11 s12 s13 s14 s15 s16 s17 s18 s19 s20 s21 s22 s23 s24 s25 s26 : Slot} {x : Int32} (hd : decode bytes pc = .ok (.istore 11, 2)) (ho : o_ok1 s11 = true) (K : o_Go κ Q h k n (pc + 2) [s0, s1, s2, s3, s4, s5, s6, s7, s8, s9, s10, .val (.int x), s12, s13, s14, s15, s16, s17, s18, s19, s20, s21, s22, s23, s24, s25, s26] St) : o_Go κ Q h k n pc [s0, s1, s2, s3, s4, s5, s6, s7, s8, s9, s10, s11, s12, s13, s14, s15, s16, s17, s18, s19, s20, s21, s22, s23, s24, s25, s26] (.int x :: St) := o_istore B hd rfl ho K
theorem o_istore_27_12 (B : o_Bo κ l Z n0 R y bytes ml ret) {s0 s1 s2 s3 s4 s5 s6 s7 s8 s9 s10 s11 s12 s13 s14 s15 s16 s17 s18 s19 s20 s21 s22 s23 s24 s25 s26 : Slot} {x : Int32} (hd : decode bytes pc = .ok (.istore 12, 2)) (ho : o_ok1 s12 = true) (K : o_Go κ Q h k n (pc + 2) [s0, s1, s2, s3, s4, s5, s6, s7, s8, s9, s10, s11, .val (.int x), s13, s14, s15, s16, s17, s18, s19, s20, s21, s22, s23, s24, s25, s26] St) : o_Go κ Q h k n pc [s0, s1, s2, s3, s4, s5, s6, s7, s8, s9, s10, s11, s12, s13, s14, s15, s16, s17, s18, s19, s20, s21, s22, s23, s24, s25, s26] (.int x :: St) := o_istore B hd rfl ho K
theorem o_istore_27_13 (B : o_Bo κ l Z n0 R y bytes ml ret) {s0 s1 s2 s3 s4 s5 s6 s7 s8 s9 s10 s11 s12 s13 s14 s15 s16 s17 s18 s19 s20 s21 s22 s23 s24 s25 s26 : Slot} {x : Int32} (hd : decode bytes pc = .ok (.istore 13, 2)) (ho : o_ok1 s13 = true) (K : o_Go κ Q h k n (pc + 2) [s0, s1, s2, s3, s4, s5, s6, s7, s8, s9, s10, s11, s12, .val (.int x), s14, s15, s16, s17, s18, s19, s20, s21, s22, s23, s24, s25, s26] St) : o_Go κ Q h k n pc [s0, s1, s2, s3, s4, s5, s6, s7, s8, s9, s10, s11, s12, s13, s14, s15, s16, s17, s18, s19, s20, s21, s22, s23, s24, s25, s26] (.int x :: St) := o_istore B hd rfl ho K
theorem o_istore_27_14 (B : o_Bo κ l Z n0 R y bytes ml ret) {s0 s1 s2 s3 s4 s5 s6 s7 s8 s9 s10 s11 s12 s13 s14 s15 s16 s17 s18 s19 s20 s21 s22 s23 s24 s25 s26 : Slot} {x : Int32} (hd : decode bytes pc = .ok (.istore 14, 2)) (ho : o_ok1 s14 = true) (K : o_Go κ Q h k n (pc + 2) [s0, s1, s2, s3, s4, s5, s6, s7, s8, s9, s10, s11, s12, s13, .val (.int x), s15, s16, s17, s18, s19, s20, s21, s22, s23, s24, s25, s26] St) : o_Go κ Q h k n pc [s0, s1, s2, s3, s4, s5, s6, s7, s8, s9, s10, s11, s12, s13, s14, s15, s16, s17, s18, s19, s20, s21, s22, s23, s24, s25, s26] (.int x :: St) := o_istore B hd rfl ho K
theorem o_istore_27_15 (B : o_Bo κ l Z n0 R y bytes ml ret) {s0 s1 s2 s3 s4 s5 s6 s7 s8 s9 s10 s11 s12 s13 s14 s15 s16 s17 s18 s19 s20 s21 s22 s23 s24 s25 s26 : Slot} {x : Int32} (hd : decode bytes pc = .ok (.istore 15, 2)) (ho : o_ok1 s15 = true) (K : o_Go κ Q h k n (pc + 2) [s0, s1, s2, s3, s4, s5, s6, s7, s8, s9, s10, s11, s12, s13, s14, .val (.int x), s16, s17, s18, s19, s20, s21, s22, s23, s24, s25, s26] St) : o_Go κ Q h k n pc [s0, s1, s2, s3, s4, s5, s6, s7, s8, s9, s10, s11, s12, s13, s14, s15, s16, s17, s18, s19, s20, s21, s22, s23, s24, s25, s26] (.int x :: St) := o_istore B hd rfl ho K
theorem o_istore_27_16 (B : o_Bo κ l Z n0 R y bytes ml ret) {s0 s1 s2 s3 s4 s5 s6 s7 s8 s9 s10 s11 s12 s13 s14 s15 s16 s17 s18 s19 s20 s21 s22 s23 s24 s25 s26 : Slot} {x : Int32} (hd : decode bytes pc = .ok (.istore 16, 2)) (ho : o_ok1 s16 = true) (K : o_Go κ Q h k n (pc + 2) [s0, s1, s2, s3, s4, s5, s6, s7, s8, s9, s10, s11, s12, s13, s14, s15, .val (.int x), s17, s18, s19, s20, s21, s22, s23, s24, s25, s26] St) : o_Go κ Q h k n pc [s0, s1, s2, s3, s4, s5, s6, s7, s8, s9, s10, s11, s12, s13, s14, s15, s16, s17, s18, s19, s20, s21, s22, s23, s24, s25, s26] (.int x :: St) := o_istore B hd rfl ho K
theorem o_lstoreN_7_2 (B : o_Bo κ l Z n0 R y bytes ml ret) {s0 s1 s2 s3 s4 s5 s6 : Slot} {x : Int64} (hd : decode bytes pc = .ok (.lstore_n 2, 1)) (ho : o_okl s2 s3 = true) (K : o_Go κ Q h k n (pc + 1) [s0, s1, .val (.long x), .second, s4, s5, s6] St) : o_Go κ Q h k n pc [s0, s1, s2, s3, s4, s5, s6] (.long x :: St) := o_lstoreN B hd rfl rfl ho K
theorem o_lstore_27_17 (B : o_Bo κ l Z n0 R y bytes ml ret) {s0 s1 s2 s3 s4 s5 s6 s7 s8 s9 s10 s11 s12 s13 s14 s15 s16 s17 s18 s19 s20 s21 s22 s23 s24 s25 s26 : Slot} {x : Int64} (hd : decode bytes pc = .ok (.lstore 17, 2)) (ho : o_okl s17 s18 = true) (K : o_Go κ Q h k n (pc + 2) [s0, s1, s2, s3, s4, s5, s6, s7, s8, s9, s10, s11, s12, s13, s14, s15, s16, .val (.long x), .second, s19, s20, s21, s22, s23, s24, s25, s26] St) : o_Go κ Q h k n pc [s0, s1, s2, s3, s4, s5, s6, s7, s8, s9, s10, s11, s12, s13, s14, s15, s16, s17, s18, s19, s20, s21, s22, s23, s24, s25, s26] (.long x :: St) := o_lstore B hd rfl rfl ho K
theorem o_lstore_27_19 (B : o_Bo κ l Z n0 R y bytes ml ret) {s0 s1 s2 s3 s4 s5 s6 s7 s8 s9 s10 s11 s12 s13 s14 s15 s16 s17 s18 s19 s20 s21 s22 s23 s24 s25 s26 : Slot} {x : Int64} (hd : decode bytes pc = .ok (.lstore 19, 2)) (ho : o_okl s19 s20 = true) (K : o_Go κ Q h k n (pc + 2) [s0, s1, s2, s3, s4, s5, s6, s7, s8, s9, s10, s11, s12, s13, s14, s15, s16, s17, s18, .val (.long x), .second, s21, s22, s23, s24, s25, s26] St) : o_Go κ Q h k n pc [s0, s1, s2, s3, s4, s5, s6, s7, s8, s9, s10, s11, s12, s13, s14, s15, s16, s17, s18, s19, s20, s21, s22, s23, s24, s25, s26] (.long x :: St) := o_lstore B hd rfl rfl ho K
theorem o_lstore_27_21 (B : o_Bo κ l Z n0 R y bytes ml ret) {s0 s1 s2 s3 s4 s5 s6 s7 s8 s9 s10 s11 s12 s13 s14 s15 s16 s17 s18 s19 s20 s21 s22 s23 s24 s25 s26 : Slot} {x : Int64} (hd : decode bytes pc = .ok (.lstore 21, 2)) (ho : o_okl s21 s22 = true) (K : o_Go κ Q h k n (pc + 2) [s0, s1, s2, s3, s4, s5, s6, s7, s8, s9, s10, s11, s12, s13, s14, s15, s16, s17, s18, s19, s20, .val (.long x), .second, s23, s24, s25, s26] St) : o_Go κ Q h k n pc [s0, s1, s2, s3, s4, s5, s6, s7, s8, s9, s10, s11, s12, s13, s14, s15, s16, s17, s18, s19, s20, s21, s22, s23, s24, s25, s26] (.long x :: St) := o_lstore B hd rfl rfl ho K
theorem o_lstore_27_23 (B : o_Bo κ l Z n0 R y bytes ml ret) {s0 s1 s2 s3 s4 s5 s6 s7 s8 s9 s10 s11 s12 s13 s14 s15 s16 s17 s18 s19 s20 s21 s22 s23 s24 s25 s26 : Slot} {x : Int64} (hd : decode bytes pc = .ok (.lstore 23, 2)) (ho : o_okl s23 s24 = true) (K : o_Go κ Q h k n (pc + 2) [s0, s1, s2, s3, s4, s5, s6, s7, s8, s9, s10, s11, s12, s13, s14, s15, s16, s17, s18, s19, s20, s21, s22, .val (.long x), .second, s25, s26] St) : o_Go κ Q h k n pc [s0, s1, s2, s3, s4, s5, s6, s7, s8, s9, s10, s11, s12, s13, s14, s15, s16, s17, s18, s19, s20, s21, s22, s23, s24, s25, s26] (.long x :: St) := o_lstore B hd rfl rfl ho K
theorem o_lstore_27_25 (B : o_Bo κ l Z n0 R y bytes ml ret) {s0 s1 s2 s3 s4 s5 s6 s7 s8 s9 s10 s11 s12 s13 s14 s15 s16 s17 s18 s19 s20 s21 s22 s23 s24 s25 s26 : Slot} {x : Int64} (hd : decode bytes pc = .ok (.lstore 25, 2)) (ho : o_okl s25 s26 = true) (K : o_Go κ Q h k n (pc + 2) [s0, s1, s2, s3, s4, s5, s6, s7, s8, s9, s10, s11, s12, s13, s14, s15, s16, s17, s18, s19, s20, s21, s22, s23, s24, .val (.long x), .second] St) : o_Go κ Q h k n pc [s0, s1, s2, s3, s4, s5, s6, s7, s8, s9, s10, s11, s12, s13, s14, s15, s16, s17, s18, s19, s20, s21, s22, s23, s24, s25, s26] (.long x :: St) := o_lstore B hd rfl rfl ho K
end Pats
abbrev own_NH : String := "com/example/trailhead/trailhead/arithmetic/NodeHeap"
def own_kf (k0 k1 k2 k3 k4 : Int64) (v : Int32) : Int64 := if v = 0 then k0 else if v = 1 then k1 else if v = 2 then k2 else if v = 3 then k3 else k4
def own_E (kf : Int32 → Int64) (x : Int64) (v : Int32) : Prop := x = kf v ∧ 0 ≤ v.toInt ∧ v.toInt ≤ 4
def own_P (v : Int32) : Nat := 2 ^ v.toInt.toNat
/-- the heap object at o: its two arrays, its size -/
def own_Ob (Z : State) (n0 : Nat) (h : Heap) (o ak an : Addr) (sz : Int32) (K : List Int64) (V : List Int32) : Prop :=
  n0 ≤ o ∧ n0 ≤ ak ∧ n0 ≤ an ∧ o ≠ ak ∧ o ≠ an ∧ ak ≠ an ∧ Exa Z h o own_NH ∧ Fld Z h o own_NH "keys" "[J" (.ref ak) ∧ Fld Z h o own_NH "nodes" "[I" (.ref an) ∧ Fld Z h o own_NH "size" "I" (.int sz) ∧ o_LA Z h ak K ∧ o_IA Z h an V
section Ob
variable {Z : State} {a0 : Array Value} {n0 : Nat} {h h' : Heap} {o ak an : Addr} {sz s' : Int32} {K : List Int64} {V : List Int32} {i : Nat}
theorem own_Ob.size (hw : ∀ d ∈ tables_1, d.before a0 Z = true) (O : own_Ob Z n0 h o ak an sz K V) (W : Wr h h' o (Jvm.RoadKit.slotOf Z own_NH "size" "I") (.int s')) : own_Ob Z n0 h' o ak an s' K V := by
  obtain ⟨g1, g2, g3, n1, n2, n3, E, F1, F2, F3, A1, A2⟩ := O
  refine ⟨g1, g2, g3, n1, n2, n3, E.wr W, F1.other W (Or.inr (slot_ne (C := own_NH) (Or.inl (hw _ (List.mem_of_getElem? (i := 11) rfl))) (Or.inl (hw _ (List.mem_of_getElem? (i := 21) rfl))) (by decide) (by decide : parseFieldDescriptor "[J" = some (.array .long)) (by decide : parseFieldDescriptor "I" = some .int))), F2.other W (Or.inr (slot_ne (C := own_NH) (Or.inl (hw _ (List.mem_of_getElem? (i := 14) rfl))) (Or.inl (hw _ (List.mem_of_getElem? (i := 21) rfl))) (by decide) (by decide : parseFieldDescriptor "[I" = some (.array .int)) (by decide : parseFieldDescriptor "I" = some .int))), F3.same W, A1.other W (Ne.symm n1), A2.other W (Ne.symm n2)⟩
theorem own_Ob.key {x : Int64} (O : own_Ob Z n0 h o ak an sz K V) (W : Wr h h' ak i (.long x)) : own_Ob Z n0 h' o ak an sz (K.set i x) V := by
  obtain ⟨g1, g2, g3, n1, n2, n3, E, F1, F2, F3, A1, A2⟩ := O
  exact ⟨g1, g2, g3, n1, n2, n3, E.wr W, F1.other W (Or.inl n1), F2.other W (Or.inl n1), F3.other W (Or.inl n1), o_LA.same A1 W, A2.other W (Ne.symm n3)⟩
theorem own_Ob.node {x : Int32} (O : own_Ob Z n0 h o ak an sz K V) (W : Wr h h' an i (.int x)) : own_Ob Z n0 h' o ak an sz K (V.set i x) := by
  obtain ⟨g1, g2, g3, n1, n2, n3, E, F1, F2, F3, A1, A2⟩ := O
  exact ⟨g1, g2, g3, n1, n2, n3, E.wr W, F1.other W (Or.inl n2), F2.other W (Or.inl n2), F3.other W (Or.inl n2), A1.other W n3, o_IA.same A2 W⟩
theorem own_Ob.go (O : own_Ob Z n0 h o ak an sz K V) : n0 ≤ o := O.1
theorem own_Ob.gk (O : own_Ob Z n0 h o ak an sz K V) : n0 ≤ ak := O.2.1
theorem own_Ob.gn (O : own_Ob Z n0 h o ak an sz K V) : n0 ≤ an := O.2.2.1
theorem own_Ob.ex (O : own_Ob Z n0 h o ak an sz K V) : Exa Z h o own_NH := O.2.2.2.2.2.2.1
theorem own_Ob.fk (O : own_Ob Z n0 h o ak an sz K V) : Fld Z h o own_NH "keys" "[J" (.ref ak) := O.2.2.2.2.2.2.2.1
theorem own_Ob.fn (O : own_Ob Z n0 h o ak an sz K V) : Fld Z h o own_NH "nodes" "[I" (.ref an) := O.2.2.2.2.2.2.2.2.1
theorem own_Ob.fs (O : own_Ob Z n0 h o ak an sz K V) : Fld Z h o own_NH "size" "I" (.int sz) := O.2.2.2.2.2.2.2.2.2.1
theorem own_Ob.pk (O : own_Ob Z n0 h o ak an sz K V) : o_LA Z h ak K := O.2.2.2.2.2.2.2.2.2.2.1
theorem own_Ob.pv (O : own_Ob Z n0 h o ak an sz K V) : o_IA Z h an V := O.2.2.2.2.2.2.2.2.2.2.2
end Ob
def own_Inv0 (S : Nat) : Prop := S = 0
def own_Inv1 (kf : Int32 → Int64) (low : Int) (S : Nat) (x0 : Int64) (v0 : Int32) : Prop := own_E kf x0 v0 ∧ low ≤ x0.toInt ∧ own_P v0 = S
def own_Inv2 (kf : Int32 → Int64) (low : Int) (S : Nat) (x0 x1 : Int64) (v0 v1 : Int32) : Prop := own_E kf x0 v0 ∧ own_E kf x1 v1 ∧ low ≤ x0.toInt ∧ x0.toInt ≤ x1.toInt ∧ own_P v0 + own_P v1 = S
def own_Inv3 (kf : Int32 → Int64) (low : Int) (S : Nat) (x0 x1 x2 : Int64) (v0 v1 v2 : Int32) : Prop := own_E kf x0 v0 ∧ own_E kf x1 v1 ∧ own_E kf x2 v2 ∧ low ≤ x0.toInt ∧ x0.toInt ≤ x1.toInt ∧ x0.toInt ≤ x2.toInt ∧ own_P v0 + own_P v1 + own_P v2 = S
def own_Inv4 (kf : Int32 → Int64) (low : Int) (S : Nat) (x0 x1 x2 x3 : Int64) (v0 v1 v2 v3 : Int32) : Prop := own_E kf x0 v0 ∧ own_E kf x1 v1 ∧ own_E kf x2 v2 ∧ own_E kf x3 v3 ∧ low ≤ x0.toInt ∧ x0.toInt ≤ x1.toInt ∧ x0.toInt ≤ x2.toInt ∧ x1.toInt ≤ x3.toInt ∧ own_P v0 + own_P v1 + own_P v2 + own_P v3 = S
def own_Inv5 (kf : Int32 → Int64) (low : Int) (S : Nat) (x0 x1 x2 x3 x4 : Int64) (v0 v1 v2 v3 v4 : Int32) : Prop := own_E kf x0 v0 ∧ own_E kf x1 v1 ∧ own_E kf x2 v2 ∧ own_E kf x3 v3 ∧ own_E kf x4 v4 ∧ low ≤ x0.toInt ∧ x0.toInt ≤ x1.toInt ∧ x0.toInt ≤ x2.toInt ∧ x1.toInt ≤ x3.toInt ∧ x1.toInt ≤ x4.toInt ∧ own_P v0 + own_P v1 + own_P v2 + own_P v3 + own_P v4 = S
theorem pn0 : plainFor Jvm.Pilot.@@N@@.x = true := by first | exact plainFor_of_name (by first | (simp [x, plainName, overriddenIn]; done) | decide +kernel) | decide +kernel
theorem d1_0 : decode prog_19_method_1_code 0 = .ok (.aload_n 0, 1) := by decide +kernel
theorem d1_1 : decode prog_19_method_1_code 1 = .ok (.invokespecial 1, 3) := by decide +kernel
theorem d1_4 : decode prog_19_method_1_code 4 = .ok (.aload_n 0, 1) := by decide +kernel
theorem d1_5 : decode prog_19_method_1_code 5 = .ok (.bipush 16, 2) := by decide +kernel
theorem d1_7 : decode prog_19_method_1_code 7 = .ok (.newarray .long, 2) := by decide +kernel
theorem d1_9 : decode prog_19_method_1_code 9 = .ok (.putfield 7, 3) := by decide +kernel
theorem d1_12 : decode prog_19_method_1_code 12 = .ok (.aload_n 0, 1) := by decide +kernel
theorem d1_13 : decode prog_19_method_1_code 13 = .ok (.bipush 16, 2) := by decide +kernel
theorem d1_15 : decode prog_19_method_1_code 15 = .ok (.newarray .int, 2) := by decide +kernel
theorem d1_17 : decode prog_19_method_1_code 17 = .ok (.putfield 13, 3) := by decide +kernel
theorem d1_20 : decode prog_19_method_1_code 20 = .ok (.return_, 1) := by decide +kernel
abbrev oy1 : MethodName := ⟨"com/example/trailhead/trailhead/arithmetic/NodeHeap", "<init>", "()V"⟩
theorem pn1 : plainFor oy1 = true := by first | exact plainFor_of_name (by first | (simp [plainName, overriddenIn]; done) | decide +kernel) | decide +kernel
theorem pd1 : parseMethodDescriptor oy1.desc = some ⟨[], none⟩ := by decide +kernel
theorem d3_0 : decode prog_19_method_3_code 0 = .ok (.aload_n 0, 1) := by decide +kernel
theorem d3_1 : decode prog_19_method_3_code 1 = .ok (.getfield 17, 3) := by decide +kernel
theorem d3_4 : decode prog_19_method_3_code 4 = .ok (.aload_n 0, 1) := by decide +kernel
theorem d3_5 : decode prog_19_method_3_code 5 = .ok (.getfield 13, 3) := by decide +kernel
theorem d3_8 : decode prog_19_method_3_code 8 = .ok (.arraylength, 1) := by decide +kernel
theorem d3_9 : decode prog_19_method_3_code 9 = .ok (.if_icmp .ne 37, 3) := by decide +kernel
theorem d3_12 : decode prog_19_method_3_code 12 = .ok (.aload_n 0, 1) := by decide +kernel
theorem d3_13 : decode prog_19_method_3_code 13 = .ok (.aload_n 0, 1) := by decide +kernel
theorem d3_14 : decode prog_19_method_3_code 14 = .ok (.getfield 7, 3) := by decide +kernel
theorem d3_17 : decode prog_19_method_3_code 17 = .ok (.aload_n 0, 1) := by decide +kernel
theorem d3_18 : decode prog_19_method_3_code 18 = .ok (.getfield 17, 3) := by decide +kernel
theorem d3_21 : decode prog_19_method_3_code 21 = .ok (.iconst 2, 1) := by decide +kernel
theorem d3_22 : decode prog_19_method_3_code 22 = .ok (.imul, 1) := by decide +kernel
theorem d3_23 : decode prog_19_method_3_code 23 = .ok (.invokestatic 21, 3) := by decide +kernel
theorem d3_26 : decode prog_19_method_3_code 26 = .ok (.putfield 7, 3) := by decide +kernel
theorem d3_29 : decode prog_19_method_3_code 29 = .ok (.aload_n 0, 1) := by decide +kernel
theorem d3_30 : decode prog_19_method_3_code 30 = .ok (.aload_n 0, 1) := by decide +kernel
theorem d3_31 : decode prog_19_method_3_code 31 = .ok (.getfield 13, 3) := by decide +kernel
theorem d3_34 : decode prog_19_method_3_code 34 = .ok (.aload_n 0, 1) := by decide +kernel
theorem d3_35 : decode prog_19_method_3_code 35 = .ok (.getfield 17, 3) := by decide +kernel
theorem d3_38 : decode prog_19_method_3_code 38 = .ok (.iconst 2, 1) := by decide +kernel
theorem d3_39 : decode prog_19_method_3_code 39 = .ok (.imul, 1) := by decide +kernel
theorem d3_40 : decode prog_19_method_3_code 40 = .ok (.invokestatic 27, 3) := by decide +kernel
theorem d3_43 : decode prog_19_method_3_code 43 = .ok (.putfield 13, 3) := by decide +kernel
theorem d3_46 : decode prog_19_method_3_code 46 = .ok (.aload_n 0, 1) := by decide +kernel
theorem d3_47 : decode prog_19_method_3_code 47 = .ok (.dup, 1) := by decide +kernel
theorem d3_48 : decode prog_19_method_3_code 48 = .ok (.getfield 17, 3) := by decide +kernel
theorem d3_51 : decode prog_19_method_3_code 51 = .ok (.dup_x1, 1) := by decide +kernel
theorem d3_52 : decode prog_19_method_3_code 52 = .ok (.iconst 1, 1) := by decide +kernel
theorem d3_53 : decode prog_19_method_3_code 53 = .ok (.iadd, 1) := by decide +kernel
theorem d3_54 : decode prog_19_method_3_code 54 = .ok (.putfield 17, 3) := by decide +kernel
theorem d3_57 : decode prog_19_method_3_code 57 = .ok (.istore 4, 2) := by decide +kernel
theorem d3_59 : decode prog_19_method_3_code 59 = .ok (.iload 4, 2) := by decide +kernel
theorem d3_61 : decode prog_19_method_3_code 61 = .ok (.ifCond .le 62, 3) := by decide +kernel
theorem d3_64 : decode prog_19_method_3_code 64 = .ok (.aload_n 0, 1) := by decide +kernel
theorem d3_65 : decode prog_19_method_3_code 65 = .ok (.getfield 7, 3) := by decide +kernel
theorem d3_68 : decode prog_19_method_3_code 68 = .ok (.iload 4, 2) := by decide +kernel
theorem d3_70 : decode prog_19_method_3_code 70 = .ok (.iconst 1, 1) := by decide +kernel
theorem d3_71 : decode prog_19_method_3_code 71 = .ok (.isub, 1) := by decide +kernel
theorem d3_72 : decode prog_19_method_3_code 72 = .ok (.iconst 2, 1) := by decide +kernel
theorem d3_73 : decode prog_19_method_3_code 73 = .ok (.idiv, 1) := by decide +kernel
theorem d3_74 : decode prog_19_method_3_code 74 = .ok (.laload, 1) := by decide +kernel
theorem d3_75 : decode prog_19_method_3_code 75 = .ok (.lload_n 1, 1) := by decide +kernel
theorem d3_76 : decode prog_19_method_3_code 76 = .ok (.lcmp, 1) := by decide +kernel
theorem d3_77 : decode prog_19_method_3_code 77 = .ok (.ifCond .le 46, 3) := by decide +kernel
theorem d3_80 : decode prog_19_method_3_code 80 = .ok (.iload 4, 2) := by decide +kernel
theorem d3_82 : decode prog_19_method_3_code 82 = .ok (.iconst 1, 1) := by decide +kernel
theorem d3_83 : decode prog_19_method_3_code 83 = .ok (.isub, 1) := by decide +kernel
theorem d3_84 : decode prog_19_method_3_code 84 = .ok (.iconst 2, 1) := by decide +kernel
theorem d3_85 : decode prog_19_method_3_code 85 = .ok (.idiv, 1) := by decide +kernel
theorem d3_86 : decode prog_19_method_3_code 86 = .ok (.istore 5, 2) := by decide +kernel
theorem d3_88 : decode prog_19_method_3_code 88 = .ok (.aload_n 0, 1) := by decide +kernel
theorem d3_89 : decode prog_19_method_3_code 89 = .ok (.getfield 7, 3) := by decide +kernel
theorem d3_92 : decode prog_19_method_3_code 92 = .ok (.iload 4, 2) := by decide +kernel
theorem d3_94 : decode prog_19_method_3_code 94 = .ok (.aload_n 0, 1) := by decide +kernel
theorem d3_95 : decode prog_19_method_3_code 95 = .ok (.getfield 7, 3) := by decide +kernel
theorem d3_98 : decode prog_19_method_3_code 98 = .ok (.iload 5, 2) := by decide +kernel
theorem d3_100 : decode prog_19_method_3_code 100 = .ok (.laload, 1) := by decide +kernel
theorem d3_101 : decode prog_19_method_3_code 101 = .ok (.lastore, 1) := by decide +kernel
theorem d3_102 : decode prog_19_method_3_code 102 = .ok (.aload_n 0, 1) := by decide +kernel
theorem d3_103 : decode prog_19_method_3_code 103 = .ok (.getfield 13, 3) := by decide +kernel
theorem d3_106 : decode prog_19_method_3_code 106 = .ok (.iload 4, 2) := by decide +kernel
theorem d3_108 : decode prog_19_method_3_code 108 = .ok (.aload_n 0, 1) := by decide +kernel
theorem d3_109 : decode prog_19_method_3_code 109 = .ok (.getfield 13, 3) := by decide +kernel
theorem d3_112 : decode prog_19_method_3_code 112 = .ok (.iload 5, 2) := by decide +kernel
theorem d3_114 : decode prog_19_method_3_code 114 = .ok (.iaload, 1) := by decide +kernel
theorem d3_115 : decode prog_19_method_3_code 115 = .ok (.iastore, 1) := by decide +kernel
theorem d3_116 : decode prog_19_method_3_code 116 = .ok (.iload 5, 2) := by decide +kernel
theorem d3_118 : decode prog_19_method_3_code 118 = .ok (.istore 4, 2) := by decide +kernel
theorem d3_120 : decode prog_19_method_3_code 120 = .ok (.goto (-61), 3) := by decide +kernel
theorem d3_123 : decode prog_19_method_3_code 123 = .ok (.aload_n 0, 1) := by decide +kernel
theorem d3_124 : decode prog_19_method_3_code 124 = .ok (.getfield 7, 3) := by decide +kernel
theorem d3_127 : decode prog_19_method_3_code 127 = .ok (.iload 4, 2) := by decide +kernel
theorem d3_129 : decode prog_19_method_3_code 129 = .ok (.lload_n 1, 1) := by decide +kernel
theorem d3_130 : decode prog_19_method_3_code 130 = .ok (.lastore, 1) := by decide +kernel
theorem d3_131 : decode prog_19_method_3_code 131 = .ok (.aload_n 0, 1) := by decide +kernel
theorem d3_132 : decode prog_19_method_3_code 132 = .ok (.getfield 13, 3) := by decide +kernel
theorem d3_135 : decode prog_19_method_3_code 135 = .ok (.iload 4, 2) := by decide +kernel
theorem d3_137 : decode prog_19_method_3_code 137 = .ok (.iload_n 3, 1) := by decide +kernel
theorem d3_138 : decode prog_19_method_3_code 138 = .ok (.iastore, 1) := by decide +kernel
theorem d3_139 : decode prog_19_method_3_code 139 = .ok (.return_, 1) := by decide +kernel
abbrev oy3 : MethodName := ⟨"com/example/trailhead/trailhead/arithmetic/NodeHeap", "push", "(JI)V"⟩
theorem pn3 : plainFor oy3 = true := by first | exact plainFor_of_name (by first | (simp [plainName, overriddenIn]; done) | decide +kernel) | decide +kernel
theorem pd3 : parseMethodDescriptor oy3.desc = some ⟨[.long, .int], none⟩ := by decide +kernel
theorem d4_0 : decode prog_19_method_4_code 0 = .ok (.aload_n 0, 1) := by decide +kernel
theorem d4_1 : decode prog_19_method_4_code 1 = .ok (.getfield 13, 3) := by decide +kernel
theorem d4_4 : decode prog_19_method_4_code 4 = .ok (.iconst 0, 1) := by decide +kernel
theorem d4_5 : decode prog_19_method_4_code 5 = .ok (.iaload, 1) := by decide +kernel
theorem d4_6 : decode prog_19_method_4_code 6 = .ok (.istore_n 1, 1) := by decide +kernel
theorem d4_7 : decode prog_19_method_4_code 7 = .ok (.aload_n 0, 1) := by decide +kernel
theorem d4_8 : decode prog_19_method_4_code 8 = .ok (.dup, 1) := by decide +kernel
theorem d4_9 : decode prog_19_method_4_code 9 = .ok (.getfield 17, 3) := by decide +kernel
theorem d4_12 : decode prog_19_method_4_code 12 = .ok (.iconst 1, 1) := by decide +kernel
theorem d4_13 : decode prog_19_method_4_code 13 = .ok (.isub, 1) := by decide +kernel
theorem d4_14 : decode prog_19_method_4_code 14 = .ok (.putfield 17, 3) := by decide +kernel
theorem d4_17 : decode prog_19_method_4_code 17 = .ok (.aload_n 0, 1) := by decide +kernel
theorem d4_18 : decode prog_19_method_4_code 18 = .ok (.getfield 7, 3) := by decide +kernel
theorem d4_21 : decode prog_19_method_4_code 21 = .ok (.aload_n 0, 1) := by decide +kernel
theorem d4_22 : decode prog_19_method_4_code 22 = .ok (.getfield 17, 3) := by decide +kernel
theorem d4_25 : decode prog_19_method_4_code 25 = .ok (.laload, 1) := by decide +kernel
theorem d4_26 : decode prog_19_method_4_code 26 = .ok (.lstore_n 2, 1) := by decide +kernel
theorem d4_27 : decode prog_19_method_4_code 27 = .ok (.aload_n 0, 1) := by decide +kernel
theorem d4_28 : decode prog_19_method_4_code 28 = .ok (.getfield 13, 3) := by decide +kernel
theorem d4_31 : decode prog_19_method_4_code 31 = .ok (.aload_n 0, 1) := by decide +kernel
theorem d4_32 : decode prog_19_method_4_code 32 = .ok (.getfield 17, 3) := by decide +kernel
theorem d4_35 : decode prog_19_method_4_code 35 = .ok (.iaload, 1) := by decide +kernel
theorem d4_36 : decode prog_19_method_4_code 36 = .ok (.istore 4, 2) := by decide +kernel
theorem d4_38 : decode prog_19_method_4_code 38 = .ok (.iconst 0, 1) := by decide +kernel
theorem d4_39 : decode prog_19_method_4_code 39 = .ok (.istore 5, 2) := by decide +kernel
theorem d4_41 : decode prog_19_method_4_code 41 = .ok (.iconst 2, 1) := by decide +kernel
theorem d4_42 : decode prog_19_method_4_code 42 = .ok (.iload 5, 2) := by decide +kernel
theorem d4_44 : decode prog_19_method_4_code 44 = .ok (.imul, 1) := by decide +kernel
theorem d4_45 : decode prog_19_method_4_code 45 = .ok (.iconst 1, 1) := by decide +kernel
theorem d4_46 : decode prog_19_method_4_code 46 = .ok (.iadd, 1) := by decide +kernel
theorem d4_47 : decode prog_19_method_4_code 47 = .ok (.aload_n 0, 1) := by decide +kernel
theorem d4_48 : decode prog_19_method_4_code 48 = .ok (.getfield 17, 3) := by decide +kernel
theorem d4_51 : decode prog_19_method_4_code 51 = .ok (.if_icmp .ge 95, 3) := by decide +kernel
theorem d4_54 : decode prog_19_method_4_code 54 = .ok (.iconst 2, 1) := by decide +kernel
theorem d4_55 : decode prog_19_method_4_code 55 = .ok (.iload 5, 2) := by decide +kernel
theorem d4_57 : decode prog_19_method_4_code 57 = .ok (.imul, 1) := by decide +kernel
theorem d4_58 : decode prog_19_method_4_code 58 = .ok (.iconst 1, 1) := by decide +kernel
theorem d4_59 : decode prog_19_method_4_code 59 = .ok (.iadd, 1) := by decide +kernel
theorem d4_60 : decode prog_19_method_4_code 60 = .ok (.istore 6, 2) := by decide +kernel
theorem d4_62 : decode prog_19_method_4_code 62 = .ok (.iload 6, 2) := by decide +kernel
theorem d4_64 : decode prog_19_method_4_code 64 = .ok (.iconst 1, 1) := by decide +kernel
theorem d4_65 : decode prog_19_method_4_code 65 = .ok (.iadd, 1) := by decide +kernel
theorem d4_66 : decode prog_19_method_4_code 66 = .ok (.aload_n 0, 1) := by decide +kernel
theorem d4_67 : decode prog_19_method_4_code 67 = .ok (.getfield 17, 3) := by decide +kernel
theorem d4_70 : decode prog_19_method_4_code 70 = .ok (.if_icmp .ge 26, 3) := by decide +kernel
theorem d4_73 : decode prog_19_method_4_code 73 = .ok (.aload_n 0, 1) := by decide +kernel
theorem d4_74 : decode prog_19_method_4_code 74 = .ok (.getfield 7, 3) := by decide +kernel
theorem d4_77 : decode prog_19_method_4_code 77 = .ok (.iload 6, 2) := by decide +kernel
theorem d4_79 : decode prog_19_method_4_code 79 = .ok (.iconst 1, 1) := by decide +kernel
theorem d4_80 : decode prog_19_method_4_code 80 = .ok (.iadd, 1) := by decide +kernel
theorem d4_81 : decode prog_19_method_4_code 81 = .ok (.laload, 1) := by decide +kernel
theorem d4_82 : decode prog_19_method_4_code 82 = .ok (.aload_n 0, 1) := by decide +kernel
theorem d4_83 : decode prog_19_method_4_code 83 = .ok (.getfield 7, 3) := by decide +kernel
theorem d4_86 : decode prog_19_method_4_code 86 = .ok (.iload 6, 2) := by decide +kernel
theorem d4_88 : decode prog_19_method_4_code 88 = .ok (.laload, 1) := by decide +kernel
theorem d4_89 : decode prog_19_method_4_code 89 = .ok (.lcmp, 1) := by decide +kernel
theorem d4_90 : decode prog_19_method_4_code 90 = .ok (.ifCond .ge 6, 3) := by decide +kernel
theorem d4_93 : decode prog_19_method_4_code 93 = .ok (.iinc 6 1, 3) := by decide +kernel
theorem d4_96 : decode prog_19_method_4_code 96 = .ok (.aload_n 0, 1) := by decide +kernel
theorem d4_97 : decode prog_19_method_4_code 97 = .ok (.getfield 7, 3) := by decide +kernel
theorem d4_100 : decode prog_19_method_4_code 100 = .ok (.iload 6, 2) := by decide +kernel
theorem d4_102 : decode prog_19_method_4_code 102 = .ok (.laload, 1) := by decide +kernel
theorem d4_103 : decode prog_19_method_4_code 103 = .ok (.lload_n 2, 1) := by decide +kernel
theorem d4_104 : decode prog_19_method_4_code 104 = .ok (.lcmp, 1) := by decide +kernel
theorem d4_105 : decode prog_19_method_4_code 105 = .ok (.ifCond .lt 6, 3) := by decide +kernel
theorem d4_108 : decode prog_19_method_4_code 108 = .ok (.goto 38, 3) := by decide +kernel
theorem d4_111 : decode prog_19_method_4_code 111 = .ok (.aload_n 0, 1) := by decide +kernel
theorem d4_112 : decode prog_19_method_4_code 112 = .ok (.getfield 7, 3) := by decide +kernel
theorem d4_115 : decode prog_19_method_4_code 115 = .ok (.iload 5, 2) := by decide +kernel
theorem d4_117 : decode prog_19_method_4_code 117 = .ok (.aload_n 0, 1) := by decide +kernel
theorem d4_118 : decode prog_19_method_4_code 118 = .ok (.getfield 7, 3) := by decide +kernel
theorem d4_121 : decode prog_19_method_4_code 121 = .ok (.iload 6, 2) := by decide +kernel
theorem d4_123 : decode prog_19_method_4_code 123 = .ok (.laload, 1) := by decide +kernel
theorem d4_124 : decode prog_19_method_4_code 124 = .ok (.lastore, 1) := by decide +kernel
theorem d4_125 : decode prog_19_method_4_code 125 = .ok (.aload_n 0, 1) := by decide +kernel
theorem d4_126 : decode prog_19_method_4_code 126 = .ok (.getfield 13, 3) := by decide +kernel
theorem d4_129 : decode prog_19_method_4_code 129 = .ok (.iload 5, 2) := by decide +kernel
theorem d4_131 : decode prog_19_method_4_code 131 = .ok (.aload_n 0, 1) := by decide +kernel
theorem d4_132 : decode prog_19_method_4_code 132 = .ok (.getfield 13, 3) := by decide +kernel
theorem d4_135 : decode prog_19_method_4_code 135 = .ok (.iload 6, 2) := by decide +kernel
theorem d4_137 : decode prog_19_method_4_code 137 = .ok (.iaload, 1) := by decide +kernel
theorem d4_138 : decode prog_19_method_4_code 138 = .ok (.iastore, 1) := by decide +kernel
theorem d4_139 : decode prog_19_method_4_code 139 = .ok (.iload 6, 2) := by decide +kernel
theorem d4_141 : decode prog_19_method_4_code 141 = .ok (.istore 5, 2) := by decide +kernel
theorem d4_143 : decode prog_19_method_4_code 143 = .ok (.goto (-102), 3) := by decide +kernel
theorem d4_146 : decode prog_19_method_4_code 146 = .ok (.aload_n 0, 1) := by decide +kernel
theorem d4_147 : decode prog_19_method_4_code 147 = .ok (.getfield 7, 3) := by decide +kernel
theorem d4_150 : decode prog_19_method_4_code 150 = .ok (.iload 5, 2) := by decide +kernel
theorem d4_152 : decode prog_19_method_4_code 152 = .ok (.lload_n 2, 1) := by decide +kernel
theorem d4_153 : decode prog_19_method_4_code 153 = .ok (.lastore, 1) := by decide +kernel
theorem d4_154 : decode prog_19_method_4_code 154 = .ok (.aload_n 0, 1) := by decide +kernel
theorem d4_155 : decode prog_19_method_4_code 155 = .ok (.getfield 13, 3) := by decide +kernel
theorem d4_158 : decode prog_19_method_4_code 158 = .ok (.iload 5, 2) := by decide +kernel
theorem d4_160 : decode prog_19_method_4_code 160 = .ok (.iload 4, 2) := by decide +kernel
theorem d4_162 : decode prog_19_method_4_code 162 = .ok (.iastore, 1) := by decide +kernel
theorem d4_163 : decode prog_19_method_4_code 163 = .ok (.iload_n 1, 1) := by decide +kernel
theorem d4_164 : decode prog_19_method_4_code 164 = .ok (.ireturn, 1) := by decide +kernel
abbrev oy4 : MethodName := ⟨"com/example/trailhead/trailhead/arithmetic/NodeHeap", "pop", "()I"⟩
theorem pn4 : plainFor oy4 = true := by first | exact plainFor_of_name (by first | (simp [plainName, overriddenIn]; done) | decide +kernel) | decide +kernel
theorem pd4 : parseMethodDescriptor oy4.desc = some ⟨[], some .int⟩ := by decide +kernel
theorem d5_0 : decode method_2_code 0 = .ok (.iload_n 0, 1) := by decide +kernel
theorem d5_1 : decode method_2_code 1 = .ok (.ifCond .lt 12, 3) := by decide +kernel
theorem d5_4 : decode method_2_code 4 = .ok (.iload_n 0, 1) := by decide +kernel
theorem d5_5 : decode method_2_code 5 = .ok (.iconst 4, 1) := by decide +kernel
theorem d5_6 : decode method_2_code 6 = .ok (.if_icmp .gt 7, 3) := by decide +kernel
theorem d5_9 : decode method_2_code 9 = .ok (.iconst 1, 1) := by decide +kernel
theorem d5_10 : decode method_2_code 10 = .ok (.goto 4, 3) := by decide +kernel
theorem d5_13 : decode method_2_code 13 = .ok (.iconst 0, 1) := by decide +kernel
theorem d5_14 : decode method_2_code 14 = .ok (.ireturn, 1) := by decide +kernel
abbrev oy5 : MethodName := ⟨"com/example/trailhead/trailhead/arithmetic/NodeHeapPopPinLaw", "inRange", "(I)Z"⟩
theorem pn5 : plainFor oy5 = true := by first | exact plainFor_of_name (by first | (simp [plainName, overriddenIn]; done) | decide +kernel) | decide +kernel
theorem pd5 : parseMethodDescriptor oy5.desc = some ⟨[.int], some .boolean⟩ := by decide +kernel
theorem d6_0 : decode method_3_code 0 = .ok (.iload_n 0, 1) := by decide +kernel
theorem d6_1 : decode method_3_code 1 = .ok (.ifCond .ne 5, 3) := by decide +kernel
theorem d6_4 : decode method_3_code 4 = .ok (.lload_n 1, 1) := by decide +kernel
theorem d6_5 : decode method_3_code 5 = .ok (.lreturn, 1) := by decide +kernel
theorem d6_6 : decode method_3_code 6 = .ok (.iload_n 0, 1) := by decide +kernel
theorem d6_7 : decode method_3_code 7 = .ok (.iconst 1, 1) := by decide +kernel
theorem d6_8 : decode method_3_code 8 = .ok (.if_icmp .ne 5, 3) := by decide +kernel
theorem d6_11 : decode method_3_code 11 = .ok (.lload_n 3, 1) := by decide +kernel
theorem d6_12 : decode method_3_code 12 = .ok (.lreturn, 1) := by decide +kernel
theorem d6_13 : decode method_3_code 13 = .ok (.iload_n 0, 1) := by decide +kernel
theorem d6_14 : decode method_3_code 14 = .ok (.iconst 2, 1) := by decide +kernel
theorem d6_15 : decode method_3_code 15 = .ok (.if_icmp .ne 6, 3) := by decide +kernel
theorem d6_18 : decode method_3_code 18 = .ok (.lload 5, 2) := by decide +kernel
theorem d6_20 : decode method_3_code 20 = .ok (.lreturn, 1) := by decide +kernel
theorem d6_21 : decode method_3_code 21 = .ok (.iload_n 0, 1) := by decide +kernel
theorem d6_22 : decode method_3_code 22 = .ok (.iconst 3, 1) := by decide +kernel
theorem d6_23 : decode method_3_code 23 = .ok (.if_icmp .ne 6, 3) := by decide +kernel
theorem d6_26 : decode method_3_code 26 = .ok (.lload 7, 2) := by decide +kernel
theorem d6_28 : decode method_3_code 28 = .ok (.lreturn, 1) := by decide +kernel
theorem d6_29 : decode method_3_code 29 = .ok (.lload 9, 2) := by decide +kernel
theorem d6_31 : decode method_3_code 31 = .ok (.lreturn, 1) := by decide +kernel
abbrev oy6 : MethodName := ⟨"com/example/trailhead/trailhead/arithmetic/NodeHeapPopPinLaw", "keyOf", "(IJJJJJ)J"⟩
theorem pn6 : plainFor oy6 = true := by first | exact plainFor_of_name (by first | (simp [plainName, overriddenIn]; done) | decide +kernel) | decide +kernel
theorem pd6 : parseMethodDescriptor oy6.desc = some ⟨[.int, .long, .long, .long, .long, .long], some .long⟩ := by decide +kernel
abbrev orm1 : Room := { frames := 1, cells := 2, slots := 32, locals := 13 }
abbrev orm3 : Room := { frames := 0, cells := 0, slots := 0, locals := 0 }
abbrev orm4 : Room := { frames := 0, cells := 0, slots := 0, locals := 0 }
abbrev orm5 : Room := { frames := 0, cells := 0, slots := 0, locals := 0 }
abbrev orm6 : Room := { frames := 0, cells := 0, slots := 0, locals := 0 }
set_option maxRecDepth 65536 in
set_option maxHeartbeats 40000000 in
theorem oc5 (l : Launch) (Z : State) (a0 : Array Value) (hw : ∀ d ∈ tables_1, d.before a0 Z = true) (n0 : Nat) (h : Heap) (v : Int32) (h0 : 0 ≤ v.toInt) (h4 : v.toInt ≤ 4) : o_C l Z n0 oy5 method_2_code 1 (some .boolean) orm5 [(.int v)] h (fun w h' => w = some (.int 1) ∧ h' = h) := by
  refine o_body (Ls := [.val (.int v)]) pn5 (by first | (simp [argsToLocals, Value.category]; done) | rfl) (fun κ B => ?_)
  refine o_iloadN (pc := 0) B d5_0 rfl ?_
  refine o_if_lt (pc := 1) (pc' := 13) B d5_1 (by decide) (by decide) (fun hc1 => False.elim ((by rw [Int32.lt_iff_toInt_lt] at hc1; have : (0 : Int32).toInt = 0 := rfl; omega))) (fun hc1 => ?_)
  refine o_iloadN (pc := 4) B d5_4 rfl ?_
  refine o_iconst (pc := 5) B (4 : Int32) d5_5 (by decide) ?_
  refine o_icmp_gt (pc := 6) (pc' := 13) B d5_6 (by decide) (by decide) (fun hc6 => False.elim ((by rw [Int32.lt_iff_toInt_lt] at hc6; have : (4 : Int32).toInt = 4 := rfl; omega))) (fun hc6 => ?_)
  refine o_iconst (pc := 9) B (1 : Int32) d5_9 (by decide) ?_
  refine o_goto (pc := 10) (pc' := 14) B d5_10 (by decide) (by decide) ?_
  exact o_zreturn (pc := 14) B d5_14 (by decide) (by decide) (⟨rfl, rfl⟩)
set_option maxRecDepth 65536 in
set_option maxHeartbeats 40000000 in
theorem oc6 (l : Launch) (Z : State) (a0 : Array Value) (hw : ∀ d ∈ tables_1, d.before a0 Z = true) (n0 : Nat) (h : Heap) (v : Int32) (k0 k1 k2 k3 k4 : Int64) : o_C l Z n0 oy6 method_3_code 11 (some .long) orm6 [(.int v), (.long k0), (.long k1), (.long k2), (.long k3), (.long k4)] h (fun w h' => w = some (.long (own_kf k0 k1 k2 k3 k4 v)) ∧ h' = h) := by
  refine o_body (Ls := [.val (.int v), .val (.long k0), .second, .val (.long k1), .second, .val (.long k2), .second, .val (.long k3), .second, .val (.long k4), .second]) pn6 (by first | (simp [argsToLocals, Value.category]; done) | rfl) (fun κ B => ?_)
  refine o_iloadN (pc := 0) B d6_0 rfl ?_
  refine o_if_ne (pc := 1) (pc' := 6) B d6_1 (by decide) (by decide) (fun hc1 => ?_) (fun hc1 => ?_)
  · refine o_iloadN (pc := 6) B d6_6 rfl ?_
    refine o_iconst (pc := 7) B (1 : Int32) d6_7 (by decide) ?_
    refine o_icmp_ne (pc := 8) (pc' := 13) B d6_8 (by decide) (by decide) (fun hc8 => ?_) (fun hc8 => ?_)
    · refine o_iloadN (pc := 13) B d6_13 rfl ?_
      refine o_iconst (pc := 14) B (2 : Int32) d6_14 (by decide) ?_
      refine o_icmp_ne (pc := 15) (pc' := 21) B d6_15 (by decide) (by decide) (fun hc15 => ?_) (fun hc15 => ?_)
      · refine o_iloadN (pc := 21) B d6_21 rfl ?_
        refine o_iconst (pc := 22) B (3 : Int32) d6_22 (by decide) ?_
        refine o_icmp_ne (pc := 23) (pc' := 29) B d6_23 (by decide) (by decide) (fun hc23 => ?_) (fun hc23 => ?_)
        · refine o_lload (pc := 29) B d6_29 rfl ?_
          exact o_lreturn (pc := 31) B d6_31 (by decide) (by decide) (⟨by simp [own_kf, hc1, hc8, hc15, hc23], rfl⟩)
        refine o_lload (pc := 26) B d6_26 rfl ?_
        exact o_lreturn (pc := 28) B d6_28 (by decide) (by decide) (⟨by simp [own_kf, hc23], rfl⟩)
      refine o_lload (pc := 18) B d6_18 rfl ?_
      exact o_lreturn (pc := 20) B d6_20 (by decide) (by decide) (⟨by simp [own_kf, hc15], rfl⟩)
    refine o_lloadN (pc := 11) B d6_11 rfl ?_
    exact o_lreturn (pc := 12) B d6_12 (by decide) (by decide) (⟨by simp [own_kf, hc8], rfl⟩)
  refine o_lloadN (pc := 4) B d6_4 rfl ?_
  exact o_lreturn (pc := 5) B d6_5 (by decide) (by decide) (⟨by simp [own_kf, hc1], rfl⟩)
set_option maxRecDepth 65536 in
set_option maxHeartbeats 40000000 in
theorem oc1 (l : Launch) (Z : State) (a0 : Array Value) (hw : ∀ d ∈ tables_1, d.before a0 Z = true) (n0 : Nat) (h : Heap) (o : Addr) (u1 u2 : Value) (go : n0 ≤ o) (Z0 : n0 ≤ h.size) (E : Exa Z h o own_NH) (F1 : Fld Z h o own_NH "keys" "[J" u1) (F2 : Fld Z h o own_NH "nodes" "[I" u2) (F3 : Fld Z h o own_NH "size" "I" (.int 0)) : o_C l Z n0 oy1 prog_19_method_1_code 1 none orm1 [(.ref o)] h (fun v h' => v = none ∧ ∃ ak an, own_Ob Z n0 h' o ak an 0 (List.replicate 16 0) (List.replicate 16 0)) := by
  refine o_body (Ls := [.val (.ref o)]) pn1 (by first | (simp [argsToLocals, Value.category]; done) | rfl) (fun κ B => ?_)
  refine o_aloadN (pc := 0) B d1_0 rfl rfl ?_
  refine o_initO (pc := 1) B (W := 0) d1_1 (hw _ (List.mem_of_getElem? (i := 6) rfl)) (hw _ (List.mem_of_getElem? (i := 7) rfl)) (hw _ (List.mem_of_getElem? (i := 8) rfl)) (by decide) (by first | exact Nat.zero_le _ | exact Nat.le_of_ble_eq_true rfl | simp [Value.category]) (by decide) rfl ?_
  refine o_aloadN (pc := 4) B d1_4 rfl rfl ?_
  refine o_bipush (pc := 5) B (16 : Int32) d1_5 (by decide) ?_
  refine o_newarray (pc := 7) B (16) (16) d1_7 (hw _ (List.mem_of_getElem? (i := 9) rfl)) (by decide) (by first | decide | omega) (by first | decide | omega) (by decide) (by decide) ?_
  intro h1 E1 lt1 A1
  obtain ⟨ak, gk, ek⟩ : ∃ a, n0 ≤ a ∧ a = h.size := ⟨_, Z0, rfl⟩
  have ok : o ≠ ak := o_ne (by have := o_lt E.lt; omega)
  rw [← ek] at A1 ⊢
  have A1' : o_LA Z h1 ak (List.replicate 16 0) := A1
  refine o_putF (pc := 9) (ty := (.array .long)) B d1_9 (hw _ (List.mem_of_getElem? (i := 10) rfl)) (F1.ext E1) (E.ext E1) (Or.inl (hw _ (List.mem_of_getElem? (i := 11) rfl))) (hw _ (List.mem_of_getElem? (i := 1) rfl)) (by decide) rfl rfl (go) ?_
  intro h2 W2
  have hs : h2.size = h1.size := W2.size
  refine o_aloadN (pc := 12) B d1_12 rfl rfl ?_
  refine o_bipush (pc := 13) B (16 : Int32) d1_13 (by decide) ?_
  refine o_newarray (pc := 15) B (16) (16) d1_15 (hw _ (List.mem_of_getElem? (i := 12) rfl)) (by decide) (by first | decide | omega) (by first | decide | omega) (by decide) (by decide) ?_
  intro h3 E3 lt3 A3
  obtain ⟨an, gn, en⟩ : ∃ a, n0 ≤ a ∧ a = h2.size := ⟨_, (by omega), rfl⟩
  have on : o ≠ an := o_ne (by have := o_lt E.lt; omega)
  have kn : ak ≠ an := o_ne (by omega)
  rw [← en] at A3 ⊢
  have A3' : o_IA Z h3 an (List.replicate 16 0) := A3
  have F2' : Fld Z h3 o own_NH "nodes" "[I" u2 := ((F2.ext E1).other W2 (Or.inr (slot_ne (C := own_NH) (Or.inl (hw _ (List.mem_of_getElem? (i := 14) rfl))) (Or.inl (hw _ (List.mem_of_getElem? (i := 11) rfl))) (by decide) (by decide : parseFieldDescriptor "[I" = some (.array .int)) (by decide : parseFieldDescriptor "[J" = some (.array .long))))).ext E3
  refine o_putF (pc := 17) (ty := (.array .int)) B d1_17 (hw _ (List.mem_of_getElem? (i := 13) rfl)) (F2') (((E.ext E1).wr W2).ext E3) (Or.inl (hw _ (List.mem_of_getElem? (i := 14) rfl))) (hw _ (List.mem_of_getElem? (i := 1) rfl)) (by decide) rfl rfl (go) ?_
  intro h4 W4
  exact o_return (pc := 20) B d1_20 (by decide) (by decide) (⟨rfl, ak, an, go, gk, gn, ok, on, kn, (((E.ext E1).wr W2).ext E3).wr W4, (((F1.ext E1).same W2).ext E3).other W4 (Or.inr (slot_ne (C := own_NH) (Or.inl (hw _ (List.mem_of_getElem? (i := 11) rfl))) (Or.inl (hw _ (List.mem_of_getElem? (i := 14) rfl))) (by decide) (by decide : parseFieldDescriptor "[J" = some (.array .long)) (by decide : parseFieldDescriptor "[I" = some (.array .int)))), F2'.same W4, (((F3.ext E1).other W2 (Or.inr (slot_ne (C := own_NH) (Or.inl (hw _ (List.mem_of_getElem? (i := 21) rfl))) (Or.inl (hw _ (List.mem_of_getElem? (i := 11) rfl))) (by decide) (by decide : parseFieldDescriptor "I" = some .int) (by decide : parseFieldDescriptor "[J" = some (.array .long))))).ext E3).other W4 (Or.inr (slot_ne (C := own_NH) (Or.inl (hw _ (List.mem_of_getElem? (i := 21) rfl))) (Or.inl (hw _ (List.mem_of_getElem? (i := 14) rfl))) (by decide) (by decide : parseFieldDescriptor "I" = some .int) (by decide : parseFieldDescriptor "[I" = some (.array .int)))), ((A1'.other W2 (Ne.symm ok)).ext E3).other W4 (Ne.symm ok), A3'.other W4 (Ne.symm on)⟩)
set_option maxRecDepth 65536 in
set_option maxHeartbeats 40000000 in
theorem oc3_0 (l : Launch) (Z : State) (a0 : Array Value) (hw : ∀ d ∈ tables_1, d.before a0 Z = true) (n0 : Nat) (h : Heap) (o ak an : Addr) (kf : Int32 → Int64) (S : Nat) (key : Int64) (node : Int32) (x0 x1 x2 x3 x4 : Int64) (v0 v1 v2 v3 v4 : Int32) (RK : List Int64) (RV : List Int32) (O : own_Ob Z n0 h o ak an 0 (x0 :: x1 :: x2 :: x3 :: x4 :: RK) (v0 :: v1 :: v2 :: v3 :: v4 :: RV)) (hRV : RV.length = 11) (ek : own_E kf key node) (I : own_Inv0 S) : o_C l Z n0 oy3 prog_19_method_3_code 6 none orm3 [(.ref o), (.long key), (.int node)] h (fun v h' => v = none ∧ ∃ x0n x1n x2n x3n x4n v0n v1n v2n v3n v4n, own_Ob Z n0 h' o ak an 1 (x0n :: x1n :: x2n :: x3n :: x4n :: RK) (v0n :: v1n :: v2n :: v3n :: v4n :: RV) ∧ own_Inv1 kf (-9223372036854775808) (S + own_P node) x0n v0n) := by
  refine o_body (Ls := [.val (.ref o), .val (.long key), .second, .val (.int node), .unset, .unset]) pn3 (by first | (simp [argsToLocals, Value.category]; done) | rfl) (fun κ B => ?_)
  have lk : -9223372036854775808 ≤ key.toInt := Int64.le_toInt key
  have hS : S = 0 := I
  refine o_aloadN (pc := 0) B d3_0 rfl rfl ?_
  refine o_getF (pc := 1) B d3_1 (hw _ (List.mem_of_getElem? (i := 20) rfl)) (O.fs) ?_
  refine o_aloadN (pc := 4) B d3_4 rfl rfl ?_
  refine o_getF (pc := 5) B d3_5 (hw _ (List.mem_of_getElem? (i := 13) rfl)) (O.fn) ?_
  refine o_arraylen (pc := 8) B (16 : Int32) d3_8 (O.pv) (by simp [hRV]) ?_
  refine o_icmp_ne (pc := 9) (pc' := 46) B d3_9 (by decide) (by decide) (fun hc9 => ?_) (fun hc9 => False.elim (by revert hc9; decide))
  refine o_aloadN (pc := 46) B d3_46 rfl rfl ?_
  refine o_dup (pc := 47) B d3_47 rfl ?_
  refine o_getF (pc := 48) B d3_48 (hw _ (List.mem_of_getElem? (i := 20) rfl)) (O.fs) ?_
  refine o_dup_x1 (pc := 51) B d3_51 rfl rfl ?_
  refine o_iconst (pc := 52) B (1 : Int32) d3_52 (by decide) ?_
  refine o_iadd_c (pc := 53) B (1 : Int32) d3_53 (by decide) ?_
  refine o_putF (pc := 54) (ty := .int) B d3_54 (hw _ (List.mem_of_getElem? (i := 20) rfl)) (O.fs) (O.ex) (Or.inl (hw _ (List.mem_of_getElem? (i := 21) rfl))) (hw _ (List.mem_of_getElem? (i := 1) rfl)) (by decide) rfl rfl (O.go) ?_
  intro h1 W1
  have O1 : own_Ob Z n0 h1 o ak an 1 (x0 :: x1 :: x2 :: x3 :: x4 :: RK) (v0 :: v1 :: v2 :: v3 :: v4 :: RV) := O.size hw W1
  refine o_istore_6_4 (pc := 57) B d3_57 rfl ?_
  refine o_iload (pc := 59) B d3_59 rfl ?_
  refine o_if_le (pc := 61) (pc' := 123) B d3_61 (by decide) (by decide) (fun hc61 => ?_) (fun hc61 => False.elim (by revert hc61; decide))
  refine o_aloadN (pc := 123) B d3_123 rfl rfl ?_
  refine o_getF (pc := 124) B d3_124 (hw _ (List.mem_of_getElem? (i := 10) rfl)) (O1.fk) ?_
  refine o_iload (pc := 127) B d3_127 rfl ?_
  refine o_lloadN (pc := 129) B d3_129 rfl ?_
  refine o_lastore (pc := 130) B (0) d3_130 (O1.pk) (by decide) (by simp) (O1.gk) ?_
  intro ha1 Wa1
  have Oa1 : own_Ob Z n0 ha1 o ak an 1 (key :: x1 :: x2 :: x3 :: x4 :: RK) (v0 :: v1 :: v2 :: v3 :: v4 :: RV) := O1.key Wa1
  refine o_aloadN (pc := 131) B d3_131 rfl rfl ?_
  refine o_getF (pc := 132) B d3_132 (hw _ (List.mem_of_getElem? (i := 13) rfl)) (Oa1.fn) ?_
  refine o_iload (pc := 135) B d3_135 rfl ?_
  refine o_iloadN (pc := 137) B d3_137 rfl ?_
  refine o_iastore (pc := 138) B (0) d3_138 (Oa1.pv) (by decide) (by simp) (Oa1.gn) ?_
  intro hb2 Wb2
  have Ob2 : own_Ob Z n0 hb2 o ak an 1 (key :: x1 :: x2 :: x3 :: x4 :: RK) (node :: v1 :: v2 :: v3 :: v4 :: RV) := Oa1.node Wb2
  exact o_return (pc := 139) B d3_139 (by decide) (by decide) (⟨rfl, key, x1, x2, x3, x4, node, v1, v2, v3, v4, Ob2, ⟨ek, by omega, by omega⟩⟩)
set_option maxRecDepth 65536 in
set_option maxHeartbeats 40000000 in
theorem oc3_1 (l : Launch) (Z : State) (a0 : Array Value) (hw : ∀ d ∈ tables_1, d.before a0 Z = true) (n0 : Nat) (h : Heap) (o ak an : Addr) (kf : Int32 → Int64) (S : Nat) (key : Int64) (node : Int32) (x0 x1 x2 x3 x4 : Int64) (v0 v1 v2 v3 v4 : Int32) (RK : List Int64) (RV : List Int32) (O : own_Ob Z n0 h o ak an 1 (x0 :: x1 :: x2 :: x3 :: x4 :: RK) (v0 :: v1 :: v2 :: v3 :: v4 :: RV)) (hRV : RV.length = 11) (ek : own_E kf key node) (I : own_Inv1 kf (-9223372036854775808) S x0 v0) : o_C l Z n0 oy3 prog_19_method_3_code 6 none orm3 [(.ref o), (.long key), (.int node)] h (fun v h' => v = none ∧ ∃ x0n x1n x2n x3n x4n v0n v1n v2n v3n v4n, own_Ob Z n0 h' o ak an 2 (x0n :: x1n :: x2n :: x3n :: x4n :: RK) (v0n :: v1n :: v2n :: v3n :: v4n :: RV) ∧ own_Inv2 kf (-9223372036854775808) (S + own_P node) x0n x1n v0n v1n) := by
  refine o_body (Ls := [.val (.ref o), .val (.long key), .second, .val (.int node), .unset, .unset]) pn3 (by first | (simp [argsToLocals, Value.category]; done) | rfl) (fun κ B => ?_)
  have lk : -9223372036854775808 ≤ key.toInt := Int64.le_toInt key
  obtain ⟨E0, hl, hS⟩ := I
  refine o_aloadN (pc := 0) B d3_0 rfl rfl ?_
  refine o_getF (pc := 1) B d3_1 (hw _ (List.mem_of_getElem? (i := 20) rfl)) (O.fs) ?_
  refine o_aloadN (pc := 4) B d3_4 rfl rfl ?_
  refine o_getF (pc := 5) B d3_5 (hw _ (List.mem_of_getElem? (i := 13) rfl)) (O.fn) ?_
  refine o_arraylen (pc := 8) B (16 : Int32) d3_8 (O.pv) (by simp [hRV]) ?_
  refine o_icmp_ne (pc := 9) (pc' := 46) B d3_9 (by decide) (by decide) (fun hc9 => ?_) (fun hc9 => False.elim (by revert hc9; decide))
  refine o_aloadN (pc := 46) B d3_46 rfl rfl ?_
  refine o_dup (pc := 47) B d3_47 rfl ?_
  refine o_getF (pc := 48) B d3_48 (hw _ (List.mem_of_getElem? (i := 20) rfl)) (O.fs) ?_
  refine o_dup_x1 (pc := 51) B d3_51 rfl rfl ?_
  refine o_iconst (pc := 52) B (1 : Int32) d3_52 (by decide) ?_
  refine o_iadd_c (pc := 53) B (2 : Int32) d3_53 (by decide) ?_
  refine o_putF (pc := 54) (ty := .int) B d3_54 (hw _ (List.mem_of_getElem? (i := 20) rfl)) (O.fs) (O.ex) (Or.inl (hw _ (List.mem_of_getElem? (i := 21) rfl))) (hw _ (List.mem_of_getElem? (i := 1) rfl)) (by decide) rfl rfl (O.go) ?_
  intro h1 W1
  have O1 : own_Ob Z n0 h1 o ak an 2 (x0 :: x1 :: x2 :: x3 :: x4 :: RK) (v0 :: v1 :: v2 :: v3 :: v4 :: RV) := O.size hw W1
  refine o_istore_6_4 (pc := 57) B d3_57 rfl ?_
  refine o_iload (pc := 59) B d3_59 rfl ?_
  refine o_if_le (pc := 61) (pc' := 123) B d3_61 (by decide) (by decide) (fun hc61 => False.elim (by revert hc61; decide)) (fun hc61 => ?_)
  refine o_aloadN (pc := 64) B d3_64 rfl rfl ?_
  refine o_getF (pc := 65) B d3_65 (hw _ (List.mem_of_getElem? (i := 10) rfl)) (O1.fk) ?_
  refine o_iload (pc := 68) B d3_68 rfl ?_
  refine o_iconst (pc := 70) B (1 : Int32) d3_70 (by decide) ?_
  refine o_isub_c (pc := 71) B (0 : Int32) d3_71 (by decide) ?_
  refine o_iconst (pc := 72) B (2 : Int32) d3_72 (by decide) ?_
  refine o_idiv_c (pc := 73) B (0 : Int32) d3_73 (by decide) (by decide) ?_
  refine o_laload (pc := 74) B (0) d3_74 (O1.pk) (by decide) (rfl) ?_
  refine o_lloadN (pc := 75) B d3_75 rfl ?_
  refine o_lcmp (pc := 76) B d3_76 ?_
  refine o_lif_le (pc := 77) (pc' := 123) B d3_77 (by decide) (by decide) (fun hc77 => ?_) (fun hc77 => ?_)
  · rw [Int64.lt_iff_toInt_lt] at hc77
    refine o_aloadN (pc := 123) B d3_123 rfl rfl ?_
    refine o_getF (pc := 124) B d3_124 (hw _ (List.mem_of_getElem? (i := 10) rfl)) (O1.fk) ?_
    refine o_iload (pc := 127) B d3_127 rfl ?_
    refine o_lloadN (pc := 129) B d3_129 rfl ?_
    refine o_lastore (pc := 130) B (1) d3_130 (O1.pk) (by decide) (by simp) (O1.gk) ?_
    intro ha3 Wa3
    have Oa3 : own_Ob Z n0 ha3 o ak an 2 (x0 :: key :: x2 :: x3 :: x4 :: RK) (v0 :: v1 :: v2 :: v3 :: v4 :: RV) := O1.key Wa3
    refine o_aloadN (pc := 131) B d3_131 rfl rfl ?_
    refine o_getF (pc := 132) B d3_132 (hw _ (List.mem_of_getElem? (i := 13) rfl)) (Oa3.fn) ?_
    refine o_iload (pc := 135) B d3_135 rfl ?_
    refine o_iloadN (pc := 137) B d3_137 rfl ?_
    refine o_iastore (pc := 138) B (1) d3_138 (Oa3.pv) (by decide) (by simp) (Oa3.gn) ?_
    intro hb4 Wb4
    have Ob4 : own_Ob Z n0 hb4 o ak an 2 (x0 :: key :: x2 :: x3 :: x4 :: RK) (v0 :: node :: v2 :: v3 :: v4 :: RV) := Oa3.node Wb4
    exact o_return (pc := 139) B d3_139 (by decide) (by decide) (⟨rfl, x0, key, x2, x3, x4, v0, node, v2, v3, v4, Ob4, ⟨E0, ek, by omega, by omega, by omega⟩⟩)
  rw [Int64.lt_iff_toInt_lt] at hc77
  have hb1 := hc77
  refine o_iload (pc := 80) B d3_80 rfl ?_
  refine o_iconst (pc := 82) B (1 : Int32) d3_82 (by decide) ?_
  refine o_isub_c (pc := 83) B (0 : Int32) d3_83 (by decide) ?_
  refine o_iconst (pc := 84) B (2 : Int32) d3_84 (by decide) ?_
  refine o_idiv_c (pc := 85) B (0 : Int32) d3_85 (by decide) (by decide) ?_
  refine o_istore_6_5 (pc := 86) B d3_86 rfl ?_
  refine o_aloadN (pc := 88) B d3_88 rfl rfl ?_
  refine o_getF (pc := 89) B d3_89 (hw _ (List.mem_of_getElem? (i := 10) rfl)) (O1.fk) ?_
  refine o_iload (pc := 92) B d3_92 rfl ?_
  refine o_aloadN (pc := 94) B d3_94 rfl rfl ?_
  refine o_getF (pc := 95) B d3_95 (hw _ (List.mem_of_getElem? (i := 10) rfl)) (O1.fk) ?_
  refine o_iload (pc := 98) B d3_98 rfl ?_
  refine o_laload (pc := 100) B (0) d3_100 (O1.pk) (by decide) (rfl) ?_
  refine o_lastore (pc := 101) B (1) d3_101 (O1.pk) (by decide) (by simp) (O1.gk) ?_
  intro ha5 Wa5
  have Oa5 : own_Ob Z n0 ha5 o ak an 2 (x0 :: x0 :: x2 :: x3 :: x4 :: RK) (v0 :: v1 :: v2 :: v3 :: v4 :: RV) := O1.key Wa5
  refine o_aloadN (pc := 102) B d3_102 rfl rfl ?_
  refine o_getF (pc := 103) B d3_103 (hw _ (List.mem_of_getElem? (i := 13) rfl)) (Oa5.fn) ?_
  refine o_iload (pc := 106) B d3_106 rfl ?_
  refine o_aloadN (pc := 108) B d3_108 rfl rfl ?_
  refine o_getF (pc := 109) B d3_109 (hw _ (List.mem_of_getElem? (i := 13) rfl)) (Oa5.fn) ?_
  refine o_iload (pc := 112) B d3_112 rfl ?_
  refine o_iaload (pc := 114) B (0) d3_114 (Oa5.pv) (by decide) (rfl) ?_
  refine o_iastore (pc := 115) B (1) d3_115 (Oa5.pv) (by decide) (by simp) (Oa5.gn) ?_
  intro hb6 Wb6
  have Ob6 : own_Ob Z n0 hb6 o ak an 2 (x0 :: x0 :: x2 :: x3 :: x4 :: RK) (v0 :: v0 :: v2 :: v3 :: v4 :: RV) := Oa5.node Wb6
  refine o_iload (pc := 116) B d3_116 rfl ?_
  refine o_istore_6_4 (pc := 118) B d3_118 rfl ?_
  refine o_goto (pc := 120) (pc' := 59) B d3_120 (by decide) (by decide) ?_
  refine o_iload (pc := 59) B d3_59 rfl ?_
  refine o_if_le (pc := 61) (pc' := 123) B d3_61 (by decide) (by decide) (fun hc61 => ?_) (fun hc61 => False.elim (by revert hc61; decide))
  refine o_aloadN (pc := 123) B d3_123 rfl rfl ?_
  refine o_getF (pc := 124) B d3_124 (hw _ (List.mem_of_getElem? (i := 10) rfl)) (Ob6.fk) ?_
  refine o_iload (pc := 127) B d3_127 rfl ?_
  refine o_lloadN (pc := 129) B d3_129 rfl ?_
  refine o_lastore (pc := 130) B (0) d3_130 (Ob6.pk) (by decide) (by simp) (Ob6.gk) ?_
  intro ha7 Wa7
  have Oa7 : own_Ob Z n0 ha7 o ak an 2 (key :: x0 :: x2 :: x3 :: x4 :: RK) (v0 :: v0 :: v2 :: v3 :: v4 :: RV) := Ob6.key Wa7
  refine o_aloadN (pc := 131) B d3_131 rfl rfl ?_
  refine o_getF (pc := 132) B d3_132 (hw _ (List.mem_of_getElem? (i := 13) rfl)) (Oa7.fn) ?_
  refine o_iload (pc := 135) B d3_135 rfl ?_
  refine o_iloadN (pc := 137) B d3_137 rfl ?_
  refine o_iastore (pc := 138) B (0) d3_138 (Oa7.pv) (by decide) (by simp) (Oa7.gn) ?_
  intro hb8 Wb8
  have Ob8 : own_Ob Z n0 hb8 o ak an 2 (key :: x0 :: x2 :: x3 :: x4 :: RK) (node :: v0 :: v2 :: v3 :: v4 :: RV) := Oa7.node Wb8
  exact o_return (pc := 139) B d3_139 (by decide) (by decide) (⟨rfl, key, x0, x2, x3, x4, node, v0, v2, v3, v4, Ob8, ⟨ek, E0, by omega, by omega, by omega⟩⟩)
set_option maxRecDepth 65536 in
set_option maxHeartbeats 40000000 in
theorem oc3_2 (l : Launch) (Z : State) (a0 : Array Value) (hw : ∀ d ∈ tables_1, d.before a0 Z = true) (n0 : Nat) (h : Heap) (o ak an : Addr) (kf : Int32 → Int64) (S : Nat) (key : Int64) (node : Int32) (x0 x1 x2 x3 x4 : Int64) (v0 v1 v2 v3 v4 : Int32) (RK : List Int64) (RV : List Int32) (O : own_Ob Z n0 h o ak an 2 (x0 :: x1 :: x2 :: x3 :: x4 :: RK) (v0 :: v1 :: v2 :: v3 :: v4 :: RV)) (hRV : RV.length = 11) (ek : own_E kf key node) (I : own_Inv2 kf (-9223372036854775808) S x0 x1 v0 v1) : o_C l Z n0 oy3 prog_19_method_3_code 6 none orm3 [(.ref o), (.long key), (.int node)] h (fun v h' => v = none ∧ ∃ x0n x1n x2n x3n x4n v0n v1n v2n v3n v4n, own_Ob Z n0 h' o ak an 3 (x0n :: x1n :: x2n :: x3n :: x4n :: RK) (v0n :: v1n :: v2n :: v3n :: v4n :: RV) ∧ own_Inv3 kf (-9223372036854775808) (S + own_P node) x0n x1n x2n v0n v1n v2n) := by
  refine o_body (Ls := [.val (.ref o), .val (.long key), .second, .val (.int node), .unset, .unset]) pn3 (by first | (simp [argsToLocals, Value.category]; done) | rfl) (fun κ B => ?_)
  have lk : -9223372036854775808 ≤ key.toInt := Int64.le_toInt key
  obtain ⟨E0, E1, hl, q01, hS⟩ := I
  refine o_aloadN (pc := 0) B d3_0 rfl rfl ?_
  refine o_getF (pc := 1) B d3_1 (hw _ (List.mem_of_getElem? (i := 20) rfl)) (O.fs) ?_
  refine o_aloadN (pc := 4) B d3_4 rfl rfl ?_
  refine o_getF (pc := 5) B d3_5 (hw _ (List.mem_of_getElem? (i := 13) rfl)) (O.fn) ?_
  refine o_arraylen (pc := 8) B (16 : Int32) d3_8 (O.pv) (by simp [hRV]) ?_
  refine o_icmp_ne (pc := 9) (pc' := 46) B d3_9 (by decide) (by decide) (fun hc9 => ?_) (fun hc9 => False.elim (by revert hc9; decide))
  refine o_aloadN (pc := 46) B d3_46 rfl rfl ?_
  refine o_dup (pc := 47) B d3_47 rfl ?_
  refine o_getF (pc := 48) B d3_48 (hw _ (List.mem_of_getElem? (i := 20) rfl)) (O.fs) ?_
  refine o_dup_x1 (pc := 51) B d3_51 rfl rfl ?_
  refine o_iconst (pc := 52) B (1 : Int32) d3_52 (by decide) ?_
  refine o_iadd_c (pc := 53) B (3 : Int32) d3_53 (by decide) ?_
  refine o_putF (pc := 54) (ty := .int) B d3_54 (hw _ (List.mem_of_getElem? (i := 20) rfl)) (O.fs) (O.ex) (Or.inl (hw _ (List.mem_of_getElem? (i := 21) rfl))) (hw _ (List.mem_of_getElem? (i := 1) rfl)) (by decide) rfl rfl (O.go) ?_
  intro h1 W1
  have O1 : own_Ob Z n0 h1 o ak an 3 (x0 :: x1 :: x2 :: x3 :: x4 :: RK) (v0 :: v1 :: v2 :: v3 :: v4 :: RV) := O.size hw W1
  refine o_istore_6_4 (pc := 57) B d3_57 rfl ?_
  refine o_iload (pc := 59) B d3_59 rfl ?_
  refine o_if_le (pc := 61) (pc' := 123) B d3_61 (by decide) (by decide) (fun hc61 => False.elim (by revert hc61; decide)) (fun hc61 => ?_)
  refine o_aloadN (pc := 64) B d3_64 rfl rfl ?_
  refine o_getF (pc := 65) B d3_65 (hw _ (List.mem_of_getElem? (i := 10) rfl)) (O1.fk) ?_
  refine o_iload (pc := 68) B d3_68 rfl ?_
  refine o_iconst (pc := 70) B (1 : Int32) d3_70 (by decide) ?_
  refine o_isub_c (pc := 71) B (1 : Int32) d3_71 (by decide) ?_
  refine o_iconst (pc := 72) B (2 : Int32) d3_72 (by decide) ?_
  refine o_idiv_c (pc := 73) B (0 : Int32) d3_73 (by decide) (by decide) ?_
  refine o_laload (pc := 74) B (0) d3_74 (O1.pk) (by decide) (rfl) ?_
  refine o_lloadN (pc := 75) B d3_75 rfl ?_
  refine o_lcmp (pc := 76) B d3_76 ?_
  refine o_lif_le (pc := 77) (pc' := 123) B d3_77 (by decide) (by decide) (fun hc77 => ?_) (fun hc77 => ?_)
  · rw [Int64.lt_iff_toInt_lt] at hc77
    refine o_aloadN (pc := 123) B d3_123 rfl rfl ?_
    refine o_getF (pc := 124) B d3_124 (hw _ (List.mem_of_getElem? (i := 10) rfl)) (O1.fk) ?_
    refine o_iload (pc := 127) B d3_127 rfl ?_
    refine o_lloadN (pc := 129) B d3_129 rfl ?_
    refine o_lastore (pc := 130) B (2) d3_130 (O1.pk) (by decide) (by simp) (O1.gk) ?_
    intro ha9 Wa9
    have Oa9 : own_Ob Z n0 ha9 o ak an 3 (x0 :: x1 :: key :: x3 :: x4 :: RK) (v0 :: v1 :: v2 :: v3 :: v4 :: RV) := O1.key Wa9
    refine o_aloadN (pc := 131) B d3_131 rfl rfl ?_
    refine o_getF (pc := 132) B d3_132 (hw _ (List.mem_of_getElem? (i := 13) rfl)) (Oa9.fn) ?_
    refine o_iload (pc := 135) B d3_135 rfl ?_
    refine o_iloadN (pc := 137) B d3_137 rfl ?_
    refine o_iastore (pc := 138) B (2) d3_138 (Oa9.pv) (by decide) (by simp) (Oa9.gn) ?_
    intro hb10 Wb10
    have Ob10 : own_Ob Z n0 hb10 o ak an 3 (x0 :: x1 :: key :: x3 :: x4 :: RK) (v0 :: v1 :: node :: v3 :: v4 :: RV) := Oa9.node Wb10
    exact o_return (pc := 139) B d3_139 (by decide) (by decide) (⟨rfl, x0, x1, key, x3, x4, v0, v1, node, v3, v4, Ob10, ⟨E0, E1, ek, by omega, by omega, by omega, by omega⟩⟩)
  rw [Int64.lt_iff_toInt_lt] at hc77
  have hb2 := hc77
  refine o_iload (pc := 80) B d3_80 rfl ?_
  refine o_iconst (pc := 82) B (1 : Int32) d3_82 (by decide) ?_
  refine o_isub_c (pc := 83) B (1 : Int32) d3_83 (by decide) ?_
  refine o_iconst (pc := 84) B (2 : Int32) d3_84 (by decide) ?_
  refine o_idiv_c (pc := 85) B (0 : Int32) d3_85 (by decide) (by decide) ?_
  refine o_istore_6_5 (pc := 86) B d3_86 rfl ?_
  refine o_aloadN (pc := 88) B d3_88 rfl rfl ?_
  refine o_getF (pc := 89) B d3_89 (hw _ (List.mem_of_getElem? (i := 10) rfl)) (O1.fk) ?_
  refine o_iload (pc := 92) B d3_92 rfl ?_
  refine o_aloadN (pc := 94) B d3_94 rfl rfl ?_
  refine o_getF (pc := 95) B d3_95 (hw _ (List.mem_of_getElem? (i := 10) rfl)) (O1.fk) ?_
  refine o_iload (pc := 98) B d3_98 rfl ?_
  refine o_laload (pc := 100) B (0) d3_100 (O1.pk) (by decide) (rfl) ?_
  refine o_lastore (pc := 101) B (2) d3_101 (O1.pk) (by decide) (by simp) (O1.gk) ?_
  intro ha11 Wa11
  have Oa11 : own_Ob Z n0 ha11 o ak an 3 (x0 :: x1 :: x0 :: x3 :: x4 :: RK) (v0 :: v1 :: v2 :: v3 :: v4 :: RV) := O1.key Wa11
  refine o_aloadN (pc := 102) B d3_102 rfl rfl ?_
  refine o_getF (pc := 103) B d3_103 (hw _ (List.mem_of_getElem? (i := 13) rfl)) (Oa11.fn) ?_
  refine o_iload (pc := 106) B d3_106 rfl ?_
  refine o_aloadN (pc := 108) B d3_108 rfl rfl ?_
  refine o_getF (pc := 109) B d3_109 (hw _ (List.mem_of_getElem? (i := 13) rfl)) (Oa11.fn) ?_
  refine o_iload (pc := 112) B d3_112 rfl ?_
  refine o_iaload (pc := 114) B (0) d3_114 (Oa11.pv) (by decide) (rfl) ?_
  refine o_iastore (pc := 115) B (2) d3_115 (Oa11.pv) (by decide) (by simp) (Oa11.gn) ?_
  intro hb12 Wb12
  have Ob12 : own_Ob Z n0 hb12 o ak an 3 (x0 :: x1 :: x0 :: x3 :: x4 :: RK) (v0 :: v1 :: v0 :: v3 :: v4 :: RV) := Oa11.node Wb12
  refine o_iload (pc := 116) B d3_116 rfl ?_
  refine o_istore_6_4 (pc := 118) B d3_118 rfl ?_
  refine o_goto (pc := 120) (pc' := 59) B d3_120 (by decide) (by decide) ?_
  refine o_iload (pc := 59) B d3_59 rfl ?_
  refine o_if_le (pc := 61) (pc' := 123) B d3_61 (by decide) (by decide) (fun hc61 => ?_) (fun hc61 => False.elim (by revert hc61; decide))
  refine o_aloadN (pc := 123) B d3_123 rfl rfl ?_
  refine o_getF (pc := 124) B d3_124 (hw _ (List.mem_of_getElem? (i := 10) rfl)) (Ob12.fk) ?_
  refine o_iload (pc := 127) B d3_127 rfl ?_
  refine o_lloadN (pc := 129) B d3_129 rfl ?_
  refine o_lastore (pc := 130) B (0) d3_130 (Ob12.pk) (by decide) (by simp) (Ob12.gk) ?_
  intro ha13 Wa13
  have Oa13 : own_Ob Z n0 ha13 o ak an 3 (key :: x1 :: x0 :: x3 :: x4 :: RK) (v0 :: v1 :: v0 :: v3 :: v4 :: RV) := Ob12.key Wa13
  refine o_aloadN (pc := 131) B d3_131 rfl rfl ?_
  refine o_getF (pc := 132) B d3_132 (hw _ (List.mem_of_getElem? (i := 13) rfl)) (Oa13.fn) ?_
  refine o_iload (pc := 135) B d3_135 rfl ?_
  refine o_iloadN (pc := 137) B d3_137 rfl ?_
  refine o_iastore (pc := 138) B (0) d3_138 (Oa13.pv) (by decide) (by simp) (Oa13.gn) ?_
  intro hb14 Wb14
  have Ob14 : own_Ob Z n0 hb14 o ak an 3 (key :: x1 :: x0 :: x3 :: x4 :: RK) (node :: v1 :: v0 :: v3 :: v4 :: RV) := Oa13.node Wb14
  exact o_return (pc := 139) B d3_139 (by decide) (by decide) (⟨rfl, key, x1, x0, x3, x4, node, v1, v0, v3, v4, Ob14, ⟨ek, E1, E0, by omega, by omega, by omega, by omega⟩⟩)
set_option maxRecDepth 65536 in
set_option maxHeartbeats 40000000 in
theorem oc3_3 (l : Launch) (Z : State) (a0 : Array Value) (hw : ∀ d ∈ tables_1, d.before a0 Z = true) (n0 : Nat) (h : Heap) (o ak an : Addr) (kf : Int32 → Int64) (S : Nat) (key : Int64) (node : Int32) (x0 x1 x2 x3 x4 : Int64) (v0 v1 v2 v3 v4 : Int32) (RK : List Int64) (RV : List Int32) (O : own_Ob Z n0 h o ak an 3 (x0 :: x1 :: x2 :: x3 :: x4 :: RK) (v0 :: v1 :: v2 :: v3 :: v4 :: RV)) (hRV : RV.length = 11) (ek : own_E kf key node) (I : own_Inv3 kf (-9223372036854775808) S x0 x1 x2 v0 v1 v2) : o_C l Z n0 oy3 prog_19_method_3_code 6 none orm3 [(.ref o), (.long key), (.int node)] h (fun v h' => v = none ∧ ∃ x0n x1n x2n x3n x4n v0n v1n v2n v3n v4n, own_Ob Z n0 h' o ak an 4 (x0n :: x1n :: x2n :: x3n :: x4n :: RK) (v0n :: v1n :: v2n :: v3n :: v4n :: RV) ∧ own_Inv4 kf (-9223372036854775808) (S + own_P node) x0n x1n x2n x3n v0n v1n v2n v3n) := by
  refine o_body (Ls := [.val (.ref o), .val (.long key), .second, .val (.int node), .unset, .unset]) pn3 (by first | (simp [argsToLocals, Value.category]; done) | rfl) (fun κ B => ?_)
  have lk : -9223372036854775808 ≤ key.toInt := Int64.le_toInt key
  obtain ⟨E0, E1, E2, hl, q01, q02, hS⟩ := I
  refine o_aloadN (pc := 0) B d3_0 rfl rfl ?_
  refine o_getF (pc := 1) B d3_1 (hw _ (List.mem_of_getElem? (i := 20) rfl)) (O.fs) ?_
  refine o_aloadN (pc := 4) B d3_4 rfl rfl ?_
  refine o_getF (pc := 5) B d3_5 (hw _ (List.mem_of_getElem? (i := 13) rfl)) (O.fn) ?_
  refine o_arraylen (pc := 8) B (16 : Int32) d3_8 (O.pv) (by simp [hRV]) ?_
  refine o_icmp_ne (pc := 9) (pc' := 46) B d3_9 (by decide) (by decide) (fun hc9 => ?_) (fun hc9 => False.elim (by revert hc9; decide))
  refine o_aloadN (pc := 46) B d3_46 rfl rfl ?_
  refine o_dup (pc := 47) B d3_47 rfl ?_
  refine o_getF (pc := 48) B d3_48 (hw _ (List.mem_of_getElem? (i := 20) rfl)) (O.fs) ?_
  refine o_dup_x1 (pc := 51) B d3_51 rfl rfl ?_
  refine o_iconst (pc := 52) B (1 : Int32) d3_52 (by decide) ?_
  refine o_iadd_c (pc := 53) B (4 : Int32) d3_53 (by decide) ?_
  refine o_putF (pc := 54) (ty := .int) B d3_54 (hw _ (List.mem_of_getElem? (i := 20) rfl)) (O.fs) (O.ex) (Or.inl (hw _ (List.mem_of_getElem? (i := 21) rfl))) (hw _ (List.mem_of_getElem? (i := 1) rfl)) (by decide) rfl rfl (O.go) ?_
  intro h1 W1
  have O1 : own_Ob Z n0 h1 o ak an 4 (x0 :: x1 :: x2 :: x3 :: x4 :: RK) (v0 :: v1 :: v2 :: v3 :: v4 :: RV) := O.size hw W1
  refine o_istore_6_4 (pc := 57) B d3_57 rfl ?_
  refine o_iload (pc := 59) B d3_59 rfl ?_
  refine o_if_le (pc := 61) (pc' := 123) B d3_61 (by decide) (by decide) (fun hc61 => False.elim (by revert hc61; decide)) (fun hc61 => ?_)
  refine o_aloadN (pc := 64) B d3_64 rfl rfl ?_
  refine o_getF (pc := 65) B d3_65 (hw _ (List.mem_of_getElem? (i := 10) rfl)) (O1.fk) ?_
  refine o_iload (pc := 68) B d3_68 rfl ?_
  refine o_iconst (pc := 70) B (1 : Int32) d3_70 (by decide) ?_
  refine o_isub_c (pc := 71) B (2 : Int32) d3_71 (by decide) ?_
  refine o_iconst (pc := 72) B (2 : Int32) d3_72 (by decide) ?_
  refine o_idiv_c (pc := 73) B (1 : Int32) d3_73 (by decide) (by decide) ?_
  refine o_laload (pc := 74) B (1) d3_74 (O1.pk) (by decide) (rfl) ?_
  refine o_lloadN (pc := 75) B d3_75 rfl ?_
  refine o_lcmp (pc := 76) B d3_76 ?_
  refine o_lif_le (pc := 77) (pc' := 123) B d3_77 (by decide) (by decide) (fun hc77 => ?_) (fun hc77 => ?_)
  · rw [Int64.lt_iff_toInt_lt] at hc77
    refine o_aloadN (pc := 123) B d3_123 rfl rfl ?_
    refine o_getF (pc := 124) B d3_124 (hw _ (List.mem_of_getElem? (i := 10) rfl)) (O1.fk) ?_
    refine o_iload (pc := 127) B d3_127 rfl ?_
    refine o_lloadN (pc := 129) B d3_129 rfl ?_
    refine o_lastore (pc := 130) B (3) d3_130 (O1.pk) (by decide) (by simp) (O1.gk) ?_
    intro ha15 Wa15
    have Oa15 : own_Ob Z n0 ha15 o ak an 4 (x0 :: x1 :: x2 :: key :: x4 :: RK) (v0 :: v1 :: v2 :: v3 :: v4 :: RV) := O1.key Wa15
    refine o_aloadN (pc := 131) B d3_131 rfl rfl ?_
    refine o_getF (pc := 132) B d3_132 (hw _ (List.mem_of_getElem? (i := 13) rfl)) (Oa15.fn) ?_
    refine o_iload (pc := 135) B d3_135 rfl ?_
    refine o_iloadN (pc := 137) B d3_137 rfl ?_
    refine o_iastore (pc := 138) B (3) d3_138 (Oa15.pv) (by decide) (by simp) (Oa15.gn) ?_
    intro hb16 Wb16
    have Ob16 : own_Ob Z n0 hb16 o ak an 4 (x0 :: x1 :: x2 :: key :: x4 :: RK) (v0 :: v1 :: v2 :: node :: v4 :: RV) := Oa15.node Wb16
    exact o_return (pc := 139) B d3_139 (by decide) (by decide) (⟨rfl, x0, x1, x2, key, x4, v0, v1, v2, node, v4, Ob16, ⟨E0, E1, E2, ek, by omega, by omega, by omega, by omega, by omega⟩⟩)
  rw [Int64.lt_iff_toInt_lt] at hc77
  have hb3 := hc77
  refine o_iload (pc := 80) B d3_80 rfl ?_
  refine o_iconst (pc := 82) B (1 : Int32) d3_82 (by decide) ?_
  refine o_isub_c (pc := 83) B (2 : Int32) d3_83 (by decide) ?_
  refine o_iconst (pc := 84) B (2 : Int32) d3_84 (by decide) ?_
  refine o_idiv_c (pc := 85) B (1 : Int32) d3_85 (by decide) (by decide) ?_
  refine o_istore_6_5 (pc := 86) B d3_86 rfl ?_
  refine o_aloadN (pc := 88) B d3_88 rfl rfl ?_
  refine o_getF (pc := 89) B d3_89 (hw _ (List.mem_of_getElem? (i := 10) rfl)) (O1.fk) ?_
  refine o_iload (pc := 92) B d3_92 rfl ?_
  refine o_aloadN (pc := 94) B d3_94 rfl rfl ?_
  refine o_getF (pc := 95) B d3_95 (hw _ (List.mem_of_getElem? (i := 10) rfl)) (O1.fk) ?_
  refine o_iload (pc := 98) B d3_98 rfl ?_
  refine o_laload (pc := 100) B (1) d3_100 (O1.pk) (by decide) (rfl) ?_
  refine o_lastore (pc := 101) B (3) d3_101 (O1.pk) (by decide) (by simp) (O1.gk) ?_
  intro ha17 Wa17
  have Oa17 : own_Ob Z n0 ha17 o ak an 4 (x0 :: x1 :: x2 :: x1 :: x4 :: RK) (v0 :: v1 :: v2 :: v3 :: v4 :: RV) := O1.key Wa17
  refine o_aloadN (pc := 102) B d3_102 rfl rfl ?_
  refine o_getF (pc := 103) B d3_103 (hw _ (List.mem_of_getElem? (i := 13) rfl)) (Oa17.fn) ?_
  refine o_iload (pc := 106) B d3_106 rfl ?_
  refine o_aloadN (pc := 108) B d3_108 rfl rfl ?_
  refine o_getF (pc := 109) B d3_109 (hw _ (List.mem_of_getElem? (i := 13) rfl)) (Oa17.fn) ?_
  refine o_iload (pc := 112) B d3_112 rfl ?_
  refine o_iaload (pc := 114) B (1) d3_114 (Oa17.pv) (by decide) (rfl) ?_
  refine o_iastore (pc := 115) B (3) d3_115 (Oa17.pv) (by decide) (by simp) (Oa17.gn) ?_
  intro hb18 Wb18
  have Ob18 : own_Ob Z n0 hb18 o ak an 4 (x0 :: x1 :: x2 :: x1 :: x4 :: RK) (v0 :: v1 :: v2 :: v1 :: v4 :: RV) := Oa17.node Wb18
  refine o_iload (pc := 116) B d3_116 rfl ?_
  refine o_istore_6_4 (pc := 118) B d3_118 rfl ?_
  refine o_goto (pc := 120) (pc' := 59) B d3_120 (by decide) (by decide) ?_
  refine o_iload (pc := 59) B d3_59 rfl ?_
  refine o_if_le (pc := 61) (pc' := 123) B d3_61 (by decide) (by decide) (fun hc61 => False.elim (by revert hc61; decide)) (fun hc61 => ?_)
  refine o_aloadN (pc := 64) B d3_64 rfl rfl ?_
  refine o_getF (pc := 65) B d3_65 (hw _ (List.mem_of_getElem? (i := 10) rfl)) (Ob18.fk) ?_
  refine o_iload (pc := 68) B d3_68 rfl ?_
  refine o_iconst (pc := 70) B (1 : Int32) d3_70 (by decide) ?_
  refine o_isub_c (pc := 71) B (0 : Int32) d3_71 (by decide) ?_
  refine o_iconst (pc := 72) B (2 : Int32) d3_72 (by decide) ?_
  refine o_idiv_c (pc := 73) B (0 : Int32) d3_73 (by decide) (by decide) ?_
  refine o_laload (pc := 74) B (0) d3_74 (Ob18.pk) (by decide) (rfl) ?_
  refine o_lloadN (pc := 75) B d3_75 rfl ?_
  refine o_lcmp (pc := 76) B d3_76 ?_
  refine o_lif_le (pc := 77) (pc' := 123) B d3_77 (by decide) (by decide) (fun hc77 => ?_) (fun hc77 => ?_)
  · rw [Int64.lt_iff_toInt_lt] at hc77
    refine o_aloadN (pc := 123) B d3_123 rfl rfl ?_
    refine o_getF (pc := 124) B d3_124 (hw _ (List.mem_of_getElem? (i := 10) rfl)) (Ob18.fk) ?_
    refine o_iload (pc := 127) B d3_127 rfl ?_
    refine o_lloadN (pc := 129) B d3_129 rfl ?_
    refine o_lastore (pc := 130) B (1) d3_130 (Ob18.pk) (by decide) (by simp) (Ob18.gk) ?_
    intro ha19 Wa19
    have Oa19 : own_Ob Z n0 ha19 o ak an 4 (x0 :: key :: x2 :: x1 :: x4 :: RK) (v0 :: v1 :: v2 :: v1 :: v4 :: RV) := Ob18.key Wa19
    refine o_aloadN (pc := 131) B d3_131 rfl rfl ?_
    refine o_getF (pc := 132) B d3_132 (hw _ (List.mem_of_getElem? (i := 13) rfl)) (Oa19.fn) ?_
    refine o_iload (pc := 135) B d3_135 rfl ?_
    refine o_iloadN (pc := 137) B d3_137 rfl ?_
    refine o_iastore (pc := 138) B (1) d3_138 (Oa19.pv) (by decide) (by simp) (Oa19.gn) ?_
    intro hb20 Wb20
    have Ob20 : own_Ob Z n0 hb20 o ak an 4 (x0 :: key :: x2 :: x1 :: x4 :: RK) (v0 :: node :: v2 :: v1 :: v4 :: RV) := Oa19.node Wb20
    exact o_return (pc := 139) B d3_139 (by decide) (by decide) (⟨rfl, x0, key, x2, x1, x4, v0, node, v2, v1, v4, Ob20, ⟨E0, ek, E2, E1, by omega, by omega, by omega, by omega, by omega⟩⟩)
  rw [Int64.lt_iff_toInt_lt] at hc77
  have hb1 := hc77
  refine o_iload (pc := 80) B d3_80 rfl ?_
  refine o_iconst (pc := 82) B (1 : Int32) d3_82 (by decide) ?_
  refine o_isub_c (pc := 83) B (0 : Int32) d3_83 (by decide) ?_
  refine o_iconst (pc := 84) B (2 : Int32) d3_84 (by decide) ?_
  refine o_idiv_c (pc := 85) B (0 : Int32) d3_85 (by decide) (by decide) ?_
  refine o_istore_6_5 (pc := 86) B d3_86 rfl ?_
  refine o_aloadN (pc := 88) B d3_88 rfl rfl ?_
  refine o_getF (pc := 89) B d3_89 (hw _ (List.mem_of_getElem? (i := 10) rfl)) (Ob18.fk) ?_
  refine o_iload (pc := 92) B d3_92 rfl ?_
  refine o_aloadN (pc := 94) B d3_94 rfl rfl ?_
  refine o_getF (pc := 95) B d3_95 (hw _ (List.mem_of_getElem? (i := 10) rfl)) (Ob18.fk) ?_
  refine o_iload (pc := 98) B d3_98 rfl ?_
  refine o_laload (pc := 100) B (0) d3_100 (Ob18.pk) (by decide) (rfl) ?_
  refine o_lastore (pc := 101) B (1) d3_101 (Ob18.pk) (by decide) (by simp) (Ob18.gk) ?_
  intro ha21 Wa21
  have Oa21 : own_Ob Z n0 ha21 o ak an 4 (x0 :: x0 :: x2 :: x1 :: x4 :: RK) (v0 :: v1 :: v2 :: v1 :: v4 :: RV) := Ob18.key Wa21
  refine o_aloadN (pc := 102) B d3_102 rfl rfl ?_
  refine o_getF (pc := 103) B d3_103 (hw _ (List.mem_of_getElem? (i := 13) rfl)) (Oa21.fn) ?_
  refine o_iload (pc := 106) B d3_106 rfl ?_
  refine o_aloadN (pc := 108) B d3_108 rfl rfl ?_
  refine o_getF (pc := 109) B d3_109 (hw _ (List.mem_of_getElem? (i := 13) rfl)) (Oa21.fn) ?_
  refine o_iload (pc := 112) B d3_112 rfl ?_
  refine o_iaload (pc := 114) B (0) d3_114 (Oa21.pv) (by decide) (rfl) ?_
  refine o_iastore (pc := 115) B (1) d3_115 (Oa21.pv) (by decide) (by simp) (Oa21.gn) ?_
  intro hb22 Wb22
  have Ob22 : own_Ob Z n0 hb22 o ak an 4 (x0 :: x0 :: x2 :: x1 :: x4 :: RK) (v0 :: v0 :: v2 :: v1 :: v4 :: RV) := Oa21.node Wb22
  refine o_iload (pc := 116) B d3_116 rfl ?_
  refine o_istore_6_4 (pc := 118) B d3_118 rfl ?_
  refine o_goto (pc := 120) (pc' := 59) B d3_120 (by decide) (by decide) ?_
  refine o_iload (pc := 59) B d3_59 rfl ?_
  refine o_if_le (pc := 61) (pc' := 123) B d3_61 (by decide) (by decide) (fun hc61 => ?_) (fun hc61 => False.elim (by revert hc61; decide))
  refine o_aloadN (pc := 123) B d3_123 rfl rfl ?_
  refine o_getF (pc := 124) B d3_124 (hw _ (List.mem_of_getElem? (i := 10) rfl)) (Ob22.fk) ?_
  refine o_iload (pc := 127) B d3_127 rfl ?_
  refine o_lloadN (pc := 129) B d3_129 rfl ?_
  refine o_lastore (pc := 130) B (0) d3_130 (Ob22.pk) (by decide) (by simp) (Ob22.gk) ?_
  intro ha23 Wa23
  have Oa23 : own_Ob Z n0 ha23 o ak an 4 (key :: x0 :: x2 :: x1 :: x4 :: RK) (v0 :: v0 :: v2 :: v1 :: v4 :: RV) := Ob22.key Wa23
  refine o_aloadN (pc := 131) B d3_131 rfl rfl ?_
  refine o_getF (pc := 132) B d3_132 (hw _ (List.mem_of_getElem? (i := 13) rfl)) (Oa23.fn) ?_
  refine o_iload (pc := 135) B d3_135 rfl ?_
  refine o_iloadN (pc := 137) B d3_137 rfl ?_
  refine o_iastore (pc := 138) B (0) d3_138 (Oa23.pv) (by decide) (by simp) (Oa23.gn) ?_
  intro hb24 Wb24
  have Ob24 : own_Ob Z n0 hb24 o ak an 4 (key :: x0 :: x2 :: x1 :: x4 :: RK) (node :: v0 :: v2 :: v1 :: v4 :: RV) := Oa23.node Wb24
  exact o_return (pc := 139) B d3_139 (by decide) (by decide) (⟨rfl, key, x0, x2, x1, x4, node, v0, v2, v1, v4, Ob24, ⟨ek, E0, E2, E1, by omega, by omega, by omega, by omega, by omega⟩⟩)
set_option maxRecDepth 65536 in
set_option maxHeartbeats 40000000 in
theorem oc3_4 (l : Launch) (Z : State) (a0 : Array Value) (hw : ∀ d ∈ tables_1, d.before a0 Z = true) (n0 : Nat) (h : Heap) (o ak an : Addr) (kf : Int32 → Int64) (S : Nat) (key : Int64) (node : Int32) (x0 x1 x2 x3 x4 : Int64) (v0 v1 v2 v3 v4 : Int32) (RK : List Int64) (RV : List Int32) (O : own_Ob Z n0 h o ak an 4 (x0 :: x1 :: x2 :: x3 :: x4 :: RK) (v0 :: v1 :: v2 :: v3 :: v4 :: RV)) (hRV : RV.length = 11) (ek : own_E kf key node) (I : own_Inv4 kf (-9223372036854775808) S x0 x1 x2 x3 v0 v1 v2 v3) : o_C l Z n0 oy3 prog_19_method_3_code 6 none orm3 [(.ref o), (.long key), (.int node)] h (fun v h' => v = none ∧ ∃ x0n x1n x2n x3n x4n v0n v1n v2n v3n v4n, own_Ob Z n0 h' o ak an 5 (x0n :: x1n :: x2n :: x3n :: x4n :: RK) (v0n :: v1n :: v2n :: v3n :: v4n :: RV) ∧ own_Inv5 kf (-9223372036854775808) (S + own_P node) x0n x1n x2n x3n x4n v0n v1n v2n v3n v4n) := by
  refine o_body (Ls := [.val (.ref o), .val (.long key), .second, .val (.int node), .unset, .unset]) pn3 (by first | (simp [argsToLocals, Value.category]; done) | rfl) (fun κ B => ?_)
  have lk : -9223372036854775808 ≤ key.toInt := Int64.le_toInt key
  obtain ⟨E0, E1, E2, E3, hl, q01, q02, q13, hS⟩ := I
  refine o_aloadN (pc := 0) B d3_0 rfl rfl ?_
  refine o_getF (pc := 1) B d3_1 (hw _ (List.mem_of_getElem? (i := 20) rfl)) (O.fs) ?_
  refine o_aloadN (pc := 4) B d3_4 rfl rfl ?_
  refine o_getF (pc := 5) B d3_5 (hw _ (List.mem_of_getElem? (i := 13) rfl)) (O.fn) ?_
  refine o_arraylen (pc := 8) B (16 : Int32) d3_8 (O.pv) (by simp [hRV]) ?_
  refine o_icmp_ne (pc := 9) (pc' := 46) B d3_9 (by decide) (by decide) (fun hc9 => ?_) (fun hc9 => False.elim (by revert hc9; decide))
  refine o_aloadN (pc := 46) B d3_46 rfl rfl ?_
  refine o_dup (pc := 47) B d3_47 rfl ?_
  refine o_getF (pc := 48) B d3_48 (hw _ (List.mem_of_getElem? (i := 20) rfl)) (O.fs) ?_
  refine o_dup_x1 (pc := 51) B d3_51 rfl rfl ?_
  refine o_iconst (pc := 52) B (1 : Int32) d3_52 (by decide) ?_
  refine o_iadd_c (pc := 53) B (5 : Int32) d3_53 (by decide) ?_
  refine o_putF (pc := 54) (ty := .int) B d3_54 (hw _ (List.mem_of_getElem? (i := 20) rfl)) (O.fs) (O.ex) (Or.inl (hw _ (List.mem_of_getElem? (i := 21) rfl))) (hw _ (List.mem_of_getElem? (i := 1) rfl)) (by decide) rfl rfl (O.go) ?_
  intro h1 W1
  have O1 : own_Ob Z n0 h1 o ak an 5 (x0 :: x1 :: x2 :: x3 :: x4 :: RK) (v0 :: v1 :: v2 :: v3 :: v4 :: RV) := O.size hw W1
  refine o_istore_6_4 (pc := 57) B d3_57 rfl ?_
  refine o_iload (pc := 59) B d3_59 rfl ?_
  refine o_if_le (pc := 61) (pc' := 123) B d3_61 (by decide) (by decide) (fun hc61 => False.elim (by revert hc61; decide)) (fun hc61 => ?_)
  refine o_aloadN (pc := 64) B d3_64 rfl rfl ?_
  refine o_getF (pc := 65) B d3_65 (hw _ (List.mem_of_getElem? (i := 10) rfl)) (O1.fk) ?_
  refine o_iload (pc := 68) B d3_68 rfl ?_
  refine o_iconst (pc := 70) B (1 : Int32) d3_70 (by decide) ?_
  refine o_isub_c (pc := 71) B (3 : Int32) d3_71 (by decide) ?_
  refine o_iconst (pc := 72) B (2 : Int32) d3_72 (by decide) ?_
  refine o_idiv_c (pc := 73) B (1 : Int32) d3_73 (by decide) (by decide) ?_
  refine o_laload (pc := 74) B (1) d3_74 (O1.pk) (by decide) (rfl) ?_
  refine o_lloadN (pc := 75) B d3_75 rfl ?_
  refine o_lcmp (pc := 76) B d3_76 ?_
  refine o_lif_le (pc := 77) (pc' := 123) B d3_77 (by decide) (by decide) (fun hc77 => ?_) (fun hc77 => ?_)
  · rw [Int64.lt_iff_toInt_lt] at hc77
    refine o_aloadN (pc := 123) B d3_123 rfl rfl ?_
    refine o_getF (pc := 124) B d3_124 (hw _ (List.mem_of_getElem? (i := 10) rfl)) (O1.fk) ?_
    refine o_iload (pc := 127) B d3_127 rfl ?_
    refine o_lloadN (pc := 129) B d3_129 rfl ?_
    refine o_lastore (pc := 130) B (4) d3_130 (O1.pk) (by decide) (by simp) (O1.gk) ?_
    intro ha25 Wa25
    have Oa25 : own_Ob Z n0 ha25 o ak an 5 (x0 :: x1 :: x2 :: x3 :: key :: RK) (v0 :: v1 :: v2 :: v3 :: v4 :: RV) := O1.key Wa25
    refine o_aloadN (pc := 131) B d3_131 rfl rfl ?_
    refine o_getF (pc := 132) B d3_132 (hw _ (List.mem_of_getElem? (i := 13) rfl)) (Oa25.fn) ?_
    refine o_iload (pc := 135) B d3_135 rfl ?_
    refine o_iloadN (pc := 137) B d3_137 rfl ?_
    refine o_iastore (pc := 138) B (4) d3_138 (Oa25.pv) (by decide) (by simp) (Oa25.gn) ?_
    intro hb26 Wb26
    have Ob26 : own_Ob Z n0 hb26 o ak an 5 (x0 :: x1 :: x2 :: x3 :: key :: RK) (v0 :: v1 :: v2 :: v3 :: node :: RV) := Oa25.node Wb26
    exact o_return (pc := 139) B d3_139 (by decide) (by decide) (⟨rfl, x0, x1, x2, x3, key, v0, v1, v2, v3, node, Ob26, ⟨E0, E1, E2, E3, ek, by omega, by omega, by omega, by omega, by omega, by omega⟩⟩)
  rw [Int64.lt_iff_toInt_lt] at hc77
  have hb4 := hc77
  refine o_iload (pc := 80) B d3_80 rfl ?_
  refine o_iconst (pc := 82) B (1 : Int32) d3_82 (by decide) ?_
  refine o_isub_c (pc := 83) B (3 : Int32) d3_83 (by decide) ?_
  refine o_iconst (pc := 84) B (2 : Int32) d3_84 (by decide) ?_
  refine o_idiv_c (pc := 85) B (1 : Int32) d3_85 (by decide) (by decide) ?_
  refine o_istore_6_5 (pc := 86) B d3_86 rfl ?_
  refine o_aloadN (pc := 88) B d3_88 rfl rfl ?_
  refine o_getF (pc := 89) B d3_89 (hw _ (List.mem_of_getElem? (i := 10) rfl)) (O1.fk) ?_
  refine o_iload (pc := 92) B d3_92 rfl ?_
  refine o_aloadN (pc := 94) B d3_94 rfl rfl ?_
  refine o_getF (pc := 95) B d3_95 (hw _ (List.mem_of_getElem? (i := 10) rfl)) (O1.fk) ?_
  refine o_iload (pc := 98) B d3_98 rfl ?_
  refine o_laload (pc := 100) B (1) d3_100 (O1.pk) (by decide) (rfl) ?_
  refine o_lastore (pc := 101) B (4) d3_101 (O1.pk) (by decide) (by simp) (O1.gk) ?_
  intro ha27 Wa27
  have Oa27 : own_Ob Z n0 ha27 o ak an 5 (x0 :: x1 :: x2 :: x3 :: x1 :: RK) (v0 :: v1 :: v2 :: v3 :: v4 :: RV) := O1.key Wa27
  refine o_aloadN (pc := 102) B d3_102 rfl rfl ?_
  refine o_getF (pc := 103) B d3_103 (hw _ (List.mem_of_getElem? (i := 13) rfl)) (Oa27.fn) ?_
  refine o_iload (pc := 106) B d3_106 rfl ?_
  refine o_aloadN (pc := 108) B d3_108 rfl rfl ?_
  refine o_getF (pc := 109) B d3_109 (hw _ (List.mem_of_getElem? (i := 13) rfl)) (Oa27.fn) ?_
  refine o_iload (pc := 112) B d3_112 rfl ?_
  refine o_iaload (pc := 114) B (1) d3_114 (Oa27.pv) (by decide) (rfl) ?_
  refine o_iastore (pc := 115) B (4) d3_115 (Oa27.pv) (by decide) (by simp) (Oa27.gn) ?_
  intro hb28 Wb28
  have Ob28 : own_Ob Z n0 hb28 o ak an 5 (x0 :: x1 :: x2 :: x3 :: x1 :: RK) (v0 :: v1 :: v2 :: v3 :: v1 :: RV) := Oa27.node Wb28
  refine o_iload (pc := 116) B d3_116 rfl ?_
  refine o_istore_6_4 (pc := 118) B d3_118 rfl ?_
  refine o_goto (pc := 120) (pc' := 59) B d3_120 (by decide) (by decide) ?_
  refine o_iload (pc := 59) B d3_59 rfl ?_
  refine o_if_le (pc := 61) (pc' := 123) B d3_61 (by decide) (by decide) (fun hc61 => False.elim (by revert hc61; decide)) (fun hc61 => ?_)
  refine o_aloadN (pc := 64) B d3_64 rfl rfl ?_
  refine o_getF (pc := 65) B d3_65 (hw _ (List.mem_of_getElem? (i := 10) rfl)) (Ob28.fk) ?_
  refine o_iload (pc := 68) B d3_68 rfl ?_
  refine o_iconst (pc := 70) B (1 : Int32) d3_70 (by decide) ?_
  refine o_isub_c (pc := 71) B (0 : Int32) d3_71 (by decide) ?_
  refine o_iconst (pc := 72) B (2 : Int32) d3_72 (by decide) ?_
  refine o_idiv_c (pc := 73) B (0 : Int32) d3_73 (by decide) (by decide) ?_
  refine o_laload (pc := 74) B (0) d3_74 (Ob28.pk) (by decide) (rfl) ?_
  refine o_lloadN (pc := 75) B d3_75 rfl ?_
  refine o_lcmp (pc := 76) B d3_76 ?_
  refine o_lif_le (pc := 77) (pc' := 123) B d3_77 (by decide) (by decide) (fun hc77 => ?_) (fun hc77 => ?_)
  · rw [Int64.lt_iff_toInt_lt] at hc77
    refine o_aloadN (pc := 123) B d3_123 rfl rfl ?_
    refine o_getF (pc := 124) B d3_124 (hw _ (List.mem_of_getElem? (i := 10) rfl)) (Ob28.fk) ?_
    refine o_iload (pc := 127) B d3_127 rfl ?_
    refine o_lloadN (pc := 129) B d3_129 rfl ?_
    refine o_lastore (pc := 130) B (1) d3_130 (Ob28.pk) (by decide) (by simp) (Ob28.gk) ?_
    intro ha29 Wa29
    have Oa29 : own_Ob Z n0 ha29 o ak an 5 (x0 :: key :: x2 :: x3 :: x1 :: RK) (v0 :: v1 :: v2 :: v3 :: v1 :: RV) := Ob28.key Wa29
    refine o_aloadN (pc := 131) B d3_131 rfl rfl ?_
    refine o_getF (pc := 132) B d3_132 (hw _ (List.mem_of_getElem? (i := 13) rfl)) (Oa29.fn) ?_
    refine o_iload (pc := 135) B d3_135 rfl ?_
    refine o_iloadN (pc := 137) B d3_137 rfl ?_
    refine o_iastore (pc := 138) B (1) d3_138 (Oa29.pv) (by decide) (by simp) (Oa29.gn) ?_
    intro hb30 Wb30
    have Ob30 : own_Ob Z n0 hb30 o ak an 5 (x0 :: key :: x2 :: x3 :: x1 :: RK) (v0 :: node :: v2 :: v3 :: v1 :: RV) := Oa29.node Wb30
    exact o_return (pc := 139) B d3_139 (by decide) (by decide) (⟨rfl, x0, key, x2, x3, x1, v0, node, v2, v3, v1, Ob30, ⟨E0, ek, E2, E3, E1, by omega, by omega, by omega, by omega, by omega, by omega⟩⟩)
  rw [Int64.lt_iff_toInt_lt] at hc77
  have hb1 := hc77
  refine o_iload (pc := 80) B d3_80 rfl ?_
  refine o_iconst (pc := 82) B (1 : Int32) d3_82 (by decide) ?_
  refine o_isub_c (pc := 83) B (0 : Int32) d3_83 (by decide) ?_
  refine o_iconst (pc := 84) B (2 : Int32) d3_84 (by decide) ?_
  refine o_idiv_c (pc := 85) B (0 : Int32) d3_85 (by decide) (by decide) ?_
  refine o_istore_6_5 (pc := 86) B d3_86 rfl ?_
  refine o_aloadN (pc := 88) B d3_88 rfl rfl ?_
  refine o_getF (pc := 89) B d3_89 (hw _ (List.mem_of_getElem? (i := 10) rfl)) (Ob28.fk) ?_
  refine o_iload (pc := 92) B d3_92 rfl ?_
  refine o_aloadN (pc := 94) B d3_94 rfl rfl ?_
  refine o_getF (pc := 95) B d3_95 (hw _ (List.mem_of_getElem? (i := 10) rfl)) (Ob28.fk) ?_
  refine o_iload (pc := 98) B d3_98 rfl ?_
  refine o_laload (pc := 100) B (0) d3_100 (Ob28.pk) (by decide) (rfl) ?_
  refine o_lastore (pc := 101) B (1) d3_101 (Ob28.pk) (by decide) (by simp) (Ob28.gk) ?_
  intro ha31 Wa31
  have Oa31 : own_Ob Z n0 ha31 o ak an 5 (x0 :: x0 :: x2 :: x3 :: x1 :: RK) (v0 :: v1 :: v2 :: v3 :: v1 :: RV) := Ob28.key Wa31
  refine o_aloadN (pc := 102) B d3_102 rfl rfl ?_
  refine o_getF (pc := 103) B d3_103 (hw _ (List.mem_of_getElem? (i := 13) rfl)) (Oa31.fn) ?_
  refine o_iload (pc := 106) B d3_106 rfl ?_
  refine o_aloadN (pc := 108) B d3_108 rfl rfl ?_
  refine o_getF (pc := 109) B d3_109 (hw _ (List.mem_of_getElem? (i := 13) rfl)) (Oa31.fn) ?_
  refine o_iload (pc := 112) B d3_112 rfl ?_
  refine o_iaload (pc := 114) B (0) d3_114 (Oa31.pv) (by decide) (rfl) ?_
  refine o_iastore (pc := 115) B (1) d3_115 (Oa31.pv) (by decide) (by simp) (Oa31.gn) ?_
  intro hb32 Wb32
  have Ob32 : own_Ob Z n0 hb32 o ak an 5 (x0 :: x0 :: x2 :: x3 :: x1 :: RK) (v0 :: v0 :: v2 :: v3 :: v1 :: RV) := Oa31.node Wb32
  refine o_iload (pc := 116) B d3_116 rfl ?_
  refine o_istore_6_4 (pc := 118) B d3_118 rfl ?_
  refine o_goto (pc := 120) (pc' := 59) B d3_120 (by decide) (by decide) ?_
  refine o_iload (pc := 59) B d3_59 rfl ?_
  refine o_if_le (pc := 61) (pc' := 123) B d3_61 (by decide) (by decide) (fun hc61 => ?_) (fun hc61 => False.elim (by revert hc61; decide))
  refine o_aloadN (pc := 123) B d3_123 rfl rfl ?_
  refine o_getF (pc := 124) B d3_124 (hw _ (List.mem_of_getElem? (i := 10) rfl)) (Ob32.fk) ?_
  refine o_iload (pc := 127) B d3_127 rfl ?_
  refine o_lloadN (pc := 129) B d3_129 rfl ?_
  refine o_lastore (pc := 130) B (0) d3_130 (Ob32.pk) (by decide) (by simp) (Ob32.gk) ?_
  intro ha33 Wa33
  have Oa33 : own_Ob Z n0 ha33 o ak an 5 (key :: x0 :: x2 :: x3 :: x1 :: RK) (v0 :: v0 :: v2 :: v3 :: v1 :: RV) := Ob32.key Wa33
  refine o_aloadN (pc := 131) B d3_131 rfl rfl ?_
  refine o_getF (pc := 132) B d3_132 (hw _ (List.mem_of_getElem? (i := 13) rfl)) (Oa33.fn) ?_
  refine o_iload (pc := 135) B d3_135 rfl ?_
  refine o_iloadN (pc := 137) B d3_137 rfl ?_
  refine o_iastore (pc := 138) B (0) d3_138 (Oa33.pv) (by decide) (by simp) (Oa33.gn) ?_
  intro hb34 Wb34
  have Ob34 : own_Ob Z n0 hb34 o ak an 5 (key :: x0 :: x2 :: x3 :: x1 :: RK) (node :: v0 :: v2 :: v3 :: v1 :: RV) := Oa33.node Wb34
  exact o_return (pc := 139) B d3_139 (by decide) (by decide) (⟨rfl, key, x0, x2, x3, x1, node, v0, v2, v3, v1, Ob34, ⟨ek, E0, E2, E3, E1, by omega, by omega, by omega, by omega, by omega, by omega⟩⟩)
set_option maxRecDepth 65536 in
set_option maxHeartbeats 40000000 in
theorem oc4_4 (l : Launch) (Z : State) (a0 : Array Value) (hw : ∀ d ∈ tables_1, d.before a0 Z = true) (n0 : Nat) (h : Heap) (o ak an : Addr) (kf : Int32 → Int64) (low : Int) (S : Nat) (x0 x1 x2 x3 x4 : Int64) (v0 v1 v2 v3 v4 : Int32) (RK : List Int64) (RV : List Int32) (O : own_Ob Z n0 h o ak an 5 (x0 :: x1 :: x2 :: x3 :: x4 :: RK) (v0 :: v1 :: v2 :: v3 :: v4 :: RV)) (I : own_Inv5 kf low S x0 x1 x2 x3 x4 v0 v1 v2 v3 v4) : o_C l Z n0 oy4 prog_19_method_4_code 7 (some .int) orm4 [(.ref o)] h (fun v h' => ∃ r : Int32, v = some (.int r) ∧ 0 ≤ r.toInt ∧ r.toInt ≤ 4 ∧ low ≤ (kf r).toInt ∧ own_P r ≤ S ∧ ∃ x0n x1n x2n x3n x4n v0n v1n v2n v3n v4n, own_Ob Z n0 h' o ak an 4 (x0n :: x1n :: x2n :: x3n :: x4n :: RK) (v0n :: v1n :: v2n :: v3n :: v4n :: RV) ∧ own_Inv4 kf (kf r).toInt (S - own_P r) x0n x1n x2n x3n v0n v1n v2n v3n) := by
  refine o_body (Ls := [.val (.ref o), .unset, .unset, .unset, .unset, .unset, .unset]) pn4 (by first | (simp [argsToLocals, Value.category]; done) | rfl) (fun κ B => ?_)
  obtain ⟨E0, E1, E2, E3, E4, hl, q01, q02, q13, q14, hS⟩ := I
  have e0 : (kf v0).toInt = x0.toInt := by rw [E0.1]
  refine o_aloadN (pc := 0) B d4_0 rfl rfl ?_
  refine o_getF (pc := 1) B d4_1 (hw _ (List.mem_of_getElem? (i := 13) rfl)) (O.fn) ?_
  refine o_iconst (pc := 4) B (0 : Int32) d4_4 (by decide) ?_
  refine o_iaload (pc := 5) B (0) d4_5 (O.pv) (by decide) (rfl) ?_
  refine o_istoreN_7_1 (pc := 6) B d4_6 rfl ?_
  refine o_aloadN (pc := 7) B d4_7 rfl rfl ?_
  refine o_dup (pc := 8) B d4_8 rfl ?_
  refine o_getF (pc := 9) B d4_9 (hw _ (List.mem_of_getElem? (i := 20) rfl)) (O.fs) ?_
  refine o_iconst (pc := 12) B (1 : Int32) d4_12 (by decide) ?_
  refine o_isub_c (pc := 13) B (4 : Int32) d4_13 (by decide) ?_
  refine o_putF (pc := 14) (ty := .int) B d4_14 (hw _ (List.mem_of_getElem? (i := 20) rfl)) (O.fs) (O.ex) (Or.inl (hw _ (List.mem_of_getElem? (i := 21) rfl))) (hw _ (List.mem_of_getElem? (i := 1) rfl)) (by decide) rfl rfl (O.go) ?_
  intro h1 W1
  have O1 : own_Ob Z n0 h1 o ak an 4 (x0 :: x1 :: x2 :: x3 :: x4 :: RK) (v0 :: v1 :: v2 :: v3 :: v4 :: RV) := O.size hw W1
  refine o_aloadN (pc := 17) B d4_17 rfl rfl ?_
  refine o_getF (pc := 18) B d4_18 (hw _ (List.mem_of_getElem? (i := 10) rfl)) (O1.fk) ?_
  refine o_aloadN (pc := 21) B d4_21 rfl rfl ?_
  refine o_getF (pc := 22) B d4_22 (hw _ (List.mem_of_getElem? (i := 20) rfl)) (O1.fs) ?_
  refine o_laload (pc := 25) B (4) d4_25 (O1.pk) (by decide) (rfl) ?_
  refine o_lstoreN_7_2 (pc := 26) B d4_26 rfl ?_
  refine o_aloadN (pc := 27) B d4_27 rfl rfl ?_
  refine o_getF (pc := 28) B d4_28 (hw _ (List.mem_of_getElem? (i := 13) rfl)) (O1.fn) ?_
  refine o_aloadN (pc := 31) B d4_31 rfl rfl ?_
  refine o_getF (pc := 32) B d4_32 (hw _ (List.mem_of_getElem? (i := 20) rfl)) (O1.fs) ?_
  refine o_iaload (pc := 35) B (4) d4_35 (O1.pv) (by decide) (rfl) ?_
  refine o_istore_7_4 (pc := 36) B d4_36 rfl ?_
  refine o_iconst (pc := 38) B (0 : Int32) d4_38 (by decide) ?_
  refine o_istore_7_5 (pc := 39) B d4_39 rfl ?_
  refine o_iconst (pc := 41) B (2 : Int32) d4_41 (by decide) ?_
  refine o_iload (pc := 42) B d4_42 rfl ?_
  refine o_imul_c (pc := 44) B (0 : Int32) d4_44 (by decide) ?_
  refine o_iconst (pc := 45) B (1 : Int32) d4_45 (by decide) ?_
  refine o_iadd_c (pc := 46) B (1 : Int32) d4_46 (by decide) ?_
  refine o_aloadN (pc := 47) B d4_47 rfl rfl ?_
  refine o_getF (pc := 48) B d4_48 (hw _ (List.mem_of_getElem? (i := 20) rfl)) (O1.fs) ?_
  refine o_icmp_ge (pc := 51) (pc' := 146) B d4_51 (by decide) (by decide) (fun hc51 => False.elim (by revert hc51; decide)) (fun hc51 => ?_)
  refine o_iconst (pc := 54) B (2 : Int32) d4_54 (by decide) ?_
  refine o_iload (pc := 55) B d4_55 rfl ?_
  refine o_imul_c (pc := 57) B (0 : Int32) d4_57 (by decide) ?_
  refine o_iconst (pc := 58) B (1 : Int32) d4_58 (by decide) ?_
  refine o_iadd_c (pc := 59) B (1 : Int32) d4_59 (by decide) ?_
  refine o_istore_7_6 (pc := 60) B d4_60 rfl ?_
  refine o_iload (pc := 62) B d4_62 rfl ?_
  refine o_iconst (pc := 64) B (1 : Int32) d4_64 (by decide) ?_
  refine o_iadd_c (pc := 65) B (2 : Int32) d4_65 (by decide) ?_
  refine o_aloadN (pc := 66) B d4_66 rfl rfl ?_
  refine o_getF (pc := 67) B d4_67 (hw _ (List.mem_of_getElem? (i := 20) rfl)) (O1.fs) ?_
  refine o_icmp_ge (pc := 70) (pc' := 96) B d4_70 (by decide) (by decide) (fun hc70 => False.elim (by revert hc70; decide)) (fun hc70 => ?_)
  refine o_aloadN (pc := 73) B d4_73 rfl rfl ?_
  refine o_getF (pc := 74) B d4_74 (hw _ (List.mem_of_getElem? (i := 10) rfl)) (O1.fk) ?_
  refine o_iload (pc := 77) B d4_77 rfl ?_
  refine o_iconst (pc := 79) B (1 : Int32) d4_79 (by decide) ?_
  refine o_iadd_c (pc := 80) B (2 : Int32) d4_80 (by decide) ?_
  refine o_laload (pc := 81) B (2) d4_81 (O1.pk) (by decide) (rfl) ?_
  refine o_aloadN (pc := 82) B d4_82 rfl rfl ?_
  refine o_getF (pc := 83) B d4_83 (hw _ (List.mem_of_getElem? (i := 10) rfl)) (O1.fk) ?_
  refine o_iload (pc := 86) B d4_86 rfl ?_
  refine o_laload (pc := 88) B (1) d4_88 (O1.pk) (by decide) (rfl) ?_
  refine o_lcmp (pc := 89) B d4_89 ?_
  refine o_lif_ge (pc := 90) (pc' := 96) B d4_90 (by decide) (by decide) (fun hc90 => ?_) (fun hc90 => ?_)
  · rw [Int64.lt_iff_toInt_lt] at hc90
    have hq0 := hc90
    refine o_aloadN (pc := 96) B d4_96 rfl rfl ?_
    refine o_getF (pc := 97) B d4_97 (hw _ (List.mem_of_getElem? (i := 10) rfl)) (O1.fk) ?_
    refine o_iload (pc := 100) B d4_100 rfl ?_
    refine o_laload (pc := 102) B (1) d4_102 (O1.pk) (by decide) (rfl) ?_
    refine o_lloadN (pc := 103) B d4_103 rfl ?_
    refine o_lcmp (pc := 104) B d4_104 ?_
    refine o_lif_lt (pc := 105) (pc' := 111) B d4_105 (by decide) (by decide) (fun hc105 => ?_) (fun hc105 => ?_)
    · rw [Int64.lt_iff_toInt_lt] at hc105
      have hr0 := hc105
      refine o_aloadN (pc := 111) B d4_111 rfl rfl ?_
      refine o_getF (pc := 112) B d4_112 (hw _ (List.mem_of_getElem? (i := 10) rfl)) (O1.fk) ?_
      refine o_iload (pc := 115) B d4_115 rfl ?_
      refine o_aloadN (pc := 117) B d4_117 rfl rfl ?_
      refine o_getF (pc := 118) B d4_118 (hw _ (List.mem_of_getElem? (i := 10) rfl)) (O1.fk) ?_
      refine o_iload (pc := 121) B d4_121 rfl ?_
      refine o_laload (pc := 123) B (1) d4_123 (O1.pk) (by decide) (rfl) ?_
      refine o_lastore (pc := 124) B (0) d4_124 (O1.pk) (by decide) (by simp) (O1.gk) ?_
      intro ha35 Wa35
      have Oa35 : own_Ob Z n0 ha35 o ak an 4 (x1 :: x1 :: x2 :: x3 :: x4 :: RK) (v0 :: v1 :: v2 :: v3 :: v4 :: RV) := O1.key Wa35
      refine o_aloadN (pc := 125) B d4_125 rfl rfl ?_
      refine o_getF (pc := 126) B d4_126 (hw _ (List.mem_of_getElem? (i := 13) rfl)) (Oa35.fn) ?_
      refine o_iload (pc := 129) B d4_129 rfl ?_
      refine o_aloadN (pc := 131) B d4_131 rfl rfl ?_
      refine o_getF (pc := 132) B d4_132 (hw _ (List.mem_of_getElem? (i := 13) rfl)) (Oa35.fn) ?_
      refine o_iload (pc := 135) B d4_135 rfl ?_
      refine o_iaload (pc := 137) B (1) d4_137 (Oa35.pv) (by decide) (rfl) ?_
      refine o_iastore (pc := 138) B (0) d4_138 (Oa35.pv) (by decide) (by simp) (Oa35.gn) ?_
      intro hb36 Wb36
      have Ob36 : own_Ob Z n0 hb36 o ak an 4 (x1 :: x1 :: x2 :: x3 :: x4 :: RK) (v1 :: v1 :: v2 :: v3 :: v4 :: RV) := Oa35.node Wb36
      refine o_iload (pc := 139) B d4_139 rfl ?_
      refine o_istore_7_5 (pc := 141) B d4_141 rfl ?_
      refine o_goto (pc := 143) (pc' := 41) B d4_143 (by decide) (by decide) ?_
      refine o_iconst (pc := 41) B (2 : Int32) d4_41 (by decide) ?_
      refine o_iload (pc := 42) B d4_42 rfl ?_
      refine o_imul_c (pc := 44) B (2 : Int32) d4_44 (by decide) ?_
      refine o_iconst (pc := 45) B (1 : Int32) d4_45 (by decide) ?_
      refine o_iadd_c (pc := 46) B (3 : Int32) d4_46 (by decide) ?_
      refine o_aloadN (pc := 47) B d4_47 rfl rfl ?_
      refine o_getF (pc := 48) B d4_48 (hw _ (List.mem_of_getElem? (i := 20) rfl)) (Ob36.fs) ?_
      refine o_icmp_ge (pc := 51) (pc' := 146) B d4_51 (by decide) (by decide) (fun hc51 => False.elim (by revert hc51; decide)) (fun hc51 => ?_)
      refine o_iconst (pc := 54) B (2 : Int32) d4_54 (by decide) ?_
      refine o_iload (pc := 55) B d4_55 rfl ?_
      refine o_imul_c (pc := 57) B (2 : Int32) d4_57 (by decide) ?_
      refine o_iconst (pc := 58) B (1 : Int32) d4_58 (by decide) ?_
      refine o_iadd_c (pc := 59) B (3 : Int32) d4_59 (by decide) ?_
      refine o_istore_7_6 (pc := 60) B d4_60 rfl ?_
      refine o_iload (pc := 62) B d4_62 rfl ?_
      refine o_iconst (pc := 64) B (1 : Int32) d4_64 (by decide) ?_
      refine o_iadd_c (pc := 65) B (4 : Int32) d4_65 (by decide) ?_
      refine o_aloadN (pc := 66) B d4_66 rfl rfl ?_
      refine o_getF (pc := 67) B d4_67 (hw _ (List.mem_of_getElem? (i := 20) rfl)) (Ob36.fs) ?_
      refine o_icmp_ge (pc := 70) (pc' := 96) B d4_70 (by decide) (by decide) (fun hc70 => ?_) (fun hc70 => False.elim (by revert hc70; decide))
      refine o_aloadN (pc := 96) B d4_96 rfl rfl ?_
      refine o_getF (pc := 97) B d4_97 (hw _ (List.mem_of_getElem? (i := 10) rfl)) (Ob36.fk) ?_
      refine o_iload (pc := 100) B d4_100 rfl ?_
      refine o_laload (pc := 102) B (3) d4_102 (Ob36.pk) (by decide) (rfl) ?_
      refine o_lloadN (pc := 103) B d4_103 rfl ?_
      refine o_lcmp (pc := 104) B d4_104 ?_
      refine o_lif_lt (pc := 105) (pc' := 111) B d4_105 (by decide) (by decide) (fun hc105 => ?_) (fun hc105 => ?_)
      · rw [Int64.lt_iff_toInt_lt] at hc105
        have hr1 := hc105
        refine o_aloadN (pc := 111) B d4_111 rfl rfl ?_
        refine o_getF (pc := 112) B d4_112 (hw _ (List.mem_of_getElem? (i := 10) rfl)) (Ob36.fk) ?_
        refine o_iload (pc := 115) B d4_115 rfl ?_
        refine o_aloadN (pc := 117) B d4_117 rfl rfl ?_
        refine o_getF (pc := 118) B d4_118 (hw _ (List.mem_of_getElem? (i := 10) rfl)) (Ob36.fk) ?_
        refine o_iload (pc := 121) B d4_121 rfl ?_
        refine o_laload (pc := 123) B (3) d4_123 (Ob36.pk) (by decide) (rfl) ?_
        refine o_lastore (pc := 124) B (1) d4_124 (Ob36.pk) (by decide) (by simp) (Ob36.gk) ?_
        intro ha37 Wa37
        have Oa37 : own_Ob Z n0 ha37 o ak an 4 (x1 :: x3 :: x2 :: x3 :: x4 :: RK) (v1 :: v1 :: v2 :: v3 :: v4 :: RV) := Ob36.key Wa37
        refine o_aloadN (pc := 125) B d4_125 rfl rfl ?_
        refine o_getF (pc := 126) B d4_126 (hw _ (List.mem_of_getElem? (i := 13) rfl)) (Oa37.fn) ?_
        refine o_iload (pc := 129) B d4_129 rfl ?_
        refine o_aloadN (pc := 131) B d4_131 rfl rfl ?_
        refine o_getF (pc := 132) B d4_132 (hw _ (List.mem_of_getElem? (i := 13) rfl)) (Oa37.fn) ?_
        refine o_iload (pc := 135) B d4_135 rfl ?_
        refine o_iaload (pc := 137) B (3) d4_137 (Oa37.pv) (by decide) (rfl) ?_
        refine o_iastore (pc := 138) B (1) d4_138 (Oa37.pv) (by decide) (by simp) (Oa37.gn) ?_
        intro hb38 Wb38
        have Ob38 : own_Ob Z n0 hb38 o ak an 4 (x1 :: x3 :: x2 :: x3 :: x4 :: RK) (v1 :: v3 :: v2 :: v3 :: v4 :: RV) := Oa37.node Wb38
        refine o_iload (pc := 139) B d4_139 rfl ?_
        refine o_istore_7_5 (pc := 141) B d4_141 rfl ?_
        refine o_goto (pc := 143) (pc' := 41) B d4_143 (by decide) (by decide) ?_
        refine o_iconst (pc := 41) B (2 : Int32) d4_41 (by decide) ?_
        refine o_iload (pc := 42) B d4_42 rfl ?_
        refine o_imul_c (pc := 44) B (6 : Int32) d4_44 (by decide) ?_
        refine o_iconst (pc := 45) B (1 : Int32) d4_45 (by decide) ?_
        refine o_iadd_c (pc := 46) B (7 : Int32) d4_46 (by decide) ?_
        refine o_aloadN (pc := 47) B d4_47 rfl rfl ?_
        refine o_getF (pc := 48) B d4_48 (hw _ (List.mem_of_getElem? (i := 20) rfl)) (Ob38.fs) ?_
        refine o_icmp_ge (pc := 51) (pc' := 146) B d4_51 (by decide) (by decide) (fun hc51 => ?_) (fun hc51 => False.elim (by revert hc51; decide))
        refine o_aloadN (pc := 146) B d4_146 rfl rfl ?_
        refine o_getF (pc := 147) B d4_147 (hw _ (List.mem_of_getElem? (i := 10) rfl)) (Ob38.fk) ?_
        refine o_iload (pc := 150) B d4_150 rfl ?_
        refine o_lloadN (pc := 152) B d4_152 rfl ?_
        refine o_lastore (pc := 153) B (3) d4_153 (Ob38.pk) (by decide) (by simp) (Ob38.gk) ?_
        intro ha39 Wa39
        have Oa39 : own_Ob Z n0 ha39 o ak an 4 (x1 :: x3 :: x2 :: x4 :: x4 :: RK) (v1 :: v3 :: v2 :: v3 :: v4 :: RV) := Ob38.key Wa39
        refine o_aloadN (pc := 154) B d4_154 rfl rfl ?_
        refine o_getF (pc := 155) B d4_155 (hw _ (List.mem_of_getElem? (i := 13) rfl)) (Oa39.fn) ?_
        refine o_iload (pc := 158) B d4_158 rfl ?_
        refine o_iload (pc := 160) B d4_160 rfl ?_
        refine o_iastore (pc := 162) B (3) d4_162 (Oa39.pv) (by decide) (by simp) (Oa39.gn) ?_
        intro hb40 Wb40
        have Ob40 : own_Ob Z n0 hb40 o ak an 4 (x1 :: x3 :: x2 :: x4 :: x4 :: RK) (v1 :: v3 :: v2 :: v4 :: v4 :: RV) := Oa39.node Wb40
        refine o_iloadN (pc := 163) B d4_163 rfl ?_
        exact o_ireturn (pc := 164) B d4_164 (by decide) (by decide) (⟨_, rfl, E0.2.1, E0.2.2, by omega, by omega, x1, x3, x2, x4, x4, v1, v3, v2, v4, v4, Ob40, ⟨E1, E3, E2, E4, by omega, by omega, by omega, by omega, by omega⟩⟩)
      rw [Int64.lt_iff_toInt_lt] at hc105
      have hr1 := hc105
      refine o_goto (pc := 108) (pc' := 146) B d4_108 (by decide) (by decide) ?_
      refine o_aloadN (pc := 146) B d4_146 rfl rfl ?_
      refine o_getF (pc := 147) B d4_147 (hw _ (List.mem_of_getElem? (i := 10) rfl)) (Ob36.fk) ?_
      refine o_iload (pc := 150) B d4_150 rfl ?_
      refine o_lloadN (pc := 152) B d4_152 rfl ?_
      refine o_lastore (pc := 153) B (1) d4_153 (Ob36.pk) (by decide) (by simp) (Ob36.gk) ?_
      intro ha41 Wa41
      have Oa41 : own_Ob Z n0 ha41 o ak an 4 (x1 :: x4 :: x2 :: x3 :: x4 :: RK) (v1 :: v1 :: v2 :: v3 :: v4 :: RV) := Ob36.key Wa41
      refine o_aloadN (pc := 154) B d4_154 rfl rfl ?_
      refine o_getF (pc := 155) B d4_155 (hw _ (List.mem_of_getElem? (i := 13) rfl)) (Oa41.fn) ?_
      refine o_iload (pc := 158) B d4_158 rfl ?_
      refine o_iload (pc := 160) B d4_160 rfl ?_
      refine o_iastore (pc := 162) B (1) d4_162 (Oa41.pv) (by decide) (by simp) (Oa41.gn) ?_
      intro hb42 Wb42
      have Ob42 : own_Ob Z n0 hb42 o ak an 4 (x1 :: x4 :: x2 :: x3 :: x4 :: RK) (v1 :: v4 :: v2 :: v3 :: v4 :: RV) := Oa41.node Wb42
      refine o_iloadN (pc := 163) B d4_163 rfl ?_
      exact o_ireturn (pc := 164) B d4_164 (by decide) (by decide) (⟨_, rfl, E0.2.1, E0.2.2, by omega, by omega, x1, x4, x2, x3, x4, v1, v4, v2, v3, v4, Ob42, ⟨E1, E4, E2, E3, by omega, by omega, by omega, by omega, by omega⟩⟩)
    rw [Int64.lt_iff_toInt_lt] at hc105
    have hr0 := hc105
    refine o_goto (pc := 108) (pc' := 146) B d4_108 (by decide) (by decide) ?_
    refine o_aloadN (pc := 146) B d4_146 rfl rfl ?_
    refine o_getF (pc := 147) B d4_147 (hw _ (List.mem_of_getElem? (i := 10) rfl)) (O1.fk) ?_
    refine o_iload (pc := 150) B d4_150 rfl ?_
    refine o_lloadN (pc := 152) B d4_152 rfl ?_
    refine o_lastore (pc := 153) B (0) d4_153 (O1.pk) (by decide) (by simp) (O1.gk) ?_
    intro ha43 Wa43
    have Oa43 : own_Ob Z n0 ha43 o ak an 4 (x4 :: x1 :: x2 :: x3 :: x4 :: RK) (v0 :: v1 :: v2 :: v3 :: v4 :: RV) := O1.key Wa43
    refine o_aloadN (pc := 154) B d4_154 rfl rfl ?_
    refine o_getF (pc := 155) B d4_155 (hw _ (List.mem_of_getElem? (i := 13) rfl)) (Oa43.fn) ?_
    refine o_iload (pc := 158) B d4_158 rfl ?_
    refine o_iload (pc := 160) B d4_160 rfl ?_
    refine o_iastore (pc := 162) B (0) d4_162 (Oa43.pv) (by decide) (by simp) (Oa43.gn) ?_
    intro hb44 Wb44
    have Ob44 : own_Ob Z n0 hb44 o ak an 4 (x4 :: x1 :: x2 :: x3 :: x4 :: RK) (v4 :: v1 :: v2 :: v3 :: v4 :: RV) := Oa43.node Wb44
    refine o_iloadN (pc := 163) B d4_163 rfl ?_
    exact o_ireturn (pc := 164) B d4_164 (by decide) (by decide) (⟨_, rfl, E0.2.1, E0.2.2, by omega, by omega, x4, x1, x2, x3, x4, v4, v1, v2, v3, v4, Ob44, ⟨E4, E1, E2, E3, by omega, by omega, by omega, by omega, by omega⟩⟩)
  rw [Int64.lt_iff_toInt_lt] at hc90
  have hq0 := hc90
  refine o_iinc_7_6 (pc := 93) B (1 : Int32) (2 : Int32) d4_93 (by decide) (by decide) ?_
  refine o_aloadN (pc := 96) B d4_96 rfl rfl ?_
  refine o_getF (pc := 97) B d4_97 (hw _ (List.mem_of_getElem? (i := 10) rfl)) (O1.fk) ?_
  refine o_iload (pc := 100) B d4_100 rfl ?_
  refine o_laload (pc := 102) B (2) d4_102 (O1.pk) (by decide) (rfl) ?_
  refine o_lloadN (pc := 103) B d4_103 rfl ?_
  refine o_lcmp (pc := 104) B d4_104 ?_
  refine o_lif_lt (pc := 105) (pc' := 111) B d4_105 (by decide) (by decide) (fun hc105 => ?_) (fun hc105 => ?_)
  · rw [Int64.lt_iff_toInt_lt] at hc105
    have hr0 := hc105
    refine o_aloadN (pc := 111) B d4_111 rfl rfl ?_
    refine o_getF (pc := 112) B d4_112 (hw _ (List.mem_of_getElem? (i := 10) rfl)) (O1.fk) ?_
    refine o_iload (pc := 115) B d4_115 rfl ?_
    refine o_aloadN (pc := 117) B d4_117 rfl rfl ?_
    refine o_getF (pc := 118) B d4_118 (hw _ (List.mem_of_getElem? (i := 10) rfl)) (O1.fk) ?_
    refine o_iload (pc := 121) B d4_121 rfl ?_
    refine o_laload (pc := 123) B (2) d4_123 (O1.pk) (by decide) (rfl) ?_
    refine o_lastore (pc := 124) B (0) d4_124 (O1.pk) (by decide) (by simp) (O1.gk) ?_
    intro ha45 Wa45
    have Oa45 : own_Ob Z n0 ha45 o ak an 4 (x2 :: x1 :: x2 :: x3 :: x4 :: RK) (v0 :: v1 :: v2 :: v3 :: v4 :: RV) := O1.key Wa45
    refine o_aloadN (pc := 125) B d4_125 rfl rfl ?_
    refine o_getF (pc := 126) B d4_126 (hw _ (List.mem_of_getElem? (i := 13) rfl)) (Oa45.fn) ?_
    refine o_iload (pc := 129) B d4_129 rfl ?_
    refine o_aloadN (pc := 131) B d4_131 rfl rfl ?_
    refine o_getF (pc := 132) B d4_132 (hw _ (List.mem_of_getElem? (i := 13) rfl)) (Oa45.fn) ?_
    refine o_iload (pc := 135) B d4_135 rfl ?_
    refine o_iaload (pc := 137) B (2) d4_137 (Oa45.pv) (by decide) (rfl) ?_
    refine o_iastore (pc := 138) B (0) d4_138 (Oa45.pv) (by decide) (by simp) (Oa45.gn) ?_
    intro hb46 Wb46
    have Ob46 : own_Ob Z n0 hb46 o ak an 4 (x2 :: x1 :: x2 :: x3 :: x4 :: RK) (v2 :: v1 :: v2 :: v3 :: v4 :: RV) := Oa45.node Wb46
    refine o_iload (pc := 139) B d4_139 rfl ?_
    refine o_istore_7_5 (pc := 141) B d4_141 rfl ?_
    refine o_goto (pc := 143) (pc' := 41) B d4_143 (by decide) (by decide) ?_
    refine o_iconst (pc := 41) B (2 : Int32) d4_41 (by decide) ?_
    refine o_iload (pc := 42) B d4_42 rfl ?_
    refine o_imul_c (pc := 44) B (4 : Int32) d4_44 (by decide) ?_
    refine o_iconst (pc := 45) B (1 : Int32) d4_45 (by decide) ?_
    refine o_iadd_c (pc := 46) B (5 : Int32) d4_46 (by decide) ?_
    refine o_aloadN (pc := 47) B d4_47 rfl rfl ?_
    refine o_getF (pc := 48) B d4_48 (hw _ (List.mem_of_getElem? (i := 20) rfl)) (Ob46.fs) ?_
    refine o_icmp_ge (pc := 51) (pc' := 146) B d4_51 (by decide) (by decide) (fun hc51 => ?_) (fun hc51 => False.elim (by revert hc51; decide))
    refine o_aloadN (pc := 146) B d4_146 rfl rfl ?_
    refine o_getF (pc := 147) B d4_147 (hw _ (List.mem_of_getElem? (i := 10) rfl)) (Ob46.fk) ?_
    refine o_iload (pc := 150) B d4_150 rfl ?_
    refine o_lloadN (pc := 152) B d4_152 rfl ?_
    refine o_lastore (pc := 153) B (2) d4_153 (Ob46.pk) (by decide) (by simp) (Ob46.gk) ?_
    intro ha47 Wa47
    have Oa47 : own_Ob Z n0 ha47 o ak an 4 (x2 :: x1 :: x4 :: x3 :: x4 :: RK) (v2 :: v1 :: v2 :: v3 :: v4 :: RV) := Ob46.key Wa47
    refine o_aloadN (pc := 154) B d4_154 rfl rfl ?_
    refine o_getF (pc := 155) B d4_155 (hw _ (List.mem_of_getElem? (i := 13) rfl)) (Oa47.fn) ?_
    refine o_iload (pc := 158) B d4_158 rfl ?_
    refine o_iload (pc := 160) B d4_160 rfl ?_
    refine o_iastore (pc := 162) B (2) d4_162 (Oa47.pv) (by decide) (by simp) (Oa47.gn) ?_
    intro hb48 Wb48
    have Ob48 : own_Ob Z n0 hb48 o ak an 4 (x2 :: x1 :: x4 :: x3 :: x4 :: RK) (v2 :: v1 :: v4 :: v3 :: v4 :: RV) := Oa47.node Wb48
    refine o_iloadN (pc := 163) B d4_163 rfl ?_
    exact o_ireturn (pc := 164) B d4_164 (by decide) (by decide) (⟨_, rfl, E0.2.1, E0.2.2, by omega, by omega, x2, x1, x4, x3, x4, v2, v1, v4, v3, v4, Ob48, ⟨E2, E1, E4, E3, by omega, by omega, by omega, by omega, by omega⟩⟩)
  rw [Int64.lt_iff_toInt_lt] at hc105
  have hr0 := hc105
  refine o_goto (pc := 108) (pc' := 146) B d4_108 (by decide) (by decide) ?_
  refine o_aloadN (pc := 146) B d4_146 rfl rfl ?_
  refine o_getF (pc := 147) B d4_147 (hw _ (List.mem_of_getElem? (i := 10) rfl)) (O1.fk) ?_
  refine o_iload (pc := 150) B d4_150 rfl ?_
  refine o_lloadN (pc := 152) B d4_152 rfl ?_
  refine o_lastore (pc := 153) B (0) d4_153 (O1.pk) (by decide) (by simp) (O1.gk) ?_
  intro ha49 Wa49
  have Oa49 : own_Ob Z n0 ha49 o ak an 4 (x4 :: x1 :: x2 :: x3 :: x4 :: RK) (v0 :: v1 :: v2 :: v3 :: v4 :: RV) := O1.key Wa49
  refine o_aloadN (pc := 154) B d4_154 rfl rfl ?_
  refine o_getF (pc := 155) B d4_155 (hw _ (List.mem_of_getElem? (i := 13) rfl)) (Oa49.fn) ?_
  refine o_iload (pc := 158) B d4_158 rfl ?_
  refine o_iload (pc := 160) B d4_160 rfl ?_
  refine o_iastore (pc := 162) B (0) d4_162 (Oa49.pv) (by decide) (by simp) (Oa49.gn) ?_
  intro hb50 Wb50
  have Ob50 : own_Ob Z n0 hb50 o ak an 4 (x4 :: x1 :: x2 :: x3 :: x4 :: RK) (v4 :: v1 :: v2 :: v3 :: v4 :: RV) := Oa49.node Wb50
  refine o_iloadN (pc := 163) B d4_163 rfl ?_
  exact o_ireturn (pc := 164) B d4_164 (by decide) (by decide) (⟨_, rfl, E0.2.1, E0.2.2, by omega, by omega, x4, x1, x2, x3, x4, v4, v1, v2, v3, v4, Ob50, ⟨E4, E1, E2, E3, by omega, by omega, by omega, by omega, by omega⟩⟩)
set_option maxRecDepth 65536 in
set_option maxHeartbeats 40000000 in
theorem oc4_3 (l : Launch) (Z : State) (a0 : Array Value) (hw : ∀ d ∈ tables_1, d.before a0 Z = true) (n0 : Nat) (h : Heap) (o ak an : Addr) (kf : Int32 → Int64) (low : Int) (S : Nat) (x0 x1 x2 x3 x4 : Int64) (v0 v1 v2 v3 v4 : Int32) (RK : List Int64) (RV : List Int32) (O : own_Ob Z n0 h o ak an 4 (x0 :: x1 :: x2 :: x3 :: x4 :: RK) (v0 :: v1 :: v2 :: v3 :: v4 :: RV)) (I : own_Inv4 kf low S x0 x1 x2 x3 v0 v1 v2 v3) : o_C l Z n0 oy4 prog_19_method_4_code 7 (some .int) orm4 [(.ref o)] h (fun v h' => ∃ r : Int32, v = some (.int r) ∧ 0 ≤ r.toInt ∧ r.toInt ≤ 4 ∧ low ≤ (kf r).toInt ∧ own_P r ≤ S ∧ ∃ x0n x1n x2n x3n x4n v0n v1n v2n v3n v4n, own_Ob Z n0 h' o ak an 3 (x0n :: x1n :: x2n :: x3n :: x4n :: RK) (v0n :: v1n :: v2n :: v3n :: v4n :: RV) ∧ own_Inv3 kf (kf r).toInt (S - own_P r) x0n x1n x2n v0n v1n v2n) := by
  refine o_body (Ls := [.val (.ref o), .unset, .unset, .unset, .unset, .unset, .unset]) pn4 (by first | (simp [argsToLocals, Value.category]; done) | rfl) (fun κ B => ?_)
  obtain ⟨E0, E1, E2, E3, hl, q01, q02, q13, hS⟩ := I
  have e0 : (kf v0).toInt = x0.toInt := by rw [E0.1]
  refine o_aloadN (pc := 0) B d4_0 rfl rfl ?_
  refine o_getF (pc := 1) B d4_1 (hw _ (List.mem_of_getElem? (i := 13) rfl)) (O.fn) ?_
  refine o_iconst (pc := 4) B (0 : Int32) d4_4 (by decide) ?_
  refine o_iaload (pc := 5) B (0) d4_5 (O.pv) (by decide) (rfl) ?_
  refine o_istoreN_7_1 (pc := 6) B d4_6 rfl ?_
  refine o_aloadN (pc := 7) B d4_7 rfl rfl ?_
  refine o_dup (pc := 8) B d4_8 rfl ?_
  refine o_getF (pc := 9) B d4_9 (hw _ (List.mem_of_getElem? (i := 20) rfl)) (O.fs) ?_
  refine o_iconst (pc := 12) B (1 : Int32) d4_12 (by decide) ?_
  refine o_isub_c (pc := 13) B (3 : Int32) d4_13 (by decide) ?_
  refine o_putF (pc := 14) (ty := .int) B d4_14 (hw _ (List.mem_of_getElem? (i := 20) rfl)) (O.fs) (O.ex) (Or.inl (hw _ (List.mem_of_getElem? (i := 21) rfl))) (hw _ (List.mem_of_getElem? (i := 1) rfl)) (by decide) rfl rfl (O.go) ?_
  intro h1 W1
  have O1 : own_Ob Z n0 h1 o ak an 3 (x0 :: x1 :: x2 :: x3 :: x4 :: RK) (v0 :: v1 :: v2 :: v3 :: v4 :: RV) := O.size hw W1
  refine o_aloadN (pc := 17) B d4_17 rfl rfl ?_
  refine o_getF (pc := 18) B d4_18 (hw _ (List.mem_of_getElem? (i := 10) rfl)) (O1.fk) ?_
  refine o_aloadN (pc := 21) B d4_21 rfl rfl ?_
  refine o_getF (pc := 22) B d4_22 (hw _ (List.mem_of_getElem? (i := 20) rfl)) (O1.fs) ?_
  refine o_laload (pc := 25) B (3) d4_25 (O1.pk) (by decide) (rfl) ?_
  refine o_lstoreN_7_2 (pc := 26) B d4_26 rfl ?_
  refine o_aloadN (pc := 27) B d4_27 rfl rfl ?_
  refine o_getF (pc := 28) B d4_28 (hw _ (List.mem_of_getElem? (i := 13) rfl)) (O1.fn) ?_
  refine o_aloadN (pc := 31) B d4_31 rfl rfl ?_
  refine o_getF (pc := 32) B d4_32 (hw _ (List.mem_of_getElem? (i := 20) rfl)) (O1.fs) ?_
  refine o_iaload (pc := 35) B (3) d4_35 (O1.pv) (by decide) (rfl) ?_
  refine o_istore_7_4 (pc := 36) B d4_36 rfl ?_
  refine o_iconst (pc := 38) B (0 : Int32) d4_38 (by decide) ?_
  refine o_istore_7_5 (pc := 39) B d4_39 rfl ?_
  refine o_iconst (pc := 41) B (2 : Int32) d4_41 (by decide) ?_
  refine o_iload (pc := 42) B d4_42 rfl ?_
  refine o_imul_c (pc := 44) B (0 : Int32) d4_44 (by decide) ?_
  refine o_iconst (pc := 45) B (1 : Int32) d4_45 (by decide) ?_
  refine o_iadd_c (pc := 46) B (1 : Int32) d4_46 (by decide) ?_
  refine o_aloadN (pc := 47) B d4_47 rfl rfl ?_
  refine o_getF (pc := 48) B d4_48 (hw _ (List.mem_of_getElem? (i := 20) rfl)) (O1.fs) ?_
  refine o_icmp_ge (pc := 51) (pc' := 146) B d4_51 (by decide) (by decide) (fun hc51 => False.elim (by revert hc51; decide)) (fun hc51 => ?_)
  refine o_iconst (pc := 54) B (2 : Int32) d4_54 (by decide) ?_
  refine o_iload (pc := 55) B d4_55 rfl ?_
  refine o_imul_c (pc := 57) B (0 : Int32) d4_57 (by decide) ?_
  refine o_iconst (pc := 58) B (1 : Int32) d4_58 (by decide) ?_
  refine o_iadd_c (pc := 59) B (1 : Int32) d4_59 (by decide) ?_
  refine o_istore_7_6 (pc := 60) B d4_60 rfl ?_
  refine o_iload (pc := 62) B d4_62 rfl ?_
  refine o_iconst (pc := 64) B (1 : Int32) d4_64 (by decide) ?_
  refine o_iadd_c (pc := 65) B (2 : Int32) d4_65 (by decide) ?_
  refine o_aloadN (pc := 66) B d4_66 rfl rfl ?_
  refine o_getF (pc := 67) B d4_67 (hw _ (List.mem_of_getElem? (i := 20) rfl)) (O1.fs) ?_
  refine o_icmp_ge (pc := 70) (pc' := 96) B d4_70 (by decide) (by decide) (fun hc70 => False.elim (by revert hc70; decide)) (fun hc70 => ?_)
  refine o_aloadN (pc := 73) B d4_73 rfl rfl ?_
  refine o_getF (pc := 74) B d4_74 (hw _ (List.mem_of_getElem? (i := 10) rfl)) (O1.fk) ?_
  refine o_iload (pc := 77) B d4_77 rfl ?_
  refine o_iconst (pc := 79) B (1 : Int32) d4_79 (by decide) ?_
  refine o_iadd_c (pc := 80) B (2 : Int32) d4_80 (by decide) ?_
  refine o_laload (pc := 81) B (2) d4_81 (O1.pk) (by decide) (rfl) ?_
  refine o_aloadN (pc := 82) B d4_82 rfl rfl ?_
  refine o_getF (pc := 83) B d4_83 (hw _ (List.mem_of_getElem? (i := 10) rfl)) (O1.fk) ?_
  refine o_iload (pc := 86) B d4_86 rfl ?_
  refine o_laload (pc := 88) B (1) d4_88 (O1.pk) (by decide) (rfl) ?_
  refine o_lcmp (pc := 89) B d4_89 ?_
  refine o_lif_ge (pc := 90) (pc' := 96) B d4_90 (by decide) (by decide) (fun hc90 => ?_) (fun hc90 => ?_)
  · rw [Int64.lt_iff_toInt_lt] at hc90
    have hq0 := hc90
    refine o_aloadN (pc := 96) B d4_96 rfl rfl ?_
    refine o_getF (pc := 97) B d4_97 (hw _ (List.mem_of_getElem? (i := 10) rfl)) (O1.fk) ?_
    refine o_iload (pc := 100) B d4_100 rfl ?_
    refine o_laload (pc := 102) B (1) d4_102 (O1.pk) (by decide) (rfl) ?_
    refine o_lloadN (pc := 103) B d4_103 rfl ?_
    refine o_lcmp (pc := 104) B d4_104 ?_
    refine o_lif_lt (pc := 105) (pc' := 111) B d4_105 (by decide) (by decide) (fun hc105 => ?_) (fun hc105 => ?_)
    · rw [Int64.lt_iff_toInt_lt] at hc105
      have hr0 := hc105
      refine o_aloadN (pc := 111) B d4_111 rfl rfl ?_
      refine o_getF (pc := 112) B d4_112 (hw _ (List.mem_of_getElem? (i := 10) rfl)) (O1.fk) ?_
      refine o_iload (pc := 115) B d4_115 rfl ?_
      refine o_aloadN (pc := 117) B d4_117 rfl rfl ?_
      refine o_getF (pc := 118) B d4_118 (hw _ (List.mem_of_getElem? (i := 10) rfl)) (O1.fk) ?_
      refine o_iload (pc := 121) B d4_121 rfl ?_
      refine o_laload (pc := 123) B (1) d4_123 (O1.pk) (by decide) (rfl) ?_
      refine o_lastore (pc := 124) B (0) d4_124 (O1.pk) (by decide) (by simp) (O1.gk) ?_
      intro ha51 Wa51
      have Oa51 : own_Ob Z n0 ha51 o ak an 3 (x1 :: x1 :: x2 :: x3 :: x4 :: RK) (v0 :: v1 :: v2 :: v3 :: v4 :: RV) := O1.key Wa51
      refine o_aloadN (pc := 125) B d4_125 rfl rfl ?_
      refine o_getF (pc := 126) B d4_126 (hw _ (List.mem_of_getElem? (i := 13) rfl)) (Oa51.fn) ?_
      refine o_iload (pc := 129) B d4_129 rfl ?_
      refine o_aloadN (pc := 131) B d4_131 rfl rfl ?_
      refine o_getF (pc := 132) B d4_132 (hw _ (List.mem_of_getElem? (i := 13) rfl)) (Oa51.fn) ?_
      refine o_iload (pc := 135) B d4_135 rfl ?_
      refine o_iaload (pc := 137) B (1) d4_137 (Oa51.pv) (by decide) (rfl) ?_
      refine o_iastore (pc := 138) B (0) d4_138 (Oa51.pv) (by decide) (by simp) (Oa51.gn) ?_
      intro hb52 Wb52
      have Ob52 : own_Ob Z n0 hb52 o ak an 3 (x1 :: x1 :: x2 :: x3 :: x4 :: RK) (v1 :: v1 :: v2 :: v3 :: v4 :: RV) := Oa51.node Wb52
      refine o_iload (pc := 139) B d4_139 rfl ?_
      refine o_istore_7_5 (pc := 141) B d4_141 rfl ?_
      refine o_goto (pc := 143) (pc' := 41) B d4_143 (by decide) (by decide) ?_
      refine o_iconst (pc := 41) B (2 : Int32) d4_41 (by decide) ?_
      refine o_iload (pc := 42) B d4_42 rfl ?_
      refine o_imul_c (pc := 44) B (2 : Int32) d4_44 (by decide) ?_
      refine o_iconst (pc := 45) B (1 : Int32) d4_45 (by decide) ?_
      refine o_iadd_c (pc := 46) B (3 : Int32) d4_46 (by decide) ?_
      refine o_aloadN (pc := 47) B d4_47 rfl rfl ?_
      refine o_getF (pc := 48) B d4_48 (hw _ (List.mem_of_getElem? (i := 20) rfl)) (Ob52.fs) ?_
      refine o_icmp_ge (pc := 51) (pc' := 146) B d4_51 (by decide) (by decide) (fun hc51 => ?_) (fun hc51 => False.elim (by revert hc51; decide))
      refine o_aloadN (pc := 146) B d4_146 rfl rfl ?_
      refine o_getF (pc := 147) B d4_147 (hw _ (List.mem_of_getElem? (i := 10) rfl)) (Ob52.fk) ?_
      refine o_iload (pc := 150) B d4_150 rfl ?_
      refine o_lloadN (pc := 152) B d4_152 rfl ?_
      refine o_lastore (pc := 153) B (1) d4_153 (Ob52.pk) (by decide) (by simp) (Ob52.gk) ?_
      intro ha53 Wa53
      have Oa53 : own_Ob Z n0 ha53 o ak an 3 (x1 :: x3 :: x2 :: x3 :: x4 :: RK) (v1 :: v1 :: v2 :: v3 :: v4 :: RV) := Ob52.key Wa53
      refine o_aloadN (pc := 154) B d4_154 rfl rfl ?_
      refine o_getF (pc := 155) B d4_155 (hw _ (List.mem_of_getElem? (i := 13) rfl)) (Oa53.fn) ?_
      refine o_iload (pc := 158) B d4_158 rfl ?_
      refine o_iload (pc := 160) B d4_160 rfl ?_
      refine o_iastore (pc := 162) B (1) d4_162 (Oa53.pv) (by decide) (by simp) (Oa53.gn) ?_
      intro hb54 Wb54
      have Ob54 : own_Ob Z n0 hb54 o ak an 3 (x1 :: x3 :: x2 :: x3 :: x4 :: RK) (v1 :: v3 :: v2 :: v3 :: v4 :: RV) := Oa53.node Wb54
      refine o_iloadN (pc := 163) B d4_163 rfl ?_
      exact o_ireturn (pc := 164) B d4_164 (by decide) (by decide) (⟨_, rfl, E0.2.1, E0.2.2, by omega, by omega, x1, x3, x2, x3, x4, v1, v3, v2, v3, v4, Ob54, ⟨E1, E3, E2, by omega, by omega, by omega, by omega⟩⟩)
    rw [Int64.lt_iff_toInt_lt] at hc105
    have hr0 := hc105
    refine o_goto (pc := 108) (pc' := 146) B d4_108 (by decide) (by decide) ?_
    refine o_aloadN (pc := 146) B d4_146 rfl rfl ?_
    refine o_getF (pc := 147) B d4_147 (hw _ (List.mem_of_getElem? (i := 10) rfl)) (O1.fk) ?_
    refine o_iload (pc := 150) B d4_150 rfl ?_
    refine o_lloadN (pc := 152) B d4_152 rfl ?_
    refine o_lastore (pc := 153) B (0) d4_153 (O1.pk) (by decide) (by simp) (O1.gk) ?_
    intro ha55 Wa55
    have Oa55 : own_Ob Z n0 ha55 o ak an 3 (x3 :: x1 :: x2 :: x3 :: x4 :: RK) (v0 :: v1 :: v2 :: v3 :: v4 :: RV) := O1.key Wa55
    refine o_aloadN (pc := 154) B d4_154 rfl rfl ?_
    refine o_getF (pc := 155) B d4_155 (hw _ (List.mem_of_getElem? (i := 13) rfl)) (Oa55.fn) ?_
    refine o_iload (pc := 158) B d4_158 rfl ?_
    refine o_iload (pc := 160) B d4_160 rfl ?_
    refine o_iastore (pc := 162) B (0) d4_162 (Oa55.pv) (by decide) (by simp) (Oa55.gn) ?_
    intro hb56 Wb56
    have Ob56 : own_Ob Z n0 hb56 o ak an 3 (x3 :: x1 :: x2 :: x3 :: x4 :: RK) (v3 :: v1 :: v2 :: v3 :: v4 :: RV) := Oa55.node Wb56
    refine o_iloadN (pc := 163) B d4_163 rfl ?_
    exact o_ireturn (pc := 164) B d4_164 (by decide) (by decide) (⟨_, rfl, E0.2.1, E0.2.2, by omega, by omega, x3, x1, x2, x3, x4, v3, v1, v2, v3, v4, Ob56, ⟨E3, E1, E2, by omega, by omega, by omega, by omega⟩⟩)
  rw [Int64.lt_iff_toInt_lt] at hc90
  have hq0 := hc90
  refine o_iinc_7_6 (pc := 93) B (1 : Int32) (2 : Int32) d4_93 (by decide) (by decide) ?_
  refine o_aloadN (pc := 96) B d4_96 rfl rfl ?_
  refine o_getF (pc := 97) B d4_97 (hw _ (List.mem_of_getElem? (i := 10) rfl)) (O1.fk) ?_
  refine o_iload (pc := 100) B d4_100 rfl ?_
  refine o_laload (pc := 102) B (2) d4_102 (O1.pk) (by decide) (rfl) ?_
  refine o_lloadN (pc := 103) B d4_103 rfl ?_
  refine o_lcmp (pc := 104) B d4_104 ?_
  refine o_lif_lt (pc := 105) (pc' := 111) B d4_105 (by decide) (by decide) (fun hc105 => ?_) (fun hc105 => ?_)
  · rw [Int64.lt_iff_toInt_lt] at hc105
    have hr0 := hc105
    refine o_aloadN (pc := 111) B d4_111 rfl rfl ?_
    refine o_getF (pc := 112) B d4_112 (hw _ (List.mem_of_getElem? (i := 10) rfl)) (O1.fk) ?_
    refine o_iload (pc := 115) B d4_115 rfl ?_
    refine o_aloadN (pc := 117) B d4_117 rfl rfl ?_
    refine o_getF (pc := 118) B d4_118 (hw _ (List.mem_of_getElem? (i := 10) rfl)) (O1.fk) ?_
    refine o_iload (pc := 121) B d4_121 rfl ?_
    refine o_laload (pc := 123) B (2) d4_123 (O1.pk) (by decide) (rfl) ?_
    refine o_lastore (pc := 124) B (0) d4_124 (O1.pk) (by decide) (by simp) (O1.gk) ?_
    intro ha57 Wa57
    have Oa57 : own_Ob Z n0 ha57 o ak an 3 (x2 :: x1 :: x2 :: x3 :: x4 :: RK) (v0 :: v1 :: v2 :: v3 :: v4 :: RV) := O1.key Wa57
    refine o_aloadN (pc := 125) B d4_125 rfl rfl ?_
    refine o_getF (pc := 126) B d4_126 (hw _ (List.mem_of_getElem? (i := 13) rfl)) (Oa57.fn) ?_
    refine o_iload (pc := 129) B d4_129 rfl ?_
    refine o_aloadN (pc := 131) B d4_131 rfl rfl ?_
    refine o_getF (pc := 132) B d4_132 (hw _ (List.mem_of_getElem? (i := 13) rfl)) (Oa57.fn) ?_
    refine o_iload (pc := 135) B d4_135 rfl ?_
    refine o_iaload (pc := 137) B (2) d4_137 (Oa57.pv) (by decide) (rfl) ?_
    refine o_iastore (pc := 138) B (0) d4_138 (Oa57.pv) (by decide) (by simp) (Oa57.gn) ?_
    intro hb58 Wb58
    have Ob58 : own_Ob Z n0 hb58 o ak an 3 (x2 :: x1 :: x2 :: x3 :: x4 :: RK) (v2 :: v1 :: v2 :: v3 :: v4 :: RV) := Oa57.node Wb58
    refine o_iload (pc := 139) B d4_139 rfl ?_
    refine o_istore_7_5 (pc := 141) B d4_141 rfl ?_
    refine o_goto (pc := 143) (pc' := 41) B d4_143 (by decide) (by decide) ?_
    refine o_iconst (pc := 41) B (2 : Int32) d4_41 (by decide) ?_
    refine o_iload (pc := 42) B d4_42 rfl ?_
    refine o_imul_c (pc := 44) B (4 : Int32) d4_44 (by decide) ?_
    refine o_iconst (pc := 45) B (1 : Int32) d4_45 (by decide) ?_
    refine o_iadd_c (pc := 46) B (5 : Int32) d4_46 (by decide) ?_
    refine o_aloadN (pc := 47) B d4_47 rfl rfl ?_
    refine o_getF (pc := 48) B d4_48 (hw _ (List.mem_of_getElem? (i := 20) rfl)) (Ob58.fs) ?_
    refine o_icmp_ge (pc := 51) (pc' := 146) B d4_51 (by decide) (by decide) (fun hc51 => ?_) (fun hc51 => False.elim (by revert hc51; decide))
    refine o_aloadN (pc := 146) B d4_146 rfl rfl ?_
    refine o_getF (pc := 147) B d4_147 (hw _ (List.mem_of_getElem? (i := 10) rfl)) (Ob58.fk) ?_
    refine o_iload (pc := 150) B d4_150 rfl ?_
    refine o_lloadN (pc := 152) B d4_152 rfl ?_
    refine o_lastore (pc := 153) B (2) d4_153 (Ob58.pk) (by decide) (by simp) (Ob58.gk) ?_
    intro ha59 Wa59
    have Oa59 : own_Ob Z n0 ha59 o ak an 3 (x2 :: x1 :: x3 :: x3 :: x4 :: RK) (v2 :: v1 :: v2 :: v3 :: v4 :: RV) := Ob58.key Wa59
    refine o_aloadN (pc := 154) B d4_154 rfl rfl ?_
    refine o_getF (pc := 155) B d4_155 (hw _ (List.mem_of_getElem? (i := 13) rfl)) (Oa59.fn) ?_
    refine o_iload (pc := 158) B d4_158 rfl ?_
    refine o_iload (pc := 160) B d4_160 rfl ?_
    refine o_iastore (pc := 162) B (2) d4_162 (Oa59.pv) (by decide) (by simp) (Oa59.gn) ?_
    intro hb60 Wb60
    have Ob60 : own_Ob Z n0 hb60 o ak an 3 (x2 :: x1 :: x3 :: x3 :: x4 :: RK) (v2 :: v1 :: v3 :: v3 :: v4 :: RV) := Oa59.node Wb60
    refine o_iloadN (pc := 163) B d4_163 rfl ?_
    exact o_ireturn (pc := 164) B d4_164 (by decide) (by decide) (⟨_, rfl, E0.2.1, E0.2.2, by omega, by omega, x2, x1, x3, x3, x4, v2, v1, v3, v3, v4, Ob60, ⟨E2, E1, E3, by omega, by omega, by omega, by omega⟩⟩)
  rw [Int64.lt_iff_toInt_lt] at hc105
  have hr0 := hc105
  refine o_goto (pc := 108) (pc' := 146) B d4_108 (by decide) (by decide) ?_
  refine o_aloadN (pc := 146) B d4_146 rfl rfl ?_
  refine o_getF (pc := 147) B d4_147 (hw _ (List.mem_of_getElem? (i := 10) rfl)) (O1.fk) ?_
  refine o_iload (pc := 150) B d4_150 rfl ?_
  refine o_lloadN (pc := 152) B d4_152 rfl ?_
  refine o_lastore (pc := 153) B (0) d4_153 (O1.pk) (by decide) (by simp) (O1.gk) ?_
  intro ha61 Wa61
  have Oa61 : own_Ob Z n0 ha61 o ak an 3 (x3 :: x1 :: x2 :: x3 :: x4 :: RK) (v0 :: v1 :: v2 :: v3 :: v4 :: RV) := O1.key Wa61
  refine o_aloadN (pc := 154) B d4_154 rfl rfl ?_
  refine o_getF (pc := 155) B d4_155 (hw _ (List.mem_of_getElem? (i := 13) rfl)) (Oa61.fn) ?_
  refine o_iload (pc := 158) B d4_158 rfl ?_
  refine o_iload (pc := 160) B d4_160 rfl ?_
  refine o_iastore (pc := 162) B (0) d4_162 (Oa61.pv) (by decide) (by simp) (Oa61.gn) ?_
  intro hb62 Wb62
  have Ob62 : own_Ob Z n0 hb62 o ak an 3 (x3 :: x1 :: x2 :: x3 :: x4 :: RK) (v3 :: v1 :: v2 :: v3 :: v4 :: RV) := Oa61.node Wb62
  refine o_iloadN (pc := 163) B d4_163 rfl ?_
  exact o_ireturn (pc := 164) B d4_164 (by decide) (by decide) (⟨_, rfl, E0.2.1, E0.2.2, by omega, by omega, x3, x1, x2, x3, x4, v3, v1, v2, v3, v4, Ob62, ⟨E3, E1, E2, by omega, by omega, by omega, by omega⟩⟩)
set_option maxRecDepth 65536 in
set_option maxHeartbeats 40000000 in
theorem oc4_2 (l : Launch) (Z : State) (a0 : Array Value) (hw : ∀ d ∈ tables_1, d.before a0 Z = true) (n0 : Nat) (h : Heap) (o ak an : Addr) (kf : Int32 → Int64) (low : Int) (S : Nat) (x0 x1 x2 x3 x4 : Int64) (v0 v1 v2 v3 v4 : Int32) (RK : List Int64) (RV : List Int32) (O : own_Ob Z n0 h o ak an 3 (x0 :: x1 :: x2 :: x3 :: x4 :: RK) (v0 :: v1 :: v2 :: v3 :: v4 :: RV)) (I : own_Inv3 kf low S x0 x1 x2 v0 v1 v2) : o_C l Z n0 oy4 prog_19_method_4_code 7 (some .int) orm4 [(.ref o)] h (fun v h' => ∃ r : Int32, v = some (.int r) ∧ 0 ≤ r.toInt ∧ r.toInt ≤ 4 ∧ low ≤ (kf r).toInt ∧ own_P r ≤ S ∧ ∃ x0n x1n x2n x3n x4n v0n v1n v2n v3n v4n, own_Ob Z n0 h' o ak an 2 (x0n :: x1n :: x2n :: x3n :: x4n :: RK) (v0n :: v1n :: v2n :: v3n :: v4n :: RV) ∧ own_Inv2 kf (kf r).toInt (S - own_P r) x0n x1n v0n v1n) := by
  refine o_body (Ls := [.val (.ref o), .unset, .unset, .unset, .unset, .unset, .unset]) pn4 (by first | (simp [argsToLocals, Value.category]; done) | rfl) (fun κ B => ?_)
  obtain ⟨E0, E1, E2, hl, q01, q02, hS⟩ := I
  have e0 : (kf v0).toInt = x0.toInt := by rw [E0.1]
  refine o_aloadN (pc := 0) B d4_0 rfl rfl ?_
  refine o_getF (pc := 1) B d4_1 (hw _ (List.mem_of_getElem? (i := 13) rfl)) (O.fn) ?_
  refine o_iconst (pc := 4) B (0 : Int32) d4_4 (by decide) ?_
  refine o_iaload (pc := 5) B (0) d4_5 (O.pv) (by decide) (rfl) ?_
  refine o_istoreN_7_1 (pc := 6) B d4_6 rfl ?_
  refine o_aloadN (pc := 7) B d4_7 rfl rfl ?_
  refine o_dup (pc := 8) B d4_8 rfl ?_
  refine o_getF (pc := 9) B d4_9 (hw _ (List.mem_of_getElem? (i := 20) rfl)) (O.fs) ?_
  refine o_iconst (pc := 12) B (1 : Int32) d4_12 (by decide) ?_
  refine o_isub_c (pc := 13) B (2 : Int32) d4_13 (by decide) ?_
  refine o_putF (pc := 14) (ty := .int) B d4_14 (hw _ (List.mem_of_getElem? (i := 20) rfl)) (O.fs) (O.ex) (Or.inl (hw _ (List.mem_of_getElem? (i := 21) rfl))) (hw _ (List.mem_of_getElem? (i := 1) rfl)) (by decide) rfl rfl (O.go) ?_
  intro h1 W1
  have O1 : own_Ob Z n0 h1 o ak an 2 (x0 :: x1 :: x2 :: x3 :: x4 :: RK) (v0 :: v1 :: v2 :: v3 :: v4 :: RV) := O.size hw W1
  refine o_aloadN (pc := 17) B d4_17 rfl rfl ?_
  refine o_getF (pc := 18) B d4_18 (hw _ (List.mem_of_getElem? (i := 10) rfl)) (O1.fk) ?_
  refine o_aloadN (pc := 21) B d4_21 rfl rfl ?_
  refine o_getF (pc := 22) B d4_22 (hw _ (List.mem_of_getElem? (i := 20) rfl)) (O1.fs) ?_
  refine o_laload (pc := 25) B (2) d4_25 (O1.pk) (by decide) (rfl) ?_
  refine o_lstoreN_7_2 (pc := 26) B d4_26 rfl ?_
  refine o_aloadN (pc := 27) B d4_27 rfl rfl ?_
  refine o_getF (pc := 28) B d4_28 (hw _ (List.mem_of_getElem? (i := 13) rfl)) (O1.fn) ?_
  refine o_aloadN (pc := 31) B d4_31 rfl rfl ?_
  refine o_getF (pc := 32) B d4_32 (hw _ (List.mem_of_getElem? (i := 20) rfl)) (O1.fs) ?_
  refine o_iaload (pc := 35) B (2) d4_35 (O1.pv) (by decide) (rfl) ?_
  refine o_istore_7_4 (pc := 36) B d4_36 rfl ?_
  refine o_iconst (pc := 38) B (0 : Int32) d4_38 (by decide) ?_
  refine o_istore_7_5 (pc := 39) B d4_39 rfl ?_
  refine o_iconst (pc := 41) B (2 : Int32) d4_41 (by decide) ?_
  refine o_iload (pc := 42) B d4_42 rfl ?_
  refine o_imul_c (pc := 44) B (0 : Int32) d4_44 (by decide) ?_
  refine o_iconst (pc := 45) B (1 : Int32) d4_45 (by decide) ?_
  refine o_iadd_c (pc := 46) B (1 : Int32) d4_46 (by decide) ?_
  refine o_aloadN (pc := 47) B d4_47 rfl rfl ?_
  refine o_getF (pc := 48) B d4_48 (hw _ (List.mem_of_getElem? (i := 20) rfl)) (O1.fs) ?_
  refine o_icmp_ge (pc := 51) (pc' := 146) B d4_51 (by decide) (by decide) (fun hc51 => False.elim (by revert hc51; decide)) (fun hc51 => ?_)
  refine o_iconst (pc := 54) B (2 : Int32) d4_54 (by decide) ?_
  refine o_iload (pc := 55) B d4_55 rfl ?_
  refine o_imul_c (pc := 57) B (0 : Int32) d4_57 (by decide) ?_
  refine o_iconst (pc := 58) B (1 : Int32) d4_58 (by decide) ?_
  refine o_iadd_c (pc := 59) B (1 : Int32) d4_59 (by decide) ?_
  refine o_istore_7_6 (pc := 60) B d4_60 rfl ?_
  refine o_iload (pc := 62) B d4_62 rfl ?_
  refine o_iconst (pc := 64) B (1 : Int32) d4_64 (by decide) ?_
  refine o_iadd_c (pc := 65) B (2 : Int32) d4_65 (by decide) ?_
  refine o_aloadN (pc := 66) B d4_66 rfl rfl ?_
  refine o_getF (pc := 67) B d4_67 (hw _ (List.mem_of_getElem? (i := 20) rfl)) (O1.fs) ?_
  refine o_icmp_ge (pc := 70) (pc' := 96) B d4_70 (by decide) (by decide) (fun hc70 => ?_) (fun hc70 => False.elim (by revert hc70; decide))
  refine o_aloadN (pc := 96) B d4_96 rfl rfl ?_
  refine o_getF (pc := 97) B d4_97 (hw _ (List.mem_of_getElem? (i := 10) rfl)) (O1.fk) ?_
  refine o_iload (pc := 100) B d4_100 rfl ?_
  refine o_laload (pc := 102) B (1) d4_102 (O1.pk) (by decide) (rfl) ?_
  refine o_lloadN (pc := 103) B d4_103 rfl ?_
  refine o_lcmp (pc := 104) B d4_104 ?_
  refine o_lif_lt (pc := 105) (pc' := 111) B d4_105 (by decide) (by decide) (fun hc105 => ?_) (fun hc105 => ?_)
  · rw [Int64.lt_iff_toInt_lt] at hc105
    have hr0 := hc105
    refine o_aloadN (pc := 111) B d4_111 rfl rfl ?_
    refine o_getF (pc := 112) B d4_112 (hw _ (List.mem_of_getElem? (i := 10) rfl)) (O1.fk) ?_
    refine o_iload (pc := 115) B d4_115 rfl ?_
    refine o_aloadN (pc := 117) B d4_117 rfl rfl ?_
    refine o_getF (pc := 118) B d4_118 (hw _ (List.mem_of_getElem? (i := 10) rfl)) (O1.fk) ?_
    refine o_iload (pc := 121) B d4_121 rfl ?_
    refine o_laload (pc := 123) B (1) d4_123 (O1.pk) (by decide) (rfl) ?_
    refine o_lastore (pc := 124) B (0) d4_124 (O1.pk) (by decide) (by simp) (O1.gk) ?_
    intro ha63 Wa63
    have Oa63 : own_Ob Z n0 ha63 o ak an 2 (x1 :: x1 :: x2 :: x3 :: x4 :: RK) (v0 :: v1 :: v2 :: v3 :: v4 :: RV) := O1.key Wa63
    refine o_aloadN (pc := 125) B d4_125 rfl rfl ?_
    refine o_getF (pc := 126) B d4_126 (hw _ (List.mem_of_getElem? (i := 13) rfl)) (Oa63.fn) ?_
    refine o_iload (pc := 129) B d4_129 rfl ?_
    refine o_aloadN (pc := 131) B d4_131 rfl rfl ?_
    refine o_getF (pc := 132) B d4_132 (hw _ (List.mem_of_getElem? (i := 13) rfl)) (Oa63.fn) ?_
    refine o_iload (pc := 135) B d4_135 rfl ?_
    refine o_iaload (pc := 137) B (1) d4_137 (Oa63.pv) (by decide) (rfl) ?_
    refine o_iastore (pc := 138) B (0) d4_138 (Oa63.pv) (by decide) (by simp) (Oa63.gn) ?_
    intro hb64 Wb64
    have Ob64 : own_Ob Z n0 hb64 o ak an 2 (x1 :: x1 :: x2 :: x3 :: x4 :: RK) (v1 :: v1 :: v2 :: v3 :: v4 :: RV) := Oa63.node Wb64
    refine o_iload (pc := 139) B d4_139 rfl ?_
    refine o_istore_7_5 (pc := 141) B d4_141 rfl ?_
    refine o_goto (pc := 143) (pc' := 41) B d4_143 (by decide) (by decide) ?_
    refine o_iconst (pc := 41) B (2 : Int32) d4_41 (by decide) ?_
    refine o_iload (pc := 42) B d4_42 rfl ?_
    refine o_imul_c (pc := 44) B (2 : Int32) d4_44 (by decide) ?_
    refine o_iconst (pc := 45) B (1 : Int32) d4_45 (by decide) ?_
    refine o_iadd_c (pc := 46) B (3 : Int32) d4_46 (by decide) ?_
    refine o_aloadN (pc := 47) B d4_47 rfl rfl ?_
    refine o_getF (pc := 48) B d4_48 (hw _ (List.mem_of_getElem? (i := 20) rfl)) (Ob64.fs) ?_
    refine o_icmp_ge (pc := 51) (pc' := 146) B d4_51 (by decide) (by decide) (fun hc51 => ?_) (fun hc51 => False.elim (by revert hc51; decide))
    refine o_aloadN (pc := 146) B d4_146 rfl rfl ?_
    refine o_getF (pc := 147) B d4_147 (hw _ (List.mem_of_getElem? (i := 10) rfl)) (Ob64.fk) ?_
    refine o_iload (pc := 150) B d4_150 rfl ?_
    refine o_lloadN (pc := 152) B d4_152 rfl ?_
    refine o_lastore (pc := 153) B (1) d4_153 (Ob64.pk) (by decide) (by simp) (Ob64.gk) ?_
    intro ha65 Wa65
    have Oa65 : own_Ob Z n0 ha65 o ak an 2 (x1 :: x2 :: x2 :: x3 :: x4 :: RK) (v1 :: v1 :: v2 :: v3 :: v4 :: RV) := Ob64.key Wa65
    refine o_aloadN (pc := 154) B d4_154 rfl rfl ?_
    refine o_getF (pc := 155) B d4_155 (hw _ (List.mem_of_getElem? (i := 13) rfl)) (Oa65.fn) ?_
    refine o_iload (pc := 158) B d4_158 rfl ?_
    refine o_iload (pc := 160) B d4_160 rfl ?_
    refine o_iastore (pc := 162) B (1) d4_162 (Oa65.pv) (by decide) (by simp) (Oa65.gn) ?_
    intro hb66 Wb66
    have Ob66 : own_Ob Z n0 hb66 o ak an 2 (x1 :: x2 :: x2 :: x3 :: x4 :: RK) (v1 :: v2 :: v2 :: v3 :: v4 :: RV) := Oa65.node Wb66
    refine o_iloadN (pc := 163) B d4_163 rfl ?_
    exact o_ireturn (pc := 164) B d4_164 (by decide) (by decide) (⟨_, rfl, E0.2.1, E0.2.2, by omega, by omega, x1, x2, x2, x3, x4, v1, v2, v2, v3, v4, Ob66, ⟨E1, E2, by omega, by omega, by omega⟩⟩)
  rw [Int64.lt_iff_toInt_lt] at hc105
  have hr0 := hc105
  refine o_goto (pc := 108) (pc' := 146) B d4_108 (by decide) (by decide) ?_
  refine o_aloadN (pc := 146) B d4_146 rfl rfl ?_
  refine o_getF (pc := 147) B d4_147 (hw _ (List.mem_of_getElem? (i := 10) rfl)) (O1.fk) ?_
  refine o_iload (pc := 150) B d4_150 rfl ?_
  refine o_lloadN (pc := 152) B d4_152 rfl ?_
  refine o_lastore (pc := 153) B (0) d4_153 (O1.pk) (by decide) (by simp) (O1.gk) ?_
  intro ha67 Wa67
  have Oa67 : own_Ob Z n0 ha67 o ak an 2 (x2 :: x1 :: x2 :: x3 :: x4 :: RK) (v0 :: v1 :: v2 :: v3 :: v4 :: RV) := O1.key Wa67
  refine o_aloadN (pc := 154) B d4_154 rfl rfl ?_
  refine o_getF (pc := 155) B d4_155 (hw _ (List.mem_of_getElem? (i := 13) rfl)) (Oa67.fn) ?_
  refine o_iload (pc := 158) B d4_158 rfl ?_
  refine o_iload (pc := 160) B d4_160 rfl ?_
  refine o_iastore (pc := 162) B (0) d4_162 (Oa67.pv) (by decide) (by simp) (Oa67.gn) ?_
  intro hb68 Wb68
  have Ob68 : own_Ob Z n0 hb68 o ak an 2 (x2 :: x1 :: x2 :: x3 :: x4 :: RK) (v2 :: v1 :: v2 :: v3 :: v4 :: RV) := Oa67.node Wb68
  refine o_iloadN (pc := 163) B d4_163 rfl ?_
  exact o_ireturn (pc := 164) B d4_164 (by decide) (by decide) (⟨_, rfl, E0.2.1, E0.2.2, by omega, by omega, x2, x1, x2, x3, x4, v2, v1, v2, v3, v4, Ob68, ⟨E2, E1, by omega, by omega, by omega⟩⟩)
set_option maxRecDepth 65536 in
set_option maxHeartbeats 40000000 in
theorem oc4_1 (l : Launch) (Z : State) (a0 : Array Value) (hw : ∀ d ∈ tables_1, d.before a0 Z = true) (n0 : Nat) (h : Heap) (o ak an : Addr) (kf : Int32 → Int64) (low : Int) (S : Nat) (x0 x1 x2 x3 x4 : Int64) (v0 v1 v2 v3 v4 : Int32) (RK : List Int64) (RV : List Int32) (O : own_Ob Z n0 h o ak an 2 (x0 :: x1 :: x2 :: x3 :: x4 :: RK) (v0 :: v1 :: v2 :: v3 :: v4 :: RV)) (I : own_Inv2 kf low S x0 x1 v0 v1) : o_C l Z n0 oy4 prog_19_method_4_code 7 (some .int) orm4 [(.ref o)] h (fun v h' => ∃ r : Int32, v = some (.int r) ∧ 0 ≤ r.toInt ∧ r.toInt ≤ 4 ∧ low ≤ (kf r).toInt ∧ own_P r ≤ S ∧ ∃ x0n x1n x2n x3n x4n v0n v1n v2n v3n v4n, own_Ob Z n0 h' o ak an 1 (x0n :: x1n :: x2n :: x3n :: x4n :: RK) (v0n :: v1n :: v2n :: v3n :: v4n :: RV) ∧ own_Inv1 kf (kf r).toInt (S - own_P r) x0n v0n) := by
  refine o_body (Ls := [.val (.ref o), .unset, .unset, .unset, .unset, .unset, .unset]) pn4 (by first | (simp [argsToLocals, Value.category]; done) | rfl) (fun κ B => ?_)
  obtain ⟨E0, E1, hl, q01, hS⟩ := I
  have e0 : (kf v0).toInt = x0.toInt := by rw [E0.1]
  refine o_aloadN (pc := 0) B d4_0 rfl rfl ?_
  refine o_getF (pc := 1) B d4_1 (hw _ (List.mem_of_getElem? (i := 13) rfl)) (O.fn) ?_
  refine o_iconst (pc := 4) B (0 : Int32) d4_4 (by decide) ?_
  refine o_iaload (pc := 5) B (0) d4_5 (O.pv) (by decide) (rfl) ?_
  refine o_istoreN_7_1 (pc := 6) B d4_6 rfl ?_
  refine o_aloadN (pc := 7) B d4_7 rfl rfl ?_
  refine o_dup (pc := 8) B d4_8 rfl ?_
  refine o_getF (pc := 9) B d4_9 (hw _ (List.mem_of_getElem? (i := 20) rfl)) (O.fs) ?_
  refine o_iconst (pc := 12) B (1 : Int32) d4_12 (by decide) ?_
  refine o_isub_c (pc := 13) B (1 : Int32) d4_13 (by decide) ?_
  refine o_putF (pc := 14) (ty := .int) B d4_14 (hw _ (List.mem_of_getElem? (i := 20) rfl)) (O.fs) (O.ex) (Or.inl (hw _ (List.mem_of_getElem? (i := 21) rfl))) (hw _ (List.mem_of_getElem? (i := 1) rfl)) (by decide) rfl rfl (O.go) ?_
  intro h1 W1
  have O1 : own_Ob Z n0 h1 o ak an 1 (x0 :: x1 :: x2 :: x3 :: x4 :: RK) (v0 :: v1 :: v2 :: v3 :: v4 :: RV) := O.size hw W1
  refine o_aloadN (pc := 17) B d4_17 rfl rfl ?_
  refine o_getF (pc := 18) B d4_18 (hw _ (List.mem_of_getElem? (i := 10) rfl)) (O1.fk) ?_
  refine o_aloadN (pc := 21) B d4_21 rfl rfl ?_
  refine o_getF (pc := 22) B d4_22 (hw _ (List.mem_of_getElem? (i := 20) rfl)) (O1.fs) ?_
  refine o_laload (pc := 25) B (1) d4_25 (O1.pk) (by decide) (rfl) ?_
  refine o_lstoreN_7_2 (pc := 26) B d4_26 rfl ?_
  refine o_aloadN (pc := 27) B d4_27 rfl rfl ?_
  refine o_getF (pc := 28) B d4_28 (hw _ (List.mem_of_getElem? (i := 13) rfl)) (O1.fn) ?_
  refine o_aloadN (pc := 31) B d4_31 rfl rfl ?_
  refine o_getF (pc := 32) B d4_32 (hw _ (List.mem_of_getElem? (i := 20) rfl)) (O1.fs) ?_
  refine o_iaload (pc := 35) B (1) d4_35 (O1.pv) (by decide) (rfl) ?_
  refine o_istore_7_4 (pc := 36) B d4_36 rfl ?_
  refine o_iconst (pc := 38) B (0 : Int32) d4_38 (by decide) ?_
  refine o_istore_7_5 (pc := 39) B d4_39 rfl ?_
  refine o_iconst (pc := 41) B (2 : Int32) d4_41 (by decide) ?_
  refine o_iload (pc := 42) B d4_42 rfl ?_
  refine o_imul_c (pc := 44) B (0 : Int32) d4_44 (by decide) ?_
  refine o_iconst (pc := 45) B (1 : Int32) d4_45 (by decide) ?_
  refine o_iadd_c (pc := 46) B (1 : Int32) d4_46 (by decide) ?_
  refine o_aloadN (pc := 47) B d4_47 rfl rfl ?_
  refine o_getF (pc := 48) B d4_48 (hw _ (List.mem_of_getElem? (i := 20) rfl)) (O1.fs) ?_
  refine o_icmp_ge (pc := 51) (pc' := 146) B d4_51 (by decide) (by decide) (fun hc51 => ?_) (fun hc51 => False.elim (by revert hc51; decide))
  refine o_aloadN (pc := 146) B d4_146 rfl rfl ?_
  refine o_getF (pc := 147) B d4_147 (hw _ (List.mem_of_getElem? (i := 10) rfl)) (O1.fk) ?_
  refine o_iload (pc := 150) B d4_150 rfl ?_
  refine o_lloadN (pc := 152) B d4_152 rfl ?_
  refine o_lastore (pc := 153) B (0) d4_153 (O1.pk) (by decide) (by simp) (O1.gk) ?_
  intro ha69 Wa69
  have Oa69 : own_Ob Z n0 ha69 o ak an 1 (x1 :: x1 :: x2 :: x3 :: x4 :: RK) (v0 :: v1 :: v2 :: v3 :: v4 :: RV) := O1.key Wa69
  refine o_aloadN (pc := 154) B d4_154 rfl rfl ?_
  refine o_getF (pc := 155) B d4_155 (hw _ (List.mem_of_getElem? (i := 13) rfl)) (Oa69.fn) ?_
  refine o_iload (pc := 158) B d4_158 rfl ?_
  refine o_iload (pc := 160) B d4_160 rfl ?_
  refine o_iastore (pc := 162) B (0) d4_162 (Oa69.pv) (by decide) (by simp) (Oa69.gn) ?_
  intro hb70 Wb70
  have Ob70 : own_Ob Z n0 hb70 o ak an 1 (x1 :: x1 :: x2 :: x3 :: x4 :: RK) (v1 :: v1 :: v2 :: v3 :: v4 :: RV) := Oa69.node Wb70
  refine o_iloadN (pc := 163) B d4_163 rfl ?_
  exact o_ireturn (pc := 164) B d4_164 (by decide) (by decide) (⟨_, rfl, E0.2.1, E0.2.2, by omega, by omega, x1, x1, x2, x3, x4, v1, v1, v2, v3, v4, Ob70, ⟨E1, by omega, by omega⟩⟩)
set_option maxRecDepth 65536 in
set_option maxHeartbeats 40000000 in
theorem oc4_0 (l : Launch) (Z : State) (a0 : Array Value) (hw : ∀ d ∈ tables_1, d.before a0 Z = true) (n0 : Nat) (h : Heap) (o ak an : Addr) (kf : Int32 → Int64) (low : Int) (S : Nat) (x0 x1 x2 x3 x4 : Int64) (v0 v1 v2 v3 v4 : Int32) (RK : List Int64) (RV : List Int32) (O : own_Ob Z n0 h o ak an 1 (x0 :: x1 :: x2 :: x3 :: x4 :: RK) (v0 :: v1 :: v2 :: v3 :: v4 :: RV)) (I : own_Inv1 kf low S x0 v0) : o_C l Z n0 oy4 prog_19_method_4_code 7 (some .int) orm4 [(.ref o)] h (fun v h' => ∃ r : Int32, v = some (.int r) ∧ 0 ≤ r.toInt ∧ r.toInt ≤ 4 ∧ low ≤ (kf r).toInt ∧ own_P r ≤ S ∧ ∃ x0n x1n x2n x3n x4n v0n v1n v2n v3n v4n, own_Ob Z n0 h' o ak an 0 (x0n :: x1n :: x2n :: x3n :: x4n :: RK) (v0n :: v1n :: v2n :: v3n :: v4n :: RV) ∧ own_Inv0 (S - own_P r)) := by
  refine o_body (Ls := [.val (.ref o), .unset, .unset, .unset, .unset, .unset, .unset]) pn4 (by first | (simp [argsToLocals, Value.category]; done) | rfl) (fun κ B => ?_)
  obtain ⟨E0, hl, hS⟩ := I
  have e0 : (kf v0).toInt = x0.toInt := by rw [E0.1]
  refine o_aloadN (pc := 0) B d4_0 rfl rfl ?_
  refine o_getF (pc := 1) B d4_1 (hw _ (List.mem_of_getElem? (i := 13) rfl)) (O.fn) ?_
  refine o_iconst (pc := 4) B (0 : Int32) d4_4 (by decide) ?_
  refine o_iaload (pc := 5) B (0) d4_5 (O.pv) (by decide) (rfl) ?_
  refine o_istoreN_7_1 (pc := 6) B d4_6 rfl ?_
  refine o_aloadN (pc := 7) B d4_7 rfl rfl ?_
  refine o_dup (pc := 8) B d4_8 rfl ?_
  refine o_getF (pc := 9) B d4_9 (hw _ (List.mem_of_getElem? (i := 20) rfl)) (O.fs) ?_
  refine o_iconst (pc := 12) B (1 : Int32) d4_12 (by decide) ?_
  refine o_isub_c (pc := 13) B (0 : Int32) d4_13 (by decide) ?_
  refine o_putF (pc := 14) (ty := .int) B d4_14 (hw _ (List.mem_of_getElem? (i := 20) rfl)) (O.fs) (O.ex) (Or.inl (hw _ (List.mem_of_getElem? (i := 21) rfl))) (hw _ (List.mem_of_getElem? (i := 1) rfl)) (by decide) rfl rfl (O.go) ?_
  intro h1 W1
  have O1 : own_Ob Z n0 h1 o ak an 0 (x0 :: x1 :: x2 :: x3 :: x4 :: RK) (v0 :: v1 :: v2 :: v3 :: v4 :: RV) := O.size hw W1
  refine o_aloadN (pc := 17) B d4_17 rfl rfl ?_
  refine o_getF (pc := 18) B d4_18 (hw _ (List.mem_of_getElem? (i := 10) rfl)) (O1.fk) ?_
  refine o_aloadN (pc := 21) B d4_21 rfl rfl ?_
  refine o_getF (pc := 22) B d4_22 (hw _ (List.mem_of_getElem? (i := 20) rfl)) (O1.fs) ?_
  refine o_laload (pc := 25) B (0) d4_25 (O1.pk) (by decide) (rfl) ?_
  refine o_lstoreN_7_2 (pc := 26) B d4_26 rfl ?_
  refine o_aloadN (pc := 27) B d4_27 rfl rfl ?_
  refine o_getF (pc := 28) B d4_28 (hw _ (List.mem_of_getElem? (i := 13) rfl)) (O1.fn) ?_
  refine o_aloadN (pc := 31) B d4_31 rfl rfl ?_
  refine o_getF (pc := 32) B d4_32 (hw _ (List.mem_of_getElem? (i := 20) rfl)) (O1.fs) ?_
  refine o_iaload (pc := 35) B (0) d4_35 (O1.pv) (by decide) (rfl) ?_
  refine o_istore_7_4 (pc := 36) B d4_36 rfl ?_
  refine o_iconst (pc := 38) B (0 : Int32) d4_38 (by decide) ?_
  refine o_istore_7_5 (pc := 39) B d4_39 rfl ?_
  refine o_iconst (pc := 41) B (2 : Int32) d4_41 (by decide) ?_
  refine o_iload (pc := 42) B d4_42 rfl ?_
  refine o_imul_c (pc := 44) B (0 : Int32) d4_44 (by decide) ?_
  refine o_iconst (pc := 45) B (1 : Int32) d4_45 (by decide) ?_
  refine o_iadd_c (pc := 46) B (1 : Int32) d4_46 (by decide) ?_
  refine o_aloadN (pc := 47) B d4_47 rfl rfl ?_
  refine o_getF (pc := 48) B d4_48 (hw _ (List.mem_of_getElem? (i := 20) rfl)) (O1.fs) ?_
  refine o_icmp_ge (pc := 51) (pc' := 146) B d4_51 (by decide) (by decide) (fun hc51 => ?_) (fun hc51 => False.elim (by revert hc51; decide))
  refine o_aloadN (pc := 146) B d4_146 rfl rfl ?_
  refine o_getF (pc := 147) B d4_147 (hw _ (List.mem_of_getElem? (i := 10) rfl)) (O1.fk) ?_
  refine o_iload (pc := 150) B d4_150 rfl ?_
  refine o_lloadN (pc := 152) B d4_152 rfl ?_
  refine o_lastore (pc := 153) B (0) d4_153 (O1.pk) (by decide) (by simp) (O1.gk) ?_
  intro ha71 Wa71
  have Oa71 : own_Ob Z n0 ha71 o ak an 0 (x0 :: x1 :: x2 :: x3 :: x4 :: RK) (v0 :: v1 :: v2 :: v3 :: v4 :: RV) := O1.key Wa71
  refine o_aloadN (pc := 154) B d4_154 rfl rfl ?_
  refine o_getF (pc := 155) B d4_155 (hw _ (List.mem_of_getElem? (i := 13) rfl)) (Oa71.fn) ?_
  refine o_iload (pc := 158) B d4_158 rfl ?_
  refine o_iload (pc := 160) B d4_160 rfl ?_
  refine o_iastore (pc := 162) B (0) d4_162 (Oa71.pv) (by decide) (by simp) (Oa71.gn) ?_
  intro hb72 Wb72
  have Ob72 : own_Ob Z n0 hb72 o ak an 0 (x0 :: x1 :: x2 :: x3 :: x4 :: RK) (v0 :: v1 :: v2 :: v3 :: v4 :: RV) := Oa71.node Wb72
  refine o_iloadN (pc := 163) B d4_163 rfl ?_
  exact o_ireturn (pc := 164) B d4_164 (by decide) (by decide) (⟨_, rfl, E0.2.1, E0.2.2, by omega, by omega, x0, x1, x2, x3, x4, v0, v1, v2, v3, v4, Ob72, (by unfold own_Inv0; omega)⟩)
theorem own_five {r : Int32} (h0 : 0 ≤ r.toInt) (h4 : r.toInt ≤ 4) : ∃ i : Fin 5, r = Int32.ofNat i.val ∧ own_P r = 2 ^ i.val := by
  refine ⟨⟨r.toInt.toNat, by omega⟩, ?_, rfl⟩
  apply Int32.toInt_inj.mp
  rw [Int32.toInt_ofNat_of_lt (by show r.toInt.toNat < _; omega)]
  show r.toInt = (r.toInt.toNat : Int)
  omega
set_option maxRecDepth 65536 in
theorem own_or : ∀ a b c d e : Fin 5, 2 ^ a.val + 2 ^ b.val + 2 ^ c.val + 2 ^ d.val + 2 ^ e.val = 31 → (1 : Int32) <<< (Int32.ofNat a.val &&& 31) ||| (1 : Int32) <<< (Int32.ofNat b.val &&& 31) ||| (1 : Int32) <<< (Int32.ofNat c.val &&& 31) ||| (1 : Int32) <<< (Int32.ofNat d.val &&& 31) ||| (1 : Int32) <<< (Int32.ofNat e.val &&& 31) = 31 := by decide +kernel
set_option maxRecDepth 65536 in
set_option maxHeartbeats 40000000 in
theorem oc0 (l : Launch) (Z : State) (a0 : Array Value) (hw : ∀ d ∈ tables_1, d.before a0 Z = true) (n0 : Nat) (h : Heap) (k0 k1 k2 k3 k4 : Int64) (Z0 : n0 ≤ h.size) : o_C l Z n0 Jvm.Pilot.@@N@@.x code maxLocals ret room_1 [(.long k0), (.long k1), (.long k2), (.long k3), (.long k4)] h (fun v h' => v = some (.int 1)) := by
  refine o_body (Ls := [.val (.long k0), .second, .val (.long k1), .second, .val (.long k2), .second, .val (.long k3), .second, .val (.long k4), .second, .unset, .unset, .unset, .unset, .unset, .unset, .unset, .unset, .unset, .unset, .unset, .unset, .unset, .unset, .unset, .unset, .unset]) pn0 (by first | (simp [argsToLocals, Value.category, maxLocals]; done) | rfl) (fun κ B => ?_)
  refine o_new (pc := 0) B at_0 (hw _ (List.mem_of_getElem? (i := 0) rfl)) (hw _ (List.mem_of_getElem? (i := 1) rfl)) (hw _ (List.mem_of_getElem? (i := 2) rfl)) (by decide) (by decide) ?_
  intro h1 E1 X1 D1
  obtain ⟨o, go, eo⟩ : ∃ a, n0 ≤ a ∧ a = h.size := ⟨_, Z0, rfl⟩
  have D1' := @D1
  rw [← eo] at X1 ⊢
  have F1 : Fld Z h1 o own_NH "keys" "[J" .null := eo ▸ D1 (Or.inl (hw _ (List.mem_of_getElem? (i := 11) rfl))) (ty := .array .long) (by decide)
  have F2 : Fld Z h1 o own_NH "nodes" "[I" .null := eo ▸ D1 (Or.inl (hw _ (List.mem_of_getElem? (i := 14) rfl))) (ty := .array .int) (by decide)
  have F3 : Fld Z h1 o own_NH "size" "I" (.int 0) := eo ▸ D1 (Or.inl (hw _ (List.mem_of_getElem? (i := 21) rfl))) (ty := .int) (by decide)
  refine o_dup (pc := 3) B at_3 rfl ?_
  refine o_callN0 (pc := 4) B 1 at_4 rfl (hw _ (List.mem_of_getElem? (i := 3) rfl)) (hw _ (List.mem_of_getElem? (i := 4) rfl)) (hw _ (List.mem_of_getElem? (i := 2) rfl)) (hw _ (List.mem_of_getElem? (i := 5) rfl)) (by decide) pd1 rfl (by first | exact Nat.zero_le _ | exact Nat.le_of_ble_eq_true rfl | simp [Value.category]) (by decide) (by decide) (by decide) (by decide) rfl (oc1 l Z a0 hw n0 _ o .null .null go (Nat.le_trans Z0 E1.1) X1 F1 F2 F3) ?_
  rintro v h2 ⟨rfl, ak, an, O0⟩
  obtain ⟨kf, ekf⟩ : ∃ kf, kf = own_kf k0 k1 k2 k3 k4 := ⟨_, rfl⟩
  obtain ⟨RK, hRK⟩ : ∃ RK : List Int64, RK = List.replicate 11 0 := ⟨_, rfl⟩
  obtain ⟨RV, hRV⟩ : ∃ RV : List Int32, RV = List.replicate 11 0 := ⟨_, rfl⟩
  have lRV : RV.length = 11 := by rw [hRV]; simp
  have O0' : own_Ob Z n0 h2 o ak an 0 (0 :: 0 :: 0 :: 0 :: 0 :: RK) (0 :: 0 :: 0 :: 0 :: 0 :: RV) := by rw [hRK, hRV]; exact O0
  refine o_astore_27_10 (pc := 7) B at_7 rfl rfl ?_
  refine o_aload (pc := 9) B at_9 rfl rfl ?_
  refine o_lloadN (pc := 11) B at_11 rfl ?_
  refine o_iconst (pc := 12) B (0 : Int32) at_12 (by decide) ?_
  refine o_callV2 (pc := 13) B 0 at_13 (hw _ (List.mem_of_getElem? (i := 15) rfl)) (hw _ (List.mem_of_getElem? (i := 16) rfl)) (hw _ (List.mem_of_getElem? (i := 18) rfl)) (hw _ (List.mem_of_getElem? (i := 17) rfl)) (hw _ (List.mem_of_getElem? (i := 2) rfl)) (hw _ (List.mem_of_getElem? (i := 19) rfl)) (by decide) pd3 rfl (by first | exact Nat.zero_le _ | exact Nat.le_of_ble_eq_true rfl | simp [Value.category]) (by decide) (by decide) (by decide) (by decide) rfl (O0'.ex) (oc3_0 l Z a0 hw n0 _ o ak an kf _ k0 0 0 0 0 0 0 0 0 0 0 0 RK RV O0' lRV ⟨by rw [ekf]; rfl, by decide, by decide⟩ (rfl : own_Inv0 0)) ?_
  rintro v h3 ⟨rfl, x0_1, x1_1, x2_1, x3_1, x4_1, v0_1, v1_1, v2_1, v3_1, v4_1, O1, I1⟩
  refine o_aload (pc := 16) B at_16 rfl rfl ?_
  refine o_lloadN (pc := 18) B at_18 rfl ?_
  refine o_iconst (pc := 19) B (1 : Int32) at_19 (by decide) ?_
  refine o_callV2 (pc := 20) B 0 at_20 (hw _ (List.mem_of_getElem? (i := 15) rfl)) (hw _ (List.mem_of_getElem? (i := 16) rfl)) (hw _ (List.mem_of_getElem? (i := 18) rfl)) (hw _ (List.mem_of_getElem? (i := 17) rfl)) (hw _ (List.mem_of_getElem? (i := 2) rfl)) (hw _ (List.mem_of_getElem? (i := 19) rfl)) (by decide) pd3 rfl (by first | exact Nat.zero_le _ | exact Nat.le_of_ble_eq_true rfl | simp [Value.category]) (by decide) (by decide) (by decide) (by decide) rfl (O1.ex) (oc3_1 l Z a0 hw n0 _ o ak an kf _ k1 1 x0_1 x1_1 x2_1 x3_1 x4_1 v0_1 v1_1 v2_1 v3_1 v4_1 RK RV O1 lRV ⟨by rw [ekf]; rfl, by decide, by decide⟩ I1) ?_
  rintro v h4 ⟨rfl, x0_2, x1_2, x2_2, x3_2, x4_2, v0_2, v1_2, v2_2, v3_2, v4_2, O2, I2⟩
  refine o_aload (pc := 23) B at_23 rfl rfl ?_
  refine o_lload (pc := 25) B at_25 rfl ?_
  refine o_iconst (pc := 27) B (2 : Int32) at_27 (by decide) ?_
  refine o_callV2 (pc := 28) B 0 at_28 (hw _ (List.mem_of_getElem? (i := 15) rfl)) (hw _ (List.mem_of_getElem? (i := 16) rfl)) (hw _ (List.mem_of_getElem? (i := 18) rfl)) (hw _ (List.mem_of_getElem? (i := 17) rfl)) (hw _ (List.mem_of_getElem? (i := 2) rfl)) (hw _ (List.mem_of_getElem? (i := 19) rfl)) (by decide) pd3 rfl (by first | exact Nat.zero_le _ | exact Nat.le_of_ble_eq_true rfl | simp [Value.category]) (by decide) (by decide) (by decide) (by decide) rfl (O2.ex) (oc3_2 l Z a0 hw n0 _ o ak an kf _ k2 2 x0_2 x1_2 x2_2 x3_2 x4_2 v0_2 v1_2 v2_2 v3_2 v4_2 RK RV O2 lRV ⟨by rw [ekf]; rfl, by decide, by decide⟩ I2) ?_
  rintro v h5 ⟨rfl, x0_3, x1_3, x2_3, x3_3, x4_3, v0_3, v1_3, v2_3, v3_3, v4_3, O3, I3⟩
  refine o_aload (pc := 31) B at_31 rfl rfl ?_
  refine o_lload (pc := 33) B at_33 rfl ?_
  refine o_iconst (pc := 35) B (3 : Int32) at_35 (by decide) ?_
  refine o_callV2 (pc := 36) B 0 at_36 (hw _ (List.mem_of_getElem? (i := 15) rfl)) (hw _ (List.mem_of_getElem? (i := 16) rfl)) (hw _ (List.mem_of_getElem? (i := 18) rfl)) (hw _ (List.mem_of_getElem? (i := 17) rfl)) (hw _ (List.mem_of_getElem? (i := 2) rfl)) (hw _ (List.mem_of_getElem? (i := 19) rfl)) (by decide) pd3 rfl (by first | exact Nat.zero_le _ | exact Nat.le_of_ble_eq_true rfl | simp [Value.category]) (by decide) (by decide) (by decide) (by decide) rfl (O3.ex) (oc3_3 l Z a0 hw n0 _ o ak an kf _ k3 3 x0_3 x1_3 x2_3 x3_3 x4_3 v0_3 v1_3 v2_3 v3_3 v4_3 RK RV O3 lRV ⟨by rw [ekf]; rfl, by decide, by decide⟩ I3) ?_
  rintro v h6 ⟨rfl, x0_4, x1_4, x2_4, x3_4, x4_4, v0_4, v1_4, v2_4, v3_4, v4_4, O4, I4⟩
  refine o_aload (pc := 39) B at_39 rfl rfl ?_
  refine o_lload (pc := 41) B at_41 rfl ?_
  refine o_iconst (pc := 43) B (4 : Int32) at_43 (by decide) ?_
  refine o_callV2 (pc := 44) B 0 at_44 (hw _ (List.mem_of_getElem? (i := 15) rfl)) (hw _ (List.mem_of_getElem? (i := 16) rfl)) (hw _ (List.mem_of_getElem? (i := 18) rfl)) (hw _ (List.mem_of_getElem? (i := 17) rfl)) (hw _ (List.mem_of_getElem? (i := 2) rfl)) (hw _ (List.mem_of_getElem? (i := 19) rfl)) (by decide) pd3 rfl (by first | exact Nat.zero_le _ | exact Nat.le_of_ble_eq_true rfl | simp [Value.category]) (by decide) (by decide) (by decide) (by decide) rfl (O4.ex) (oc3_4 l Z a0 hw n0 _ o ak an kf _ k4 4 x0_4 x1_4 x2_4 x3_4 x4_4 v0_4 v1_4 v2_4 v3_4 v4_4 RK RV O4 lRV ⟨by rw [ekf]; rfl, by decide, by decide⟩ I4) ?_
  rintro v h7 ⟨rfl, x0_5, x1_5, x2_5, x3_5, x4_5, v0_5, v1_5, v2_5, v3_5, v4_5, O5, I5⟩
  refine o_aload (pc := 47) B at_47 rfl rfl ?_
  refine o_callV0 (pc := 49) B 0 at_49 (hw _ (List.mem_of_getElem? (i := 22) rfl)) (hw _ (List.mem_of_getElem? (i := 23) rfl)) (hw _ (List.mem_of_getElem? (i := 25) rfl)) (hw _ (List.mem_of_getElem? (i := 24) rfl)) (hw _ (List.mem_of_getElem? (i := 2) rfl)) (hw _ (List.mem_of_getElem? (i := 26) rfl)) (by decide) pd4 rfl (by first | exact Nat.zero_le _ | exact Nat.le_of_ble_eq_true rfl | simp [Value.category]) (by decide) (by decide) (by decide) (by decide) rfl (O5.ex) (oc4_4 l Z a0 hw n0 _ o ak an kf _ _ x0_5 x1_5 x2_5 x3_5 x4_5 v0_5 v1_5 v2_5 v3_5 v4_5 RK RV O5 I5) ?_
  rintro v h8 ⟨r0, rfl, la0, lb0, lc0, ld0, x0_6, x1_6, x2_6, x3_6, x4_6, v0_6, v1_6, v2_6, v3_6, v4_6, O6, I6⟩
  refine o_istore_27_11 (pc := 52) B at_52 rfl ?_
  refine o_aload (pc := 54) B at_54 rfl rfl ?_
  refine o_callV0 (pc := 56) B 0 at_56 (hw _ (List.mem_of_getElem? (i := 22) rfl)) (hw _ (List.mem_of_getElem? (i := 23) rfl)) (hw _ (List.mem_of_getElem? (i := 25) rfl)) (hw _ (List.mem_of_getElem? (i := 24) rfl)) (hw _ (List.mem_of_getElem? (i := 2) rfl)) (hw _ (List.mem_of_getElem? (i := 26) rfl)) (by decide) pd4 rfl (by first | exact Nat.zero_le _ | exact Nat.le_of_ble_eq_true rfl | simp [Value.category]) (by decide) (by decide) (by decide) (by decide) rfl (O6.ex) (oc4_3 l Z a0 hw n0 _ o ak an kf _ _ x0_6 x1_6 x2_6 x3_6 x4_6 v0_6 v1_6 v2_6 v3_6 v4_6 RK RV O6 I6) ?_
  rintro v h9 ⟨r1, rfl, la1, lb1, lc1, ld1, x0_7, x1_7, x2_7, x3_7, x4_7, v0_7, v1_7, v2_7, v3_7, v4_7, O7, I7⟩
  refine o_istore_27_12 (pc := 59) B at_59 rfl ?_
  refine o_aload (pc := 61) B at_61 rfl rfl ?_
  refine o_callV0 (pc := 63) B 0 at_63 (hw _ (List.mem_of_getElem? (i := 22) rfl)) (hw _ (List.mem_of_getElem? (i := 23) rfl)) (hw _ (List.mem_of_getElem? (i := 25) rfl)) (hw _ (List.mem_of_getElem? (i := 24) rfl)) (hw _ (List.mem_of_getElem? (i := 2) rfl)) (hw _ (List.mem_of_getElem? (i := 26) rfl)) (by decide) pd4 rfl (by first | exact Nat.zero_le _ | exact Nat.le_of_ble_eq_true rfl | simp [Value.category]) (by decide) (by decide) (by decide) (by decide) rfl (O7.ex) (oc4_2 l Z a0 hw n0 _ o ak an kf _ _ x0_7 x1_7 x2_7 x3_7 x4_7 v0_7 v1_7 v2_7 v3_7 v4_7 RK RV O7 I7) ?_
  rintro v h10 ⟨r2, rfl, la2, lb2, lc2, ld2, x0_8, x1_8, x2_8, x3_8, x4_8, v0_8, v1_8, v2_8, v3_8, v4_8, O8, I8⟩
  refine o_istore_27_13 (pc := 66) B at_66 rfl ?_
  refine o_aload (pc := 68) B at_68 rfl rfl ?_
  refine o_callV0 (pc := 70) B 0 at_70 (hw _ (List.mem_of_getElem? (i := 22) rfl)) (hw _ (List.mem_of_getElem? (i := 23) rfl)) (hw _ (List.mem_of_getElem? (i := 25) rfl)) (hw _ (List.mem_of_getElem? (i := 24) rfl)) (hw _ (List.mem_of_getElem? (i := 2) rfl)) (hw _ (List.mem_of_getElem? (i := 26) rfl)) (by decide) pd4 rfl (by first | exact Nat.zero_le _ | exact Nat.le_of_ble_eq_true rfl | simp [Value.category]) (by decide) (by decide) (by decide) (by decide) rfl (O8.ex) (oc4_1 l Z a0 hw n0 _ o ak an kf _ _ x0_8 x1_8 x2_8 x3_8 x4_8 v0_8 v1_8 v2_8 v3_8 v4_8 RK RV O8 I8) ?_
  rintro v h11 ⟨r3, rfl, la3, lb3, lc3, ld3, x0_9, x1_9, x2_9, x3_9, x4_9, v0_9, v1_9, v2_9, v3_9, v4_9, O9, I9⟩
  refine o_istore_27_14 (pc := 73) B at_73 rfl ?_
  refine o_aload (pc := 75) B at_75 rfl rfl ?_
  refine o_callV0 (pc := 77) B 0 at_77 (hw _ (List.mem_of_getElem? (i := 22) rfl)) (hw _ (List.mem_of_getElem? (i := 23) rfl)) (hw _ (List.mem_of_getElem? (i := 25) rfl)) (hw _ (List.mem_of_getElem? (i := 24) rfl)) (hw _ (List.mem_of_getElem? (i := 2) rfl)) (hw _ (List.mem_of_getElem? (i := 26) rfl)) (by decide) pd4 rfl (by first | exact Nat.zero_le _ | exact Nat.le_of_ble_eq_true rfl | simp [Value.category]) (by decide) (by decide) (by decide) (by decide) rfl (O9.ex) (oc4_0 l Z a0 hw n0 _ o ak an kf _ _ x0_9 x1_9 x2_9 x3_9 x4_9 v0_9 v1_9 v2_9 v3_9 v4_9 RK RV O9 I9) ?_
  rintro v h12 ⟨r4, rfl, la4, lb4, lc4, ld4, x0_10, x1_10, x2_10, x3_10, x4_10, v0_10, v1_10, v2_10, v3_10, v4_10, O10, I10⟩
  refine o_istore_27_15 (pc := 80) B at_80 rfl ?_
  refine o_iload (pc := 82) B at_82 rfl ?_
  have hsum : own_P r0 + own_P r1 + own_P r2 + own_P r3 + own_P r4 = 31 := by
    have p0 : own_P 0 = 1 := by decide
    have p1 : own_P 1 = 2 := by decide
    have p2 : own_P 2 = 4 := by decide
    have p3 : own_P 3 = 8 := by decide
    have p4 : own_P 4 = 16 := by decide
    unfold own_Inv0 at I10
    omega
  refine o_callS1 (pc := 84) B 0 at_84 (hw _ (List.mem_of_getElem? (i := 27) rfl)) (hw _ (List.mem_of_getElem? (i := 28) rfl)) (hw _ (List.mem_of_getElem? (i := 29) rfl)) (hw _ (List.mem_of_getElem? (i := 30) rfl)) (by decide) pd5 rfl (by first | exact Nat.zero_le _ | exact Nat.le_of_ble_eq_true rfl | simp [Value.category]) (by decide) (by decide) (by decide) (by decide) rfl (oc5 l Z a0 hw n0 _ r0 la0 lb0) ?_
  rintro v h' ⟨rfl, rfl⟩
  refine o_if_eq (pc := 87) (pc' := 122) B at_87 (by decide) (by decide) (fun hc87 => False.elim (by revert hc87; decide)) (fun hc87 => ?_)
  refine o_iload (pc := 90) B at_90 rfl ?_
  refine o_callS1 (pc := 92) B 0 at_92 (hw _ (List.mem_of_getElem? (i := 27) rfl)) (hw _ (List.mem_of_getElem? (i := 28) rfl)) (hw _ (List.mem_of_getElem? (i := 29) rfl)) (hw _ (List.mem_of_getElem? (i := 30) rfl)) (by decide) pd5 rfl (by first | exact Nat.zero_le _ | exact Nat.le_of_ble_eq_true rfl | simp [Value.category]) (by decide) (by decide) (by decide) (by decide) rfl (oc5 l Z a0 hw n0 _ r1 la1 lb1) ?_
  rintro v h' ⟨rfl, rfl⟩
  refine o_if_eq (pc := 95) (pc' := 122) B at_95 (by decide) (by decide) (fun hc95 => False.elim (by revert hc95; decide)) (fun hc95 => ?_)
  refine o_iload (pc := 98) B at_98 rfl ?_
  refine o_callS1 (pc := 100) B 0 at_100 (hw _ (List.mem_of_getElem? (i := 27) rfl)) (hw _ (List.mem_of_getElem? (i := 28) rfl)) (hw _ (List.mem_of_getElem? (i := 29) rfl)) (hw _ (List.mem_of_getElem? (i := 30) rfl)) (by decide) pd5 rfl (by first | exact Nat.zero_le _ | exact Nat.le_of_ble_eq_true rfl | simp [Value.category]) (by decide) (by decide) (by decide) (by decide) rfl (oc5 l Z a0 hw n0 _ r2 la2 lb2) ?_
  rintro v h' ⟨rfl, rfl⟩
  refine o_if_eq (pc := 103) (pc' := 122) B at_103 (by decide) (by decide) (fun hc103 => False.elim (by revert hc103; decide)) (fun hc103 => ?_)
  refine o_iload (pc := 106) B at_106 rfl ?_
  refine o_callS1 (pc := 108) B 0 at_108 (hw _ (List.mem_of_getElem? (i := 27) rfl)) (hw _ (List.mem_of_getElem? (i := 28) rfl)) (hw _ (List.mem_of_getElem? (i := 29) rfl)) (hw _ (List.mem_of_getElem? (i := 30) rfl)) (by decide) pd5 rfl (by first | exact Nat.zero_le _ | exact Nat.le_of_ble_eq_true rfl | simp [Value.category]) (by decide) (by decide) (by decide) (by decide) rfl (oc5 l Z a0 hw n0 _ r3 la3 lb3) ?_
  rintro v h' ⟨rfl, rfl⟩
  refine o_if_eq (pc := 111) (pc' := 122) B at_111 (by decide) (by decide) (fun hc111 => False.elim (by revert hc111; decide)) (fun hc111 => ?_)
  refine o_iload (pc := 114) B at_114 rfl ?_
  refine o_callS1 (pc := 116) B 0 at_116 (hw _ (List.mem_of_getElem? (i := 27) rfl)) (hw _ (List.mem_of_getElem? (i := 28) rfl)) (hw _ (List.mem_of_getElem? (i := 29) rfl)) (hw _ (List.mem_of_getElem? (i := 30) rfl)) (by decide) pd5 rfl (by first | exact Nat.zero_le _ | exact Nat.le_of_ble_eq_true rfl | simp [Value.category]) (by decide) (by decide) (by decide) (by decide) rfl (oc5 l Z a0 hw n0 _ r4 la4 lb4) ?_
  rintro v h' ⟨rfl, rfl⟩
  refine o_if_ne (pc := 119) (pc' := 124) B at_119 (by decide) (by decide) (fun hc119 => ?_) (fun hc119 => False.elim (by revert hc119; decide))
  obtain ⟨i0, f0, g0⟩ := own_five la0 lb0
  obtain ⟨i1, f1, g1⟩ := own_five la1 lb1
  obtain ⟨i2, f2, g2⟩ := own_five la2 lb2
  obtain ⟨i3, f3, g3⟩ := own_five la3 lb3
  obtain ⟨i4, f4, g4⟩ := own_five la4 lb4
  have hor : (1 : Int32) <<< (r0 &&& 31) ||| (1 : Int32) <<< (r1 &&& 31) ||| (1 : Int32) <<< (r2 &&& 31) ||| (1 : Int32) <<< (r3 &&& 31) ||| (1 : Int32) <<< (r4 &&& 31) = 31 := by
    rw [f0, f1, f2, f3, f4]
    exact own_or i0 i1 i2 i3 i4 (by rw [← g0, ← g1, ← g2, ← g3, ← g4]; exact hsum)
  refine o_iconst (pc := 124) B (1 : Int32) at_124 (by decide) ?_
  refine o_iload (pc := 125) B at_125 rfl ?_
  refine o_ishl (pc := 127) B at_127 ?_
  refine o_iconst (pc := 128) B (1 : Int32) at_128 (by decide) ?_
  refine o_iload (pc := 129) B at_129 rfl ?_
  refine o_ishl (pc := 131) B at_131 ?_
  refine o_ior (pc := 132) B at_132 ?_
  refine o_iconst (pc := 133) B (1 : Int32) at_133 (by decide) ?_
  refine o_iload (pc := 134) B at_134 rfl ?_
  refine o_ishl (pc := 136) B at_136 ?_
  refine o_ior (pc := 137) B at_137 ?_
  refine o_iconst (pc := 138) B (1 : Int32) at_138 (by decide) ?_
  refine o_iload (pc := 139) B at_139 rfl ?_
  refine o_ishl (pc := 141) B at_141 ?_
  refine o_ior (pc := 142) B at_142 ?_
  refine o_iconst (pc := 143) B (1 : Int32) at_143 (by decide) ?_
  refine o_iload (pc := 144) B at_144 rfl ?_
  refine o_ishl (pc := 146) B at_146 ?_
  refine o_ior (pc := 147) B at_147 ?_
  rw [hor]
  refine o_istore_27_16 (pc := 148) B at_148 rfl ?_
  refine o_iload (pc := 150) B at_150 rfl ?_
  refine o_bipush (pc := 152) B (31 : Int32) at_152 (by decide) ?_
  refine o_icmp_eq (pc := 154) (pc' := 159) B at_154 (by decide) (by decide) (fun hc154 => ?_) (fun hc154 => False.elim (by revert hc154; decide))
  refine o_iload (pc := 159) B at_159 rfl ?_
  refine o_lloadN (pc := 161) B at_161 rfl ?_
  refine o_lloadN (pc := 162) B at_162 rfl ?_
  refine o_lload (pc := 163) B at_163 rfl ?_
  refine o_lload (pc := 165) B at_165 rfl ?_
  refine o_lload (pc := 167) B at_167 rfl ?_
  refine o_callS6 (pc := 169) B 0 at_169 (hw _ (List.mem_of_getElem? (i := 31) rfl)) (hw _ (List.mem_of_getElem? (i := 32) rfl)) (hw _ (List.mem_of_getElem? (i := 29) rfl)) (hw _ (List.mem_of_getElem? (i := 33) rfl)) (by decide) pd6 rfl (by first | exact Nat.zero_le _ | exact Nat.le_of_ble_eq_true rfl | simp [Value.category]) (by decide) (by decide) (by decide) (by decide) rfl (oc6 l Z a0 hw n0 _ r0 k0 k1 k2 k3 k4) ?_
  rintro v h' ⟨rfl, rfl⟩
  refine o_lstore_27_17 (pc := 172) B at_172 rfl ?_
  refine o_iload (pc := 174) B at_174 rfl ?_
  refine o_lloadN (pc := 176) B at_176 rfl ?_
  refine o_lloadN (pc := 177) B at_177 rfl ?_
  refine o_lload (pc := 178) B at_178 rfl ?_
  refine o_lload (pc := 180) B at_180 rfl ?_
  refine o_lload (pc := 182) B at_182 rfl ?_
  refine o_callS6 (pc := 184) B 0 at_184 (hw _ (List.mem_of_getElem? (i := 31) rfl)) (hw _ (List.mem_of_getElem? (i := 32) rfl)) (hw _ (List.mem_of_getElem? (i := 29) rfl)) (hw _ (List.mem_of_getElem? (i := 33) rfl)) (by decide) pd6 rfl (by first | exact Nat.zero_le _ | exact Nat.le_of_ble_eq_true rfl | simp [Value.category]) (by decide) (by decide) (by decide) (by decide) rfl (oc6 l Z a0 hw n0 _ r1 k0 k1 k2 k3 k4) ?_
  rintro v h' ⟨rfl, rfl⟩
  refine o_lstore_27_19 (pc := 187) B at_187 rfl ?_
  refine o_iload (pc := 189) B at_189 rfl ?_
  refine o_lloadN (pc := 191) B at_191 rfl ?_
  refine o_lloadN (pc := 192) B at_192 rfl ?_
  refine o_lload (pc := 193) B at_193 rfl ?_
  refine o_lload (pc := 195) B at_195 rfl ?_
  refine o_lload (pc := 197) B at_197 rfl ?_
  refine o_callS6 (pc := 199) B 0 at_199 (hw _ (List.mem_of_getElem? (i := 31) rfl)) (hw _ (List.mem_of_getElem? (i := 32) rfl)) (hw _ (List.mem_of_getElem? (i := 29) rfl)) (hw _ (List.mem_of_getElem? (i := 33) rfl)) (by decide) pd6 rfl (by first | exact Nat.zero_le _ | exact Nat.le_of_ble_eq_true rfl | simp [Value.category]) (by decide) (by decide) (by decide) (by decide) rfl (oc6 l Z a0 hw n0 _ r2 k0 k1 k2 k3 k4) ?_
  rintro v h' ⟨rfl, rfl⟩
  refine o_lstore_27_21 (pc := 202) B at_202 rfl ?_
  refine o_iload (pc := 204) B at_204 rfl ?_
  refine o_lloadN (pc := 206) B at_206 rfl ?_
  refine o_lloadN (pc := 207) B at_207 rfl ?_
  refine o_lload (pc := 208) B at_208 rfl ?_
  refine o_lload (pc := 210) B at_210 rfl ?_
  refine o_lload (pc := 212) B at_212 rfl ?_
  refine o_callS6 (pc := 214) B 0 at_214 (hw _ (List.mem_of_getElem? (i := 31) rfl)) (hw _ (List.mem_of_getElem? (i := 32) rfl)) (hw _ (List.mem_of_getElem? (i := 29) rfl)) (hw _ (List.mem_of_getElem? (i := 33) rfl)) (by decide) pd6 rfl (by first | exact Nat.zero_le _ | exact Nat.le_of_ble_eq_true rfl | simp [Value.category]) (by decide) (by decide) (by decide) (by decide) rfl (oc6 l Z a0 hw n0 _ r3 k0 k1 k2 k3 k4) ?_
  rintro v h' ⟨rfl, rfl⟩
  refine o_lstore_27_23 (pc := 217) B at_217 rfl ?_
  refine o_iload (pc := 219) B at_219 rfl ?_
  refine o_lloadN (pc := 221) B at_221 rfl ?_
  refine o_lloadN (pc := 222) B at_222 rfl ?_
  refine o_lload (pc := 223) B at_223 rfl ?_
  refine o_lload (pc := 225) B at_225 rfl ?_
  refine o_lload (pc := 227) B at_227 rfl ?_
  refine o_callS6 (pc := 229) B 0 at_229 (hw _ (List.mem_of_getElem? (i := 31) rfl)) (hw _ (List.mem_of_getElem? (i := 32) rfl)) (hw _ (List.mem_of_getElem? (i := 29) rfl)) (hw _ (List.mem_of_getElem? (i := 33) rfl)) (by decide) pd6 rfl (by first | exact Nat.zero_le _ | exact Nat.le_of_ble_eq_true rfl | simp [Value.category]) (by decide) (by decide) (by decide) (by decide) rfl (oc6 l Z a0 hw n0 _ r4 k0 k1 k2 k3 k4) ?_
  rintro v h' ⟨rfl, rfl⟩
  refine o_lstore_27_25 (pc := 232) B at_232 rfl ?_
  rw [← ekf]
  refine o_lload (pc := 234) B at_234 rfl ?_
  refine o_lload (pc := 236) B at_236 rfl ?_
  refine o_lcmp (pc := 238) B at_238 ?_
  refine o_lif_gt (pc := 239) (pc' := 270) B at_239 (by decide) (by decide) (fun hc239 => False.elim ((by rw [Int64.lt_iff_toInt_lt] at hc239; omega))) (fun hc239 => ?_)
  refine o_lload (pc := 242) B at_242 rfl ?_
  refine o_lload (pc := 244) B at_244 rfl ?_
  refine o_lcmp (pc := 246) B at_246 ?_
  refine o_lif_gt (pc := 247) (pc' := 270) B at_247 (by decide) (by decide) (fun hc247 => False.elim ((by rw [Int64.lt_iff_toInt_lt] at hc247; omega))) (fun hc247 => ?_)
  refine o_lload (pc := 250) B at_250 rfl ?_
  refine o_lload (pc := 252) B at_252 rfl ?_
  refine o_lcmp (pc := 254) B at_254 ?_
  refine o_lif_gt (pc := 255) (pc' := 270) B at_255 (by decide) (by decide) (fun hc255 => False.elim ((by rw [Int64.lt_iff_toInt_lt] at hc255; omega))) (fun hc255 => ?_)
  refine o_lload (pc := 258) B at_258 rfl ?_
  refine o_lload (pc := 260) B at_260 rfl ?_
  refine o_lcmp (pc := 262) B at_262 ?_
  refine o_lif_gt (pc := 263) (pc' := 270) B at_263 (by decide) (by decide) (fun hc263 => False.elim ((by rw [Int64.lt_iff_toInt_lt] at hc263; omega))) (fun hc263 => ?_)
  refine o_iconst (pc := 266) B (1 : Int32) at_266 (by decide) ?_
  refine o_goto (pc := 267) (pc' := 271) B at_267 (by decide) (by decide) ?_
  exact o_zreturn (pc := 271) B at_271 (by decide) (by decide) (rfl)
set_option maxRecDepth 65536 in
set_option maxHeartbeats 40000000 in
theorem comes_1 {Post : Tables → Env → Array Value → State → Outcome → State → Prop} (hpost : ∀ tb e args s v u, (limb_1_1.after args s (.returned v) u = true ∧ limb_1_2.after args s (.returned v) u = true ∧ True) → FrameEnd s (.returned v) u (Jvm.fieldLocs frame_1_writes args s ++ Jvm.arrayLocs frame_1_arrays args s ++ Jvm.staticLocs frame_1_statics s) 16 192 → Post tb e args s (.returned v) u) :
    ArmFor flags0 classFile x code maxLocals ret World_1 tables_1 room_1 Calls_1 rest_1 Pre_1 Post := by
  intro l hfl _ _ p e ha hc hk s m args below hf hA hF happ hP
  obtain ⟨hcalls, hrest, hpre⟩ := hP
  obtain ⟨-, -, -, hnamed, -, -, -, hat⟩ := (Spec.applies_iff hf).mp happ
  obtain ⟨hg, hn⟩ := and_e (Cond.before_iff.mp (show (Jvm.Cond.and given_1 narrow_1).before args s = true from hpre))
  obtain ⟨hcnt, g0⟩ := and_e hg
  obtain ⟨q0, g1⟩ := and_e g0
  obtain ⟨q1, g2⟩ := and_e g1
  obtain ⟨q2, g3⟩ := and_e g2
  obtain ⟨q3, g4⟩ := and_e g3
  obtain ⟨w0, w1, w2, w3, w4, rfl⟩ : ∃ w0 w1 w2 w3 w4 : Value, args = #[w0, w1, w2, w3, w4] := by
    have hs : args.size = 5 := by simpa [Cond.value, given_1] using hcnt
    obtain ⟨L⟩ := args
    match L, hs with
    | [w0, w1, w2, w3, w4], _ => exact ⟨w0, w1, w2, w3, w4, rfl⟩
  have hw := fun d (hd : d ∈ tables_1) => atoms_spec (ws := Jvm.Cond.code x code maxLocals ret :: tables_1) hat d (List.mem_cons_of_mem _ hd)
  obtain ⟨i0, e0⟩ := isL_v q0
  obtain rfl : w0 = (.long i0) := Option.some.inj e0
  obtain ⟨i1, e1⟩ := isL_v q1
  obtain rfl : w1 = (.long i1) := Option.some.inj e1
  obtain ⟨i2, e2⟩ := isL_v q2
  obtain rfl : w2 = (.long i2) := Option.some.inj e2
  obtain ⟨i3, e3⟩ := isL_v q3
  obtain rfl : w3 = (.long i3) := Option.some.inj e3
  obtain ⟨i4, e4⟩ := isL_v g4
  obtain rfl : w4 = (.long i4) := Option.some.inj e4
  obtain ⟨n, o, h1, h2, h3, _, L, rfl, ⟨rfl, N⟩, hq⟩ := (oc0 l s _ hw s.heap.size s.heap i0 i1 i2 i3 i4 (Nat.le_refl _)) tables_1 p e ha hc hk s m _ below hf ((Spec.applies_iff_loose hf).mp happ).1 ⟨rfl, State.Warmed39.refl s, rfl⟩ trivial
  refine ⟨n, _, h1, h2, h3, hpost _ _ _ _ _ _ ⟨Cond.after_iff.mpr rfl, Cond.after_iff.mpr (eq_i res_at (Term.int_eval (1)) rfl), trivial⟩ ⟨hq.1, hq.2.1, (hq.2.2.sift fun y hy => Or.inr (N y hy)).mono (by decide) (by decide)⟩⟩
theorem main_1_1 : Claimed_1_1 := comes_1 fun _ _ _ _ _ _ h hF => ⟨h.1, hF⟩
theorem main_1_2 : Claimed_1_2 := comes_1 fun _ _ _ _ _ _ h hF => ⟨h.2.1, hF⟩
end Jvm.Pilot.@@N@@
namespace Jvm.Pilot.@@N@@
open Jvm Jvm.ClassFile Sem Op Lib Jvm.Free Jvm.Stand Jvm.Pilot.@@N@@.Jvm.D
/-! MADE BY PROGRAM (witnessworld.py) out of the Statement's table words and the real class files: 11 classes; the members and pool entries that the words name. The judged class is class 1, her method 3. -/
namespace start1
open Jvm.ClassFile
def u (s : String) : CpInfo := .utf8 (stringToUtf16 s)
/-- a pool by its gaps: so many unusable entries, then the entry; so many at the end -/
def gap : Nat → List CpInfo → List CpInfo
  | 0, r => r
  | n + 1, r => .unusable :: gap n r
def poolList (es : List (Nat × CpInfo)) (last : Nat) : List CpInfo := es.foldr (fun e r => gap e.1 (e.2 :: r)) (gap last [])
def pool (es : List (Nat × CpInfo)) (last : Nat) : Array CpInfo := ⟨poolList es last⟩
def fileOf (pool : Array CpInfo) (this : Nat) (attrs : Array Attribute := #[]) (ms : Array MethodInfo := #[]) (fl : Nat := 33) (sup : Nat := 0) (ifs : Array Nat := #[]) (fds : Array FieldInfo := #[]) : ClassFile where
  minorVersion := 0
  majorVersion := 65
  constantPool := pool
  accessFlags := fl
  thisClass := this
  superClass := sup
  interfaces := ifs
  fields := fds
  methods := ms
  attributes := attrs
def plain (name : String) (sup : Option ClassId) : Class where
  name := name
  kind := .ordinary
  loader := none
  accessFlags := 33
  super := sup
  interfaces := #[]
  cf := none
  fields := #[]
  methods := #[]
  instanceTypes := #[]
  staticTypes := #[]
  resolved := #[]
  callSites := []
  init := .initialized
  statics := none
  mirror := none

def pool0 : Array CpInfo := pool [(5, u "<init>"), (0, u "()V"), (1, .class_ 10), (1, u "java/lang/Object")] 113

def k0c0 : Code := { maxStack := 0, maxLocals := 1, code := object_method_1_code, exceptionTable := #[], attributes := #[] }
def k0m0 : Method := { name := "<init>", desc := "()V", sig := { parameters := [], returnType := none }, accessFlags := 1, code := some k0c0 }
/-- java/lang/Object -/
def k0 : Class := { plain "java/lang/Object" none with
  accessFlags := 33
  interfaces := #[]
  cf := some (fileOf pool0 8 #[] #[{ accessFlags := 1, nameIndex := 5, descriptorIndex := 6, attributes := #[] }] 33 0 #[] #[])
  fields := #[]
  methods := #[k0m0]
  instanceTypes := #[]
  staticTypes := #[]
  resolved := Array.replicate 124 none
  statics := none }

def pool1 : Array CpInfo := pool [(2, .class_ 4), (0, .nameAndType 5 6), (0, u "java/lang/Object"), (0, u "<init>"), (0, u "()V"), (0, .class_ 8), (0, u "com/example/trailhead/trailhead/arithmetic/NodeHeap"), (0, .methodref 7 3), (0, .methodref 7 11), (0, .nameAndType 12 13), (0, u "push"), (0, u "(JI)V"), (0, .methodref 7 15), (0, .nameAndType 16 17), (0, u "pop"), (0, u "()I"), (0, .methodref 19 20), (0, .class_ 21), (0, .nameAndType 22 23), (0, u "com/example/trailhead/trailhead/arithmetic/NodeHeapPopPinLaw"), (0, u "inRange"), (0, u "(I)Z"), (0, .methodref 19 25), (0, .nameAndType 26 27), (0, u "keyOf"), (0, u "(IJJJJJ)J"), (3, u "law"), (0, u "(JJJJJ)Z")] 2

def k1m0 : Method := { name := "<init>", desc := "()V", sig := { parameters := [], returnType := none }, accessFlags := 1, code := none }
def k1c1 : Code := { maxStack := 2, maxLocals := 1, code := method_2_code, exceptionTable := #[], attributes := #[] }
def k1m1 : Method := { name := "inRange", desc := "(I)Z", sig := { parameters := [.int], returnType := some .boolean }, accessFlags := 10, code := some k1c1 }
def k1c2 : Code := { maxStack := 2, maxLocals := 11, code := method_3_code, exceptionTable := #[], attributes := #[] }
def k1m2 : Method := { name := "keyOf", desc := "(IJJJJJ)J", sig := { parameters := [.int, .long, .long, .long, .long, .long], returnType := some .long }, accessFlags := 10, code := some k1c2 }
def k1c3 : Code := { maxStack := 11, maxLocals := 27, code := code, exceptionTable := #[], attributes := #[] }
def k1m3 : Method := { name := "law", desc := "(JJJJJ)Z", sig := { parameters := [.long, .long, .long, .long, .long], returnType := some .boolean }, accessFlags := 9, code := some k1c3 }
/-- com/example/trailhead/trailhead/arithmetic/NodeHeapPopPinLaw -/
def k1 : Class := { plain "com/example/trailhead/trailhead/arithmetic/NodeHeapPopPinLaw" (some 0) with
  accessFlags := 49
  interfaces := #[]
  cf := some (fileOf pool1 19 #[] #[{ accessFlags := 1, nameIndex := 5, descriptorIndex := 6, attributes := #[] }, { accessFlags := 10, nameIndex := 22, descriptorIndex := 23, attributes := #[] }, { accessFlags := 10, nameIndex := 26, descriptorIndex := 27, attributes := #[] }, { accessFlags := 9, nameIndex := 31, descriptorIndex := 32, attributes := #[] }] 49 2 #[] #[])
  fields := #[]
  methods := #[k1m0, k1m1, k1m2, k1m3]
  instanceTypes := #[]
  staticTypes := #[]
  resolved := Array.replicate 35 none
  statics := none }

def pool2 : Array CpInfo := pool [(1, .methodref 2 3), (0, .class_ 4), (0, .nameAndType 5 6), (0, u "java/lang/Object"), (0, u "<init>"), (0, u "()V"), (0, .fieldref 8 9), (0, .class_ 10), (0, .nameAndType 11 12), (0, u "com/example/trailhead/trailhead/arithmetic/NodeHeap"), (0, u "keys"), (0, u "[J"), (0, .fieldref 8 14), (0, .nameAndType 15 16), (0, u "nodes"), (0, u "[I"), (0, .fieldref 8 18), (0, .nameAndType 19 20), (0, u "size"), (0, u "I"), (14, u "push"), (0, u "(JI)V"), (0, u "pop"), (0, u "()I")] 3

def k2c0 : Code := { maxStack := 2, maxLocals := 1, code := prog_19_method_1_code, exceptionTable := #[], attributes := #[] }
def k2m0 : Method := { name := "<init>", desc := "()V", sig := { parameters := [], returnType := none }, accessFlags := 0, code := some k2c0 }
def k2c1 : Code := { maxStack := 4, maxLocals := 6, code := prog_19_method_3_code, exceptionTable := #[], attributes := #[] }
def k2m1 : Method := { name := "push", desc := "(JI)V", sig := { parameters := [.long, .int], returnType := none }, accessFlags := 0, code := some k2c1 }
def k2c2 : Code := { maxStack := 4, maxLocals := 7, code := prog_19_method_4_code, exceptionTable := #[], attributes := #[] }
def k2m2 : Method := { name := "pop", desc := "()I", sig := { parameters := [], returnType := some .int }, accessFlags := 0, code := some k2c2 }
/-- com/example/trailhead/trailhead/arithmetic/NodeHeap -/
def k2 : Class := { plain "com/example/trailhead/trailhead/arithmetic/NodeHeap" (some 0) with
  accessFlags := 48
  interfaces := #[]
  cf := some (fileOf pool2 8 #[] #[{ accessFlags := 0, nameIndex := 5, descriptorIndex := 6, attributes := #[] }, { accessFlags := 0, nameIndex := 35, descriptorIndex := 36, attributes := #[] }, { accessFlags := 0, nameIndex := 37, descriptorIndex := 38, attributes := #[] }] 48 2 #[] #[{ accessFlags := 2, nameIndex := 11, descriptorIndex := 12, attributes := #[] }, { accessFlags := 2, nameIndex := 15, descriptorIndex := 16, attributes := #[] }, { accessFlags := 2, nameIndex := 19, descriptorIndex := 20, attributes := #[] }])
  fields := #[{ name := "keys", type := (.array .long), accessFlags := 2, slot := 0, constantValue := 0 }, { name := "nodes", type := (.array .int), accessFlags := 2, slot := 1, constantValue := 0 }, { name := "size", type := .int, accessFlags := 2, slot := 2, constantValue := 0 }]
  methods := #[k2m0, k2m1, k2m2]
  instanceTypes := #[(.array .long), (.array .int), .int]
  staticTypes := #[]
  resolved := Array.replicate 42 none
  statics := none }

def pool3 : Array CpInfo := pool [(1, u "java/lang/Cloneable"), (0, .class_ 1), (0, u "java/lang/Object"), (0, .class_ 3)] 3

/-- java/lang/Cloneable -/
def k3 : Class := { plain "java/lang/Cloneable" (some 0) with
  accessFlags := 1537
  interfaces := #[]
  cf := some (fileOf pool3 2 #[] #[] 1537 4 #[] #[])
  fields := #[]
  methods := #[]
  instanceTypes := #[]
  staticTypes := #[]
  resolved := Array.replicate 8 none
  statics := none }

def pool4 : Array CpInfo := pool [(1, u "java/io/Serializable"), (0, .class_ 1), (0, u "java/lang/Object"), (0, .class_ 3)] 3

/-- java/io/Serializable -/
def k4 : Class := { plain "java/io/Serializable" (some 0) with
  accessFlags := 1537
  interfaces := #[]
  cf := some (fileOf pool4 2 #[] #[] 1537 4 #[] #[])
  fields := #[]
  methods := #[]
  instanceTypes := #[]
  staticTypes := #[]
  resolved := Array.replicate 8 none
  statics := none }

/-- the primitive byte -/
def k5 : Class := { plain "byte" none with kind := .primitive 'B', accessFlags := 0x411 }
/-- [B -/
def k6 : Class := { plain "[B" (some 0) with kind := .array 5 .byte, interfaces := #[3, 4], accessFlags := 1041 }

/-- the primitive int -/
def k7 : Class := { plain "int" none with kind := .primitive 'I', accessFlags := 0x411 }
/-- [I -/
def k8 : Class := { plain "[I" (some 0) with kind := .array 7 .int, interfaces := #[3, 4], accessFlags := 1041 }

/-- the primitive long -/
def k9 : Class := { plain "long" none with kind := .primitive 'J', accessFlags := 0x411 }
/-- [J -/
def k10 : Class := { plain "[J" (some 0) with kind := .array 9 .long, interfaces := #[3, 4], accessFlags := 1041 }

def heap : Heap := #[]
def classes : Array Class := #[k0, k1, k2, k3, k4, k5, k6, k7, k8, k9, k10]
def interned : List (Array UInt16 × Addr) := []
def slotsUsed : Nat := 0
def theMethod : MethodId := ⟨1, 3⟩
def args0 : Array Value := #[.long 5, .long 7, .long 3, .long 9, .long 2]
def aboutOver (below : List Frame) : State where
  vm := { classes := classes, interned := interned.toArray }
  heap := heap
  slotsUsed := slotsUsed
  threads := #[{ frames := .invoking theMethod args0 :: below }]
def below0 : List Frame := [.native { method := ⟨0, 0⟩, args := #[] }]
def about1 : State := aboutOver below0
def p0 : Program := .bare "" "" ""
def e0 : Env := launch0.env 0 0 0
theorem w_frames : about1.frames = Frame.invoking theMethod args0 :: below0 := rfl
set_option maxRecDepth 65536 in
theorem w_args : argsFit about1.vm theMethod args0 = true := by decide +kernel
set_option maxRecDepth 65536 in
theorem w_heap : heapFits about1 = true := by decide +kernel
set_option maxRecDepth 65536 in
theorem w_runnable : about1.curStatus? = some .runnable := by decide +kernel
set_option maxRecDepth 65536 in
theorem w_alone : about1.alone = true := by decide +kernel
set_option maxRecDepth 65536 in
theorem w_named : about1.methodNamed? x = some theMethod := by decide +kernel
set_option maxRecDepth 65536 in
theorem w_hears : about1.hears theMethod below0 = true := by decide +kernel
set_option maxRecDepth 65536 in
theorem w_ripe : about1.ripe theMethod args0 below0 = true := by decide +kernel
theorem w_running : about1.status = .running := rfl
set_option maxRecDepth 65536 in
theorem w_room : about1.hasRoom e0.platform room_1 = true :=
  launch0.hasRoom_least _ room_1 (by decide +kernel) (by decide +kernel) (by decide +kernel) (by decide +kernel) (by decide +kernel) (by decide +kernel)
theorem allAtoms_all (ts : List Jvm.Cond) (a : Array Jvm.Value) (st : Jvm.State) : (allAtoms ts).before a st = ts.all (fun c => c.before a st) := by
  induction ts with
  | nil => rfl
  | cons c t ih =>
    show (Jvm.Cond.and c (allAtoms t)).before a st = _
    rw [Jvm.Cond.before_and, ih, List.all_cons]
def words1 : List Jvm.Cond := Jvm.Cond.code x code maxLocals ret :: tables_1
/-- a 'code' word, met by the world's own term for the bytes: nothing is compared byte by byte -/
theorem code_word {y : MethodName} {bytes : ByteArray} {mx : Nat} {rt : Option FieldType} {a : Array Value} {s : State} {m : MethodId} {meth : Method} {c : Code} (h1 : s.methodNamed? y = some m) (h2 : s.vm.method? m = some meth) (h3 : meth.code = some c) (h4 : c.code = bytes)
    (h5 : (c.maxLocals == mx && c.exceptionTable.isEmpty && decide (c.maxStack ≤ mostOperands) && decide (meth.sig.returnType = rt) && !meth.locks && decide (parseMethodDescriptor y.desc = some meth.sig)) = true) : (Jvm.Cond.code y bytes mx rt).before a s = true := by
  simp only [Bool.and_eq_true, beq_iff_eq, Bool.not_eq_true', decide_eq_true_eq] at h5
  obtain ⟨⟨⟨⟨⟨g1, g2⟩, g3⟩, g4⟩, g5⟩, g6⟩ := h5
  simp [Cond.before, Cond.holds, Cond.value, h1, h2, h3, h4, g1, g2, g3, g4, g5, g6]
def isCode : Jvm.Cond → Bool
  | .code _ _ _ _ => true
  | _ => false
theorem all_split {L : List Jvm.Cond} {P : Jvm.Cond → Bool} (h1 : L.all (fun c => isCode c || P c) = true) (h2 : ∀ c ∈ L.filter isCode, P c = true) : L.all P = true := by
  refine List.all_eq_true.mpr fun c hc => ?_
  have h := List.all_eq_true.mp h1 c hc
  rcases Bool.eq_false_or_eq_true (isCode c) with hi | hi
  · exact h2 c (List.mem_filter.mpr ⟨hc, hi⟩)
  · simpa [hi] using h
set_option maxRecDepth 65536 in
theorem w_c0 : (Jvm.Cond.code x code maxLocals ret).before args0 about1 = true := code_word (m := ⟨1, 3⟩) (meth := k1m3) (c := k1c3) (by decide +kernel) rfl rfl rfl (by decide +kernel)
set_option maxRecDepth 65536 in
theorem w_c1 : (Jvm.Cond.code ({ cls := "com/example/trailhead/trailhead/arithmetic/NodeHeap", name := "<init>", desc := "()V" } : Jvm.MethodName) prog_19_method_1_code (1 : Nat) (Option.none : Option Jvm.ClassFile.FieldType)).before args0 about1 = true := code_word (m := ⟨2, 0⟩) (meth := k2m0) (c := k2c0) (by decide +kernel) rfl rfl rfl (by decide +kernel)
set_option maxRecDepth 65536 in
theorem w_c2 : (Jvm.Cond.code ({ cls := "java/lang/Object", name := "<init>", desc := "()V" } : Jvm.MethodName) object_method_1_code (1 : Nat) (Option.none : Option Jvm.ClassFile.FieldType)).before args0 about1 = true := code_word (m := ⟨0, 0⟩) (meth := k0m0) (c := k0c0) (by decide +kernel) rfl rfl rfl (by decide +kernel)
set_option maxRecDepth 65536 in
theorem w_c3 : (Jvm.Cond.code ({ cls := "com/example/trailhead/trailhead/arithmetic/NodeHeap", name := "push", desc := "(JI)V" } : Jvm.MethodName) prog_19_method_3_code (6 : Nat) (Option.none : Option Jvm.ClassFile.FieldType)).before args0 about1 = true := code_word (m := ⟨2, 1⟩) (meth := k2m1) (c := k2c1) (by decide +kernel) rfl rfl rfl (by decide +kernel)
set_option maxRecDepth 65536 in
theorem w_c4 : (Jvm.Cond.code ({ cls := "com/example/trailhead/trailhead/arithmetic/NodeHeap", name := "pop", desc := "()I" } : Jvm.MethodName) prog_19_method_4_code (7 : Nat) (Option.some Jvm.ClassFile.FieldType.int)).before args0 about1 = true := code_word (m := ⟨2, 2⟩) (meth := k2m2) (c := k2c2) (by decide +kernel) rfl rfl rfl (by decide +kernel)
set_option maxRecDepth 65536 in
theorem w_c5 : (Jvm.Cond.code ({ cls := "com/example/trailhead/trailhead/arithmetic/NodeHeapPopPinLaw", name := "inRange", desc := "(I)Z" } : Jvm.MethodName) method_2_code (1 : Nat) (Option.some Jvm.ClassFile.FieldType.boolean)).before args0 about1 = true := code_word (m := ⟨1, 1⟩) (meth := k1m1) (c := k1c1) (by decide +kernel) rfl rfl rfl (by decide +kernel)
set_option maxRecDepth 65536 in
theorem w_c6 : (Jvm.Cond.code ({ cls := "com/example/trailhead/trailhead/arithmetic/NodeHeapPopPinLaw", name := "keyOf", desc := "(IJJJJJ)J" } : Jvm.MethodName) method_3_code (11 : Nat) (Option.some Jvm.ClassFile.FieldType.long)).before args0 about1 = true := code_word (m := ⟨1, 2⟩) (meth := k1m2) (c := k1c2) (by decide +kernel) rfl rfl rfl (by decide +kernel)
def codes1 : List Jvm.Cond := [Jvm.Cond.code x code maxLocals ret, Jvm.Cond.code ({ cls := "com/example/trailhead/trailhead/arithmetic/NodeHeap", name := "<init>", desc := "()V" } : Jvm.MethodName) prog_19_method_1_code (1 : Nat) (Option.none : Option Jvm.ClassFile.FieldType), Jvm.Cond.code ({ cls := "java/lang/Object", name := "<init>", desc := "()V" } : Jvm.MethodName) object_method_1_code (1 : Nat) (Option.none : Option Jvm.ClassFile.FieldType), Jvm.Cond.code ({ cls := "com/example/trailhead/trailhead/arithmetic/NodeHeap", name := "push", desc := "(JI)V" } : Jvm.MethodName) prog_19_method_3_code (6 : Nat) (Option.none : Option Jvm.ClassFile.FieldType), Jvm.Cond.code ({ cls := "com/example/trailhead/trailhead/arithmetic/NodeHeap", name := "pop", desc := "()I" } : Jvm.MethodName) prog_19_method_4_code (7 : Nat) (Option.some Jvm.ClassFile.FieldType.int), Jvm.Cond.code ({ cls := "com/example/trailhead/trailhead/arithmetic/NodeHeapPopPinLaw", name := "inRange", desc := "(I)Z" } : Jvm.MethodName) method_2_code (1 : Nat) (Option.some Jvm.ClassFile.FieldType.boolean), Jvm.Cond.code ({ cls := "com/example/trailhead/trailhead/arithmetic/NodeHeapPopPinLaw", name := "keyOf", desc := "(IJJJJJ)J" } : Jvm.MethodName) method_3_code (11 : Nat) (Option.some Jvm.ClassFile.FieldType.long)]
set_option maxRecDepth 65536 in
theorem codes_eq : words1.filter isCode = codes1 := rfl
theorem w_codes : ∀ c ∈ words1.filter isCode, c.before args0 about1 = true := by
  rw [codes_eq]
  intro c hc
  simp only [codes1, List.mem_cons, List.not_mem_nil, or_false] at hc
  rcases hc with rfl | rfl | rfl | rfl | rfl | rfl | rfl
  · exact w_c0
  · exact w_c1
  · exact w_c2
  · exact w_c3
  · exact w_c4
  · exact w_c5
  · exact w_c6
set_option maxRecDepth 65536 in
theorem w_t1 : (words1.take 24).all (fun c => isCode c || c.before args0 about1) = true := by decide +kernel
set_option maxRecDepth 65536 in
theorem w_t2 : (words1.drop 24).all (fun c => isCode c || c.before args0 about1) = true := by decide +kernel
theorem w_tables : (allAtoms (Jvm.Cond.code x code maxLocals ret :: tables_1)).before args0 about1 = true := by
  rw [allAtoms_all]
  show words1.all (fun c => c.before args0 about1) = true
  refine all_split ?_ w_codes
  rw [← List.take_append_drop 24 words1, List.all_append, w_t1, w_t2]
  rfl
set_option maxRecDepth 65536 in
theorem w_case : (Jvm.Cond.and given_1 narrow_1).before args0 about1 = true := by decide +kernel
theorem w_applies : (headSpec (Jvm.Cond.code x code maxLocals ret :: tables_1) room_1).applies x e0.platform about1 = true :=
  (Spec.applies_iff w_frames).mpr ⟨w_running, w_runnable, w_alone, w_named, w_hears, w_ripe, w_room, w_tables⟩
theorem atStart : AtStart classFile x code maxLocals ret World_1 tables_1 room_1 Calls_1 rest_1 Pre_1 launch0 p0 e0 about1 theMethod args0 below0 :=
  ⟨lists_1, trivial, launch0.admits_env _ _ _, launch0.least_env, fairChoices_fair.cas, fairChoices_fair.clock, w_frames, w_args, w_heap, w_applies, trivial, trivial, w_case⟩
end start1
theorem witness_1 : WitnessClaimed_1 := ⟨start1.p0, start1.e0, start1.about1, start1.theMethod, start1.args0, start1.below0, start1.atStart⟩
end Jvm.Pilot.@@N@@
