import JvmDerived
import JvmDerived.Pilot.@@N@@Statement
import JvmDerived.Pilot.@@N@@Code
set_option linter.unusedVariables false
set_option linter.unusedSimpArgs false
namespace Jvm.Pilot.@@N@@
open Jvm Jvm.ClassFile Sem Op Lib Jvm.Free Jvm.Stand Jvm.LawKit Jvm.RoadKit Bundle Jvm.Pilot.@@N@@.Jvm.D
abbrev o_K : Type := Program × Launch × Env × Room × State × MethodId × Array Value × List Frame × Method × Code × State × Nat
/-- from heap h, with k cells and n slots made so far, at pc with locals Ls and stack St, the invocation comes to its end, and Q holds of what it returns and of the heap -/
def o_Go (κ : o_K) (Q : Option Value → Heap → Prop) (h : Heap) (k n pc : Nat) (Ls : List Slot) (St : List Value) : Prop :=
  match κ with
  | (p, l, e, R, s, m, args, below, meth, c, Z, n0) =>
    ∀ (T : State) (locs : List Loc), Stand p l e R s m args below meth c T locs k n → Fr n0 locs → T.heap = h →
      ∃ (s₂ : State) (o : Outcome), Steps p.tables e below (T.setTop (mkF m pc Ls.toArray St)) s₂ ∧ s₂.status = .running ∧ Ended s₂ below o ∧
        ∃ v L, o = .returned v ∧ (Q v s₂.heap ∧ Fr n0 L) ∧ FrameEnd s o s₂ L R.cells R.slots
/-- the standing facts of one invocation of y -/
def o_Bo (κ : o_K) (l : Launch) (Z : State) (n0 : Nat) (R : Room) (y : MethodName) (bytes : ByteArray) (ml : Nat) (ret : Option FieldType) : Prop :=
  ∃ (p : Program) (e : Env) (s : State) (m : MethodId) (args : Array Value) (below : List Frame) (meth : Method) (c : Code), κ = (p, l, e, R, s, m, args, below, meth, c, Z, n0) ∧ p.tables.exec = Jvm.exec ∧ Z.Warmed39 s.vm ∧ c.code = bytes ∧ c.maxLocals = ml ∧ s.vm.findClass y.cls = some m.cls ∧ meth.sig.returnType = ret ∧ meth.locks = false ∧ meth.name = y.name
/-- the contract of y at the arguments 'as' and the heap h -/
def o_C (l : Launch) (Z : State) (n0 : Nat) (y : MethodName) (bytes : ByteArray) (ml : Nat) (ret : Option FieldType) (rm : Room) (as : List Value) (h : Heap) (Q : Option Value → Heap → Prop) : Prop :=
  ∀ ws : List Jvm.Cond, MetFree l y (head1 (Jvm.Cond.code y bytes ml ret :: ws) rm) (fun a U => a = as.toArray ∧ Z.Warmed39 U.vm ∧ U.heap = h) (fun _ _ _ _ _ => True) (fun _ U o U' => ∃ v L, o = .returned v ∧ (Q v U'.heap ∧ Fr n0 L) ∧ FrameEnd U o U' L rm.cells rm.slots)
theorem o_lt {a b : Nat} (h : a < b) : a < b := h
theorem o_le {a b : Nat} (h : a ≤ b) : a ≤ b := h
theorem o_ne {a b : Nat} (h : a ≠ b) : a ≠ b := h
section Fw
variable {κ : o_K} {l : Launch} {Z : State} {n0 : Nat} {R : Room} {y : MethodName} {bytes : ByteArray} {ml : Nat} {ret : Option FieldType} {Q : Option Value → Heap → Prop} {h : Heap} {k n pc : Nat} {Ls : List Slot} {St : List Value} {a0 : Array Value}
theorem o_body {rm : Room} {as : List Value} (hpn : plainFor y = true) (hef : argsToLocals as.toArray ml = Ls.toArray) (H : ∀ κ, o_Bo κ l Z n0 rm y bytes ml ret → o_Go κ Q h 0 0 0 Ls []) : o_C l Z n0 y bytes ml ret rm as h Q := by
  intro ws
  refine MetFree.of_bodySF hpn hisR ?_
  intro p e s m args below meth c s₁ Bd hml0 hP hK
  obtain ⟨rfl, hZ, hh⟩ := hP
  have X0 : Stand p l e rm s m as.toArray below meth c s₁ [] 0 0 := Stand.of_body Bd
  have e0 : s₁.heap = h := by rw [← hh, Bd.state]; rfl
  have hown := findClass_of_methodNamed Bd.named
  have hnm := (name_of_methodNamed Bd.named Bd.method).1
  obtain ⟨s₂, o, st, r1, r2, v, L, rfl, ⟨q, N⟩, fe⟩ := H (p, l, e, rm, s, m, as.toArray, below, meth, c, Z, n0) ⟨p, e, s, m, _, below, meth, c, rfl, Bd.exec, hZ, Bd.bytes, hml0, hown, Bd.returns, Bd.notSynchronized, hnm⟩ s₁ [] X0 (Fr.nil _) e0
  refine ⟨s₂, _, ?_, r1, r2, v, L, rfl, ⟨q, N⟩, fe⟩
  exact castTop (g' := mkF m 0 Ls.toArray []) (by unfold entryFrame; rw [hef]) st
theorem o_C.imp {rm : Room} {as : List Value} {Q' : Option Value → Heap → Prop} (C : o_C l Z n0 y bytes ml ret rm as h Q) (H : ∀ v h', Q v h' → Q' v h') : o_C l Z n0 y bytes ml ret rm as h Q' := by
  intro ws p e ha hc hk s m args below hf happ hP hK
  obtain ⟨n, o, h1, h2, h3, v, L, e1, ⟨q, N⟩, fe⟩ := C ws p e ha hc hk s m args below hf happ hP hK
  exact ⟨n, o, h1, h2, h3, v, L, e1, ⟨H _ _ q, N⟩, fe⟩
theorem o_imp {Q' : Option Value → Heap → Prop} (H : ∀ v h', Q v h' → Q' v h') (G : o_Go κ Q h k n pc Ls St) : o_Go κ Q' h k n pc Ls St := by
  obtain ⟨p, l, e, R, s, m, args, below, meth, c, Z, n0⟩ := κ
  intro T locs X N eT
  obtain ⟨s₂, o, st, r1, r2, v, L, e1, ⟨q, N⟩, fe⟩ := G T locs X N eT
  exact ⟨s₂, o, st, r1, r2, v, L, e1, ⟨H _ _ q, N⟩, fe⟩
theorem o_mono {k' n' : Nat} (hk : k ≤ k') (hn : n ≤ n') (G : o_Go κ Q h k' n' pc Ls St) : o_Go κ Q h k n pc Ls St := by
  obtain ⟨p, l, e, R, s, m, args, below, meth, c, Z, n0⟩ := κ
  intro T locs X N eT
  exact G T locs (X.more hk hn) N eT
theorem o_sim (B : o_Bo κ l Z n0 R y bytes ml ret) {pc' : Nat} {Ls' : List Slot} {St' : List Value} (f : ∀ (p : Program) (e : Env) (m : MethodId) (below : List Frame) (c : Code) (T target : State), At T m c below → p.tables.exec = Jvm.exec → c.code = bytes → Steps p.tables e below (T.setTop (mkF m pc' Ls'.toArray St')) target → Steps p.tables e below (T.setTop (mkF m pc Ls.toArray St)) target) (K : o_Go κ Q h k n pc' Ls' St') : o_Go κ Q h k n pc Ls St := by
  obtain ⟨p, e, s, m, args, below, meth, c, rfl, hx, hZ, hby, hml, hown, hret, hlk, hnm⟩ := B
  intro T locs X N eT
  obtain ⟨s₂, o, st, r⟩ := K T locs X N eT
  exact ⟨s₂, o, f p e m below c T s₂ X.here hx hby st, r⟩
theorem o_get {i : Nat} {x : Slot} (hl : Ls[i]? = some x) : Ls.toArray[i]? = some x := by simpa using hl
def o_ok1 : Slot → Bool
  | .unset => true
  | .val w => w.category == 1
  | .second => false
theorem o_ok1_spec {o : Slot} (ho : o_ok1 o = true) : o = .unset ∨ ∃ w, o = .val w ∧ w.category = 1 := by
  cases o <;> simp [o_ok1] at ho ⊢; exact ho
theorem o_store1 {i : Nat} {o : Slot} {v : Value} (hold : Ls[i]? = some o) (ho : o_ok1 o = true) (hv : v.category = 1) : storeLocals Ls.toArray i v = some (Ls.set i (.val v)).toArray := by
  rw [XS.store1 (o_get hold) (o_ok1_spec ho) hv]; simp
def o_okl : Slot → Slot → Bool
  | .second, _ => false
  | _, .val w => w.category == 1
  | _, _ => true
theorem o_storel {i : Nat} {o o' : Slot} {v : Value} (hold : Ls[i]? = some o) (hold' : Ls[i + 1]? = some o') (ho : o_okl o o' = true) (hv : v.category = 2) : storeLocals Ls.toArray i v = some ((Ls.set i (.val v)).set (i + 1) .second).toArray := by
  obtain ⟨hi, hget⟩ := List.getElem?_eq_some_iff.mp hold
  obtain ⟨hi', hget'⟩ := List.getElem?_eq_some_iff.mp hold'
  have hne : i ≠ i + 1 := by omega
  have hne' : i + 1 ≠ i := by omega
  cases o with
  | second => simp [o_okl] at ho
  | unset =>
    cases o' with
    | val w =>
      have hw : w.category = 1 := by simpa [o_okl] using ho
      simp [storeLocals, storeSelf, setAt, hi, hi', hget, hget', hv, hw, List.getElem?_set, hne, hold, hold']
    | _ => simp [storeLocals, storeSelf, setAt, hi, hi', hget, hget', hv, List.getElem?_set, hne, hold, hold']
  | val u =>
    by_cases hu : u.category = 2
    · cases o' with
      | val w =>
        have hw : w.category = 1 := by simpa [o_okl] using ho
        simp [storeLocals, storeSelf, setAt, hi, hi', hget, hget', hv, hu, hw, List.getElem?_set, hne, hne', hold, hold', List.set_comm _ _ hne', List.set_set]
      | _ => simp [storeLocals, storeSelf, setAt, hi, hi', hget, hget', hv, hu, List.getElem?_set, hne, hne', hold, hold', List.set_comm _ _ hne', List.set_set]
    · cases o' with
      | val w =>
        have hw : w.category = 1 := by simpa [o_okl] using ho
        simp [storeLocals, storeSelf, setAt, hi, hi', hget, hget', hv, hu, hw, List.getElem?_set, hne, hold, hold']
      | _ => simp [storeLocals, storeSelf, setAt, hi, hi', hget, hget', hv, hu, List.getElem?_set, hne, hold, hold']
theorem o_iloadN (B : o_Bo κ l Z n0 R y bytes ml ret) {i : Fin 4} {x : Int32} (hd : decode bytes pc = .ok (.iload_n i, 1)) (hl : Ls[i.val]? = some (.val (.int x))) (K : o_Go κ Q h k n (pc + 1) Ls (.int x :: St)) : o_Go κ Q h k n pc Ls (St) := o_sim B (fun p e m below c T target X hx hby st => XS.iloadN X hx rfl (hb hby hd) (o_get hl) st) K
theorem o_iload (B : o_Bo κ l Z n0 R y bytes ml ret) {i : Nat} {x : Int32} (hd : decode bytes pc = .ok (.iload i, 2)) (hl : Ls[i]? = some (.val (.int x))) (K : o_Go κ Q h k n (pc + 2) Ls (.int x :: St)) : o_Go κ Q h k n pc Ls (St) := o_sim B (fun p e m below c T target X hx hby st => XS.iload X hx rfl (hb hby hd) (o_get hl) st) K
theorem o_lloadN (B : o_Bo κ l Z n0 R y bytes ml ret) {i : Fin 4} {x : Int64} (hd : decode bytes pc = .ok (.lload_n i, 1)) (hl : Ls[i.val]? = some (.val (.long x))) (K : o_Go κ Q h k n (pc + 1) Ls (.long x :: St)) : o_Go κ Q h k n pc Ls (St) := o_sim B (fun p e m below c T target X hx hby st => XT.lloadN X hx rfl (hb hby hd) (o_get hl) st) K
theorem o_lload (B : o_Bo κ l Z n0 R y bytes ml ret) {i : Nat} {x : Int64} (hd : decode bytes pc = .ok (.lload i, 2)) (hl : Ls[i]? = some (.val (.long x))) (K : o_Go κ Q h k n (pc + 2) Ls (.long x :: St)) : o_Go κ Q h k n pc Ls (St) := o_sim B (fun p e m below c T target X hx hby st => XT.lload X hx rfl (hb hby hd) (o_get hl) st) K
theorem o_aloadN (B : o_Bo κ l Z n0 R y bytes ml ret) {i : Fin 4} {v : Value} (hd : decode bytes pc = .ok (.aload_n i, 1)) (hl : Ls[i.val]? = some (.val v)) (hv : v.isRef = true) (K : o_Go κ Q h k n (pc + 1) Ls (v :: St)) : o_Go κ Q h k n pc Ls (St) := o_sim B (fun p e m below c T target X hx hby st => XS.aloadN X hx rfl (hb hby hd) (o_get hl) hv st) K
theorem o_aload (B : o_Bo κ l Z n0 R y bytes ml ret) {i : Nat} {v : Value} (hd : decode bytes pc = .ok (.aload i, 2)) (hl : Ls[i]? = some (.val v)) (hv : v.isRef = true) (K : o_Go κ Q h k n (pc + 2) Ls (v :: St)) : o_Go κ Q h k n pc Ls (St) := o_sim B (fun p e m below c T target X hx hby st => XS.aload X hx rfl (hb hby hd) (o_get hl) hv st) K
theorem o_istoreN (B : o_Bo κ l Z n0 R y bytes ml ret) {i : Fin 4} {x : Int32} {o : Slot} (hd : decode bytes pc = .ok (.istore_n i, 1)) (hold : Ls[i.val]? = some o) (ho : o_ok1 o = true) (K : o_Go κ Q h k n (pc + 1) (Ls.set i.val (.val (.int x))) (St)) : o_Go κ Q h k n pc Ls (.int x :: St) := o_sim B (fun p e m below c T target X hx hby st => XS.istoreN X hx rfl (hb hby hd) rfl (o_store1 hold ho rfl) st) K
theorem o_istore (B : o_Bo κ l Z n0 R y bytes ml ret) {i : Nat} {x : Int32} {o : Slot} (hd : decode bytes pc = .ok (.istore i, 2)) (hold : Ls[i]? = some o) (ho : o_ok1 o = true) (K : o_Go κ Q h k n (pc + 2) (Ls.set i (.val (.int x))) (St)) : o_Go κ Q h k n pc Ls (.int x :: St) := o_sim B (fun p e m below c T target X hx hby st => XS.istore X hx rfl (hb hby hd) rfl (o_store1 hold ho rfl) st) K
theorem o_astoreN (B : o_Bo κ l Z n0 R y bytes ml ret) {i : Fin 4} {v : Value} {o : Slot} (hd : decode bytes pc = .ok (.astore_n i, 1)) (hv : v.isRef = true) (hold : Ls[i.val]? = some o) (ho : o_ok1 o = true) (K : o_Go κ Q h k n (pc + 1) (Ls.set i.val (.val v)) (St)) : o_Go κ Q h k n pc Ls (v :: St) := o_sim B (fun p e m below c T target X hx hby st => XS.astoreN X hx rfl (hb hby hd) rfl hv (o_store1 hold ho (by cases v <;> simp [Value.isRef] at hv <;> rfl)) st) K
theorem o_astore (B : o_Bo κ l Z n0 R y bytes ml ret) {i : Nat} {v : Value} {o : Slot} (hd : decode bytes pc = .ok (.astore i, 2)) (hv : v.isRef = true) (hold : Ls[i]? = some o) (ho : o_ok1 o = true) (K : o_Go κ Q h k n (pc + 2) (Ls.set i (.val v)) (St)) : o_Go κ Q h k n pc Ls (v :: St) := o_sim B (fun p e m below c T target X hx hby st => XS.astore X hx rfl (hb hby hd) rfl hv (o_store1 hold ho (by cases v <;> simp [Value.isRef] at hv <;> rfl)) st) K
theorem o_lstoreN (B : o_Bo κ l Z n0 R y bytes ml ret) {i : Fin 4} {x : Int64} {o o2 : Slot} (hd : decode bytes pc = .ok (.lstore_n i, 1)) (hold : Ls[i.val]? = some o) (hold2 : Ls[i.val + 1]? = some o2) (ho : o_okl o o2 = true) (K : o_Go κ Q h k n (pc + 1) ((Ls.set i.val (.val (.long x))).set (i.val + 1) .second) (St)) : o_Go κ Q h k n pc Ls (.long x :: St) := o_sim B (fun p e m below c T target X hx hby st => XT.lstoreN X hx rfl (hb hby hd) rfl (o_storel hold hold2 ho rfl) st) K
theorem o_lstore (B : o_Bo κ l Z n0 R y bytes ml ret) {i : Nat} {x : Int64} {o o2 : Slot} (hd : decode bytes pc = .ok (.lstore i, 2)) (hold : Ls[i]? = some o) (hold2 : Ls[i + 1]? = some o2) (ho : o_okl o o2 = true) (K : o_Go κ Q h k n (pc + 2) ((Ls.set i (.val (.long x))).set (i + 1) .second) (St)) : o_Go κ Q h k n pc Ls (.long x :: St) := o_sim B (fun p e m below c T target X hx hby st => XT.lstore X hx rfl (hb hby hd) rfl (o_storel hold hold2 ho rfl) st) K
theorem o_iinc (B : o_Bo κ l Z n0 R y bytes ml ret) {i : Nat} {cst : Int} {x : Int32} (v : Int32) (hd : decode bytes pc = .ok (.iinc i cst, 3)) (hv : Int32.ofInt cst = v) (hl : Ls[i]? = some (.val (.int x))) (K : o_Go κ Q h k n (pc + 3) (Ls.set i (.val (.int (x + v)))) (St)) : o_Go κ Q h k n pc Ls (St) := o_sim B (fun p e m below c T target X hx hby st => XT.iincV X hx rfl v (hb hby hd) hv (o_get hl) (o_store1 hl rfl rfl) st) K
theorem o_iconst (B : o_Bo κ l Z n0 R y bytes ml ret) {i : Int} (v : Int32) (hd : decode bytes pc = .ok (.iconst i, 1)) (hv : Int32.ofInt i = v) (K : o_Go κ Q h k n (pc + 1) Ls (.int v :: St)) : o_Go κ Q h k n pc Ls (St) := o_sim B (fun p e m below c T target X hx hby st => XT.iconstV X hx rfl v (hb hby hd) hv st) K
theorem o_bipush (B : o_Bo κ l Z n0 R y bytes ml ret) {i : Int} (v : Int32) (hd : decode bytes pc = .ok (.bipush i, 2)) (hv : (Int8.ofInt i).toInt32 = v) (K : o_Go κ Q h k n (pc + 2) Ls (.int v :: St)) : o_Go κ Q h k n pc Ls (St) := o_sim B (fun p e m below c T target X hx hby st => XT.bipushV X hx rfl v (hb hby hd) hv st) K
theorem o_sipush (B : o_Bo κ l Z n0 R y bytes ml ret) {i : Int} (v : Int32) (hd : decode bytes pc = .ok (.sipush i, 3)) (hv : (Int16.ofInt i).toInt32 = v) (K : o_Go κ Q h k n (pc + 3) Ls (.int v :: St)) : o_Go κ Q h k n pc Ls (St) := o_sim B (fun p e m below c T target X hx hby st => XT.sipushV X hx rfl v (hb hby hd) hv st) K
theorem o_lconst (B : o_Bo κ l Z n0 R y bytes ml ret) {i : Fin 2} (v : Int64) (hd : decode bytes pc = .ok (.lconst i, 1)) (hv : Int64.ofNat i = v) (K : o_Go κ Q h k n (pc + 1) Ls (.long v :: St)) : o_Go κ Q h k n pc Ls (St) := o_sim B (fun p e m below c T target X hx hby st => XT.lconstV X hx rfl v (hb hby hd) hv st) K
theorem o_aconst_null (B : o_Bo κ l Z n0 R y bytes ml ret)  (hd : decode bytes pc = .ok (.aconst_null, 1)) (K : o_Go κ Q h k n (pc + 1) Ls (.null :: St)) : o_Go κ Q h k n pc Ls (St) := o_sim B (fun p e m below c T target X hx hby st => XS.aconstNull X hx rfl (hb hby hd) st) K
theorem o_iadd (B : o_Bo κ l Z n0 R y bytes ml ret) {x y : Int32} (hd : decode bytes pc = .ok (.iadd, 1)) (K : o_Go κ Q h k n (pc + 1) Ls (.int (x + y) :: St)) : o_Go κ Q h k n pc Ls (.int y :: .int x :: St) := o_sim B (fun p e m below c T target X hx hby st => XS.iadd X hx rfl (hb hby hd) rfl st) K
theorem o_isub (B : o_Bo κ l Z n0 R y bytes ml ret) {x y : Int32} (hd : decode bytes pc = .ok (.isub, 1)) (K : o_Go κ Q h k n (pc + 1) Ls (.int (x - y) :: St)) : o_Go κ Q h k n pc Ls (.int y :: .int x :: St) := o_sim B (fun p e m below c T target X hx hby st => XS.isub X hx rfl (hb hby hd) rfl st) K
theorem o_iand (B : o_Bo κ l Z n0 R y bytes ml ret) {x y : Int32} (hd : decode bytes pc = .ok (.iand, 1)) (K : o_Go κ Q h k n (pc + 1) Ls (.int (x &&& y) :: St)) : o_Go κ Q h k n pc Ls (.int y :: .int x :: St) := o_sim B (fun p e m below c T target X hx hby st => XS.iand X hx rfl (hb hby hd) rfl st) K
theorem o_imul (B : o_Bo κ l Z n0 R y bytes ml ret) {x y : Int32} (hd : decode bytes pc = .ok (.imul, 1)) (K : o_Go κ Q h k n (pc + 1) Ls (.int (x * y) :: St)) : o_Go κ Q h k n pc Ls (.int y :: .int x :: St) := o_sim B (fun p e m below c T target X hx hby st => XS.imul X hx rfl (hb hby hd) rfl st) K
theorem o_ior (B : o_Bo κ l Z n0 R y bytes ml ret) {x y : Int32} (hd : decode bytes pc = .ok (.ior, 1)) (K : o_Go κ Q h k n (pc + 1) Ls (.int (x ||| y) :: St)) : o_Go κ Q h k n pc Ls (.int y :: .int x :: St) := o_sim B (fun p e m below c T target X hx hby st => XT.ior X hx rfl (hb hby hd) rfl st) K
theorem o_ixor (B : o_Bo κ l Z n0 R y bytes ml ret) {x y : Int32} (hd : decode bytes pc = .ok (.ixor, 1)) (K : o_Go κ Q h k n (pc + 1) Ls (.int (x ^^^ y) :: St)) : o_Go κ Q h k n pc Ls (.int y :: .int x :: St) := o_sim B (fun p e m below c T target X hx hby st => XT.ixor X hx rfl (hb hby hd) rfl st) K
theorem o_ishl (B : o_Bo κ l Z n0 R y bytes ml ret) {x y : Int32} (hd : decode bytes pc = .ok (.ishl, 1)) (K : o_Go κ Q h k n (pc + 1) Ls (.int (x <<< (y &&& 31)) :: St)) : o_Go κ Q h k n pc Ls (.int y :: .int x :: St) := o_sim B (fun p e m below c T target X hx hby st => XT.ishl X hx rfl (hb hby hd) rfl st) K
theorem o_ishr (B : o_Bo κ l Z n0 R y bytes ml ret) {x y : Int32} (hd : decode bytes pc = .ok (.ishr, 1)) (K : o_Go κ Q h k n (pc + 1) Ls (.int (x >>> (y &&& 31)) :: St)) : o_Go κ Q h k n pc Ls (.int y :: .int x :: St) := o_sim B (fun p e m below c T target X hx hby st => XT.ishr X hx rfl (hb hby hd) rfl st) K
theorem o_iushr (B : o_Bo κ l Z n0 R y bytes ml ret) {x y : Int32} (hd : decode bytes pc = .ok (.iushr, 1)) (K : o_Go κ Q h k n (pc + 1) Ls (.int (XT.ushr x y) :: St)) : o_Go κ Q h k n pc Ls (.int y :: .int x :: St) := o_sim B (fun p e m below c T target X hx hby st => XT.iushr X hx rfl (hb hby hd) rfl st) K
theorem o_idiv (B : o_Bo κ l Z n0 R y bytes ml ret) {x y : Int32} (hd : decode bytes pc = .ok (.idiv, 1)) (hy : y ≠ 0) (K : o_Go κ Q h k n (pc + 1) Ls (.int (x / y) :: St)) : o_Go κ Q h k n pc Ls (.int y :: .int x :: St) := o_sim B (fun p e m below c T target X hx hby st => XS.idiv X hx rfl (hb hby hd) rfl hy st) K
theorem o_irem (B : o_Bo κ l Z n0 R y bytes ml ret) {x y : Int32} (hd : decode bytes pc = .ok (.irem, 1)) (hy : y ≠ 0) (K : o_Go κ Q h k n (pc + 1) Ls (.int (x % y) :: St)) : o_Go κ Q h k n pc Ls (.int y :: .int x :: St) := o_sim B (fun p e m below c T target X hx hby st => XS.irem X hx rfl (hb hby hd) rfl hy (by rw [irem_eq_mod]; exact st)) K
theorem o_ineg (B : o_Bo κ l Z n0 R y bytes ml ret) {x : Int32} (hd : decode bytes pc = .ok (.ineg, 1)) (K : o_Go κ Q h k n (pc + 1) Ls (.int (-x) :: St)) : o_Go κ Q h k n pc Ls (.int x :: St) := o_sim B (fun p e m below c T target X hx hby st => XS.ineg X hx rfl (hb hby hd) rfl st) K
theorem o_ladd (B : o_Bo κ l Z n0 R y bytes ml ret) {x y : Int64} (hd : decode bytes pc = .ok (.ladd, 1)) (K : o_Go κ Q h k n (pc + 1) Ls (.long (x + y) :: St)) : o_Go κ Q h k n pc Ls (.long y :: .long x :: St) := o_sim B (fun p e m below c T target X hx hby st => XT.ladd X hx rfl (hb hby hd) rfl st) K
theorem o_lsub (B : o_Bo κ l Z n0 R y bytes ml ret) {x y : Int64} (hd : decode bytes pc = .ok (.lsub, 1)) (K : o_Go κ Q h k n (pc + 1) Ls (.long (x - y) :: St)) : o_Go κ Q h k n pc Ls (.long y :: .long x :: St) := o_sim B (fun p e m below c T target X hx hby st => XT.lsub X hx rfl (hb hby hd) rfl st) K
theorem o_lmul (B : o_Bo κ l Z n0 R y bytes ml ret) {x y : Int64} (hd : decode bytes pc = .ok (.lmul, 1)) (K : o_Go κ Q h k n (pc + 1) Ls (.long (x * y) :: St)) : o_Go κ Q h k n pc Ls (.long y :: .long x :: St) := o_sim B (fun p e m below c T target X hx hby st => XT.lmul X hx rfl (hb hby hd) rfl st) K
theorem o_land (B : o_Bo κ l Z n0 R y bytes ml ret) {x y : Int64} (hd : decode bytes pc = .ok (.land, 1)) (K : o_Go κ Q h k n (pc + 1) Ls (.long (x &&& y) :: St)) : o_Go κ Q h k n pc Ls (.long y :: .long x :: St) := o_sim B (fun p e m below c T target X hx hby st => XT.land X hx rfl (hb hby hd) rfl st) K
theorem o_lor (B : o_Bo κ l Z n0 R y bytes ml ret) {x y : Int64} (hd : decode bytes pc = .ok (.lor, 1)) (K : o_Go κ Q h k n (pc + 1) Ls (.long (x ||| y) :: St)) : o_Go κ Q h k n pc Ls (.long y :: .long x :: St) := o_sim B (fun p e m below c T target X hx hby st => XT.lor X hx rfl (hb hby hd) rfl st) K
theorem o_lxor (B : o_Bo κ l Z n0 R y bytes ml ret) {x y : Int64} (hd : decode bytes pc = .ok (.lxor, 1)) (K : o_Go κ Q h k n (pc + 1) Ls (.long (x ^^^ y) :: St)) : o_Go κ Q h k n pc Ls (.long y :: .long x :: St) := o_sim B (fun p e m below c T target X hx hby st => XT.lxor X hx rfl (hb hby hd) rfl st) K
theorem o_lshl (B : o_Bo κ l Z n0 R y bytes ml ret) {x : Int64} {y : Int32} (hd : decode bytes pc = .ok (.lshl, 1)) (K : o_Go κ Q h k n (pc + 1) Ls (.long (x <<< (y.toInt64 &&& 63)) :: St)) : o_Go κ Q h k n pc Ls (.int y :: .long x :: St) := o_sim B (fun p e m below c T target X hx hby st => XT.lshl X hx rfl (hb hby hd) rfl st) K
theorem o_lshr (B : o_Bo κ l Z n0 R y bytes ml ret) {x : Int64} {y : Int32} (hd : decode bytes pc = .ok (.lshr, 1)) (K : o_Go κ Q h k n (pc + 1) Ls (.long (x >>> (y.toInt64 &&& 63)) :: St)) : o_Go κ Q h k n pc Ls (.int y :: .long x :: St) := o_sim B (fun p e m below c T target X hx hby st => XT.lshr X hx rfl (hb hby hd) rfl st) K
theorem o_lushr (B : o_Bo κ l Z n0 R y bytes ml ret) {x : Int64} {y : Int32} (hd : decode bytes pc = .ok (.lushr, 1)) (K : o_Go κ Q h k n (pc + 1) Ls (.long (XT.ushrL x y) :: St)) : o_Go κ Q h k n pc Ls (.int y :: .long x :: St) := o_sim B (fun p e m below c T target X hx hby st => XT.lushr X hx rfl (hb hby hd) rfl st) K
theorem o_ldiv (B : o_Bo κ l Z n0 R y bytes ml ret) {x y : Int64} (hd : decode bytes pc = .ok (.ldiv, 1)) (hy : y ≠ 0) (K : o_Go κ Q h k n (pc + 1) Ls (.long (x / y) :: St)) : o_Go κ Q h k n pc Ls (.long y :: .long x :: St) := o_sim B (fun p e m below c T target X hx hby st => XT.ldiv X hx rfl (hb hby hd) rfl hy st) K
theorem o_lrem (B : o_Bo κ l Z n0 R y bytes ml ret) {x y : Int64} (hd : decode bytes pc = .ok (.lrem, 1)) (hy : y ≠ 0) (K : o_Go κ Q h k n (pc + 1) Ls (.long (x - (x / y) * y) :: St)) : o_Go κ Q h k n pc Ls (.long y :: .long x :: St) := o_sim B (fun p e m below c T target X hx hby st => XT.lrem X hx rfl (hb hby hd) rfl hy st) K
theorem o_lneg (B : o_Bo κ l Z n0 R y bytes ml ret) {x : Int64} (hd : decode bytes pc = .ok (.lneg, 1)) (K : o_Go κ Q h k n (pc + 1) Ls (.long (-x) :: St)) : o_Go κ Q h k n pc Ls (.long x :: St) := o_sim B (fun p e m below c T target X hx hby st => XT.lneg X hx rfl (hb hby hd) rfl st) K
theorem o_i2l (B : o_Bo κ l Z n0 R y bytes ml ret) {x : Int32} (hd : decode bytes pc = .ok (.i2l, 1)) (K : o_Go κ Q h k n (pc + 1) Ls (.long x.toInt64 :: St)) : o_Go κ Q h k n pc Ls (.int x :: St) := o_sim B (fun p e m below c T target X hx hby st => XT.i2l X hx rfl (hb hby hd) rfl st) K
theorem o_l2i (B : o_Bo κ l Z n0 R y bytes ml ret) {x : Int64} (hd : decode bytes pc = .ok (.l2i, 1)) (K : o_Go κ Q h k n (pc + 1) Ls (.int x.toInt32 :: St)) : o_Go κ Q h k n pc Ls (.long x :: St) := o_sim B (fun p e m below c T target X hx hby st => XT.l2i X hx rfl (hb hby hd) rfl st) K
theorem o_lcmp (B : o_Bo κ l Z n0 R y bytes ml ret) {x y : Int64} (hd : decode bytes pc = .ok (.lcmp, 1)) (K : o_Go κ Q h k n (pc + 1) Ls (.int (XT.cmpL x y) :: St)) : o_Go κ Q h k n pc Ls (.long y :: .long x :: St) := o_sim B (fun p e m below c T target X hx hby st => XT.lcmp X hx rfl (hb hby hd) rfl st) K
theorem o_dup (B : o_Bo κ l Z n0 R y bytes ml ret) {v : Value} (hd : decode bytes pc = .ok (.dup, 1)) (hv : v.category = 1) (K : o_Go κ Q h k n (pc + 1) Ls (v :: v :: St)) : o_Go κ Q h k n pc Ls (v :: St) := o_sim B (fun p e m below c T target X hx hby st => XS.dup X hx rfl (hb hby hd) rfl hv st) K
theorem o_pop (B : o_Bo κ l Z n0 R y bytes ml ret) {v : Value} (hd : decode bytes pc = .ok (.pop, 1)) (hv : v.category = 1) (K : o_Go κ Q h k n (pc + 1) Ls (St)) : o_Go κ Q h k n pc Ls (v :: St) := o_sim B (fun p e m below c T target X hx hby st => XT.pop X hx rfl (hb hby hd) rfl hv st) K
theorem o_dup_x1 (B : o_Bo κ l Z n0 R y bytes ml ret) {v w : Value} (hd : decode bytes pc = .ok (.dup_x1, 1)) (hv : v.category = 1) (hw : w.category = 1) (K : o_Go κ Q h k n (pc + 1) Ls (v :: w :: v :: St)) : o_Go κ Q h k n pc Ls (v :: w :: St) := o_sim B (fun p e m below c T target X hx hby st => XT.dupX1 X hx rfl (hb hby hd) rfl hv hw st) K
theorem o_dup2 (B : o_Bo κ l Z n0 R y bytes ml ret) {v w : Value} (hd : decode bytes pc = .ok (.dup2, 1)) (hv : v.category = 1) (hw : w.category = 1) (K : o_Go κ Q h k n (pc + 1) Ls (v :: w :: v :: w :: St)) : o_Go κ Q h k n pc Ls (v :: w :: St) := o_sim B (fun p e m below c T target X hx hby st => XT.dup2 X hx rfl (hb hby hd) rfl hv hw st) K
theorem o_dup2L (B : o_Bo κ l Z n0 R y bytes ml ret) {x : Int64} (hd : decode bytes pc = .ok (.dup2, 1)) (K : o_Go κ Q h k n (pc + 1) Ls (.long x :: .long x :: St)) : o_Go κ Q h k n pc Ls (.long x :: St) := o_sim B (fun p e m below c T target X hx hby st => XT.dup2L X hx rfl (hb hby hd) rfl st) K
theorem o_goto (B : o_Bo κ l Z n0 R y bytes ml ret) {o : Int} {pc' : Nat} (hd : decode bytes pc = .ok (.goto o, 3)) (ho : 0 ≤ (pc : Int) + o) (hp : ((pc : Int) + o).toNat = pc') (K : o_Go κ Q h k n pc' Ls St) : o_Go κ Q h k n pc Ls St := o_sim B (fun p e m below c T target X hx hby st => XS.goto X hx rfl (pc0 := pc) rfl (hb hby hd) ho hp st) K
theorem o_if_eq (B : o_Bo κ l Z n0 R y bytes ml ret) {o : Int} {pc' : Nat} {x : Int32} (hd : decode bytes pc = .ok (.ifCond .eq o, 3)) (ho : 0 ≤ (pc : Int) + o) (hp : ((pc : Int) + o).toNat = pc') (K1 : x = 0 → o_Go κ Q h k n pc' Ls St) (K2 : ¬ x = 0 → o_Go κ Q h k n (pc + 3) Ls St) : o_Go κ Q h k n pc Ls (.int x :: St) := by
  by_cases hc : x = 0
  · exact o_sim B (fun p e m below c T target X hx hby st => XS.ifYes X hx rfl (pc0 := pc) rfl (hb hby hd) rfl (XT.i0_eq_t hc) ho hp st) (K1 hc)
  · exact o_sim B (fun p e m below c T target X hx hby st => XS.ifNo X hx rfl (hb hby hd) rfl (XT.i0_eq_f hc) st) (K2 hc)
theorem o_icmp_eq (B : o_Bo κ l Z n0 R y bytes ml ret) {o : Int} {pc' : Nat} {x w : Int32} (hd : decode bytes pc = .ok (.if_icmp .eq o, 3)) (ho : 0 ≤ (pc : Int) + o) (hp : ((pc : Int) + o).toNat = pc') (K1 : x = w → o_Go κ Q h k n pc' Ls St) (K2 : ¬ x = w → o_Go κ Q h k n (pc + 3) Ls St) : o_Go κ Q h k n pc Ls (.int w :: .int x :: St) := by
  by_cases hc : x = w
  · exact o_sim B (fun p e m below c T target X hx hby st => XS.icmpYes X hx rfl (pc0 := pc) rfl (hb hby hd) rfl (XT.ii_eq_t hc) ho hp st) (K1 hc)
  · exact o_sim B (fun p e m below c T target X hx hby st => XS.icmpNo X hx rfl (hb hby hd) rfl (XT.ii_eq_f hc) st) (K2 hc)
theorem o_lif_eq (B : o_Bo κ l Z n0 R y bytes ml ret) {o : Int} {pc' : Nat} {x w : Int64} (hd : decode bytes pc = .ok (.ifCond .eq o, 3)) (ho : 0 ≤ (pc : Int) + o) (hp : ((pc : Int) + o).toNat = pc') (K1 : x = w → o_Go κ Q h k n pc' Ls St) (K2 : ¬ x = w → o_Go κ Q h k n (pc + 3) Ls St) : o_Go κ Q h k n pc Ls (.int (XT.cmpL x w) :: St) := by
  by_cases hc : x = w
  · exact o_sim B (fun p e m below c T target X hx hby st => XS.ifYes X hx rfl (pc0 := pc) rfl (hb hby hd) rfl (XT.ll_eq_t hc) ho hp st) (K1 hc)
  · exact o_sim B (fun p e m below c T target X hx hby st => XS.ifNo X hx rfl (hb hby hd) rfl (XT.ll_eq_f hc) st) (K2 hc)
theorem o_if_ne (B : o_Bo κ l Z n0 R y bytes ml ret) {o : Int} {pc' : Nat} {x : Int32} (hd : decode bytes pc = .ok (.ifCond .ne o, 3)) (ho : 0 ≤ (pc : Int) + o) (hp : ((pc : Int) + o).toNat = pc') (K1 : ¬ x = 0 → o_Go κ Q h k n pc' Ls St) (K2 : x = 0 → o_Go κ Q h k n (pc + 3) Ls St) : o_Go κ Q h k n pc Ls (.int x :: St) := by
  by_cases hc : x = 0
  · exact o_sim B (fun p e m below c T target X hx hby st => XS.ifNo X hx rfl (hb hby hd) rfl (XT.i0_ne_f hc) st) (K2 hc)
  · exact o_sim B (fun p e m below c T target X hx hby st => XS.ifYes X hx rfl (pc0 := pc) rfl (hb hby hd) rfl (XT.i0_ne_t hc) ho hp st) (K1 hc)
theorem o_icmp_ne (B : o_Bo κ l Z n0 R y bytes ml ret) {o : Int} {pc' : Nat} {x w : Int32} (hd : decode bytes pc = .ok (.if_icmp .ne o, 3)) (ho : 0 ≤ (pc : Int) + o) (hp : ((pc : Int) + o).toNat = pc') (K1 : ¬ x = w → o_Go κ Q h k n pc' Ls St) (K2 : x = w → o_Go κ Q h k n (pc + 3) Ls St) : o_Go κ Q h k n pc Ls (.int w :: .int x :: St) := by
  by_cases hc : x = w
  · exact o_sim B (fun p e m below c T target X hx hby st => XS.icmpNo X hx rfl (hb hby hd) rfl (XT.ii_ne_f hc) st) (K2 hc)
  · exact o_sim B (fun p e m below c T target X hx hby st => XS.icmpYes X hx rfl (pc0 := pc) rfl (hb hby hd) rfl (XT.ii_ne_t hc) ho hp st) (K1 hc)
theorem o_lif_ne (B : o_Bo κ l Z n0 R y bytes ml ret) {o : Int} {pc' : Nat} {x w : Int64} (hd : decode bytes pc = .ok (.ifCond .ne o, 3)) (ho : 0 ≤ (pc : Int) + o) (hp : ((pc : Int) + o).toNat = pc') (K1 : ¬ x = w → o_Go κ Q h k n pc' Ls St) (K2 : x = w → o_Go κ Q h k n (pc + 3) Ls St) : o_Go κ Q h k n pc Ls (.int (XT.cmpL x w) :: St) := by
  by_cases hc : x = w
  · exact o_sim B (fun p e m below c T target X hx hby st => XS.ifNo X hx rfl (hb hby hd) rfl (XT.ll_ne_f hc) st) (K2 hc)
  · exact o_sim B (fun p e m below c T target X hx hby st => XS.ifYes X hx rfl (pc0 := pc) rfl (hb hby hd) rfl (XT.ll_ne_t hc) ho hp st) (K1 hc)
theorem o_if_lt (B : o_Bo κ l Z n0 R y bytes ml ret) {o : Int} {pc' : Nat} {x : Int32} (hd : decode bytes pc = .ok (.ifCond .lt o, 3)) (ho : 0 ≤ (pc : Int) + o) (hp : ((pc : Int) + o).toNat = pc') (K1 : x < 0 → o_Go κ Q h k n pc' Ls St) (K2 : ¬ x < 0 → o_Go κ Q h k n (pc + 3) Ls St) : o_Go κ Q h k n pc Ls (.int x :: St) := by
  by_cases hc : x < 0
  · exact o_sim B (fun p e m below c T target X hx hby st => XS.ifYes X hx rfl (pc0 := pc) rfl (hb hby hd) rfl (XT.i0_lt_t hc) ho hp st) (K1 hc)
  · exact o_sim B (fun p e m below c T target X hx hby st => XS.ifNo X hx rfl (hb hby hd) rfl (XT.i0_lt_f hc) st) (K2 hc)
theorem o_icmp_lt (B : o_Bo κ l Z n0 R y bytes ml ret) {o : Int} {pc' : Nat} {x w : Int32} (hd : decode bytes pc = .ok (.if_icmp .lt o, 3)) (ho : 0 ≤ (pc : Int) + o) (hp : ((pc : Int) + o).toNat = pc') (K1 : x < w → o_Go κ Q h k n pc' Ls St) (K2 : ¬ x < w → o_Go κ Q h k n (pc + 3) Ls St) : o_Go κ Q h k n pc Ls (.int w :: .int x :: St) := by
  by_cases hc : x < w
  · exact o_sim B (fun p e m below c T target X hx hby st => XS.icmpYes X hx rfl (pc0 := pc) rfl (hb hby hd) rfl (XT.ii_lt_t hc) ho hp st) (K1 hc)
  · exact o_sim B (fun p e m below c T target X hx hby st => XS.icmpNo X hx rfl (hb hby hd) rfl (XT.ii_lt_f hc) st) (K2 hc)
theorem o_lif_lt (B : o_Bo κ l Z n0 R y bytes ml ret) {o : Int} {pc' : Nat} {x w : Int64} (hd : decode bytes pc = .ok (.ifCond .lt o, 3)) (ho : 0 ≤ (pc : Int) + o) (hp : ((pc : Int) + o).toNat = pc') (K1 : x < w → o_Go κ Q h k n pc' Ls St) (K2 : ¬ x < w → o_Go κ Q h k n (pc + 3) Ls St) : o_Go κ Q h k n pc Ls (.int (XT.cmpL x w) :: St) := by
  by_cases hc : x < w
  · exact o_sim B (fun p e m below c T target X hx hby st => XS.ifYes X hx rfl (pc0 := pc) rfl (hb hby hd) rfl (XT.ll_lt_t hc) ho hp st) (K1 hc)
  · exact o_sim B (fun p e m below c T target X hx hby st => XS.ifNo X hx rfl (hb hby hd) rfl (XT.ll_lt_f hc) st) (K2 hc)
theorem o_if_ge (B : o_Bo κ l Z n0 R y bytes ml ret) {o : Int} {pc' : Nat} {x : Int32} (hd : decode bytes pc = .ok (.ifCond .ge o, 3)) (ho : 0 ≤ (pc : Int) + o) (hp : ((pc : Int) + o).toNat = pc') (K1 : ¬ x < 0 → o_Go κ Q h k n pc' Ls St) (K2 : x < 0 → o_Go κ Q h k n (pc + 3) Ls St) : o_Go κ Q h k n pc Ls (.int x :: St) := by
  by_cases hc : x < 0
  · exact o_sim B (fun p e m below c T target X hx hby st => XS.ifNo X hx rfl (hb hby hd) rfl (XT.i0_ge_f hc) st) (K2 hc)
  · exact o_sim B (fun p e m below c T target X hx hby st => XS.ifYes X hx rfl (pc0 := pc) rfl (hb hby hd) rfl (XT.i0_ge_t hc) ho hp st) (K1 hc)
theorem o_icmp_ge (B : o_Bo κ l Z n0 R y bytes ml ret) {o : Int} {pc' : Nat} {x w : Int32} (hd : decode bytes pc = .ok (.if_icmp .ge o, 3)) (ho : 0 ≤ (pc : Int) + o) (hp : ((pc : Int) + o).toNat = pc') (K1 : ¬ x < w → o_Go κ Q h k n pc' Ls St) (K2 : x < w → o_Go κ Q h k n (pc + 3) Ls St) : o_Go κ Q h k n pc Ls (.int w :: .int x :: St) := by
  by_cases hc : x < w
  · exact o_sim B (fun p e m below c T target X hx hby st => XS.icmpNo X hx rfl (hb hby hd) rfl (XT.ii_ge_f hc) st) (K2 hc)
  · exact o_sim B (fun p e m below c T target X hx hby st => XS.icmpYes X hx rfl (pc0 := pc) rfl (hb hby hd) rfl (XT.ii_ge_t hc) ho hp st) (K1 hc)
theorem o_lif_ge (B : o_Bo κ l Z n0 R y bytes ml ret) {o : Int} {pc' : Nat} {x w : Int64} (hd : decode bytes pc = .ok (.ifCond .ge o, 3)) (ho : 0 ≤ (pc : Int) + o) (hp : ((pc : Int) + o).toNat = pc') (K1 : ¬ x < w → o_Go κ Q h k n pc' Ls St) (K2 : x < w → o_Go κ Q h k n (pc + 3) Ls St) : o_Go κ Q h k n pc Ls (.int (XT.cmpL x w) :: St) := by
  by_cases hc : x < w
  · exact o_sim B (fun p e m below c T target X hx hby st => XS.ifNo X hx rfl (hb hby hd) rfl (XT.ll_ge_f hc) st) (K2 hc)
  · exact o_sim B (fun p e m below c T target X hx hby st => XS.ifYes X hx rfl (pc0 := pc) rfl (hb hby hd) rfl (XT.ll_ge_t hc) ho hp st) (K1 hc)
theorem o_if_gt (B : o_Bo κ l Z n0 R y bytes ml ret) {o : Int} {pc' : Nat} {x : Int32} (hd : decode bytes pc = .ok (.ifCond .gt o, 3)) (ho : 0 ≤ (pc : Int) + o) (hp : ((pc : Int) + o).toNat = pc') (K1 : 0 < x → o_Go κ Q h k n pc' Ls St) (K2 : ¬ 0 < x → o_Go κ Q h k n (pc + 3) Ls St) : o_Go κ Q h k n pc Ls (.int x :: St) := by
  by_cases hc : 0 < x
  · exact o_sim B (fun p e m below c T target X hx hby st => XS.ifYes X hx rfl (pc0 := pc) rfl (hb hby hd) rfl (XT.i0_gt_t hc) ho hp st) (K1 hc)
  · exact o_sim B (fun p e m below c T target X hx hby st => XS.ifNo X hx rfl (hb hby hd) rfl (XT.i0_gt_f hc) st) (K2 hc)
theorem o_icmp_gt (B : o_Bo κ l Z n0 R y bytes ml ret) {o : Int} {pc' : Nat} {x w : Int32} (hd : decode bytes pc = .ok (.if_icmp .gt o, 3)) (ho : 0 ≤ (pc : Int) + o) (hp : ((pc : Int) + o).toNat = pc') (K1 : w < x → o_Go κ Q h k n pc' Ls St) (K2 : ¬ w < x → o_Go κ Q h k n (pc + 3) Ls St) : o_Go κ Q h k n pc Ls (.int w :: .int x :: St) := by
  by_cases hc : w < x
  · exact o_sim B (fun p e m below c T target X hx hby st => XS.icmpYes X hx rfl (pc0 := pc) rfl (hb hby hd) rfl (XT.ii_gt_t hc) ho hp st) (K1 hc)
  · exact o_sim B (fun p e m below c T target X hx hby st => XS.icmpNo X hx rfl (hb hby hd) rfl (XT.ii_gt_f hc) st) (K2 hc)
theorem o_lif_gt (B : o_Bo κ l Z n0 R y bytes ml ret) {o : Int} {pc' : Nat} {x w : Int64} (hd : decode bytes pc = .ok (.ifCond .gt o, 3)) (ho : 0 ≤ (pc : Int) + o) (hp : ((pc : Int) + o).toNat = pc') (K1 : w < x → o_Go κ Q h k n pc' Ls St) (K2 : ¬ w < x → o_Go κ Q h k n (pc + 3) Ls St) : o_Go κ Q h k n pc Ls (.int (XT.cmpL x w) :: St) := by
  by_cases hc : w < x
  · exact o_sim B (fun p e m below c T target X hx hby st => XS.ifYes X hx rfl (pc0 := pc) rfl (hb hby hd) rfl (XT.ll_gt_t hc) ho hp st) (K1 hc)
  · exact o_sim B (fun p e m below c T target X hx hby st => XS.ifNo X hx rfl (hb hby hd) rfl (XT.ll_gt_f hc) st) (K2 hc)
theorem o_if_le (B : o_Bo κ l Z n0 R y bytes ml ret) {o : Int} {pc' : Nat} {x : Int32} (hd : decode bytes pc = .ok (.ifCond .le o, 3)) (ho : 0 ≤ (pc : Int) + o) (hp : ((pc : Int) + o).toNat = pc') (K1 : ¬ 0 < x → o_Go κ Q h k n pc' Ls St) (K2 : 0 < x → o_Go κ Q h k n (pc + 3) Ls St) : o_Go κ Q h k n pc Ls (.int x :: St) := by
  by_cases hc : 0 < x
  · exact o_sim B (fun p e m below c T target X hx hby st => XS.ifNo X hx rfl (hb hby hd) rfl (XT.i0_le_f hc) st) (K2 hc)
  · exact o_sim B (fun p e m below c T target X hx hby st => XS.ifYes X hx rfl (pc0 := pc) rfl (hb hby hd) rfl (XT.i0_le_t hc) ho hp st) (K1 hc)
theorem o_icmp_le (B : o_Bo κ l Z n0 R y bytes ml ret) {o : Int} {pc' : Nat} {x w : Int32} (hd : decode bytes pc = .ok (.if_icmp .le o, 3)) (ho : 0 ≤ (pc : Int) + o) (hp : ((pc : Int) + o).toNat = pc') (K1 : ¬ w < x → o_Go κ Q h k n pc' Ls St) (K2 : w < x → o_Go κ Q h k n (pc + 3) Ls St) : o_Go κ Q h k n pc Ls (.int w :: .int x :: St) := by
  by_cases hc : w < x
  · exact o_sim B (fun p e m below c T target X hx hby st => XS.icmpNo X hx rfl (hb hby hd) rfl (XT.ii_le_f hc) st) (K2 hc)
  · exact o_sim B (fun p e m below c T target X hx hby st => XS.icmpYes X hx rfl (pc0 := pc) rfl (hb hby hd) rfl (XT.ii_le_t hc) ho hp st) (K1 hc)
theorem o_lif_le (B : o_Bo κ l Z n0 R y bytes ml ret) {o : Int} {pc' : Nat} {x w : Int64} (hd : decode bytes pc = .ok (.ifCond .le o, 3)) (ho : 0 ≤ (pc : Int) + o) (hp : ((pc : Int) + o).toNat = pc') (K1 : ¬ w < x → o_Go κ Q h k n pc' Ls St) (K2 : w < x → o_Go κ Q h k n (pc + 3) Ls St) : o_Go κ Q h k n pc Ls (.int (XT.cmpL x w) :: St) := by
  by_cases hc : w < x
  · exact o_sim B (fun p e m below c T target X hx hby st => XS.ifNo X hx rfl (hb hby hd) rfl (XT.ll_le_f hc) st) (K2 hc)
  · exact o_sim B (fun p e m below c T target X hx hby st => XS.ifYes X hx rfl (pc0 := pc) rfl (hb hby hd) rfl (XT.ll_le_t hc) ho hp st) (K1 hc)
theorem o_ifnull_N (B : o_Bo κ l Z n0 R y bytes ml ret) {o : Int} {pc' : Nat} (hd : decode bytes pc = .ok (.ifnull o, 3)) (ho : 0 ≤ (pc : Int) + o) (hp : ((pc : Int) + o).toNat = pc') (K : o_Go κ Q h k n pc' Ls St) : o_Go κ Q h k n pc Ls (.null :: St) := o_sim B (fun p e m below c T target X hx hby st => XS.ifnullYes X hx rfl (pc0 := pc) rfl (hb hby hd) rfl ho hp st) K
theorem o_ifnull_R (B : o_Bo κ l Z n0 R y bytes ml ret) {o : Int} {b : Addr} (hd : decode bytes pc = .ok (.ifnull o, 3)) (K : o_Go κ Q h k n (pc + 3) Ls St) : o_Go κ Q h k n pc Ls (.ref b :: St) := o_sim B (fun p e m below c T target X hx hby st => XS.ifnullNo X hx rfl (hb hby hd) rfl st) K
theorem o_ifnonnull_R (B : o_Bo κ l Z n0 R y bytes ml ret) {o : Int} {pc' : Nat} {b : Addr} (hd : decode bytes pc = .ok (.ifnonnull o, 3)) (ho : 0 ≤ (pc : Int) + o) (hp : ((pc : Int) + o).toNat = pc') (K : o_Go κ Q h k n pc' Ls St) : o_Go κ Q h k n pc Ls (.ref b :: St) := o_sim B (fun p e m below c T target X hx hby st => XT.ifnonnullYes X hx rfl (pc0 := pc) rfl (hb hby hd) rfl ho hp st) K
theorem o_ifnonnull_N (B : o_Bo κ l Z n0 R y bytes ml ret) {o : Int} (hd : decode bytes pc = .ok (.ifnonnull o, 3)) (K : o_Go κ Q h k n (pc + 3) Ls St) : o_Go κ Q h k n pc Ls (.null :: St) := o_sim B (fun p e m below c T target X hx hby st => XT.ifnonnullNo X hx rfl (hb hby hd) rfl st) K
theorem o_acmp_eq (B : o_Bo κ l Z n0 R y bytes ml ret) {o : Int} {pc' : Nat} {v w : Value} (hv : v.isRef = true) (hw : w.isRef = true) (hd : decode bytes pc = .ok (.if_acmp .eq o, 3)) (ho : 0 ≤ (pc : Int) + o) (hp : ((pc : Int) + o).toNat = pc') (K1 : v = w → o_Go κ Q h k n pc' Ls St) (K2 : ¬ v = w → o_Go κ Q h k n (pc + 3) Ls St) : o_Go κ Q h k n pc Ls (w :: v :: St) := by
  by_cases hc : v = w
  · exact o_sim B (fun p e m below c T target X hx hby st => XT.acmpYes X hx rfl (pc0 := pc) rfl (hb hby hd) rfl hv hw (by simp [XT.acmp, hc]) ho hp st) (K1 hc)
  · exact o_sim B (fun p e m below c T target X hx hby st => XT.acmpNo X hx rfl (hb hby hd) rfl hv hw (by simp [XT.acmp, hc]) st) (K2 hc)
theorem o_acmp_ne (B : o_Bo κ l Z n0 R y bytes ml ret) {o : Int} {pc' : Nat} {v w : Value} (hv : v.isRef = true) (hw : w.isRef = true) (hd : decode bytes pc = .ok (.if_acmp .ne o, 3)) (ho : 0 ≤ (pc : Int) + o) (hp : ((pc : Int) + o).toNat = pc') (K1 : ¬ v = w → o_Go κ Q h k n pc' Ls St) (K2 : v = w → o_Go κ Q h k n (pc + 3) Ls St) : o_Go κ Q h k n pc Ls (w :: v :: St) := by
  by_cases hc : v = w
  · exact o_sim B (fun p e m below c T target X hx hby st => XT.acmpNo X hx rfl (hb hby hd) rfl hv hw (by simp [XT.acmp, hc]) st) (K2 hc)
  · exact o_sim B (fun p e m below c T target X hx hby st => XT.acmpYes X hx rfl (pc0 := pc) rfl (hb hby hd) rfl hv hw (by simp [XT.acmp, hc]) ho hp st) (K1 hc)
theorem o_ldc (B : o_Bo κ l Z n0 R y bytes ml ret) {idx : Nat} {x : Int32} (hd : decode bytes pc = .ok (.ldc idx, 2)) (w : (Cond.constant y.cls idx x).before a0 Z = true) (K : o_Go κ Q h k n (pc + 2) Ls (.int x :: St)) : o_Go κ Q h k n pc Ls St := by
  obtain ⟨p, e, s, m, args, below, meth, c, rfl, hx, hZ, hby, hml, hown, hret, hlk, hnm⟩ := B
  intro T locs X N eT
  obtain ⟨s₂, o, st, r⟩ := K T locs X N eT
  exact ⟨s₂, o, Stand.ldcI X hx hown (mv hZ w) rfl (hb hby hd) st, r⟩
theorem o_ldc_w (B : o_Bo κ l Z n0 R y bytes ml ret) {idx : Nat} {x : Int32} (hd : decode bytes pc = .ok (.ldc_w idx, 3)) (w : (Cond.constant y.cls idx x).before a0 Z = true) (K : o_Go κ Q h k n (pc + 3) Ls (.int x :: St)) : o_Go κ Q h k n pc Ls St := by
  obtain ⟨p, e, s, m, args, below, meth, c, rfl, hx, hZ, hby, hml, hown, hret, hlk, hnm⟩ := B
  intro T locs X N eT
  obtain ⟨s₂, o, st, r⟩ := K T locs X N eT
  exact ⟨s₂, o, Stand.ldcWI X hx hown (mv hZ w) rfl (hb hby hd) st, r⟩
theorem o_ldc2_w (B : o_Bo κ l Z n0 R y bytes ml ret) {idx : Nat} {x : Int64} (hd : decode bytes pc = .ok (.ldc2_w idx, 3)) (w : (Cond.constantLong y.cls idx x).before a0 Z = true) (K : o_Go κ Q h k n (pc + 3) Ls (.long x :: St)) : o_Go κ Q h k n pc Ls St := by
  obtain ⟨p, e, s, m, args, below, meth, c, rfl, hx, hZ, hby, hml, hown, hret, hlk, hnm⟩ := B
  intro T locs X N eT
  obtain ⟨s₂, o, st, r⟩ := K T locs X N eT
  exact ⟨s₂, o, Stand.ldc2J X hx hown (mv hZ w) rfl (hb hby hd) st, r⟩
theorem o_out (B : o_Bo κ l Z n0 R y bytes ml ret) {v : Option Value} (hv : ret = none → v = none) (hk : k ≤ R.cells) (hn : n ≤ R.slots) (q : Q v h)
    (f : ∀ (p : Program) (e : Env) (s : State) (m : MethodId) (args : Array Value) (below : List Frame) (meth : Method) (c : Code) (T : State) (locs : List Loc), Stand p l e R s m args below meth c T locs k n → p.tables.exec = Jvm.exec → c.code = bytes → meth.sig.returnType = ret → ∀ fs : List Frame, (∀ (f : JFrame) (acts : List Action), f.method = m → f.locked = none → f.entered = [] → (doReturn e (T.setTop f) acts v).1 = T.setFrames fs) → Steps p.tables e below (T.setTop (mkF m pc Ls.toArray St)) (T.setFrames fs)) : o_Go κ Q h k n pc Ls St := by
  obtain ⟨p, e, s, m, args, below, meth, c, rfl, hx, hZ, hby, hml, hown, hret, hlk, hnm⟩ := B
  intro T locs X N eT
  obtain ⟨fs, hr, hrun, hended, hW, hsame⟩ := X.leave (v := v) (fun hh => hv (hret.symm.trans hh)) hlk
  refine ⟨_, _, f p e s m args below meth c T locs X hx hby hret fs hr, hrun, hended, _, _, rfl, ⟨?_, N⟩, ⟨_, rfl⟩, hW, hsame.mono hk hn⟩
  have e1 : (T.setFrames fs).heap = h := eT
  rw [e1]; exact q
theorem o_ireturn (B : o_Bo κ l Z n0 R y bytes ml (some .int)) {x : Int32} (hd : decode bytes pc = .ok (.ireturn, 1)) (hk : k ≤ R.cells) (hn : n ≤ R.slots) (q : Q (some (.int x)) h) : o_Go κ Q h k n pc Ls (.int x :: St) :=
  o_out B (fun hh => by cases hh) hk hn q fun p e s m args below meth c T locs X hx hby hret fs hr => retOut X hx hret rfl (Or.inl ⟨rfl, Or.inl rfl, _, rfl⟩) (hb hby hd) hr
theorem o_zreturn (B : o_Bo κ l Z n0 R y bytes ml (some .boolean)) {x : Int32} (hd : decode bytes pc = .ok (.ireturn, 1)) (hk : k ≤ R.cells) (hn : n ≤ R.slots) (q : Q (some (.int (nar .boolean x))) h) : o_Go κ Q h k n pc Ls (.int x :: St) :=
  o_out B (fun hh => by cases hh) hk hn q fun p e s m args below meth c T locs X hx hby hret fs hr => retN X hx hret (by simp) (hb hby hd) hr
theorem o_lreturn (B : o_Bo κ l Z n0 R y bytes ml (some .long)) {x : Int64} (hd : decode bytes pc = .ok (.lreturn, 1)) (hk : k ≤ R.cells) (hn : n ≤ R.slots) (q : Q (some (.long x)) h) : o_Go κ Q h k n pc Ls (.long x :: St) :=
  o_out B (fun hh => by cases hh) hk hn q fun p e s m args below meth c T locs X hx hby hret fs hr => retOut X hx hret rfl (Or.inr (Or.inl ⟨rfl, rfl, _, rfl⟩)) (hb hby hd) hr
theorem o_areturn {t : FieldType} (B : o_Bo κ l Z n0 R y bytes ml (some t)) {v : Value} (ht : t.isReference = true) (hn' : narrow t v = v) (hv : v.isRef = true) (hd : decode bytes pc = .ok (.areturn, 1)) (hk : k ≤ R.cells) (hn : n ≤ R.slots) (q : Q (some v) h) : o_Go κ Q h k n pc Ls (v :: St) :=
  o_out B (fun hh => by cases hh) hk hn q fun p e s m args below meth c T locs X hx hby hret fs hr => retOut X hx hret hn' (Or.inr (Or.inr (Or.inr (Or.inr ⟨rfl, ht, hv⟩)))) (hb hby hd) hr
theorem o_return (B : o_Bo κ l Z n0 R y bytes ml none) (hd : decode bytes pc = .ok (.return_, 1)) (hk : k ≤ R.cells) (hn : n ≤ R.slots) (q : Q none h) : o_Go κ Q h k n pc Ls [] :=
  o_out B (fun _ => rfl) hk hn q fun p e s m args below meth c T locs X hx hby hret fs hr => X.returnOut hx hret (hb hby hd) hr
theorem o_getF (B : o_Bo κ l Z n0 R y bytes ml ret) {O nm d : String} {idx : Nat} {a : Addr} {v : Value} (hd : decode bytes pc = .ok (.getfield idx, 3)) (w : (Cond.fieldLink y.cls idx O nm d).before a0 Z = true) (F : Fld Z h a O nm d v) (K : o_Go κ Q h k n (pc + 3) Ls (v :: St)) : o_Go κ Q h k n pc Ls (.ref a :: St) := by
  obtain ⟨p, e, s, m, args, below, meth, c, rfl, hx, hZ, hby, hml, hown, hret, hlk, hnm⟩ := B
  intro T locs X N eT
  obtain ⟨T', X', e', st'⟩ := getF X hx hZ hown (host := "") (Or.inl w) Via.refl eT F (g := mkF m pc Ls.toArray (.ref a :: St)) rfl rfl (hb hby hd)
  obtain ⟨s₂, o, st, r⟩ := K T' locs X' N e'
  exact ⟨s₂, o, st' _ st, r⟩
theorem o_putF (B : o_Bo κ l Z n0 R y bytes ml ret) {O nm d C : String} {idx kk : Nat} {a : Addr} {v old : Value} {ty : FieldType} (hd : decode bytes pc = .ok (.putfield idx, 3)) (w : (Cond.fieldLink y.cls idx O nm d).before a0 Z = true) (F : Fld Z h a O nm d old) (E : Exa Z h a C) (L : (Cond.lays C O nm d).before a0 Z = true ∨ ((Cond.laysFinal C O nm d).before a0 Z = true ∧ y.cls = O ∧ y.name = "<init>")) (wi : (Cond.instantiable C kk).before a0 Z = true)
    (hty : parseFieldDescriptor d = some ty) (hn : narrow ty v = v) (hf : fits ty v = true) (ge : n0 ≤ a) (K : ∀ h', Wr h h' a (Jvm.RoadKit.slotOf Z O nm d) v → o_Go κ Q h' k n (pc + 3) Ls St) : o_Go κ Q h k n pc Ls (v :: .ref a :: St) := by
  obtain ⟨p, e, s, m, args, below, meth, c, rfl, hx, hZ, hby, hml, hown, hret, hlk, hnm⟩ := B
  intro T locs X N eT
  have L' : (Cond.lays C O nm d).before a0 Z = true ∨ ((Cond.laysFinal C O nm d).before a0 Z = true ∧ y.cls = O ∧ meth.name = "<init>") := L.imp id fun q => ⟨q.1, q.2.1, hnm.trans q.2.2⟩
  obtain ⟨T', h', X', e', W, st'⟩ := putF X hx hZ hown (host := "") (Or.inl w) Via.refl eT F E L' wi hty hn hf (g := mkF m pc Ls.toArray (v :: .ref a :: St)) rfl rfl (hb hby hd)
  obtain ⟨s₂, o, st, r⟩ := K h' W T' _ X' (Fr.snoc X' N ge) e'
  exact ⟨s₂, o, st' _ st, r⟩
theorem o_getS (B : o_Bo κ l Z n0 R y bytes ml ret) {O nm d : String} {idx : Nat} {v : Value} (hd : decode bytes pc = .ok (.getstatic idx, 3)) (w : (Cond.fieldLink y.cls idx O nm d).before a0 Z = true) (F : Sta Z h O nm d v) (K : o_Go κ Q h k n (pc + 3) Ls (v :: St)) : o_Go κ Q h k n pc Ls St := by
  obtain ⟨p, e, s, m, args, below, meth, c, rfl, hx, hZ, hby, hml, hown, hret, hlk, hnm⟩ := B
  intro T locs X N eT
  obtain ⟨T', X', e', st'⟩ := getS (host := "") X hx hZ hown w Via.refl eT F (g := mkF m pc Ls.toArray St) rfl (hb hby hd)
  obtain ⟨s₂, o, st, r⟩ := K T' locs X' N e'
  exact ⟨s₂, o, st' _ st, r⟩
theorem o_new (B : o_Bo κ l Z n0 R y bytes ml ret) {C : String} {idx nn : Nat} (hd : decode bytes pc = .ok (.new idx, 3)) (w : (Cond.classLink y.cls idx C).before a0 Z = true) (wi : (Cond.instantiable C nn).before a0 Z = true) (wz : (Cond.initialized C).before a0 Z = true) (hc : k + 1 ≤ R.cells) (hl : n + nn ≤ R.slots)
    (K : ∀ h', Ext h h' → Exa Z h' h.size C → (∀ {O nm d : String} {ty : FieldType}, Laid Z a0 C O nm d → parseFieldDescriptor d = some ty → Fld Z h' h.size O nm d (defaultValue ty)) → o_Go κ Q h' (k + 1) (n + nn) (pc + 3) Ls (.ref h.size :: St)) : o_Go κ Q h k n pc Ls St := by
  obtain ⟨p, e, s, m, args, below, meth, c, rfl, hx, hZ, hby, hml, hown, hret, hlk, hnm⟩ := B
  intro T locs X N eT
  obtain ⟨T', h', X', e', E, A, D, -, st'⟩ := newO X hx hZ hown w wi wz eT (g := mkF m pc Ls.toArray St) rfl (hb hby hd) hc hl
  obtain ⟨s₂, o, st, r⟩ := K h' E A (fun L q => D L q) T' _ X' N e'
  exact ⟨s₂, o, st' _ st, r⟩
theorem o_initO (B : o_Bo κ l Z n0 R y bytes ml ret) {idx W : Nat} {a : Addr} (hd : decode bytes pc = .ok (.invokespecial idx, 3)) (w1 : (Cond.methodLink y.cls idx Lib.objectInit).before a0 Z = true) (w2 : (Cond.instanceMethod Lib.objectInit).before a0 Z = true) (w3 : (Cond.code Lib.objectInit ⟨#[0xb1]⟩ 1 none).before a0 Z = true)
    (hf : 1 ≤ R.frames) (hW : (St.map fun v => v.category).sum ≤ W) (hl : W + 12 ≤ R.locals) (hLs : Ls.length = ml) (K : o_Go κ Q h k n (pc + 3) Ls St) : o_Go κ Q h k n pc Ls (.ref a :: St) := by
  obtain ⟨p, e, s, m, args, below, meth, c, rfl, hx, hZ, hby, hml, hown, hret, hlk, hnm⟩ := B
  intro T locs X N eT
  obtain ⟨T', X', e', st'⟩ := initO X hx hZ hown w1 w2 w3 eT (g := mkF m pc Ls.toArray (.ref a :: St)) rfl (by rw [hml, ← hLs]; simp) rfl (hb hby hd) hf (W := W) (by simpa using hW) hl
  obtain ⟨s₂, o, st, r⟩ := K T' _ X' N e'
  exact ⟨s₂, o, st' _ st, r⟩
/-- an array of the component type ty that holds the list vs -/
def o_AR (Z : State) (h : Heap) (a : Addr) (ty : FieldType) (vs : List Value) : Prop := ∃ c : Cell, Arr Z h a c ty ∧ c.slots = vs.toArray ∧ vs.length < 2 ^ 31
abbrev o_IA (Z : State) (h : Heap) (a : Addr) (L : List Int32) : Prop := o_AR Z h a .int (L.map Value.int)
abbrev o_LA (Z : State) (h : Heap) (a : Addr) (L : List Int64) : Prop := o_AR Z h a .long (L.map Value.long)
abbrev o_ZA (Z : State) (h : Heap) (a : Addr) (L : List Int32) : Prop := o_AR Z h a .boolean (L.map Value.int)
theorem o_AR.lt {h : Heap} {a : Addr} {ty : FieldType} {vs : List Value} (A : o_AR Z h a ty vs) : a < h.size := by obtain ⟨c, A, -⟩ := A; exact A.lt
theorem o_AR.ext {h h' : Heap} {a : Addr} {ty : FieldType} {vs : List Value} (A : o_AR Z h a ty vs) (E : Ext h h') : o_AR Z h' a ty vs := by obtain ⟨c, A, r⟩ := A; exact ⟨c, A.ext E, r⟩
theorem o_AR.other {h h' : Heap} {a b : Addr} {sl : Nat} {v : Value} {ty : FieldType} {vs : List Value} (A : o_AR Z h a ty vs) (W : Wr h h' b sl v) (q : a ≠ b) : o_AR Z h' a ty vs := by obtain ⟨c, A, r⟩ := A; exact ⟨c, A.other W q, r⟩
theorem o_AR.keep {h h' : Heap} {a : Addr} {ws : List Addr} {ty : FieldType} {vs : List Value} (A : o_AR Z h a ty vs) (K : Keep h h' ws) (q : a ∉ ws) : o_AR Z h' a ty vs := by obtain ⟨c, A, r⟩ := A; exact ⟨c, ⟨K.2.1 a c A.1 q, A.2⟩, r⟩
theorem o_AR.same {h h' : Heap} {a : Addr} {i : Nat} {v : Value} {ty : FieldType} {vs : List Value} (A : o_AR Z h a ty vs) (W : Wr h h' a i v) : o_AR Z h' a ty (vs.set i v) := by
  obtain ⟨c, A, e, q⟩ := A
  exact ⟨_, A.same W, by simp [Cell.setSlot, e], by simpa using q⟩
theorem o_IA.same {h h' : Heap} {a : Addr} {i : Nat} {x : Int32} {L : List Int32} (A : o_IA Z h a L) (W : Wr h h' a i (.int x)) : o_IA Z h' a (L.set i x) := by
  have := o_AR.same A W; rwa [← List.map_set] at this
theorem o_LA.same {h h' : Heap} {a : Addr} {i : Nat} {x : Int64} {L : List Int64} (A : o_LA Z h a L) (W : Wr h h' a i (.long x)) : o_LA Z h' a (L.set i x) := by
  have := o_AR.same A W; rwa [← List.map_set] at this
theorem o_ZA.same {h h' : Heap} {a : Addr} {i : Nat} {x : Int32} {L : List Int32} (A : o_ZA Z h a L) (W : Wr h h' a i (.int x)) : o_ZA Z h' a (L.set i x) := by
  have := o_AR.same A W; rwa [← List.map_set] at this
theorem o_IA.len {h : Heap} {a : Addr} {L : List Int32} (A : o_IA Z h a L) : L.length < 2 ^ 31 := by obtain ⟨c, A, e, q⟩ := A; simpa using q
theorem o_LA.len {h : Heap} {a : Addr} {L : List Int64} (A : o_LA Z h a L) : L.length < 2 ^ 31 := by obtain ⟨c, A, e, q⟩ := A; simpa using q
theorem o_nat {i N : Nat} (hi : i < N) (hN : N < 2 ^ 31) : (Int32.ofNat i).toNatClampNeg = i ∧ ¬ (Int32.ofNat i < 0) := by
  have e : (Int32.ofNat i).toInt = i := Int32.toInt_ofNat_of_lt (by omega)
  refine ⟨by simp only [Int32.toNatClampNeg, e]; rfl, ?_⟩
  rw [Int32.lt_iff_toInt_lt, e]; show ¬ (i : Int) < 0; omega
theorem o_in {c : Cell} {vs : List Value} {i : Nat} {j : Int32} (es : c.slots = vs.toArray) (q : vs.length < 2 ^ 31) (hj : j = Int32.ofNat i) (hi : i < vs.length) : ¬ (j < 0 ∨ c.slots.size ≤ j.toNatClampNeg) ∧ j.toNatClampNeg = i := by
  subst hj
  obtain ⟨h1, h2⟩ := o_nat hi q
  refine ⟨?_, h1⟩
  rintro (g | g)
  · exact h2 g
  · rw [h1, es] at g; simp at g; omega
theorem o_iaload (B : o_Bo κ l Z n0 R y bytes ml ret) {a : Addr} {vs : List Value} {j : Int32} {v : Value} (i : Nat) (hd : decode bytes pc = .ok (.iaload, 1)) (A : o_AR Z h a .int vs) (hj : j = Int32.ofNat i) (hv : vs[i]? = some v) (K : o_Go κ Q h k n (pc + 1) Ls (v :: St)) : o_Go κ Q h k n pc Ls (.int j :: .ref a :: St) := by
  obtain ⟨p, e, s, m, args, below, meth, c, rfl, hx, hZ, hby, hml, hown, hret, hlk, hnm⟩ := B
  intro T locs X N eT
  obtain ⟨cl, A, es, q⟩ := A
  obtain ⟨hi, hget⟩ := List.getElem?_eq_some_iff.mp hv
  obtain ⟨h1, h2⟩ := o_in es q hj hi
  obtain ⟨s₂, o, st, r⟩ := K T _ X N eT
  exact ⟨s₂, o, X.iaload hx (by rw [eT]; exact A.1) (State.isArrayOf_alike hZ.alike A.2.1) A.2.2 h1 (by rw [h2, es]; simpa using hv) (g := mkF m pc Ls.toArray (.int j :: .ref a :: St)) rfl rfl (hb hby hd) _ st, r⟩
theorem o_laload (B : o_Bo κ l Z n0 R y bytes ml ret) {a : Addr} {vs : List Value} {j : Int32} {v : Value} (i : Nat) (hd : decode bytes pc = .ok (.laload, 1)) (A : o_AR Z h a .long vs) (hj : j = Int32.ofNat i) (hv : vs[i]? = some v) (K : o_Go κ Q h k n (pc + 1) Ls (v :: St)) : o_Go κ Q h k n pc Ls (.int j :: .ref a :: St) := by
  obtain ⟨p, e, s, m, args, below, meth, c, rfl, hx, hZ, hby, hml, hown, hret, hlk, hnm⟩ := B
  intro T locs X N eT
  obtain ⟨cl, A, es, q⟩ := A
  obtain ⟨hi, hget⟩ := List.getElem?_eq_some_iff.mp hv
  obtain ⟨h1, h2⟩ := o_in es q hj hi
  obtain ⟨s₂, o, st, r⟩ := K T _ X N eT
  exact ⟨s₂, o, X.laload hx (by rw [eT]; exact A.1) (State.isArrayOf_alike hZ.alike A.2.1) A.2.2 h1 (by rw [h2, es]; simpa using hv) (g := mkF m pc Ls.toArray (.int j :: .ref a :: St)) rfl rfl (hb hby hd) _ st, r⟩
theorem o_baload (B : o_Bo κ l Z n0 R y bytes ml ret) {a : Addr} {vs : List Value} {j : Int32} {v : Value} (i : Nat) (hd : decode bytes pc = .ok (.baload, 1)) (A : o_AR Z h a .boolean vs) (hj : j = Int32.ofNat i) (hv : vs[i]? = some v) (K : o_Go κ Q h k n (pc + 1) Ls (v :: St)) : o_Go κ Q h k n pc Ls (.int j :: .ref a :: St) := by
  obtain ⟨p, e, s, m, args, below, meth, c, rfl, hx, hZ, hby, hml, hown, hret, hlk, hnm⟩ := B
  intro T locs X N eT
  obtain ⟨cl, A, es, q⟩ := A
  obtain ⟨hi, hget⟩ := List.getElem?_eq_some_iff.mp hv
  obtain ⟨h1, h2⟩ := o_in es q hj hi
  obtain ⟨s₂, o, st, r⟩ := K T _ X N eT
  exact ⟨s₂, o, X.baloadBooleans hx (by rw [eT]; exact A.1) (State.isArrayOf_alike hZ.alike A.2.1) A.2.2 h1 (by rw [h2, es]; simpa using hv) (g := mkF m pc Ls.toArray (.int j :: .ref a :: St)) rfl rfl (hb hby hd) _ st, r⟩
theorem o_aaload (B : o_Bo κ l Z n0 R y bytes ml ret) {ty : FieldType} {a : Addr} {vs : List Value} {j : Int32} {v : Value} (i : Nat) (hty : ty.isReference = true) (hd : decode bytes pc = .ok (.aaload, 1)) (A : o_AR Z h a ty vs) (hj : j = Int32.ofNat i) (hv : vs[i]? = some v) (K : o_Go κ Q h k n (pc + 1) Ls (v :: St)) : o_Go κ Q h k n pc Ls (.int j :: .ref a :: St) := by
  obtain ⟨p, e, s, m, args, below, meth, c, rfl, hx, hZ, hby, hml, hown, hret, hlk, hnm⟩ := B
  intro T locs X N eT
  obtain ⟨cl, A, es, q⟩ := A
  obtain ⟨hi, hget⟩ := List.getElem?_eq_some_iff.mp hv
  obtain ⟨h1, h2⟩ := o_in es q hj hi
  obtain ⟨s₂, o, st, r⟩ := K T _ X N eT
  exact ⟨s₂, o, X.aaload hx (by rw [eT]; exact A.1) (State.isArrayOf_alike hZ.alike A.2.1) hty A.2.2 h1 (by rw [h2, es]; simpa using hv) (g := mkF m pc Ls.toArray (.int j :: .ref a :: St)) rfl rfl (hb hby hd) _ st, r⟩
theorem o_arraylength (B : o_Bo κ l Z n0 R y bytes ml ret) {ty : FieldType} {a : Addr} {vs : List Value} (hd : decode bytes pc = .ok (.arraylength, 1)) (A : o_AR Z h a ty vs) (K : o_Go κ Q h k n (pc + 1) Ls (.int (Int32.ofNat vs.length) :: St)) : o_Go κ Q h k n pc Ls (.ref a :: St) := by
  obtain ⟨p, e, s, m, args, below, meth, c, rfl, hx, hZ, hby, hml, hown, hret, hlk, hnm⟩ := B
  intro T locs X N eT
  obtain ⟨cl, A, es, q⟩ := A
  obtain ⟨s₂, o, st, r⟩ := K T _ X N eT
  have ez : cl.slots.size.toInt32 = Int32.ofNat vs.length := by rw [es]; simp
  exact ⟨s₂, o, X.arraylength hx (by rw [eT]; exact A.1) (State.isArrayOf_alike hZ.alike A.2.1) (g := mkF m pc Ls.toArray (.ref a :: St)) rfl rfl (hb hby hd) _ (by rw [ez]; exact st), r⟩
theorem o_iastore (B : o_Bo κ l Z n0 R y bytes ml ret) {a : Addr} {vs : List Value} {j : Int32} {x : Int32} (i : Nat) (hd : decode bytes pc = .ok (.iastore, 1)) (A : o_AR Z h a .int vs) (hj : j = Int32.ofNat i) (hi : i < vs.length) (ge : n0 ≤ a) (K : ∀ h', Wr h h' a i (.int x) → o_Go κ Q h' k n (pc + 1) Ls St) : o_Go κ Q h k n pc Ls (.int x :: .int j :: .ref a :: St) := by
  obtain ⟨p, e, s, m, args, below, meth, c, rfl, hx, hZ, hby, hml, hown, hret, hlk, hnm⟩ := B
  intro T locs X N eT
  obtain ⟨cl, A, es, q⟩ := A
  obtain ⟨h1, h2⟩ := o_in es q hj hi
  obtain ⟨T', h', X', e', W, st'⟩ := stI X hx hZ eT A h1 (g := mkF m pc Ls.toArray (.int x :: .int j :: .ref a :: St)) rfl rfl (hb hby hd)
  have W' := W
  rw [h2] at W'
  obtain ⟨s₂, o, st, r⟩ := K h' W' T' _ X' (Fr.snoc X' N ge) e'
  exact ⟨s₂, o, st' _ st, r⟩
theorem o_lastore (B : o_Bo κ l Z n0 R y bytes ml ret) {a : Addr} {vs : List Value} {j : Int32} {x : Int64} (i : Nat) (hd : decode bytes pc = .ok (.lastore, 1)) (A : o_AR Z h a .long vs) (hj : j = Int32.ofNat i) (hi : i < vs.length) (ge : n0 ≤ a) (K : ∀ h', Wr h h' a i (.long x) → o_Go κ Q h' k n (pc + 1) Ls St) : o_Go κ Q h k n pc Ls (.long x :: .int j :: .ref a :: St) := by
  obtain ⟨p, e, s, m, args, below, meth, c, rfl, hx, hZ, hby, hml, hown, hret, hlk, hnm⟩ := B
  intro T locs X N eT
  obtain ⟨cl, A, es, q⟩ := A
  obtain ⟨h1, h2⟩ := o_in es q hj hi
  obtain ⟨T', h', X', e', W, st'⟩ := stJ X hx hZ eT A h1 (g := mkF m pc Ls.toArray (.long x :: .int j :: .ref a :: St)) rfl rfl (hb hby hd)
  have W' := W
  rw [h2] at W'
  obtain ⟨s₂, o, st, r⟩ := K h' W' T' _ X' (Fr.snoc X' N ge) e'
  exact ⟨s₂, o, st' _ st, r⟩
theorem o_bastore (B : o_Bo κ l Z n0 R y bytes ml ret) {a : Addr} {vs : List Value} {j : Int32} {x : Int32} (i : Nat) (hd : decode bytes pc = .ok (.bastore, 1)) (A : o_AR Z h a .boolean vs) (hj : j = Int32.ofNat i) (hi : i < vs.length) (ge : n0 ≤ a) (K : ∀ h', Wr h h' a i (.int (nar .boolean x)) → o_Go κ Q h' k n (pc + 1) Ls St) : o_Go κ Q h k n pc Ls (.int x :: .int j :: .ref a :: St) := by
  obtain ⟨p, e, s, m, args, below, meth, c, rfl, hx, hZ, hby, hml, hown, hret, hlk, hnm⟩ := B
  intro T locs X N eT
  obtain ⟨cl, A, es, q⟩ := A
  obtain ⟨h1, h2⟩ := o_in es q hj hi
  obtain ⟨T', h', X', e', W, st'⟩ := stZ X hx hZ eT A h1 (g := mkF m pc Ls.toArray (.int x :: .int j :: .ref a :: St)) rfl rfl (hb hby hd)
  have W' := W
  rw [h2] at W'
  obtain ⟨s₂, o, st, r⟩ := K h' W' T' _ X' (Fr.snoc X' N ge) e'
  exact ⟨s₂, o, st' _ st, r⟩
theorem o_newarray (B : o_Bo κ l Z n0 R y bytes ml ret) {aty : ArrayType} {cnt : Int32} (cN cap : Nat) (hd : decode bytes pc = .ok (.newarray aty, 2)) (w : (Cond.arrayClass (newarray.typeOf aty)).before a0 Z = true) (hcnt : cnt = Int32.ofNat cN) (hcap : cN ≤ cap) (hbig : cap * 8 ≤ 536870912) (hc : k + 1 ≤ R.cells) (hl : n + cap ≤ R.slots)
    (K : ∀ h', Ext h h' → h.size < h'.size → o_AR Z h' h.size (newarray.typeOf aty) (List.replicate cN (defaultValue (newarray.typeOf aty))) → o_Go κ Q h' (k + 1) (n + cap) (pc + 2) Ls (.ref h.size :: St)) : o_Go κ Q h k n pc Ls (.int cnt :: St) := by
  obtain ⟨p, e, s, m, args, below, meth, c, rfl, hx, hZ, hby, hml, hown, hret, hlk, hnm⟩ := B
  intro T locs X N eT
  obtain ⟨h1, h2⟩ := o_nat (i := cN) (N := cN + 1) (by omega) (by omega)
  obtain ⟨T', h', cA, X', e', E, A, st'⟩ := newP X hx hZ w eT (g := mkF m pc Ls.toArray (.int cnt :: St)) rfl (hb hby hd) rfl (by rw [hcnt]; exact h2) (cap := cap) (by rw [hcnt, h1]; exact hcap) hbig hc hl
  obtain ⟨s₂, o, st, r⟩ := K h' E A.lt ⟨_, A, by simp [newA, hcnt, h1], by simp; omega⟩ T' _ X' N e'
  exact ⟨s₂, o, st' _ st, r⟩
theorem o_iadd_c (B : o_Bo κ l Z n0 R y bytes ml ret) {x y : Int32} (z : Int32) (hd : decode bytes pc = .ok (.iadd, 1)) (hz : x + y = z) (K : o_Go κ Q h k n (pc + 1) Ls (.int z :: St)) : o_Go κ Q h k n pc Ls (.int y :: .int x :: St) := o_iadd B hd (hz.symm ▸ K)
theorem o_isub_c (B : o_Bo κ l Z n0 R y bytes ml ret) {x y : Int32} (z : Int32) (hd : decode bytes pc = .ok (.isub, 1)) (hz : x - y = z) (K : o_Go κ Q h k n (pc + 1) Ls (.int z :: St)) : o_Go κ Q h k n pc Ls (.int y :: .int x :: St) := o_isub B hd (hz.symm ▸ K)
theorem o_iand_c (B : o_Bo κ l Z n0 R y bytes ml ret) {x y : Int32} (z : Int32) (hd : decode bytes pc = .ok (.iand, 1)) (hz : x &&& y = z) (K : o_Go κ Q h k n (pc + 1) Ls (.int z :: St)) : o_Go κ Q h k n pc Ls (.int y :: .int x :: St) := o_iand B hd (hz.symm ▸ K)
theorem o_imul_c (B : o_Bo κ l Z n0 R y bytes ml ret) {x y : Int32} (z : Int32) (hd : decode bytes pc = .ok (.imul, 1)) (hz : x * y = z) (K : o_Go κ Q h k n (pc + 1) Ls (.int z :: St)) : o_Go κ Q h k n pc Ls (.int y :: .int x :: St) := o_imul B hd (hz.symm ▸ K)
theorem o_ior_c (B : o_Bo κ l Z n0 R y bytes ml ret) {x y : Int32} (z : Int32) (hd : decode bytes pc = .ok (.ior, 1)) (hz : x ||| y = z) (K : o_Go κ Q h k n (pc + 1) Ls (.int z :: St)) : o_Go κ Q h k n pc Ls (.int y :: .int x :: St) := o_ior B hd (hz.symm ▸ K)
theorem o_ixor_c (B : o_Bo κ l Z n0 R y bytes ml ret) {x y : Int32} (z : Int32) (hd : decode bytes pc = .ok (.ixor, 1)) (hz : x ^^^ y = z) (K : o_Go κ Q h k n (pc + 1) Ls (.int z :: St)) : o_Go κ Q h k n pc Ls (.int y :: .int x :: St) := o_ixor B hd (hz.symm ▸ K)
theorem o_ishl_c (B : o_Bo κ l Z n0 R y bytes ml ret) {x y : Int32} (z : Int32) (hd : decode bytes pc = .ok (.ishl, 1)) (hz : x <<< (y &&& 31) = z) (K : o_Go κ Q h k n (pc + 1) Ls (.int z :: St)) : o_Go κ Q h k n pc Ls (.int y :: .int x :: St) := o_ishl B hd (hz.symm ▸ K)
theorem o_ishr_c (B : o_Bo κ l Z n0 R y bytes ml ret) {x y : Int32} (z : Int32) (hd : decode bytes pc = .ok (.ishr, 1)) (hz : x >>> (y &&& 31) = z) (K : o_Go κ Q h k n (pc + 1) Ls (.int z :: St)) : o_Go κ Q h k n pc Ls (.int y :: .int x :: St) := o_ishr B hd (hz.symm ▸ K)
theorem o_iushr_c (B : o_Bo κ l Z n0 R y bytes ml ret) {x y : Int32} (z : Int32) (hd : decode bytes pc = .ok (.iushr, 1)) (hz : XT.ushr x y = z) (K : o_Go κ Q h k n (pc + 1) Ls (.int z :: St)) : o_Go κ Q h k n pc Ls (.int y :: .int x :: St) := o_iushr B hd (hz.symm ▸ K)
theorem o_idiv_c (B : o_Bo κ l Z n0 R y bytes ml ret) {x y : Int32} (z : Int32) (hd : decode bytes pc = .ok (.idiv, 1)) (hy : y ≠ 0) (hz : x / y = z) (K : o_Go κ Q h k n (pc + 1) Ls (.int z :: St)) : o_Go κ Q h k n pc Ls (.int y :: .int x :: St) := o_idiv B hd hy (hz.symm ▸ K)
theorem o_irem_c (B : o_Bo κ l Z n0 R y bytes ml ret) {x y : Int32} (z : Int32) (hd : decode bytes pc = .ok (.irem, 1)) (hy : y ≠ 0) (hz : x % y = z) (K : o_Go κ Q h k n (pc + 1) Ls (.int z :: St)) : o_Go κ Q h k n pc Ls (.int y :: .int x :: St) := o_irem B hd hy (hz.symm ▸ K)
theorem o_arraylen (B : o_Bo κ l Z n0 R y bytes ml ret) {ty : FieldType} {a : Addr} {vs : List Value} (z : Int32) (hd : decode bytes pc = .ok (.arraylength, 1)) (A : o_AR Z h a ty vs) (hz : Int32.ofNat vs.length = z) (K : o_Go κ Q h k n (pc + 1) Ls (.int z :: St)) : o_Go κ Q h k n pc Ls (.ref a :: St) := o_arraylength B hd A (hz.symm ▸ K)
theorem o_callS (B : o_Bo κ l Z n0 R y bytes ml ret) {yc : MethodName} {bc : ByteArray} {mc : Nat} {rc : Option FieldType} {rm : Room} {as rest : List Value} {Qc : Option Value → Heap → Prop} {idx : Nat} (W : Nat) (hd : decode bytes pc = .ok (.invokestatic idx, 3))
    (w1 : (Cond.methodLink y.cls idx yc).before a0 Z = true) (w2 : (Cond.static yc).before a0 Z = true) (w3 : (Cond.initialized yc.cls).before a0 Z = true) (w4 : (Cond.code yc bc mc rc).before a0 Z = true) (hy : yc.cls ≠ "java/lang/invoke/MethodHandle" ∧ yc.cls ≠ "java/lang/invoke/VarHandle") {ps : List FieldType} {r0 : Option FieldType} (pd : parseMethodDescriptor yc.desc = some ⟨ps, r0⟩) (hlen : as.length = ps.length)
    (hW : (rest.map fun v => v.category).sum ≤ W) (hf : rm.frames + 1 ≤ R.frames) (hl : W + (mc + 11) + rm.locals ≤ R.locals) (hc : k + rm.cells ≤ R.cells) (hs : n + rm.slots ≤ R.slots) (hLs : Ls.length = ml)
    (C : o_C l Z n0 yc bc mc rc rm as h Qc) (K : ∀ v h', Qc v h' → o_Go κ Q h' (k + rm.cells) (n + rm.slots) (pc + 3) Ls (v.toList ++ rest)) : o_Go κ Q h k n pc Ls (as.reverse ++ rest) := by
  obtain ⟨p, e, s, m, args, below, meth, c, rfl, hx, hZ, hby, hml, hown, hret, hlk, hnm⟩ := B
  intro T locs X N eT
  obtain ⟨v, vm1, ⟨T', L', k', n'⟩, -, X', ⟨Lc, hQ, l', y', z'⟩, st'⟩ := Jvm.LawKit.callS X hx (y := yc) hown (mvT hZ w1) (mvT hZ w2) (mvT hZ w3) (mvT hZ w4) hy (backOf (W := W) (Q := fun v h L => Qc v h ∧ Fr n0 L) (C []) hZ w4 w3 hf hl) (g := mkF m pc Ls.toArray (as.reverse ++ rest)) rfl (by rw [hml, ← hLs]; simp) (argsL := as) (rest := rest) (lenOf pd hlen) rfl (by simpa using hW) (hb hby hd) (fun _ _ => ⟨rfl, eT, hc, hs⟩)
  dsimp only [Pt.U, Pt.locs, Pt.cells, Pt.slots] at X' l' y' z' st' hQ
  subst l' y' z'
  obtain ⟨hq, Nc⟩ := hQ
  obtain ⟨s₂, o, st, r⟩ := K v T'.heap hq T' _ X' (Fr.app N Nc) rfl
  exact ⟨s₂, o, st' _ st, r⟩
theorem o_callN (B : o_Bo κ l Z n0 R y bytes ml ret) {yc : MethodName} {bc : ByteArray} {mc : Nat} {rm : Room} {as rest : List Value} {a : Addr} {Qc : Option Value → Heap → Prop} {idx : Nat} (W : Nat) (hd : decode bytes pc = .ok (.invokespecial idx, 3)) (hin : yc.name = "<init>")
    (w1 : (Cond.methodLink y.cls idx yc).before a0 Z = true) (w2 : (Cond.instanceMethod yc).before a0 Z = true) (w3 : (Cond.initialized yc.cls).before a0 Z = true) (w4 : (Cond.code yc bc mc none).before a0 Z = true) (hy : yc.cls ≠ "java/lang/invoke/MethodHandle" ∧ yc.cls ≠ "java/lang/invoke/VarHandle") {ps : List FieldType} {r0 : Option FieldType} (pd : parseMethodDescriptor yc.desc = some ⟨ps, r0⟩) (hlen : as.length = ps.length)
    (hW : (rest.map fun v => v.category).sum ≤ W) (hf : rm.frames + 1 ≤ R.frames) (hl : W + (mc + 11) + rm.locals ≤ R.locals) (hc : k + rm.cells ≤ R.cells) (hs : n + rm.slots ≤ R.slots) (hLs : Ls.length = ml)
    (C : o_C l Z n0 yc bc mc none rm (.ref a :: as) h Qc) (K : ∀ v h', Qc v h' → o_Go κ Q h' (k + rm.cells) (n + rm.slots) (pc + 3) Ls (v.toList ++ rest)) : o_Go κ Q h k n pc Ls (as.reverse ++ .ref a :: rest) := by
  obtain ⟨p, e, s, m, args, below, meth, c, rfl, hx, hZ, hby, hml, hown, hret, hlk, hnm⟩ := B
  intro T locs X N eT
  obtain ⟨v, vm1, ⟨T', L', k', n'⟩, -, X', ⟨Lc, hQ, l', y', z'⟩, st'⟩ := X.specialBack hx (y := yc) hin hown (mvT hZ w1) (mvT hZ w2) (mvT hZ w4) hy (backOf (W := W) (Q := fun v h L => Qc v h ∧ Fr n0 L) (C []) hZ w4 w3 hf hl) (g := mkF m pc Ls.toArray (as.reverse ++ .ref a :: rest)) rfl (by rw [hml, ← hLs]; simp) (Steps.refl _) (a := a) (argsL := as) (rest := rest) (lenOf pd hlen) rfl (by simpa using hW) (hb hby hd) (fun _ _ => ⟨rfl, eT, hc, hs⟩)
  dsimp only [Pt.U, Pt.locs, Pt.cells, Pt.slots] at X' l' y' z' st' hQ
  subst l' y' z'
  obtain ⟨hq, Nc⟩ := hQ
  obtain ⟨s₂, o, st, r⟩ := K v T'.heap hq T' _ X' (Fr.app N Nc) rfl
  exact ⟨s₂, o, st'.trans st, r⟩
theorem o_callV (B : o_Bo κ l Z n0 R y bytes ml ret) {yc : MethodName} {Cn : String} {bc : ByteArray} {mc : Nat} {rc : Option FieldType} {rm : Room} {as rest : List Value} {a : Addr} {Qc : Option Value → Heap → Prop} {idx : Nat} (W : Nat) (hd : decode bytes pc = .ok (.invokevirtual idx, 3))
    (w1 : (Cond.methodLink y.cls idx yc).before a0 Z = true) (w2 : (Cond.declares yc).before a0 Z = true) (w5 : (Cond.selects Cn yc yc).before a0 Z = true) (w6 : (Cond.instanceMethod yc).before a0 Z = true) (w3 : (Cond.initialized yc.cls).before a0 Z = true) (w4 : (Cond.code yc bc mc rc).before a0 Z = true) (hy : yc.cls ≠ "java/lang/invoke/MethodHandle" ∧ yc.cls ≠ "java/lang/invoke/VarHandle") {ps : List FieldType} {r0 : Option FieldType} (pd : parseMethodDescriptor yc.desc = some ⟨ps, r0⟩) (hlen : as.length = ps.length)
    (hW : (rest.map fun v => v.category).sum ≤ W) (hf : rm.frames + 1 ≤ R.frames) (hl : W + (mc + 11) + rm.locals ≤ R.locals) (hc : k + rm.cells ≤ R.cells) (hs : n + rm.slots ≤ R.slots) (hLs : Ls.length = ml) (E : Exa Z h a Cn)
    (C : o_C l Z n0 yc bc mc rc rm (.ref a :: as) h Qc) (K : ∀ v h', Qc v h' → o_Go κ Q h' (k + rm.cells) (n + rm.slots) (pc + 3) Ls (v.toList ++ rest)) : o_Go κ Q h k n pc Ls (as.reverse ++ .ref a :: rest) := by
  obtain ⟨p, e, s, m, args, below, meth, c, rfl, hx, hZ, hby, hml, hown, hret, hlk, hnm⟩ := B
  intro T locs X N eT
  obtain ⟨cq, kq, qa, qb, qc⟩ := isOf hZ eT E
  obtain ⟨v, vm1, ⟨T', L', k', n'⟩, -, X', ⟨Lc, hQ, l', y', z'⟩, st'⟩ := X.virtualBack hx (y := yc) (z := yc) hown (mvT hZ w1) (mvT hZ w2) (notFace_of_selects (args := #[]) (mvT hZ w5)) (mvT hZ w5) (mvT hZ w6) hy (backOf (W := W) (Q := fun v h L => Qc v h ∧ Fr n0 L) (C []) hZ w4 w3 hf hl) qa qc (g := mkF m pc Ls.toArray (as.reverse ++ .ref a :: rest)) rfl (by rw [hml, ← hLs]; simp) (Steps.refl _) (argsL := as) (rest := rest) (lenOf pd hlen) rfl (by simpa using hW) (hb hby hd) (fun _ _ => ⟨rfl, eT, hc, hs⟩)
  dsimp only [Pt.U, Pt.locs, Pt.cells, Pt.slots] at X' l' y' z' st' hQ
  subst l' y' z'
  obtain ⟨hq, Nc⟩ := hQ
  obtain ⟨s₂, o, st, r⟩ := K v T'.heap hq T' _ X' (Fr.app N Nc) rfl
  exact ⟨s₂, o, st'.trans st, r⟩
theorem o_callS0 (B : o_Bo κ l Z n0 R y bytes ml ret) {yc : MethodName} {bc : ByteArray} {mc : Nat} {rc : Option FieldType} {rm : Room} {rest : List Value} {Qc : Option Value → Heap → Prop} {idx : Nat} (W : Nat) (hd : decode bytes pc = .ok (.invokestatic idx, 3)) (w1 : (Cond.methodLink y.cls idx yc).before a0 Z = true) (w2 : (Cond.static yc).before a0 Z = true) (w3 : (Cond.initialized yc.cls).before a0 Z = true) (w4 : (Cond.code yc bc mc rc).before a0 Z = true) (hy : yc.cls ≠ "java/lang/invoke/MethodHandle" ∧ yc.cls ≠ "java/lang/invoke/VarHandle") {ps : List FieldType} {r0 : Option FieldType} (pd : parseMethodDescriptor yc.desc = some ⟨ps, r0⟩) (hlen : 0 = ps.length) (hW : (rest.map fun v => v.category).sum ≤ W) (hf : rm.frames + 1 ≤ R.frames) (hl : W + (mc + 11) + rm.locals ≤ R.locals) (hc : k + rm.cells ≤ R.cells) (hs : n + rm.slots ≤ R.slots) (hLs : Ls.length = ml) (C : o_C l Z n0 yc bc mc rc rm [] h Qc) (K : ∀ v h', Qc v h' → o_Go κ Q h' (k + rm.cells) (n + rm.slots) (pc + 3) Ls (v.toList ++ rest)) : o_Go κ Q h k n pc Ls (rest) := o_callS B W hd w1 w2 w3 w4 hy pd (as := []) hlen hW hf hl hc hs hLs C K
theorem o_callN0 (B : o_Bo κ l Z n0 R y bytes ml ret) {yc : MethodName} {bc : ByteArray} {mc : Nat} {rm : Room} {rest : List Value} {a : Addr} {Qc : Option Value → Heap → Prop} {idx : Nat} (W : Nat) (hd : decode bytes pc = .ok (.invokespecial idx, 3)) (hin : yc.name = "<init>") (w1 : (Cond.methodLink y.cls idx yc).before a0 Z = true) (w2 : (Cond.instanceMethod yc).before a0 Z = true) (w3 : (Cond.initialized yc.cls).before a0 Z = true) (w4 : (Cond.code yc bc mc none).before a0 Z = true) (hy : yc.cls ≠ "java/lang/invoke/MethodHandle" ∧ yc.cls ≠ "java/lang/invoke/VarHandle") {ps : List FieldType} {r0 : Option FieldType} (pd : parseMethodDescriptor yc.desc = some ⟨ps, r0⟩) (hlen : 0 = ps.length) (hW : (rest.map fun v => v.category).sum ≤ W) (hf : rm.frames + 1 ≤ R.frames) (hl : W + (mc + 11) + rm.locals ≤ R.locals) (hc : k + rm.cells ≤ R.cells) (hs : n + rm.slots ≤ R.slots) (hLs : Ls.length = ml) (C : o_C l Z n0 yc bc mc none rm (.ref a :: []) h Qc) (K : ∀ v h', Qc v h' → o_Go κ Q h' (k + rm.cells) (n + rm.slots) (pc + 3) Ls (v.toList ++ rest)) : o_Go κ Q h k n pc Ls (.ref a :: rest) := o_callN B W hd hin w1 w2 w3 w4 hy pd (as := []) hlen hW hf hl hc hs hLs C K
theorem o_callV0 (B : o_Bo κ l Z n0 R y bytes ml ret) {yc : MethodName} {Cn : String} {bc : ByteArray} {mc : Nat} {rc : Option FieldType} {rm : Room} {rest : List Value} {a : Addr} {Qc : Option Value → Heap → Prop} {idx : Nat} (W : Nat) (hd : decode bytes pc = .ok (.invokevirtual idx, 3)) (w1 : (Cond.methodLink y.cls idx yc).before a0 Z = true) (w2 : (Cond.declares yc).before a0 Z = true) (w5 : (Cond.selects Cn yc yc).before a0 Z = true) (w6 : (Cond.instanceMethod yc).before a0 Z = true) (w3 : (Cond.initialized yc.cls).before a0 Z = true) (w4 : (Cond.code yc bc mc rc).before a0 Z = true) (hy : yc.cls ≠ "java/lang/invoke/MethodHandle" ∧ yc.cls ≠ "java/lang/invoke/VarHandle") {ps : List FieldType} {r0 : Option FieldType} (pd : parseMethodDescriptor yc.desc = some ⟨ps, r0⟩) (hlen : 0 = ps.length) (hW : (rest.map fun v => v.category).sum ≤ W) (hf : rm.frames + 1 ≤ R.frames) (hl : W + (mc + 11) + rm.locals ≤ R.locals) (hc : k + rm.cells ≤ R.cells) (hs : n + rm.slots ≤ R.slots) (hLs : Ls.length = ml) (E : Exa Z h a Cn) (C : o_C l Z n0 yc bc mc rc rm (.ref a :: []) h Qc) (K : ∀ v h', Qc v h' → o_Go κ Q h' (k + rm.cells) (n + rm.slots) (pc + 3) Ls (v.toList ++ rest)) : o_Go κ Q h k n pc Ls (.ref a :: rest) := o_callV B W hd w1 w2 w5 w6 w3 w4 hy pd (as := []) hlen hW hf hl hc hs hLs E C K
theorem o_callS1 (B : o_Bo κ l Z n0 R y bytes ml ret) {yc : MethodName} {bc : ByteArray} {mc : Nat} {rc : Option FieldType} {rm : Room} {v0 : Value} {rest : List Value} {Qc : Option Value → Heap → Prop} {idx : Nat} (W : Nat) (hd : decode bytes pc = .ok (.invokestatic idx, 3)) (w1 : (Cond.methodLink y.cls idx yc).before a0 Z = true) (w2 : (Cond.static yc).before a0 Z = true) (w3 : (Cond.initialized yc.cls).before a0 Z = true) (w4 : (Cond.code yc bc mc rc).before a0 Z = true) (hy : yc.cls ≠ "java/lang/invoke/MethodHandle" ∧ yc.cls ≠ "java/lang/invoke/VarHandle") {ps : List FieldType} {r0 : Option FieldType} (pd : parseMethodDescriptor yc.desc = some ⟨ps, r0⟩) (hlen : 1 = ps.length) (hW : (rest.map fun v => v.category).sum ≤ W) (hf : rm.frames + 1 ≤ R.frames) (hl : W + (mc + 11) + rm.locals ≤ R.locals) (hc : k + rm.cells ≤ R.cells) (hs : n + rm.slots ≤ R.slots) (hLs : Ls.length = ml) (C : o_C l Z n0 yc bc mc rc rm [v0] h Qc) (K : ∀ v h', Qc v h' → o_Go κ Q h' (k + rm.cells) (n + rm.slots) (pc + 3) Ls (v.toList ++ rest)) : o_Go κ Q h k n pc Ls (v0 :: rest) := o_callS B W hd w1 w2 w3 w4 hy pd (as := [v0]) hlen hW hf hl hc hs hLs C K
theorem o_callN1 (B : o_Bo κ l Z n0 R y bytes ml ret) {yc : MethodName} {bc : ByteArray} {mc : Nat} {rm : Room} {v0 : Value} {rest : List Value} {a : Addr} {Qc : Option Value → Heap → Prop} {idx : Nat} (W : Nat) (hd : decode bytes pc = .ok (.invokespecial idx, 3)) (hin : yc.name = "<init>") (w1 : (Cond.methodLink y.cls idx yc).before a0 Z = true) (w2 : (Cond.instanceMethod yc).before a0 Z = true) (w3 : (Cond.initialized yc.cls).before a0 Z = true) (w4 : (Cond.code yc bc mc none).before a0 Z = true) (hy : yc.cls ≠ "java/lang/invoke/MethodHandle" ∧ yc.cls ≠ "java/lang/invoke/VarHandle") {ps : List FieldType} {r0 : Option FieldType} (pd : parseMethodDescriptor yc.desc = some ⟨ps, r0⟩) (hlen : 1 = ps.length) (hW : (rest.map fun v => v.category).sum ≤ W) (hf : rm.frames + 1 ≤ R.frames) (hl : W + (mc + 11) + rm.locals ≤ R.locals) (hc : k + rm.cells ≤ R.cells) (hs : n + rm.slots ≤ R.slots) (hLs : Ls.length = ml) (C : o_C l Z n0 yc bc mc none rm (.ref a :: [v0]) h Qc) (K : ∀ v h', Qc v h' → o_Go κ Q h' (k + rm.cells) (n + rm.slots) (pc + 3) Ls (v.toList ++ rest)) : o_Go κ Q h k n pc Ls (v0 :: .ref a :: rest) := o_callN B W hd hin w1 w2 w3 w4 hy pd (as := [v0]) hlen hW hf hl hc hs hLs C K
theorem o_callV1 (B : o_Bo κ l Z n0 R y bytes ml ret) {yc : MethodName} {Cn : String} {bc : ByteArray} {mc : Nat} {rc : Option FieldType} {rm : Room} {v0 : Value} {rest : List Value} {a : Addr} {Qc : Option Value → Heap → Prop} {idx : Nat} (W : Nat) (hd : decode bytes pc = .ok (.invokevirtual idx, 3)) (w1 : (Cond.methodLink y.cls idx yc).before a0 Z = true) (w2 : (Cond.declares yc).before a0 Z = true) (w5 : (Cond.selects Cn yc yc).before a0 Z = true) (w6 : (Cond.instanceMethod yc).before a0 Z = true) (w3 : (Cond.initialized yc.cls).before a0 Z = true) (w4 : (Cond.code yc bc mc rc).before a0 Z = true) (hy : yc.cls ≠ "java/lang/invoke/MethodHandle" ∧ yc.cls ≠ "java/lang/invoke/VarHandle") {ps : List FieldType} {r0 : Option FieldType} (pd : parseMethodDescriptor yc.desc = some ⟨ps, r0⟩) (hlen : 1 = ps.length) (hW : (rest.map fun v => v.category).sum ≤ W) (hf : rm.frames + 1 ≤ R.frames) (hl : W + (mc + 11) + rm.locals ≤ R.locals) (hc : k + rm.cells ≤ R.cells) (hs : n + rm.slots ≤ R.slots) (hLs : Ls.length = ml) (E : Exa Z h a Cn) (C : o_C l Z n0 yc bc mc rc rm (.ref a :: [v0]) h Qc) (K : ∀ v h', Qc v h' → o_Go κ Q h' (k + rm.cells) (n + rm.slots) (pc + 3) Ls (v.toList ++ rest)) : o_Go κ Q h k n pc Ls (v0 :: .ref a :: rest) := o_callV B W hd w1 w2 w5 w6 w3 w4 hy pd (as := [v0]) hlen hW hf hl hc hs hLs E C K
theorem o_callS2 (B : o_Bo κ l Z n0 R y bytes ml ret) {yc : MethodName} {bc : ByteArray} {mc : Nat} {rc : Option FieldType} {rm : Room} {v0 v1 : Value} {rest : List Value} {Qc : Option Value → Heap → Prop} {idx : Nat} (W : Nat) (hd : decode bytes pc = .ok (.invokestatic idx, 3)) (w1 : (Cond.methodLink y.cls idx yc).before a0 Z = true) (w2 : (Cond.static yc).before a0 Z = true) (w3 : (Cond.initialized yc.cls).before a0 Z = true) (w4 : (Cond.code yc bc mc rc).before a0 Z = true) (hy : yc.cls ≠ "java/lang/invoke/MethodHandle" ∧ yc.cls ≠ "java/lang/invoke/VarHandle") {ps : List FieldType} {r0 : Option FieldType} (pd : parseMethodDescriptor yc.desc = some ⟨ps, r0⟩) (hlen : 2 = ps.length) (hW : (rest.map fun v => v.category).sum ≤ W) (hf : rm.frames + 1 ≤ R.frames) (hl : W + (mc + 11) + rm.locals ≤ R.locals) (hc : k + rm.cells ≤ R.cells) (hs : n + rm.slots ≤ R.slots) (hLs : Ls.length = ml) (C : o_C l Z n0 yc bc mc rc rm [v0, v1] h Qc) (K : ∀ v h', Qc v h' → o_Go κ Q h' (k + rm.cells) (n + rm.slots) (pc + 3) Ls (v.toList ++ rest)) : o_Go κ Q h k n pc Ls (v1 :: v0 :: rest) := o_callS B W hd w1 w2 w3 w4 hy pd (as := [v0, v1]) hlen hW hf hl hc hs hLs C K
theorem o_callN2 (B : o_Bo κ l Z n0 R y bytes ml ret) {yc : MethodName} {bc : ByteArray} {mc : Nat} {rm : Room} {v0 v1 : Value} {rest : List Value} {a : Addr} {Qc : Option Value → Heap → Prop} {idx : Nat} (W : Nat) (hd : decode bytes pc = .ok (.invokespecial idx, 3)) (hin : yc.name = "<init>") (w1 : (Cond.methodLink y.cls idx yc).before a0 Z = true) (w2 : (Cond.instanceMethod yc).before a0 Z = true) (w3 : (Cond.initialized yc.cls).before a0 Z = true) (w4 : (Cond.code yc bc mc none).before a0 Z = true) (hy : yc.cls ≠ "java/lang/invoke/MethodHandle" ∧ yc.cls ≠ "java/lang/invoke/VarHandle") {ps : List FieldType} {r0 : Option FieldType} (pd : parseMethodDescriptor yc.desc = some ⟨ps, r0⟩) (hlen : 2 = ps.length) (hW : (rest.map fun v => v.category).sum ≤ W) (hf : rm.frames + 1 ≤ R.frames) (hl : W + (mc + 11) + rm.locals ≤ R.locals) (hc : k + rm.cells ≤ R.cells) (hs : n + rm.slots ≤ R.slots) (hLs : Ls.length = ml) (C : o_C l Z n0 yc bc mc none rm (.ref a :: [v0, v1]) h Qc) (K : ∀ v h', Qc v h' → o_Go κ Q h' (k + rm.cells) (n + rm.slots) (pc + 3) Ls (v.toList ++ rest)) : o_Go κ Q h k n pc Ls (v1 :: v0 :: .ref a :: rest) := o_callN B W hd hin w1 w2 w3 w4 hy pd (as := [v0, v1]) hlen hW hf hl hc hs hLs C K
theorem o_callV2 (B : o_Bo κ l Z n0 R y bytes ml ret) {yc : MethodName} {Cn : String} {bc : ByteArray} {mc : Nat} {rc : Option FieldType} {rm : Room} {v0 v1 : Value} {rest : List Value} {a : Addr} {Qc : Option Value → Heap → Prop} {idx : Nat} (W : Nat) (hd : decode bytes pc = .ok (.invokevirtual idx, 3)) (w1 : (Cond.methodLink y.cls idx yc).before a0 Z = true) (w2 : (Cond.declares yc).before a0 Z = true) (w5 : (Cond.selects Cn yc yc).before a0 Z = true) (w6 : (Cond.instanceMethod yc).before a0 Z = true) (w3 : (Cond.initialized yc.cls).before a0 Z = true) (w4 : (Cond.code yc bc mc rc).before a0 Z = true) (hy : yc.cls ≠ "java/lang/invoke/MethodHandle" ∧ yc.cls ≠ "java/lang/invoke/VarHandle") {ps : List FieldType} {r0 : Option FieldType} (pd : parseMethodDescriptor yc.desc = some ⟨ps, r0⟩) (hlen : 2 = ps.length) (hW : (rest.map fun v => v.category).sum ≤ W) (hf : rm.frames + 1 ≤ R.frames) (hl : W + (mc + 11) + rm.locals ≤ R.locals) (hc : k + rm.cells ≤ R.cells) (hs : n + rm.slots ≤ R.slots) (hLs : Ls.length = ml) (E : Exa Z h a Cn) (C : o_C l Z n0 yc bc mc rc rm (.ref a :: [v0, v1]) h Qc) (K : ∀ v h', Qc v h' → o_Go κ Q h' (k + rm.cells) (n + rm.slots) (pc + 3) Ls (v.toList ++ rest)) : o_Go κ Q h k n pc Ls (v1 :: v0 :: .ref a :: rest) := o_callV B W hd w1 w2 w5 w6 w3 w4 hy pd (as := [v0, v1]) hlen hW hf hl hc hs hLs E C K
theorem o_callS3 (B : o_Bo κ l Z n0 R y bytes ml ret) {yc : MethodName} {bc : ByteArray} {mc : Nat} {rc : Option FieldType} {rm : Room} {v0 v1 v2 : Value} {rest : List Value} {Qc : Option Value → Heap → Prop} {idx : Nat} (W : Nat) (hd : decode bytes pc = .ok (.invokestatic idx, 3)) (w1 : (Cond.methodLink y.cls idx yc).before a0 Z = true) (w2 : (Cond.static yc).before a0 Z = true) (w3 : (Cond.initialized yc.cls).before a0 Z = true) (w4 : (Cond.code yc bc mc rc).before a0 Z = true) (hy : yc.cls ≠ "java/lang/invoke/MethodHandle" ∧ yc.cls ≠ "java/lang/invoke/VarHandle") {ps : List FieldType} {r0 : Option FieldType} (pd : parseMethodDescriptor yc.desc = some ⟨ps, r0⟩) (hlen : 3 = ps.length) (hW : (rest.map fun v => v.category).sum ≤ W) (hf : rm.frames + 1 ≤ R.frames) (hl : W + (mc + 11) + rm.locals ≤ R.locals) (hc : k + rm.cells ≤ R.cells) (hs : n + rm.slots ≤ R.slots) (hLs : Ls.length = ml) (C : o_C l Z n0 yc bc mc rc rm [v0, v1, v2] h Qc) (K : ∀ v h', Qc v h' → o_Go κ Q h' (k + rm.cells) (n + rm.slots) (pc + 3) Ls (v.toList ++ rest)) : o_Go κ Q h k n pc Ls (v2 :: v1 :: v0 :: rest) := o_callS B W hd w1 w2 w3 w4 hy pd (as := [v0, v1, v2]) hlen hW hf hl hc hs hLs C K
theorem o_callN3 (B : o_Bo κ l Z n0 R y bytes ml ret) {yc : MethodName} {bc : ByteArray} {mc : Nat} {rm : Room} {v0 v1 v2 : Value} {rest : List Value} {a : Addr} {Qc : Option Value → Heap → Prop} {idx : Nat} (W : Nat) (hd : decode bytes pc = .ok (.invokespecial idx, 3)) (hin : yc.name = "<init>") (w1 : (Cond.methodLink y.cls idx yc).before a0 Z = true) (w2 : (Cond.instanceMethod yc).before a0 Z = true) (w3 : (Cond.initialized yc.cls).before a0 Z = true) (w4 : (Cond.code yc bc mc none).before a0 Z = true) (hy : yc.cls ≠ "java/lang/invoke/MethodHandle" ∧ yc.cls ≠ "java/lang/invoke/VarHandle") {ps : List FieldType} {r0 : Option FieldType} (pd : parseMethodDescriptor yc.desc = some ⟨ps, r0⟩) (hlen : 3 = ps.length) (hW : (rest.map fun v => v.category).sum ≤ W) (hf : rm.frames + 1 ≤ R.frames) (hl : W + (mc + 11) + rm.locals ≤ R.locals) (hc : k + rm.cells ≤ R.cells) (hs : n + rm.slots ≤ R.slots) (hLs : Ls.length = ml) (C : o_C l Z n0 yc bc mc none rm (.ref a :: [v0, v1, v2]) h Qc) (K : ∀ v h', Qc v h' → o_Go κ Q h' (k + rm.cells) (n + rm.slots) (pc + 3) Ls (v.toList ++ rest)) : o_Go κ Q h k n pc Ls (v2 :: v1 :: v0 :: .ref a :: rest) := o_callN B W hd hin w1 w2 w3 w4 hy pd (as := [v0, v1, v2]) hlen hW hf hl hc hs hLs C K
theorem o_callV3 (B : o_Bo κ l Z n0 R y bytes ml ret) {yc : MethodName} {Cn : String} {bc : ByteArray} {mc : Nat} {rc : Option FieldType} {rm : Room} {v0 v1 v2 : Value} {rest : List Value} {a : Addr} {Qc : Option Value → Heap → Prop} {idx : Nat} (W : Nat) (hd : decode bytes pc = .ok (.invokevirtual idx, 3)) (w1 : (Cond.methodLink y.cls idx yc).before a0 Z = true) (w2 : (Cond.declares yc).before a0 Z = true) (w5 : (Cond.selects Cn yc yc).before a0 Z = true) (w6 : (Cond.instanceMethod yc).before a0 Z = true) (w3 : (Cond.initialized yc.cls).before a0 Z = true) (w4 : (Cond.code yc bc mc rc).before a0 Z = true) (hy : yc.cls ≠ "java/lang/invoke/MethodHandle" ∧ yc.cls ≠ "java/lang/invoke/VarHandle") {ps : List FieldType} {r0 : Option FieldType} (pd : parseMethodDescriptor yc.desc = some ⟨ps, r0⟩) (hlen : 3 = ps.length) (hW : (rest.map fun v => v.category).sum ≤ W) (hf : rm.frames + 1 ≤ R.frames) (hl : W + (mc + 11) + rm.locals ≤ R.locals) (hc : k + rm.cells ≤ R.cells) (hs : n + rm.slots ≤ R.slots) (hLs : Ls.length = ml) (E : Exa Z h a Cn) (C : o_C l Z n0 yc bc mc rc rm (.ref a :: [v0, v1, v2]) h Qc) (K : ∀ v h', Qc v h' → o_Go κ Q h' (k + rm.cells) (n + rm.slots) (pc + 3) Ls (v.toList ++ rest)) : o_Go κ Q h k n pc Ls (v2 :: v1 :: v0 :: .ref a :: rest) := o_callV B W hd w1 w2 w5 w6 w3 w4 hy pd (as := [v0, v1, v2]) hlen hW hf hl hc hs hLs E C K
theorem o_callS4 (B : o_Bo κ l Z n0 R y bytes ml ret) {yc : MethodName} {bc : ByteArray} {mc : Nat} {rc : Option FieldType} {rm : Room} {v0 v1 v2 v3 : Value} {rest : List Value} {Qc : Option Value → Heap → Prop} {idx : Nat} (W : Nat) (hd : decode bytes pc = .ok (.invokestatic idx, 3)) (w1 : (Cond.methodLink y.cls idx yc).before a0 Z = true) (w2 : (Cond.static yc).before a0 Z = true) (w3 : (Cond.initialized yc.cls).before a0 Z = true) (w4 : (Cond.code yc bc mc rc).before a0 Z = true) (hy : yc.cls ≠ "java/lang/invoke/MethodHandle" ∧ yc.cls ≠ "java/lang/invoke/VarHandle") {ps : List FieldType} {r0 : Option FieldType} (pd : parseMethodDescriptor yc.desc = some ⟨ps, r0⟩) (hlen : 4 = ps.length) (hW : (rest.map fun v => v.category).sum ≤ W) (hf : rm.frames + 1 ≤ R.frames) (hl : W + (mc + 11) + rm.locals ≤ R.locals) (hc : k + rm.cells ≤ R.cells) (hs : n + rm.slots ≤ R.slots) (hLs : Ls.length = ml) (C : o_C l Z n0 yc bc mc rc rm [v0, v1, v2, v3] h Qc) (K : ∀ v h', Qc v h' → o_Go κ Q h' (k + rm.cells) (n + rm.slots) (pc + 3) Ls (v.toList ++ rest)) : o_Go κ Q h k n pc Ls (v3 :: v2 :: v1 :: v0 :: rest) := o_callS B W hd w1 w2 w3 w4 hy pd (as := [v0, v1, v2, v3]) hlen hW hf hl hc hs hLs C K
theorem o_callN4 (B : o_Bo κ l Z n0 R y bytes ml ret) {yc : MethodName} {bc : ByteArray} {mc : Nat} {rm : Room} {v0 v1 v2 v3 : Value} {rest : List Value} {a : Addr} {Qc : Option Value → Heap → Prop} {idx : Nat} (W : Nat) (hd : decode bytes pc = .ok (.invokespecial idx, 3)) (hin : yc.name = "<init>") (w1 : (Cond.methodLink y.cls idx yc).before a0 Z = true) (w2 : (Cond.instanceMethod yc).before a0 Z = true) (w3 : (Cond.initialized yc.cls).before a0 Z = true) (w4 : (Cond.code yc bc mc none).before a0 Z = true) (hy : yc.cls ≠ "java/lang/invoke/MethodHandle" ∧ yc.cls ≠ "java/lang/invoke/VarHandle") {ps : List FieldType} {r0 : Option FieldType} (pd : parseMethodDescriptor yc.desc = some ⟨ps, r0⟩) (hlen : 4 = ps.length) (hW : (rest.map fun v => v.category).sum ≤ W) (hf : rm.frames + 1 ≤ R.frames) (hl : W + (mc + 11) + rm.locals ≤ R.locals) (hc : k + rm.cells ≤ R.cells) (hs : n + rm.slots ≤ R.slots) (hLs : Ls.length = ml) (C : o_C l Z n0 yc bc mc none rm (.ref a :: [v0, v1, v2, v3]) h Qc) (K : ∀ v h', Qc v h' → o_Go κ Q h' (k + rm.cells) (n + rm.slots) (pc + 3) Ls (v.toList ++ rest)) : o_Go κ Q h k n pc Ls (v3 :: v2 :: v1 :: v0 :: .ref a :: rest) := o_callN B W hd hin w1 w2 w3 w4 hy pd (as := [v0, v1, v2, v3]) hlen hW hf hl hc hs hLs C K
theorem o_callV4 (B : o_Bo κ l Z n0 R y bytes ml ret) {yc : MethodName} {Cn : String} {bc : ByteArray} {mc : Nat} {rc : Option FieldType} {rm : Room} {v0 v1 v2 v3 : Value} {rest : List Value} {a : Addr} {Qc : Option Value → Heap → Prop} {idx : Nat} (W : Nat) (hd : decode bytes pc = .ok (.invokevirtual idx, 3)) (w1 : (Cond.methodLink y.cls idx yc).before a0 Z = true) (w2 : (Cond.declares yc).before a0 Z = true) (w5 : (Cond.selects Cn yc yc).before a0 Z = true) (w6 : (Cond.instanceMethod yc).before a0 Z = true) (w3 : (Cond.initialized yc.cls).before a0 Z = true) (w4 : (Cond.code yc bc mc rc).before a0 Z = true) (hy : yc.cls ≠ "java/lang/invoke/MethodHandle" ∧ yc.cls ≠ "java/lang/invoke/VarHandle") {ps : List FieldType} {r0 : Option FieldType} (pd : parseMethodDescriptor yc.desc = some ⟨ps, r0⟩) (hlen : 4 = ps.length) (hW : (rest.map fun v => v.category).sum ≤ W) (hf : rm.frames + 1 ≤ R.frames) (hl : W + (mc + 11) + rm.locals ≤ R.locals) (hc : k + rm.cells ≤ R.cells) (hs : n + rm.slots ≤ R.slots) (hLs : Ls.length = ml) (E : Exa Z h a Cn) (C : o_C l Z n0 yc bc mc rc rm (.ref a :: [v0, v1, v2, v3]) h Qc) (K : ∀ v h', Qc v h' → o_Go κ Q h' (k + rm.cells) (n + rm.slots) (pc + 3) Ls (v.toList ++ rest)) : o_Go κ Q h k n pc Ls (v3 :: v2 :: v1 :: v0 :: .ref a :: rest) := o_callV B W hd w1 w2 w5 w6 w3 w4 hy pd (as := [v0, v1, v2, v3]) hlen hW hf hl hc hs hLs E C K
theorem o_callS5 (B : o_Bo κ l Z n0 R y bytes ml ret) {yc : MethodName} {bc : ByteArray} {mc : Nat} {rc : Option FieldType} {rm : Room} {v0 v1 v2 v3 v4 : Value} {rest : List Value} {Qc : Option Value → Heap → Prop} {idx : Nat} (W : Nat) (hd : decode bytes pc = .ok (.invokestatic idx, 3)) (w1 : (Cond.methodLink y.cls idx yc).before a0 Z = true) (w2 : (Cond.static yc).before a0 Z = true) (w3 : (Cond.initialized yc.cls).before a0 Z = true) (w4 : (Cond.code yc bc mc rc).before a0 Z = true) (hy : yc.cls ≠ "java/lang/invoke/MethodHandle" ∧ yc.cls ≠ "java/lang/invoke/VarHandle") {ps : List FieldType} {r0 : Option FieldType} (pd : parseMethodDescriptor yc.desc = some ⟨ps, r0⟩) (hlen : 5 = ps.length) (hW : (rest.map fun v => v.category).sum ≤ W) (hf : rm.frames + 1 ≤ R.frames) (hl : W + (mc + 11) + rm.locals ≤ R.locals) (hc : k + rm.cells ≤ R.cells) (hs : n + rm.slots ≤ R.slots) (hLs : Ls.length = ml) (C : o_C l Z n0 yc bc mc rc rm [v0, v1, v2, v3, v4] h Qc) (K : ∀ v h', Qc v h' → o_Go κ Q h' (k + rm.cells) (n + rm.slots) (pc + 3) Ls (v.toList ++ rest)) : o_Go κ Q h k n pc Ls (v4 :: v3 :: v2 :: v1 :: v0 :: rest) := o_callS B W hd w1 w2 w3 w4 hy pd (as := [v0, v1, v2, v3, v4]) hlen hW hf hl hc hs hLs C K
theorem o_callN5 (B : o_Bo κ l Z n0 R y bytes ml ret) {yc : MethodName} {bc : ByteArray} {mc : Nat} {rm : Room} {v0 v1 v2 v3 v4 : Value} {rest : List Value} {a : Addr} {Qc : Option Value → Heap → Prop} {idx : Nat} (W : Nat) (hd : decode bytes pc = .ok (.invokespecial idx, 3)) (hin : yc.name = "<init>") (w1 : (Cond.methodLink y.cls idx yc).before a0 Z = true) (w2 : (Cond.instanceMethod yc).before a0 Z = true) (w3 : (Cond.initialized yc.cls).before a0 Z = true) (w4 : (Cond.code yc bc mc none).before a0 Z = true) (hy : yc.cls ≠ "java/lang/invoke/MethodHandle" ∧ yc.cls ≠ "java/lang/invoke/VarHandle") {ps : List FieldType} {r0 : Option FieldType} (pd : parseMethodDescriptor yc.desc = some ⟨ps, r0⟩) (hlen : 5 = ps.length) (hW : (rest.map fun v => v.category).sum ≤ W) (hf : rm.frames + 1 ≤ R.frames) (hl : W + (mc + 11) + rm.locals ≤ R.locals) (hc : k + rm.cells ≤ R.cells) (hs : n + rm.slots ≤ R.slots) (hLs : Ls.length = ml) (C : o_C l Z n0 yc bc mc none rm (.ref a :: [v0, v1, v2, v3, v4]) h Qc) (K : ∀ v h', Qc v h' → o_Go κ Q h' (k + rm.cells) (n + rm.slots) (pc + 3) Ls (v.toList ++ rest)) : o_Go κ Q h k n pc Ls (v4 :: v3 :: v2 :: v1 :: v0 :: .ref a :: rest) := o_callN B W hd hin w1 w2 w3 w4 hy pd (as := [v0, v1, v2, v3, v4]) hlen hW hf hl hc hs hLs C K
theorem o_callV5 (B : o_Bo κ l Z n0 R y bytes ml ret) {yc : MethodName} {Cn : String} {bc : ByteArray} {mc : Nat} {rc : Option FieldType} {rm : Room} {v0 v1 v2 v3 v4 : Value} {rest : List Value} {a : Addr} {Qc : Option Value → Heap → Prop} {idx : Nat} (W : Nat) (hd : decode bytes pc = .ok (.invokevirtual idx, 3)) (w1 : (Cond.methodLink y.cls idx yc).before a0 Z = true) (w2 : (Cond.declares yc).before a0 Z = true) (w5 : (Cond.selects Cn yc yc).before a0 Z = true) (w6 : (Cond.instanceMethod yc).before a0 Z = true) (w3 : (Cond.initialized yc.cls).before a0 Z = true) (w4 : (Cond.code yc bc mc rc).before a0 Z = true) (hy : yc.cls ≠ "java/lang/invoke/MethodHandle" ∧ yc.cls ≠ "java/lang/invoke/VarHandle") {ps : List FieldType} {r0 : Option FieldType} (pd : parseMethodDescriptor yc.desc = some ⟨ps, r0⟩) (hlen : 5 = ps.length) (hW : (rest.map fun v => v.category).sum ≤ W) (hf : rm.frames + 1 ≤ R.frames) (hl : W + (mc + 11) + rm.locals ≤ R.locals) (hc : k + rm.cells ≤ R.cells) (hs : n + rm.slots ≤ R.slots) (hLs : Ls.length = ml) (E : Exa Z h a Cn) (C : o_C l Z n0 yc bc mc rc rm (.ref a :: [v0, v1, v2, v3, v4]) h Qc) (K : ∀ v h', Qc v h' → o_Go κ Q h' (k + rm.cells) (n + rm.slots) (pc + 3) Ls (v.toList ++ rest)) : o_Go κ Q h k n pc Ls (v4 :: v3 :: v2 :: v1 :: v0 :: .ref a :: rest) := o_callV B W hd w1 w2 w5 w6 w3 w4 hy pd (as := [v0, v1, v2, v3, v4]) hlen hW hf hl hc hs hLs E C K
theorem o_callS6 (B : o_Bo κ l Z n0 R y bytes ml ret) {yc : MethodName} {bc : ByteArray} {mc : Nat} {rc : Option FieldType} {rm : Room} {v0 v1 v2 v3 v4 v5 : Value} {rest : List Value} {Qc : Option Value → Heap → Prop} {idx : Nat} (W : Nat) (hd : decode bytes pc = .ok (.invokestatic idx, 3)) (w1 : (Cond.methodLink y.cls idx yc).before a0 Z = true) (w2 : (Cond.static yc).before a0 Z = true) (w3 : (Cond.initialized yc.cls).before a0 Z = true) (w4 : (Cond.code yc bc mc rc).before a0 Z = true) (hy : yc.cls ≠ "java/lang/invoke/MethodHandle" ∧ yc.cls ≠ "java/lang/invoke/VarHandle") {ps : List FieldType} {r0 : Option FieldType} (pd : parseMethodDescriptor yc.desc = some ⟨ps, r0⟩) (hlen : 6 = ps.length) (hW : (rest.map fun v => v.category).sum ≤ W) (hf : rm.frames + 1 ≤ R.frames) (hl : W + (mc + 11) + rm.locals ≤ R.locals) (hc : k + rm.cells ≤ R.cells) (hs : n + rm.slots ≤ R.slots) (hLs : Ls.length = ml) (C : o_C l Z n0 yc bc mc rc rm [v0, v1, v2, v3, v4, v5] h Qc) (K : ∀ v h', Qc v h' → o_Go κ Q h' (k + rm.cells) (n + rm.slots) (pc + 3) Ls (v.toList ++ rest)) : o_Go κ Q h k n pc Ls (v5 :: v4 :: v3 :: v2 :: v1 :: v0 :: rest) := o_callS B W hd w1 w2 w3 w4 hy pd (as := [v0, v1, v2, v3, v4, v5]) hlen hW hf hl hc hs hLs C K
theorem o_callN6 (B : o_Bo κ l Z n0 R y bytes ml ret) {yc : MethodName} {bc : ByteArray} {mc : Nat} {rm : Room} {v0 v1 v2 v3 v4 v5 : Value} {rest : List Value} {a : Addr} {Qc : Option Value → Heap → Prop} {idx : Nat} (W : Nat) (hd : decode bytes pc = .ok (.invokespecial idx, 3)) (hin : yc.name = "<init>") (w1 : (Cond.methodLink y.cls idx yc).before a0 Z = true) (w2 : (Cond.instanceMethod yc).before a0 Z = true) (w3 : (Cond.initialized yc.cls).before a0 Z = true) (w4 : (Cond.code yc bc mc none).before a0 Z = true) (hy : yc.cls ≠ "java/lang/invoke/MethodHandle" ∧ yc.cls ≠ "java/lang/invoke/VarHandle") {ps : List FieldType} {r0 : Option FieldType} (pd : parseMethodDescriptor yc.desc = some ⟨ps, r0⟩) (hlen : 6 = ps.length) (hW : (rest.map fun v => v.category).sum ≤ W) (hf : rm.frames + 1 ≤ R.frames) (hl : W + (mc + 11) + rm.locals ≤ R.locals) (hc : k + rm.cells ≤ R.cells) (hs : n + rm.slots ≤ R.slots) (hLs : Ls.length = ml) (C : o_C l Z n0 yc bc mc none rm (.ref a :: [v0, v1, v2, v3, v4, v5]) h Qc) (K : ∀ v h', Qc v h' → o_Go κ Q h' (k + rm.cells) (n + rm.slots) (pc + 3) Ls (v.toList ++ rest)) : o_Go κ Q h k n pc Ls (v5 :: v4 :: v3 :: v2 :: v1 :: v0 :: .ref a :: rest) := o_callN B W hd hin w1 w2 w3 w4 hy pd (as := [v0, v1, v2, v3, v4, v5]) hlen hW hf hl hc hs hLs C K
theorem o_callV6 (B : o_Bo κ l Z n0 R y bytes ml ret) {yc : MethodName} {Cn : String} {bc : ByteArray} {mc : Nat} {rc : Option FieldType} {rm : Room} {v0 v1 v2 v3 v4 v5 : Value} {rest : List Value} {a : Addr} {Qc : Option Value → Heap → Prop} {idx : Nat} (W : Nat) (hd : decode bytes pc = .ok (.invokevirtual idx, 3)) (w1 : (Cond.methodLink y.cls idx yc).before a0 Z = true) (w2 : (Cond.declares yc).before a0 Z = true) (w5 : (Cond.selects Cn yc yc).before a0 Z = true) (w6 : (Cond.instanceMethod yc).before a0 Z = true) (w3 : (Cond.initialized yc.cls).before a0 Z = true) (w4 : (Cond.code yc bc mc rc).before a0 Z = true) (hy : yc.cls ≠ "java/lang/invoke/MethodHandle" ∧ yc.cls ≠ "java/lang/invoke/VarHandle") {ps : List FieldType} {r0 : Option FieldType} (pd : parseMethodDescriptor yc.desc = some ⟨ps, r0⟩) (hlen : 6 = ps.length) (hW : (rest.map fun v => v.category).sum ≤ W) (hf : rm.frames + 1 ≤ R.frames) (hl : W + (mc + 11) + rm.locals ≤ R.locals) (hc : k + rm.cells ≤ R.cells) (hs : n + rm.slots ≤ R.slots) (hLs : Ls.length = ml) (E : Exa Z h a Cn) (C : o_C l Z n0 yc bc mc rc rm (.ref a :: [v0, v1, v2, v3, v4, v5]) h Qc) (K : ∀ v h', Qc v h' → o_Go κ Q h' (k + rm.cells) (n + rm.slots) (pc + 3) Ls (v.toList ++ rest)) : o_Go κ Q h k n pc Ls (v5 :: v4 :: v3 :: v2 :: v1 :: v0 :: .ref a :: rest) := o_callV B W hd w1 w2 w5 w6 w3 w4 hy pd (as := [v0, v1, v2, v3, v4, v5]) hlen hW hf hl hc hs hLs E C K
theorem o_callS7 (B : o_Bo κ l Z n0 R y bytes ml ret) {yc : MethodName} {bc : ByteArray} {mc : Nat} {rc : Option FieldType} {rm : Room} {v0 v1 v2 v3 v4 v5 v6 : Value} {rest : List Value} {Qc : Option Value → Heap → Prop} {idx : Nat} (W : Nat) (hd : decode bytes pc = .ok (.invokestatic idx, 3)) (w1 : (Cond.methodLink y.cls idx yc).before a0 Z = true) (w2 : (Cond.static yc).before a0 Z = true) (w3 : (Cond.initialized yc.cls).before a0 Z = true) (w4 : (Cond.code yc bc mc rc).before a0 Z = true) (hy : yc.cls ≠ "java/lang/invoke/MethodHandle" ∧ yc.cls ≠ "java/lang/invoke/VarHandle") {ps : List FieldType} {r0 : Option FieldType} (pd : parseMethodDescriptor yc.desc = some ⟨ps, r0⟩) (hlen : 7 = ps.length) (hW : (rest.map fun v => v.category).sum ≤ W) (hf : rm.frames + 1 ≤ R.frames) (hl : W + (mc + 11) + rm.locals ≤ R.locals) (hc : k + rm.cells ≤ R.cells) (hs : n + rm.slots ≤ R.slots) (hLs : Ls.length = ml) (C : o_C l Z n0 yc bc mc rc rm [v0, v1, v2, v3, v4, v5, v6] h Qc) (K : ∀ v h', Qc v h' → o_Go κ Q h' (k + rm.cells) (n + rm.slots) (pc + 3) Ls (v.toList ++ rest)) : o_Go κ Q h k n pc Ls (v6 :: v5 :: v4 :: v3 :: v2 :: v1 :: v0 :: rest) := o_callS B W hd w1 w2 w3 w4 hy pd (as := [v0, v1, v2, v3, v4, v5, v6]) hlen hW hf hl hc hs hLs C K
theorem o_callN7 (B : o_Bo κ l Z n0 R y bytes ml ret) {yc : MethodName} {bc : ByteArray} {mc : Nat} {rm : Room} {v0 v1 v2 v3 v4 v5 v6 : Value} {rest : List Value} {a : Addr} {Qc : Option Value → Heap → Prop} {idx : Nat} (W : Nat) (hd : decode bytes pc = .ok (.invokespecial idx, 3)) (hin : yc.name = "<init>") (w1 : (Cond.methodLink y.cls idx yc).before a0 Z = true) (w2 : (Cond.instanceMethod yc).before a0 Z = true) (w3 : (Cond.initialized yc.cls).before a0 Z = true) (w4 : (Cond.code yc bc mc none).before a0 Z = true) (hy : yc.cls ≠ "java/lang/invoke/MethodHandle" ∧ yc.cls ≠ "java/lang/invoke/VarHandle") {ps : List FieldType} {r0 : Option FieldType} (pd : parseMethodDescriptor yc.desc = some ⟨ps, r0⟩) (hlen : 7 = ps.length) (hW : (rest.map fun v => v.category).sum ≤ W) (hf : rm.frames + 1 ≤ R.frames) (hl : W + (mc + 11) + rm.locals ≤ R.locals) (hc : k + rm.cells ≤ R.cells) (hs : n + rm.slots ≤ R.slots) (hLs : Ls.length = ml) (C : o_C l Z n0 yc bc mc none rm (.ref a :: [v0, v1, v2, v3, v4, v5, v6]) h Qc) (K : ∀ v h', Qc v h' → o_Go κ Q h' (k + rm.cells) (n + rm.slots) (pc + 3) Ls (v.toList ++ rest)) : o_Go κ Q h k n pc Ls (v6 :: v5 :: v4 :: v3 :: v2 :: v1 :: v0 :: .ref a :: rest) := o_callN B W hd hin w1 w2 w3 w4 hy pd (as := [v0, v1, v2, v3, v4, v5, v6]) hlen hW hf hl hc hs hLs C K
theorem o_callV7 (B : o_Bo κ l Z n0 R y bytes ml ret) {yc : MethodName} {Cn : String} {bc : ByteArray} {mc : Nat} {rc : Option FieldType} {rm : Room} {v0 v1 v2 v3 v4 v5 v6 : Value} {rest : List Value} {a : Addr} {Qc : Option Value → Heap → Prop} {idx : Nat} (W : Nat) (hd : decode bytes pc = .ok (.invokevirtual idx, 3)) (w1 : (Cond.methodLink y.cls idx yc).before a0 Z = true) (w2 : (Cond.declares yc).before a0 Z = true) (w5 : (Cond.selects Cn yc yc).before a0 Z = true) (w6 : (Cond.instanceMethod yc).before a0 Z = true) (w3 : (Cond.initialized yc.cls).before a0 Z = true) (w4 : (Cond.code yc bc mc rc).before a0 Z = true) (hy : yc.cls ≠ "java/lang/invoke/MethodHandle" ∧ yc.cls ≠ "java/lang/invoke/VarHandle") {ps : List FieldType} {r0 : Option FieldType} (pd : parseMethodDescriptor yc.desc = some ⟨ps, r0⟩) (hlen : 7 = ps.length) (hW : (rest.map fun v => v.category).sum ≤ W) (hf : rm.frames + 1 ≤ R.frames) (hl : W + (mc + 11) + rm.locals ≤ R.locals) (hc : k + rm.cells ≤ R.cells) (hs : n + rm.slots ≤ R.slots) (hLs : Ls.length = ml) (E : Exa Z h a Cn) (C : o_C l Z n0 yc bc mc rc rm (.ref a :: [v0, v1, v2, v3, v4, v5, v6]) h Qc) (K : ∀ v h', Qc v h' → o_Go κ Q h' (k + rm.cells) (n + rm.slots) (pc + 3) Ls (v.toList ++ rest)) : o_Go κ Q h k n pc Ls (v6 :: v5 :: v4 :: v3 :: v2 :: v1 :: v0 :: .ref a :: rest) := o_callV B W hd w1 w2 w5 w6 w3 w4 hy pd (as := [v0, v1, v2, v3, v4, v5, v6]) hlen hW hf hl hc hs hLs E C K
end Fw
section Pats
variable {κ : o_K} {l : Launch} {Z : State} {n0 : Nat} {R : Room} {y : MethodName} {bytes : ByteArray} {ml : Nat} {ret : Option FieldType} {Q : Option Value → Heap → Prop} {h : Heap} {k n pc : Nat} {St : List Value}
theorem o_astore_23_6 (B : o_Bo κ l Z n0 R y bytes ml ret) {s0 s1 s2 s3 s4 s5 s6 s7 s8 s9 s10 s11 s12 s13 s14 s15 s16 s17 s18 s19 s20 s21 s22 : Slot} {v : Value} (hd : decode bytes pc = .ok (.astore 6, 2)) (hv : v.isRef = true) (ho : o_ok1 s6 = true) (K : o_Go κ Q h k n (pc + 2) [s0, s1, s2, s3, s4, s5, .val v, s7, s8, s9, s10, s11, s12, s13, s14, s15, s16, s17, s18, s19, s20, s21, s22] St) : o_Go κ Q h k n pc [s0, s1, s2, s3, s4, s5, s6, s7, s8, s9, s10, s11, s12, s13, s14, s15, s16, s17, s18, s19, s20, s21, s22] (v :: St) := o_astore B hd hv rfl ho K
theorem o_iinc_2_1 (B : o_Bo κ l Z n0 R y bytes ml ret) {s0 : Slot} {x : Int32} {cst : Int} (v z : Int32) (hd : decode bytes pc = .ok (.iinc 1 cst, 3)) (hv : Int32.ofInt cst = v) (hz : x + v = z) (K : o_Go κ Q h k n (pc + 3) [s0, .val (.int z)] St) : o_Go κ Q h k n pc [s0, .val (.int x)] St := o_iinc B v hd hv rfl (hz.symm ▸ K)
theorem o_istoreN_2_0 (B : o_Bo κ l Z n0 R y bytes ml ret) {s0 s1 : Slot} {x : Int32} (hd : decode bytes pc = .ok (.istore_n 0, 1)) (ho : o_ok1 s0 = true) (K : o_Go κ Q h k n (pc + 1) [.val (.int x), s1] St) : o_Go κ Q h k n pc [s0, s1] (.int x :: St) := o_istoreN B hd rfl ho K
theorem o_istoreN_2_1 (B : o_Bo κ l Z n0 R y bytes ml ret) {s0 s1 : Slot} {x : Int32} (hd : decode bytes pc = .ok (.istore_n 1, 1)) (ho : o_ok1 s1 = true) (K : o_Go κ Q h k n (pc + 1) [s0, .val (.int x)] St) : o_Go κ Q h k n pc [s0, s1] (.int x :: St) := o_istoreN B hd rfl ho K
theorem o_istoreN_4_2 (B : o_Bo κ l Z n0 R y bytes ml ret) {s0 s1 s2 s3 : Slot} {x : Int32} (hd : decode bytes pc = .ok (.istore_n 2, 1)) (ho : o_ok1 s2 = true) (K : o_Go κ Q h k n (pc + 1) [s0, s1, .val (.int x), s3] St) : o_Go κ Q h k n pc [s0, s1, s2, s3] (.int x :: St) := o_istoreN B hd rfl ho K
theorem o_istoreN_4_3 (B : o_Bo κ l Z n0 R y bytes ml ret) {s0 s1 s2 s3 : Slot} {x : Int32} (hd : decode bytes pc = .ok (.istore_n 3, 1)) (ho : o_ok1 s3 = true) (K : o_Go κ Q h k n (pc + 1) [s0, s1, s2, .val (.int x)] St) : o_Go κ Q h k n pc [s0, s1, s2, s3] (.int x :: St) := o_istoreN B hd rfl ho K
theorem o_istore_7_6 (B : o_Bo κ l Z n0 R y bytes ml ret) {s0 s1 s2 s3 s4 s5 s6 : Slot} {x : Int32} (hd : decode bytes pc = .ok (.istore 6, 2)) (ho : o_ok1 s6 = true) (K : o_Go κ Q h k n (pc + 2) [s0, s1, s2, s3, s4, s5, .val (.int x)] St) : o_Go κ Q h k n pc [s0, s1, s2, s3, s4, s5, s6] (.int x :: St) := o_istore B hd rfl ho K
theorem o_istore_23_7 (B : o_Bo κ l Z n0 R y bytes ml ret) {s0 s1 s2 s3 s4 s5 s6 s7 s8 s9 s10 s11 s12 s13 s14 s15 s16 s17 s18 s19 s20 s21 s22 : Slot} {x : Int32} (hd : decode bytes pc = .ok (.istore 7, 2)) (ho : o_ok1 s7 = true) (K : o_Go κ Q h k n (pc + 2) [s0, s1, s2, s3, s4, s5, s6, .val (.int x), s8, s9, s10, s11, s12, s13, s14, s15, s16, s17, s18, s19, s20, s21, s22] St) : o_Go κ Q h k n pc [s0, s1, s2, s3, s4, s5, s6, s7, s8, s9, s10, s11, s12, s13, s14, s15, s16, s17, s18, s19, s20, s21, s22] (.int x :: St) := o_istore B hd rfl ho K
theorem o_istore_23_8 (B : o_Bo κ l Z n0 R y bytes ml ret) {s0 s1 s2 s3 s4 s5 s6 s7 s8 s9 s10 s11 s12 s13 s14 s15 s16 s17 s18 s19 s20 s21 s22 : Slot} {x : Int32} (hd : decode bytes pc = .ok (.istore 8, 2)) (ho : o_ok1 s8 = true) (K : o_Go κ Q h k n (pc + 2) [s0, s1, s2, s3, s4, s5, s6, s7, .val (.int x), s9, s10, s11, s12, s13, s14, s15, s16, s17, s18, s19, s20, s21, s22] St) : o_Go κ Q h k n pc [s0, s1, s2, s3, s4, s5, s6, s7, s8, s9, s10, s11, s12, s13, s14, s15, s16, s17, s18, s19, s20, s21, s22] (.int x :: St) := o_istore B hd rfl ho K
theorem o_istore_23_9 (B : o_Bo κ l Z n0 R y bytes ml ret) {s0 s1 s2 s3 s4 s5 s6 s7 s8 s9 s10 s11 s12 s13 s14 s15 s16 s17 s18 s19 s20 s21 s22 : Slot} {x : Int32} (hd : decode bytes pc = .ok (.istore 9, 2)) (ho : o_ok1 s9 = true) (K : o_Go κ Q h k n (pc + 2) [s0, s1, s2, s3, s4, s5, s6, s7, s8, .val (.int x), s10, s11, s12, s13, s14, s15, s16, s17, s18, s19, s20, s21, s22] St) : o_Go κ Q h k n pc [s0, s1, s2, s3, s4, s5, s6, s7, s8, s9, s10, s11, s12, s13, s14, s15, s16, s17, s18, s19, s20, s21, s22] (.int x :: St) := o_istore B hd rfl ho K
theorem o_istore_23_10 (B : o_Bo κ l Z n0 R y bytes ml ret) {s0 s1 s2 s3 s4 s5 s6 s7 s8 s9 s10 s11 s12 s13 s14 s15 s16 s17 s18 s19 s20 s21 s22 : Slot} {x : Int32} (hd : decode bytes pc = .ok (.istore 10, 2)) (ho : o_ok1 s10 = true) (K : o_Go κ Q h k n (pc + 2) [s0, s1, s2, s3, s4, s5, s6, s7, s8, s9, .val (.int x), s11, s12, s13, s14, s15, s16, s17, s18, s19, s20, s21, s22] St) : o_Go κ Q h k n pc [s0, s1, s2, s3, s4, s5, s6, s7, s8, s9, s10, s11, s12, s13, s14, s15, s16, s17, s18, s19, s20, s21, s22] (.int x :: St) := o_istore B hd rfl ho K
theorem o_istore_23_11 (B : o_Bo κ l Z n0 R y bytes ml ret) {s0 s1 s2 s3 s4 s5 s6 s7 s8 s9 s10 s11 s12 s13 s14 s15 s16 s17 s18 s19 s20 s21 s22 : Slot} {x : Int32} (hd : decode bytes pc = .ok (.istore 11, 2)) (ho : o_ok1 s11 = true) (K : o_Go κ Q h k n (pc + 2) [s0, s1, s2, s3, s4, s5, s6, s7, s8, s9, s10, .val (.int x), s12, s13, s14, s15, s16, s17, s18, s19, s20, s21, s22] St) : o_Go κ Q h k n pc [s0, s1, s2, s3, s4, s5, s6, s7, s8, s9, s10, s11, s12, s13, s14, s15, s16, s17, s18, s19, s20, s21, s22] (.int x :: St) := o_istore B hd rfl ho K
theorem o_istore_23_12 (B : o_Bo κ l Z n0 R y bytes ml ret) {s0 s1 s2 s3 s4 s5 s6 s7 s8 s9 s10 s11 s12 s13 s14 s15 s16 s17 s18 s19 s20 s21 s22 : Slot} {x : Int32} (hd : decode bytes pc = .ok (.istore 12, 2)) (ho : o_ok1 s12 = true) (K : o_Go κ Q h k n (pc + 2) [s0, s1, s2, s3, s4, s5, s6, s7, s8, s9, s10, s11, .val (.int x), s13, s14, s15, s16, s17, s18, s19, s20, s21, s22] St) : o_Go κ Q h k n pc [s0, s1, s2, s3, s4, s5, s6, s7, s8, s9, s10, s11, s12, s13, s14, s15, s16, s17, s18, s19, s20, s21, s22] (.int x :: St) := o_istore B hd rfl ho K
theorem o_istore_23_13 (B : o_Bo κ l Z n0 R y bytes ml ret) {s0 s1 s2 s3 s4 s5 s6 s7 s8 s9 s10 s11 s12 s13 s14 s15 s16 s17 s18 s19 s20 s21 s22 : Slot} {x : Int32} (hd : decode bytes pc = .ok (.istore 13, 2)) (ho : o_ok1 s13 = true) (K : o_Go κ Q h k n (pc + 2) [s0, s1, s2, s3, s4, s5, s6, s7, s8, s9, s10, s11, s12, .val (.int x), s14, s15, s16, s17, s18, s19, s20, s21, s22] St) : o_Go κ Q h k n pc [s0, s1, s2, s3, s4, s5, s6, s7, s8, s9, s10, s11, s12, s13, s14, s15, s16, s17, s18, s19, s20, s21, s22] (.int x :: St) := o_istore B hd rfl ho K
theorem o_istore_23_14 (B : o_Bo κ l Z n0 R y bytes ml ret) {s0 s1 s2 s3 s4 s5 s6 s7 s8 s9 s10 s11 s12 s13 s14 s15 s16 s17 s18 s19 s20 s21 s22 : Slot} {x : Int32} (hd : decode bytes pc = .ok (.istore 14, 2)) (ho : o_ok1 s14 = true) (K : o_Go κ Q h k n (pc + 2) [s0, s1, s2, s3, s4, s5, s6, s7, s8, s9, s10, s11, s12, s13, .val (.int x), s15, s16, s17, s18, s19, s20, s21, s22] St) : o_Go κ Q h k n pc [s0, s1, s2, s3, s4, s5, s6, s7, s8, s9, s10, s11, s12, s13, s14, s15, s16, s17, s18, s19, s20, s21, s22] (.int x :: St) := o_istore B hd rfl ho K
theorem o_istore_23_15 (B : o_Bo κ l Z n0 R y bytes ml ret) {s0 s1 s2 s3 s4 s5 s6 s7 s8 s9 s10 s11 s12 s13 s14 s15 s16 s17 s18 s19 s20 s21 s22 : Slot} {x : Int32} (hd : decode bytes pc = .ok (.istore 15, 2)) (ho : o_ok1 s15 = true) (K : o_Go κ Q h k n (pc + 2) [s0, s1, s2, s3, s4, s5, s6, s7, s8, s9, s10, s11, s12, s13, s14, .val (.int x), s16, s17, s18, s19, s20, s21, s22] St) : o_Go κ Q h k n pc [s0, s1, s2, s3, s4, s5, s6, s7, s8, s9, s10, s11, s12, s13, s14, s15, s16, s17, s18, s19, s20, s21, s22] (.int x :: St) := o_istore B hd rfl ho K
theorem o_istore_23_16 (B : o_Bo κ l Z n0 R y bytes ml ret) {s0 s1 s2 s3 s4 s5 s6 s7 s8 s9 s10 s11 s12 s13 s14 s15 s16 s17 s18 s19 s20 s21 s22 : Slot} {x : Int32} (hd : decode bytes pc = .ok (.istore 16, 2)) (ho : o_ok1 s16 = true) (K : o_Go κ Q h k n (pc + 2) [s0, s1, s2, s3, s4, s5, s6, s7, s8, s9, s10, s11, s12, s13, s14, s15, .val (.int x), s17, s18, s19, s20, s21, s22] St) : o_Go κ Q h k n pc [s0, s1, s2, s3, s4, s5, s6, s7, s8, s9, s10, s11, s12, s13, s14, s15, s16, s17, s18, s19, s20, s21, s22] (.int x :: St) := o_istore B hd rfl ho K
theorem o_istore_23_17 (B : o_Bo κ l Z n0 R y bytes ml ret) {s0 s1 s2 s3 s4 s5 s6 s7 s8 s9 s10 s11 s12 s13 s14 s15 s16 s17 s18 s19 s20 s21 s22 : Slot} {x : Int32} (hd : decode bytes pc = .ok (.istore 17, 2)) (ho : o_ok1 s17 = true) (K : o_Go κ Q h k n (pc + 2) [s0, s1, s2, s3, s4, s5, s6, s7, s8, s9, s10, s11, s12, s13, s14, s15, s16, .val (.int x), s18, s19, s20, s21, s22] St) : o_Go κ Q h k n pc [s0, s1, s2, s3, s4, s5, s6, s7, s8, s9, s10, s11, s12, s13, s14, s15, s16, s17, s18, s19, s20, s21, s22] (.int x :: St) := o_istore B hd rfl ho K
theorem o_istore_23_18 (B : o_Bo κ l Z n0 R y bytes ml ret) {s0 s1 s2 s3 s4 s5 s6 s7 s8 s9 s10 s11 s12 s13 s14 s15 s16 s17 s18 s19 s20 s21 s22 : Slot} {x : Int32} (hd : decode bytes pc = .ok (.istore 18, 2)) (ho : o_ok1 s18 = true) (K : o_Go κ Q h k n (pc + 2) [s0, s1, s2, s3, s4, s5, s6, s7, s8, s9, s10, s11, s12, s13, s14, s15, s16, s17, .val (.int x), s19, s20, s21, s22] St) : o_Go κ Q h k n pc [s0, s1, s2, s3, s4, s5, s6, s7, s8, s9, s10, s11, s12, s13, s14, s15, s16, s17, s18, s19, s20, s21, s22] (.int x :: St) := o_istore B hd rfl ho K
theorem o_istore_23_19 (B : o_Bo κ l Z n0 R y bytes ml ret) {s0 s1 s2 s3 s4 s5 s6 s7 s8 s9 s10 s11 s12 s13 s14 s15 s16 s17 s18 s19 s20 s21 s22 : Slot} {x : Int32} (hd : decode bytes pc = .ok (.istore 19, 2)) (ho : o_ok1 s19 = true) (K : o_Go κ Q h k n (pc + 2) [s0, s1, s2, s3, s4, s5, s6, s7, s8, s9, s10, s11, s12, s13, s14, s15, s16, s17, s18, .val (.int x), s20, s21, s22] St) : o_Go κ Q h k n pc [s0, s1, s2, s3, s4, s5, s6, s7, s8, s9, s10, s11, s12, s13, s14, s15, s16, s17, s18, s19, s20, s21, s22] (.int x :: St) := o_istore B hd rfl ho K
theorem o_istore_23_20 (B : o_Bo κ l Z n0 R y bytes ml ret) {s0 s1 s2 s3 s4 s5 s6 s7 s8 s9 s10 s11 s12 s13 s14 s15 s16 s17 s18 s19 s20 s21 s22 : Slot} {x : Int32} (hd : decode bytes pc = .ok (.istore 20, 2)) (ho : o_ok1 s20 = true) (K : o_Go κ Q h k n (pc + 2) [s0, s1, s2, s3, s4, s5, s6, s7, s8, s9, s10, s11, s12, s13, s14, s15, s16, s17, s18, s19, .val (.int x), s21, s22] St) : o_Go κ Q h k n pc [s0, s1, s2, s3, s4, s5, s6, s7, s8, s9, s10, s11, s12, s13, s14, s15, s16, s17, s18, s19, s20, s21, s22] (.int x :: St) := o_istore B hd rfl ho K
theorem o_istore_23_21 (B : o_Bo κ l Z n0 R y bytes ml ret) {s0 s1 s2 s3 s4 s5 s6 s7 s8 s9 s10 s11 s12 s13 s14 s15 s16 s17 s18 s19 s20 s21 s22 : Slot} {x : Int32} (hd : decode bytes pc = .ok (.istore 21, 2)) (ho : o_ok1 s21 = true) (K : o_Go κ Q h k n (pc + 2) [s0, s1, s2, s3, s4, s5, s6, s7, s8, s9, s10, s11, s12, s13, s14, s15, s16, s17, s18, s19, s20, .val (.int x), s22] St) : o_Go κ Q h k n pc [s0, s1, s2, s3, s4, s5, s6, s7, s8, s9, s10, s11, s12, s13, s14, s15, s16, s17, s18, s19, s20, s21, s22] (.int x :: St) := o_istore B hd rfl ho K
theorem o_istore_23_22 (B : o_Bo κ l Z n0 R y bytes ml ret) {s0 s1 s2 s3 s4 s5 s6 s7 s8 s9 s10 s11 s12 s13 s14 s15 s16 s17 s18 s19 s20 s21 s22 : Slot} {x : Int32} (hd : decode bytes pc = .ok (.istore 22, 2)) (ho : o_ok1 s22 = true) (K : o_Go κ Q h k n (pc + 2) [s0, s1, s2, s3, s4, s5, s6, s7, s8, s9, s10, s11, s12, s13, s14, s15, s16, s17, s18, s19, s20, s21, .val (.int x)] St) : o_Go κ Q h k n pc [s0, s1, s2, s3, s4, s5, s6, s7, s8, s9, s10, s11, s12, s13, s14, s15, s16, s17, s18, s19, s20, s21, s22] (.int x :: St) := o_istore B hd rfl ho K
theorem o_lstore_7_4 (B : o_Bo κ l Z n0 R y bytes ml ret) {s0 s1 s2 s3 s4 s5 s6 : Slot} {x : Int64} (hd : decode bytes pc = .ok (.lstore 4, 2)) (ho : o_okl s4 s5 = true) (K : o_Go κ Q h k n (pc + 2) [s0, s1, s2, s3, .val (.long x), .second, s6] St) : o_Go κ Q h k n pc [s0, s1, s2, s3, s4, s5, s6] (.long x :: St) := o_lstore B hd rfl rfl ho K
end Pats
theorem own_i32n (a : Nat) (h : a < 2 ^ 32) : (Int32.ofNat a).toBitVec.toNat = a := by
  show (BitVec.ofNat 32 a).toNat = a
  rw [BitVec.toNat_ofNat]; exact Nat.mod_eq_of_lt h
theorem own_i64n (a : Nat) (h : a < 2 ^ 64) : (Int64.ofNat a).toBitVec.toNat = a := by
  show (BitVec.ofNat 64 a).toNat = a
  rw [BitVec.toNat_ofNat]; exact Nat.mod_eq_of_lt h
theorem own_pow {j : Nat} (hj : j ≤ 30) : 2 ^ j ≤ 2 ^ 30 ∧ 0 < 2 ^ j := ⟨Nat.pow_le_pow_right (by decide) hj, Nat.two_pow_pos j⟩
theorem own_and (x : Int32) {j : Nat} (hj : j ≤ 30) : x &&& Int32.ofNat (2 ^ j - 1) = Int32.ofNat (x.toBitVec.toNat % 2 ^ j) := by
  obtain ⟨p1, p2⟩ := own_pow hj
  have m := Nat.mod_lt x.toBitVec.toNat p2
  apply Int32.toBitVec_inj.mp; apply BitVec.eq_of_toNat_eq
  rw [Int32.toBitVec_and, BitVec.toNat_and, own_i32n _ (by omega), own_i32n _ (by omega), Nat.and_two_pow_sub_one_eq_mod]
theorem own_andL (x : Int64) {j : Nat} (hj : j ≤ 30) : x &&& Int64.ofNat (2 ^ j - 1) = Int64.ofNat (x.toBitVec.toNat % 2 ^ j) := by
  obtain ⟨p1, p2⟩ := own_pow hj
  have m := Nat.mod_lt x.toBitVec.toNat p2
  apply Int64.toBitVec_inj.mp; apply BitVec.eq_of_toNat_eq
  rw [Int64.toBitVec_and, BitVec.toNat_and, own_i64n _ (by omega), own_i64n _ (by omega), Nat.and_two_pow_sub_one_eq_mod]
theorem own_sub1 {j : Nat} (hj : j ≤ 30) : Int32.ofNat (2 ^ j) - 1 = Int32.ofNat (2 ^ j - 1) := by
  obtain ⟨p1, p2⟩ := own_pow hj
  have e : 2 ^ j = (2 ^ j - 1) + 1 := by omega
  have e2 : Int32.ofNat (2 ^ j) = Int32.ofNat (2 ^ j - 1) + 1 := by
    rw [show (1 : Int32) = Int32.ofNat 1 from rfl, ← Int32.ofNat_add, ← e]
  rw [e2, Int32.add_sub_cancel]
theorem own_toInt {a : Nat} (h : a < 2 ^ 31) : (Int32.ofNat a).toInt = a := Int32.toInt_ofNat_of_lt h
theorem own_one (x : Nat) : Int32.ofNat x + 1 = Int32.ofNat (x + 1) := (Int32.ofNat_add x 1).symm
theorem own_step {x j : Nat} (hj : j ≤ 30) (hx : x < 2 ^ j) : (Int32.ofNat x + 1) &&& Int32.ofNat (2 ^ j - 1) = Int32.ofNat ((x + 1) % 2 ^ j) := by
  obtain ⟨p1, p2⟩ := own_pow hj
  rw [own_one, own_and _ hj, own_i32n _ (by omega)]
theorem own_wide {a : Nat} (h : a < 2 ^ 31) : (Int32.ofNat a).toInt64 = Int64.ofNat a := by
  apply Int64.toInt_inj.mp
  rw [Int32.toInt_toInt64, own_toInt h, Int64.toInt_ofNat_of_lt (by omega)]
theorem own_narrow {a : Nat} (h : a < 2 ^ 31) : (Int64.ofNat a).toInt32 = Int32.ofNat a := by
  apply Int32.toBitVec_inj.mp; apply BitVec.eq_of_toNat_eq
  show ((Int64.ofNat a).toBitVec.signExtend 32).toNat = _
  rw [BitVec.signExtend_eq_setWidth_of_le _ (by decide), BitVec.toNat_setWidth, own_i64n _ (by omega), own_i32n _ (by omega)]
  exact Nat.mod_eq_of_lt (by omega)
theorem own_s1 (key : Int64) {j : Nat} (hj : j ≤ 30) : (key &&& (Int32.ofNat (2 ^ j - 1)).toInt64).toInt32 = Int32.ofNat (key.toBitVec.toNat % 2 ^ j) := by
  obtain ⟨p1, p2⟩ := own_pow hj
  have m := Nat.mod_lt key.toBitVec.toNat p2
  rw [own_wide (by omega), own_andL _ hj, own_narrow (by omega)]
theorem own_s2 (key : Int64) {j : Nat} (hj : j ≤ 30) : key.toInt32 &&& Int32.ofNat (2 ^ j - 1) = Int32.ofNat (key.toBitVec.toNat % 2 ^ j) := by
  rw [own_and _ hj]
  have e : key.toInt32.toBitVec.toNat = key.toBitVec.toNat % 2 ^ 32 := by
    show (key.toBitVec.signExtend 32).toNat = _
    rw [BitVec.signExtend_eq_setWidth_of_le _ (by decide), BitVec.toNat_setWidth]
  rw [e, Nat.mod_mod_of_dvd _ (Nat.pow_dvd_pow 2 (by omega : j ≤ 32))]
theorem own_rem {a b : Nat} (ha : a < 2 ^ 31) (hb : b < 2 ^ 31) : Int32.ofNat a % Int32.ofNat b = Int32.ofNat (a % b) := by
  have hm : a % b ≤ a := Nat.mod_le a b
  apply Int32.toInt_inj.mp
  rw [Int32.toInt_mod, own_toInt ha, own_toInt hb, own_toInt (by omega)]
  exact (Int.ofNat_tmod a b).symm
theorem own_ne0 {a : Nat} (h0 : 0 < a) (ha : a < 2 ^ 31) : Int32.ofNat a ≠ 0 := fun q => by
  have := congrArg Int32.toInt q
  rw [own_toInt ha] at this
  have z : (0 : Int32).toInt = 0 := rfl
  omega
theorem own_nn {a : Nat} (ha : a < 2 ^ 31) : ¬ Int32.ofNat a < 0 := by
  rw [Int32.lt_iff_toInt_lt, own_toInt ha]
  have z : (0 : Int32).toInt = 0 := rfl
  omega
theorem own_ltn {a b : Nat} (ha : a < 2 ^ 31) (hb : b < 2 ^ 31) : Int32.ofNat a < Int32.ofNat b ↔ a < b := by
  rw [Int32.lt_iff_toInt_lt, own_toInt ha, own_toInt hb]; omega
theorem own_inj {a b : Nat} (ha : a < 2 ^ 31) (hb : b < 2 ^ 31) : Int32.ofNat a = Int32.ofNat b ↔ a = b := by
  rw [← Int32.toInt_inj, own_toInt ha, own_toInt hb]; omega
theorem own_least {p : Nat → Prop} (hd : ∀ d, p d ∨ ¬ p d) : ∀ n, (∃ d, d < n ∧ p d) → ∃ d0, d0 < n ∧ p d0 ∧ ∀ d, d < d0 → ¬ p d
  | 0, ⟨d, h, _⟩ => absurd h (Nat.not_lt_zero d)
  | n + 1, ⟨d, h, q⟩ => by
    by_cases e : ∃ d, d < n ∧ p d
    · obtain ⟨d0, h1, h2, h3⟩ := own_least hd n e
      exact ⟨d0, by omega, h2, h3⟩
    · have hdn : d = n := by
        have : ¬ d < n := fun x => e ⟨d, x, q⟩
        omega
      subst hdn
      exact ⟨d, by omega, q, fun x hx px => e ⟨x, hx, px⟩⟩
/-- where the probe for v starts -/
def own_h (sh v : Int32) : Nat := (XT.ushr (v * (-1640531527)) sh).toBitVec.toNat
theorem own_h_eq (sh v : Int32) : XT.ushr (v * (-1640531527)) sh = Int32.ofNat (own_h sh v) := by
  apply Int32.toBitVec_inj.mp
  show _ = BitVec.ofNat 32 _
  simp [own_h]
theorem own_h29 (v : Int32) : own_h 29 v < 2 ^ 3 := by
  show ((v * (-1640531527)).toBitVec >>> 29).toNat < 2 ^ 3
  rw [BitVec.toNat_ushiftRight, Nat.shiftRight_eq_div_pow]
  have := (v * (-1640531527)).toBitVec.isLt
  omega
theorem own_h28 (v : Int32) : own_h 28 v < 2 ^ 4 := by
  show ((v * (-1640531527)).toBitVec >>> 28).toNat < 2 ^ 4
  rw [BitVec.toNat_ushiftRight, Nat.shiftRight_eq_div_pow]
  have := (v * (-1640531527)).toBitVec.isLt
  omega
theorem own_h27 (v : Int32) : own_h 27 v < 2 ^ 5 := by
  show ((v * (-1640531527)).toBitVec >>> 27).toNat < 2 ^ 5
  rw [BitVec.toNat_ushiftRight, Nat.shiftRight_eq_div_pow]
  have := (v * (-1640531527)).toBitVec.isLt
  omega
/-- the table: ent the values numbered so far, P the slots that they took -/
def own_T (j : Nat) (H : Int32 → Nat) (st : Int32) (Ks Is Ss ent : List Int32) (P : List Nat) : Prop :=
  Ks.length = 2 ^ j ∧ Is.length = 2 ^ j ∧ Ss.length = 2 ^ j ∧ P.length = ent.length ∧
  (∀ s, s < 2 ^ j → s ∈ P → Ss[s]? = some st) ∧ (∀ s, s < 2 ^ j → s ∉ P → ∃ x, Ss[s]? = some x ∧ x ≠ st) ∧
  (∀ p : Nat, p ∈ P → p < 2 ^ j ∧ ∃ (i : Nat) (v : Int32), P[i]? = some p ∧ ent[i]? = some v) ∧
  (∀ (i p : Nat) (v : Int32), P[i]? = some p → ent[i]? = some v → Ks[p]? = some v ∧ Is[p]? = some (Int32.ofNat i) ∧ ∃ d, p = (H v + d) % 2 ^ j ∧ ∀ d', d' < d → (H v + d') % 2 ^ j ∈ P ∧ Ks[(H v + d') % 2 ^ j]? ≠ some v)
theorem own_T_new {j : Nat} {H : Int32 → Nat} {st : Int32} {Ks Is Ss : List Int32} (h1 : Ks.length = 2 ^ j) (h2 : Is.length = 2 ^ j) (h3 : Ss.length = 2 ^ j) (h4 : ∀ (i : Nat) (x : Int32), Ss[i]? = some x → x ≠ st) : own_T j H st Ks Is Ss [] [] := by
  refine ⟨h1, h2, h3, rfl, fun s _ q => by simp at q, fun s hs _ => ⟨Ss[s]'(by omega), List.getElem?_eq_getElem (by omega), h4 s _ (List.getElem?_eq_getElem (by omega))⟩, fun p q => by simp at q, fun i p v q => by simp at q⟩
theorem own_free {P : List Nat} {j : Nat} (hP : P.length ≤ 2) (hj : 3 ≤ j) : ∃ s, s < 2 ^ j ∧ s ∉ P := by
  have p8 : 2 ^ 3 ≤ 2 ^ j := Nat.pow_le_pow_right (by decide) hj
  match P, hP with
  | [], _ => exact ⟨0, by omega, by simp⟩
  | [a], _ =>
    by_cases e : a = 0
    · exact ⟨1, by omega, by simp; omega⟩
    · exact ⟨0, by omega, by simp; omega⟩
  | [a, b], _ =>
    by_cases e0 : a = 0 ∨ b = 0
    · by_cases e1 : a = 1 ∨ b = 1
      · exact ⟨2, by omega, by simp; omega⟩
      · exact ⟨1, by omega, by simp; omega⟩
    · exact ⟨0, by omega, by simp; omega⟩
  | _ :: _ :: _ :: _, h => simp at h
/-- a value that is not there: its probe meets taken slots that hold other values, then a free one -/
theorem own_T_miss {j : Nat} {H : Int32 → Nat} {st v : Int32} {Ks Is Ss ent : List Int32} {P : List Nat} (T : own_T j H st Ks Is Ss ent P) (hj : 3 ≤ j) (hlen : ent.length ≤ 2) (hh : H v < 2 ^ j) (hv : v ∉ ent) :
    ∃ d0, (H v + d0) % 2 ^ j ∉ P ∧ ∀ d, d < d0 → (H v + d) % 2 ^ j ∈ P ∧ ∃ u, Ks[(H v + d) % 2 ^ j]? = some u ∧ u ≠ v := by
  obtain ⟨t1, t2, t3, t4, t5, t6, t7, t8⟩ := T
  have pp : 0 < 2 ^ j := Nat.two_pow_pos j
  obtain ⟨s, s1, s2⟩ := own_free (P := P) (by omega) hj
  obtain ⟨d0, -, q1, q2⟩ := own_least (p := fun d => (H v + d) % 2 ^ j ∉ P) (fun d => (Classical.em _)) (2 ^ j) ⟨(s + 2 ^ j - H v) % 2 ^ j, Nat.mod_lt _ pp, by
    show (H v + (s + 2 ^ j - H v) % 2 ^ j) % 2 ^ j ∉ P
    rw [Nat.add_mod_mod, show H v + (s + 2 ^ j - H v) = s + 2 ^ j by omega, Nat.add_mod_right, Nat.mod_eq_of_lt s1]
    exact s2⟩
  refine ⟨d0, q1, fun d hd => ?_⟩
  have m : (H v + d) % 2 ^ j ∈ P := Classical.not_not.mp (q2 d hd)
  obtain ⟨-, i, u, i1, i2⟩ := t7 _ m
  exact ⟨m, u, (t8 i _ u i1 i2).1, fun e => hv (e ▸ List.mem_of_getElem? i2)⟩
theorem own_T_hit {j i : Nat} {H : Int32 → Nat} {st v : Int32} {Ks Is Ss ent : List Int32} {P : List Nat} (T : own_T j H st Ks Is Ss ent P) (hi : ent[i]? = some v) :
    ∃ d0, ((H v + d0) % 2 ^ j ∈ P ∧ Ks[(H v + d0) % 2 ^ j]? = some v ∧ Is[(H v + d0) % 2 ^ j]? = some (Int32.ofNat i)) ∧ ∀ d, d < d0 → (H v + d) % 2 ^ j ∈ P ∧ ∃ u, Ks[(H v + d) % 2 ^ j]? = some u ∧ u ≠ v := by
  obtain ⟨t1, t2, t3, t4, t5, t6, t7, t8⟩ := T
  have pp : 0 < 2 ^ j := Nat.two_pow_pos j
  have hl : i < P.length := by rw [t4]; exact (List.getElem?_eq_some_iff.mp hi).1
  obtain ⟨a, b, d, e, f⟩ := t8 i P[i] v (List.getElem?_eq_getElem hl) hi
  rw [e] at a b
  refine ⟨d, ⟨by rw [← e]; exact List.getElem_mem hl, a, b⟩, fun d' hd' => ⟨(f d' hd').1, ?_⟩⟩
  have m : (H v + d') % 2 ^ j < Ks.length := by rw [t1]; exact Nat.mod_lt _ pp
  exact ⟨Ks[(H v + d') % 2 ^ j], List.getElem?_eq_getElem m, fun q => (f d' hd').2 (by rw [List.getElem?_eq_getElem m, q])⟩
theorem own_T_add {j d0 : Nat} {H : Int32 → Nat} {st v : Int32} {Ks Is Ss ent : List Int32} {P : List Nat} (T : own_T j H st Ks Is Ss ent P) (q1 : (H v + d0) % 2 ^ j ∉ P) (q2 : ∀ d, d < d0 → (H v + d) % 2 ^ j ∈ P ∧ ∃ u, Ks[(H v + d) % 2 ^ j]? = some u ∧ u ≠ v) :
    own_T j H st (Ks.set ((H v + d0) % 2 ^ j) v) (Is.set ((H v + d0) % 2 ^ j) (Int32.ofNat ent.length)) (Ss.set ((H v + d0) % 2 ^ j) st) (ent ++ [v]) (P ++ [(H v + d0) % 2 ^ j]) := by
  obtain ⟨t1, t2, t3, t4, t5, t6, t7, t8⟩ := T
  have pp : 0 < 2 ^ j := Nat.two_pow_pos j
  have hm : (H v + d0) % 2 ^ j < 2 ^ j := Nat.mod_lt _ pp
  have hq : ∀ d, d < d0 → (H v + d) % 2 ^ j ∈ P ∧ ∃ u, Ks[(H v + d) % 2 ^ j]? = some u ∧ u ≠ v := q2
  generalize es : (H v + d0) % 2 ^ j = s at *
  refine ⟨by simpa using t1, by simpa using t2, by simpa using t3, by simp [t4], fun a ha q => ?_, fun a ha q => ?_, fun p q => ?_, fun i p u r1 r2 => ?_⟩
  · by_cases e : a = s
    · subst e; rw [List.getElem?_set_self (by omega)]
    · rw [List.getElem?_set_ne (Ne.symm e)]
      simp [e] at q; exact t5 a ha q
  · simp at q
    rw [List.getElem?_set_ne (Ne.symm q.2)]
    exact t6 a ha q.1
  · simp at q
    rcases q with q | q
    · obtain ⟨a, i, u, b, c⟩ := t7 p q
      exact ⟨a, i, u, by rw [List.getElem?_append_left (List.getElem?_eq_some_iff.mp b).1]; exact b, by rw [List.getElem?_append_left (List.getElem?_eq_some_iff.mp c).1]; exact c⟩
    · subst q
      exact ⟨hm, P.length, v, by simp, by rw [t4]; simp⟩
  · by_cases e : i < P.length
    · have e' : i < ent.length := by omega
      rw [List.getElem?_append_left e] at r1
      rw [List.getElem?_append_left e'] at r2
      obtain ⟨a, b, d, c, f⟩ := t8 i p u r1 r2
      have np : p ≠ s := fun z => q1 (z ▸ List.mem_of_getElem? r1)
      refine ⟨by rw [List.getElem?_set_ne (Ne.symm np)]; exact a, by rw [List.getElem?_set_ne (Ne.symm np)]; exact b, d, c, fun d' hd' => ?_⟩
      obtain ⟨g1, g2⟩ := f d' hd'
      have ns : (H u + d') % 2 ^ j ≠ s := fun z => q1 (z ▸ g1)
      exact ⟨List.mem_append_left _ g1, by rw [List.getElem?_set_ne (Ne.symm ns)]; exact g2⟩
    · have ei : i = P.length := by
        have := (List.getElem?_eq_some_iff.mp r1).1
        simp at this; omega
      subst ei
      simp at r1
      rw [t4] at r2; simp at r2
      subst r1; subst r2
      refine ⟨by rw [List.getElem?_set_self (by omega)], by rw [List.getElem?_set_self (by omega), t4], d0, es.symm, fun d' hd' => ?_⟩
      obtain ⟨g1, u, g2, g3⟩ := hq d' hd'
      have ns : (H v + d') % 2 ^ j ≠ s := fun z => q1 (z ▸ g1)
      exact ⟨List.mem_append_left _ g1, by rw [List.getElem?_set_ne (Ne.symm ns), g2]; simpa using g3⟩
abbrev own_VI : String := "com/example/trailhead/trailhead/globals/ValueIds"
def own_Ob (Z : State) (n0 : Nat) (h : Heap) (o k i s v : Addr) (off lo cnt st sh : Int32) (Ks Is Ss Vs : List Int32) : Prop :=
  n0 ≤ o ∧ n0 ≤ k ∧ n0 ≤ i ∧ n0 ≤ s ∧ n0 ≤ v ∧ o ≠ k ∧ o ≠ i ∧ o ≠ s ∧ o ≠ v ∧ k ≠ i ∧ k ≠ s ∧ k ≠ v ∧ i ≠ s ∧ i ≠ v ∧ s ≠ v ∧ Exa Z h o own_VI ∧ Fld Z h o own_VI "offsets" "Z" (.int off) ∧ Fld Z h o own_VI "lo" "I" (.int lo) ∧ Fld Z h o own_VI "count" "I" (.int cnt) ∧ Fld Z h o own_VI "stamp" "I" (.int st) ∧ Fld Z h o own_VI "shift" "I" (.int sh) ∧ Fld Z h o own_VI "keys" "[I" (.ref k) ∧ Fld Z h o own_VI "ids" "[I" (.ref i) ∧ Fld Z h o own_VI "stamps" "[I" (.ref s) ∧ Fld Z h o own_VI "values" "[I" (.ref v) ∧ o_IA Z h k Ks ∧ o_IA Z h i Is ∧ o_IA Z h s Ss ∧ o_IA Z h v Vs
section Ob
variable {Z : State} {a0 : Array Value} {n0 : Nat} {h h' : Heap} {o k i s v b : Addr} {off lo cnt st sh x : Int32} {Ks Is Ss Vs L : List Int32} {j : Nat}
theorem own_Ob.p_g0 (O : own_Ob Z n0 h o k i s v off lo cnt st sh Ks Is Ss Vs) : n0 ≤ o := O.1
theorem own_Ob.p_gk (O : own_Ob Z n0 h o k i s v off lo cnt st sh Ks Is Ss Vs) : n0 ≤ k := O.2.1
theorem own_Ob.p_gi (O : own_Ob Z n0 h o k i s v off lo cnt st sh Ks Is Ss Vs) : n0 ≤ i := O.2.2.1
theorem own_Ob.p_gs (O : own_Ob Z n0 h o k i s v off lo cnt st sh Ks Is Ss Vs) : n0 ≤ s := O.2.2.2.1
theorem own_Ob.p_gv (O : own_Ob Z n0 h o k i s v off lo cnt st sh Ks Is Ss Vs) : n0 ≤ v := O.2.2.2.2.1
theorem own_Ob.p_ok (O : own_Ob Z n0 h o k i s v off lo cnt st sh Ks Is Ss Vs) : o ≠ k := O.2.2.2.2.2.1
theorem own_Ob.p_oi (O : own_Ob Z n0 h o k i s v off lo cnt st sh Ks Is Ss Vs) : o ≠ i := O.2.2.2.2.2.2.1
theorem own_Ob.p_os (O : own_Ob Z n0 h o k i s v off lo cnt st sh Ks Is Ss Vs) : o ≠ s := O.2.2.2.2.2.2.2.1
theorem own_Ob.p_ov (O : own_Ob Z n0 h o k i s v off lo cnt st sh Ks Is Ss Vs) : o ≠ v := O.2.2.2.2.2.2.2.2.1
theorem own_Ob.p_ki (O : own_Ob Z n0 h o k i s v off lo cnt st sh Ks Is Ss Vs) : k ≠ i := O.2.2.2.2.2.2.2.2.2.1
theorem own_Ob.p_ks (O : own_Ob Z n0 h o k i s v off lo cnt st sh Ks Is Ss Vs) : k ≠ s := O.2.2.2.2.2.2.2.2.2.2.1
theorem own_Ob.p_kv (O : own_Ob Z n0 h o k i s v off lo cnt st sh Ks Is Ss Vs) : k ≠ v := O.2.2.2.2.2.2.2.2.2.2.2.1
theorem own_Ob.p_is_ (O : own_Ob Z n0 h o k i s v off lo cnt st sh Ks Is Ss Vs) : i ≠ s := O.2.2.2.2.2.2.2.2.2.2.2.2.1
theorem own_Ob.p_iv (O : own_Ob Z n0 h o k i s v off lo cnt st sh Ks Is Ss Vs) : i ≠ v := O.2.2.2.2.2.2.2.2.2.2.2.2.2.1
theorem own_Ob.p_sv (O : own_Ob Z n0 h o k i s v off lo cnt st sh Ks Is Ss Vs) : s ≠ v := O.2.2.2.2.2.2.2.2.2.2.2.2.2.2.1
theorem own_Ob.p_E (O : own_Ob Z n0 h o k i s v off lo cnt st sh Ks Is Ss Vs) : Exa Z h o own_VI := O.2.2.2.2.2.2.2.2.2.2.2.2.2.2.2.1
theorem own_Ob.p_Foffsets (O : own_Ob Z n0 h o k i s v off lo cnt st sh Ks Is Ss Vs) : Fld Z h o own_VI "offsets" "Z" (.int off) := O.2.2.2.2.2.2.2.2.2.2.2.2.2.2.2.2.1
theorem own_Ob.p_Flo (O : own_Ob Z n0 h o k i s v off lo cnt st sh Ks Is Ss Vs) : Fld Z h o own_VI "lo" "I" (.int lo) := O.2.2.2.2.2.2.2.2.2.2.2.2.2.2.2.2.2.1
theorem own_Ob.p_Fcount (O : own_Ob Z n0 h o k i s v off lo cnt st sh Ks Is Ss Vs) : Fld Z h o own_VI "count" "I" (.int cnt) := O.2.2.2.2.2.2.2.2.2.2.2.2.2.2.2.2.2.2.1
theorem own_Ob.p_Fstamp (O : own_Ob Z n0 h o k i s v off lo cnt st sh Ks Is Ss Vs) : Fld Z h o own_VI "stamp" "I" (.int st) := O.2.2.2.2.2.2.2.2.2.2.2.2.2.2.2.2.2.2.2.1
theorem own_Ob.p_Fshift (O : own_Ob Z n0 h o k i s v off lo cnt st sh Ks Is Ss Vs) : Fld Z h o own_VI "shift" "I" (.int sh) := O.2.2.2.2.2.2.2.2.2.2.2.2.2.2.2.2.2.2.2.2.1
theorem own_Ob.p_Fkeys (O : own_Ob Z n0 h o k i s v off lo cnt st sh Ks Is Ss Vs) : Fld Z h o own_VI "keys" "[I" (.ref k) := O.2.2.2.2.2.2.2.2.2.2.2.2.2.2.2.2.2.2.2.2.2.1
theorem own_Ob.p_Fids (O : own_Ob Z n0 h o k i s v off lo cnt st sh Ks Is Ss Vs) : Fld Z h o own_VI "ids" "[I" (.ref i) := O.2.2.2.2.2.2.2.2.2.2.2.2.2.2.2.2.2.2.2.2.2.2.1
theorem own_Ob.p_Fstamps (O : own_Ob Z n0 h o k i s v off lo cnt st sh Ks Is Ss Vs) : Fld Z h o own_VI "stamps" "[I" (.ref s) := O.2.2.2.2.2.2.2.2.2.2.2.2.2.2.2.2.2.2.2.2.2.2.2.1
theorem own_Ob.p_Fvalues (O : own_Ob Z n0 h o k i s v off lo cnt st sh Ks Is Ss Vs) : Fld Z h o own_VI "values" "[I" (.ref v) := O.2.2.2.2.2.2.2.2.2.2.2.2.2.2.2.2.2.2.2.2.2.2.2.2.1
theorem own_Ob.p_Ak (O : own_Ob Z n0 h o k i s v off lo cnt st sh Ks Is Ss Vs) : o_IA Z h k Ks := O.2.2.2.2.2.2.2.2.2.2.2.2.2.2.2.2.2.2.2.2.2.2.2.2.2.1
theorem own_Ob.p_Ai (O : own_Ob Z n0 h o k i s v off lo cnt st sh Ks Is Ss Vs) : o_IA Z h i Is := O.2.2.2.2.2.2.2.2.2.2.2.2.2.2.2.2.2.2.2.2.2.2.2.2.2.2.1
theorem own_Ob.p_As (O : own_Ob Z n0 h o k i s v off lo cnt st sh Ks Is Ss Vs) : o_IA Z h s Ss := O.2.2.2.2.2.2.2.2.2.2.2.2.2.2.2.2.2.2.2.2.2.2.2.2.2.2.2.1
theorem own_Ob.p_Av (O : own_Ob Z n0 h o k i s v off lo cnt st sh Ks Is Ss Vs) : o_IA Z h v Vs := O.2.2.2.2.2.2.2.2.2.2.2.2.2.2.2.2.2.2.2.2.2.2.2.2.2.2.2.2
theorem own_Ob.ext (O : own_Ob Z n0 h o k i s v off lo cnt st sh Ks Is Ss Vs) (X : Ext h h') : own_Ob Z n0 h' o k i s v off lo cnt st sh Ks Is Ss Vs := by
  obtain ⟨g0, gk, gi, gs, gv, ok, oi, os, ov, ki, ks, kv, is_, iv, sv, E, Foffsets, Flo, Fcount, Fstamp, Fshift, Fkeys, Fids, Fstamps, Fvalues, Ak, Ai, As, Av⟩ := O
  exact ⟨g0, gk, gi, gs, gv, ok, oi, os, ov, ki, ks, kv, is_, iv, sv, E.ext X, Foffsets.ext X, Flo.ext X, Fcount.ext X, Fstamp.ext X, Fshift.ext X, Fkeys.ext X, Fids.ext X, Fstamps.ext X, Fvalues.ext X, Ak.ext X, Ai.ext X, As.ext X, Av.ext X⟩
theorem own_Ob.w_offsets (hw : ∀ d ∈ tables_1, d.before a0 Z = true) (O : own_Ob Z n0 h o k i s v off lo cnt st sh Ks Is Ss Vs) (W : Wr h h' o (Jvm.RoadKit.slotOf Z own_VI "offsets" "Z") (.int x)) : own_Ob Z n0 h' o k i s v x lo cnt st sh Ks Is Ss Vs := by
  obtain ⟨g0, gk, gi, gs, gv, ok, oi, os, ov, ki, ks, kv, is_, iv, sv, E, Foffsets, Flo, Fcount, Fstamp, Fshift, Fkeys, Fids, Fstamps, Fvalues, Ak, Ai, As, Av⟩ := O
  exact ⟨g0, gk, gi, gs, gv, ok, oi, os, ov, ki, ks, kv, is_, iv, sv, E.wr W, Foffsets.same W, Flo.other W (Or.inr (slot_ne (C := own_VI) (Or.inl (hw _ (List.mem_of_getElem? (i := 33) rfl))) (Or.inl (hw _ (List.mem_of_getElem? (i := 31) rfl))) (by decide) (by decide : parseFieldDescriptor "I" = some .int) (by decide : parseFieldDescriptor "Z" = some .boolean))), Fcount.other W (Or.inr (slot_ne (C := own_VI) (Or.inl (hw _ (List.mem_of_getElem? (i := 35) rfl))) (Or.inl (hw _ (List.mem_of_getElem? (i := 31) rfl))) (by decide) (by decide : parseFieldDescriptor "I" = some .int) (by decide : parseFieldDescriptor "Z" = some .boolean))), Fstamp.other W (Or.inr (slot_ne (C := own_VI) (Or.inl (hw _ (List.mem_of_getElem? (i := 62) rfl))) (Or.inl (hw _ (List.mem_of_getElem? (i := 31) rfl))) (by decide) (by decide : parseFieldDescriptor "I" = some .int) (by decide : parseFieldDescriptor "Z" = some .boolean))), Fshift.other W (Or.inr (slot_ne (C := own_VI) (Or.inl (hw _ (List.mem_of_getElem? (i := 60) rfl))) (Or.inl (hw _ (List.mem_of_getElem? (i := 31) rfl))) (by decide) (by decide : parseFieldDescriptor "I" = some .int) (by decide : parseFieldDescriptor "Z" = some .boolean))), Fkeys.other W (Or.inr (slot_ne (C := own_VI) (Or.inl (hw _ (List.mem_of_getElem? (i := 11) rfl))) (Or.inl (hw _ (List.mem_of_getElem? (i := 31) rfl))) (by decide) (by decide : parseFieldDescriptor "[I" = some (.array .int)) (by decide : parseFieldDescriptor "Z" = some .boolean))), Fids.other W (Or.inr (slot_ne (C := own_VI) (Or.inl (hw _ (List.mem_of_getElem? (i := 13) rfl))) (Or.inl (hw _ (List.mem_of_getElem? (i := 31) rfl))) (by decide) (by decide : parseFieldDescriptor "[I" = some (.array .int)) (by decide : parseFieldDescriptor "Z" = some .boolean))), Fstamps.other W (Or.inr (slot_ne (C := own_VI) (Or.inl (hw _ (List.mem_of_getElem? (i := 15) rfl))) (Or.inl (hw _ (List.mem_of_getElem? (i := 31) rfl))) (by decide) (by decide : parseFieldDescriptor "[I" = some (.array .int)) (by decide : parseFieldDescriptor "Z" = some .boolean))), Fvalues.other W (Or.inr (slot_ne (C := own_VI) (Or.inl (hw _ (List.mem_of_getElem? (i := 17) rfl))) (Or.inl (hw _ (List.mem_of_getElem? (i := 31) rfl))) (by decide) (by decide : parseFieldDescriptor "[I" = some (.array .int)) (by decide : parseFieldDescriptor "Z" = some .boolean))), Ak.other W (Ne.symm ok), Ai.other W (Ne.symm oi), As.other W (Ne.symm os), Av.other W (Ne.symm ov)⟩
theorem own_Ob.w_lo (hw : ∀ d ∈ tables_1, d.before a0 Z = true) (O : own_Ob Z n0 h o k i s v off lo cnt st sh Ks Is Ss Vs) (W : Wr h h' o (Jvm.RoadKit.slotOf Z own_VI "lo" "I") (.int x)) : own_Ob Z n0 h' o k i s v off x cnt st sh Ks Is Ss Vs := by
  obtain ⟨g0, gk, gi, gs, gv, ok, oi, os, ov, ki, ks, kv, is_, iv, sv, E, Foffsets, Flo, Fcount, Fstamp, Fshift, Fkeys, Fids, Fstamps, Fvalues, Ak, Ai, As, Av⟩ := O
  exact ⟨g0, gk, gi, gs, gv, ok, oi, os, ov, ki, ks, kv, is_, iv, sv, E.wr W, Foffsets.other W (Or.inr (slot_ne (C := own_VI) (Or.inl (hw _ (List.mem_of_getElem? (i := 31) rfl))) (Or.inl (hw _ (List.mem_of_getElem? (i := 33) rfl))) (by decide) (by decide : parseFieldDescriptor "Z" = some .boolean) (by decide : parseFieldDescriptor "I" = some .int))), Flo.same W, Fcount.other W (Or.inr (slot_ne (C := own_VI) (Or.inl (hw _ (List.mem_of_getElem? (i := 35) rfl))) (Or.inl (hw _ (List.mem_of_getElem? (i := 33) rfl))) (by decide) (by decide : parseFieldDescriptor "I" = some .int) (by decide : parseFieldDescriptor "I" = some .int))), Fstamp.other W (Or.inr (slot_ne (C := own_VI) (Or.inl (hw _ (List.mem_of_getElem? (i := 62) rfl))) (Or.inl (hw _ (List.mem_of_getElem? (i := 33) rfl))) (by decide) (by decide : parseFieldDescriptor "I" = some .int) (by decide : parseFieldDescriptor "I" = some .int))), Fshift.other W (Or.inr (slot_ne (C := own_VI) (Or.inl (hw _ (List.mem_of_getElem? (i := 60) rfl))) (Or.inl (hw _ (List.mem_of_getElem? (i := 33) rfl))) (by decide) (by decide : parseFieldDescriptor "I" = some .int) (by decide : parseFieldDescriptor "I" = some .int))), Fkeys.other W (Or.inr (slot_ne (C := own_VI) (Or.inl (hw _ (List.mem_of_getElem? (i := 11) rfl))) (Or.inl (hw _ (List.mem_of_getElem? (i := 33) rfl))) (by decide) (by decide : parseFieldDescriptor "[I" = some (.array .int)) (by decide : parseFieldDescriptor "I" = some .int))), Fids.other W (Or.inr (slot_ne (C := own_VI) (Or.inl (hw _ (List.mem_of_getElem? (i := 13) rfl))) (Or.inl (hw _ (List.mem_of_getElem? (i := 33) rfl))) (by decide) (by decide : parseFieldDescriptor "[I" = some (.array .int)) (by decide : parseFieldDescriptor "I" = some .int))), Fstamps.other W (Or.inr (slot_ne (C := own_VI) (Or.inl (hw _ (List.mem_of_getElem? (i := 15) rfl))) (Or.inl (hw _ (List.mem_of_getElem? (i := 33) rfl))) (by decide) (by decide : parseFieldDescriptor "[I" = some (.array .int)) (by decide : parseFieldDescriptor "I" = some .int))), Fvalues.other W (Or.inr (slot_ne (C := own_VI) (Or.inl (hw _ (List.mem_of_getElem? (i := 17) rfl))) (Or.inl (hw _ (List.mem_of_getElem? (i := 33) rfl))) (by decide) (by decide : parseFieldDescriptor "[I" = some (.array .int)) (by decide : parseFieldDescriptor "I" = some .int))), Ak.other W (Ne.symm ok), Ai.other W (Ne.symm oi), As.other W (Ne.symm os), Av.other W (Ne.symm ov)⟩
theorem own_Ob.w_count (hw : ∀ d ∈ tables_1, d.before a0 Z = true) (O : own_Ob Z n0 h o k i s v off lo cnt st sh Ks Is Ss Vs) (W : Wr h h' o (Jvm.RoadKit.slotOf Z own_VI "count" "I") (.int x)) : own_Ob Z n0 h' o k i s v off lo x st sh Ks Is Ss Vs := by
  obtain ⟨g0, gk, gi, gs, gv, ok, oi, os, ov, ki, ks, kv, is_, iv, sv, E, Foffsets, Flo, Fcount, Fstamp, Fshift, Fkeys, Fids, Fstamps, Fvalues, Ak, Ai, As, Av⟩ := O
  exact ⟨g0, gk, gi, gs, gv, ok, oi, os, ov, ki, ks, kv, is_, iv, sv, E.wr W, Foffsets.other W (Or.inr (slot_ne (C := own_VI) (Or.inl (hw _ (List.mem_of_getElem? (i := 31) rfl))) (Or.inl (hw _ (List.mem_of_getElem? (i := 35) rfl))) (by decide) (by decide : parseFieldDescriptor "Z" = some .boolean) (by decide : parseFieldDescriptor "I" = some .int))), Flo.other W (Or.inr (slot_ne (C := own_VI) (Or.inl (hw _ (List.mem_of_getElem? (i := 33) rfl))) (Or.inl (hw _ (List.mem_of_getElem? (i := 35) rfl))) (by decide) (by decide : parseFieldDescriptor "I" = some .int) (by decide : parseFieldDescriptor "I" = some .int))), Fcount.same W, Fstamp.other W (Or.inr (slot_ne (C := own_VI) (Or.inl (hw _ (List.mem_of_getElem? (i := 62) rfl))) (Or.inl (hw _ (List.mem_of_getElem? (i := 35) rfl))) (by decide) (by decide : parseFieldDescriptor "I" = some .int) (by decide : parseFieldDescriptor "I" = some .int))), Fshift.other W (Or.inr (slot_ne (C := own_VI) (Or.inl (hw _ (List.mem_of_getElem? (i := 60) rfl))) (Or.inl (hw _ (List.mem_of_getElem? (i := 35) rfl))) (by decide) (by decide : parseFieldDescriptor "I" = some .int) (by decide : parseFieldDescriptor "I" = some .int))), Fkeys.other W (Or.inr (slot_ne (C := own_VI) (Or.inl (hw _ (List.mem_of_getElem? (i := 11) rfl))) (Or.inl (hw _ (List.mem_of_getElem? (i := 35) rfl))) (by decide) (by decide : parseFieldDescriptor "[I" = some (.array .int)) (by decide : parseFieldDescriptor "I" = some .int))), Fids.other W (Or.inr (slot_ne (C := own_VI) (Or.inl (hw _ (List.mem_of_getElem? (i := 13) rfl))) (Or.inl (hw _ (List.mem_of_getElem? (i := 35) rfl))) (by decide) (by decide : parseFieldDescriptor "[I" = some (.array .int)) (by decide : parseFieldDescriptor "I" = some .int))), Fstamps.other W (Or.inr (slot_ne (C := own_VI) (Or.inl (hw _ (List.mem_of_getElem? (i := 15) rfl))) (Or.inl (hw _ (List.mem_of_getElem? (i := 35) rfl))) (by decide) (by decide : parseFieldDescriptor "[I" = some (.array .int)) (by decide : parseFieldDescriptor "I" = some .int))), Fvalues.other W (Or.inr (slot_ne (C := own_VI) (Or.inl (hw _ (List.mem_of_getElem? (i := 17) rfl))) (Or.inl (hw _ (List.mem_of_getElem? (i := 35) rfl))) (by decide) (by decide : parseFieldDescriptor "[I" = some (.array .int)) (by decide : parseFieldDescriptor "I" = some .int))), Ak.other W (Ne.symm ok), Ai.other W (Ne.symm oi), As.other W (Ne.symm os), Av.other W (Ne.symm ov)⟩
theorem own_Ob.w_stamp (hw : ∀ d ∈ tables_1, d.before a0 Z = true) (O : own_Ob Z n0 h o k i s v off lo cnt st sh Ks Is Ss Vs) (W : Wr h h' o (Jvm.RoadKit.slotOf Z own_VI "stamp" "I") (.int x)) : own_Ob Z n0 h' o k i s v off lo cnt x sh Ks Is Ss Vs := by
  obtain ⟨g0, gk, gi, gs, gv, ok, oi, os, ov, ki, ks, kv, is_, iv, sv, E, Foffsets, Flo, Fcount, Fstamp, Fshift, Fkeys, Fids, Fstamps, Fvalues, Ak, Ai, As, Av⟩ := O
  exact ⟨g0, gk, gi, gs, gv, ok, oi, os, ov, ki, ks, kv, is_, iv, sv, E.wr W, Foffsets.other W (Or.inr (slot_ne (C := own_VI) (Or.inl (hw _ (List.mem_of_getElem? (i := 31) rfl))) (Or.inl (hw _ (List.mem_of_getElem? (i := 62) rfl))) (by decide) (by decide : parseFieldDescriptor "Z" = some .boolean) (by decide : parseFieldDescriptor "I" = some .int))), Flo.other W (Or.inr (slot_ne (C := own_VI) (Or.inl (hw _ (List.mem_of_getElem? (i := 33) rfl))) (Or.inl (hw _ (List.mem_of_getElem? (i := 62) rfl))) (by decide) (by decide : parseFieldDescriptor "I" = some .int) (by decide : parseFieldDescriptor "I" = some .int))), Fcount.other W (Or.inr (slot_ne (C := own_VI) (Or.inl (hw _ (List.mem_of_getElem? (i := 35) rfl))) (Or.inl (hw _ (List.mem_of_getElem? (i := 62) rfl))) (by decide) (by decide : parseFieldDescriptor "I" = some .int) (by decide : parseFieldDescriptor "I" = some .int))), Fstamp.same W, Fshift.other W (Or.inr (slot_ne (C := own_VI) (Or.inl (hw _ (List.mem_of_getElem? (i := 60) rfl))) (Or.inl (hw _ (List.mem_of_getElem? (i := 62) rfl))) (by decide) (by decide : parseFieldDescriptor "I" = some .int) (by decide : parseFieldDescriptor "I" = some .int))), Fkeys.other W (Or.inr (slot_ne (C := own_VI) (Or.inl (hw _ (List.mem_of_getElem? (i := 11) rfl))) (Or.inl (hw _ (List.mem_of_getElem? (i := 62) rfl))) (by decide) (by decide : parseFieldDescriptor "[I" = some (.array .int)) (by decide : parseFieldDescriptor "I" = some .int))), Fids.other W (Or.inr (slot_ne (C := own_VI) (Or.inl (hw _ (List.mem_of_getElem? (i := 13) rfl))) (Or.inl (hw _ (List.mem_of_getElem? (i := 62) rfl))) (by decide) (by decide : parseFieldDescriptor "[I" = some (.array .int)) (by decide : parseFieldDescriptor "I" = some .int))), Fstamps.other W (Or.inr (slot_ne (C := own_VI) (Or.inl (hw _ (List.mem_of_getElem? (i := 15) rfl))) (Or.inl (hw _ (List.mem_of_getElem? (i := 62) rfl))) (by decide) (by decide : parseFieldDescriptor "[I" = some (.array .int)) (by decide : parseFieldDescriptor "I" = some .int))), Fvalues.other W (Or.inr (slot_ne (C := own_VI) (Or.inl (hw _ (List.mem_of_getElem? (i := 17) rfl))) (Or.inl (hw _ (List.mem_of_getElem? (i := 62) rfl))) (by decide) (by decide : parseFieldDescriptor "[I" = some (.array .int)) (by decide : parseFieldDescriptor "I" = some .int))), Ak.other W (Ne.symm ok), Ai.other W (Ne.symm oi), As.other W (Ne.symm os), Av.other W (Ne.symm ov)⟩
theorem own_Ob.w_shift (hw : ∀ d ∈ tables_1, d.before a0 Z = true) (O : own_Ob Z n0 h o k i s v off lo cnt st sh Ks Is Ss Vs) (W : Wr h h' o (Jvm.RoadKit.slotOf Z own_VI "shift" "I") (.int x)) : own_Ob Z n0 h' o k i s v off lo cnt st x Ks Is Ss Vs := by
  obtain ⟨g0, gk, gi, gs, gv, ok, oi, os, ov, ki, ks, kv, is_, iv, sv, E, Foffsets, Flo, Fcount, Fstamp, Fshift, Fkeys, Fids, Fstamps, Fvalues, Ak, Ai, As, Av⟩ := O
  exact ⟨g0, gk, gi, gs, gv, ok, oi, os, ov, ki, ks, kv, is_, iv, sv, E.wr W, Foffsets.other W (Or.inr (slot_ne (C := own_VI) (Or.inl (hw _ (List.mem_of_getElem? (i := 31) rfl))) (Or.inl (hw _ (List.mem_of_getElem? (i := 60) rfl))) (by decide) (by decide : parseFieldDescriptor "Z" = some .boolean) (by decide : parseFieldDescriptor "I" = some .int))), Flo.other W (Or.inr (slot_ne (C := own_VI) (Or.inl (hw _ (List.mem_of_getElem? (i := 33) rfl))) (Or.inl (hw _ (List.mem_of_getElem? (i := 60) rfl))) (by decide) (by decide : parseFieldDescriptor "I" = some .int) (by decide : parseFieldDescriptor "I" = some .int))), Fcount.other W (Or.inr (slot_ne (C := own_VI) (Or.inl (hw _ (List.mem_of_getElem? (i := 35) rfl))) (Or.inl (hw _ (List.mem_of_getElem? (i := 60) rfl))) (by decide) (by decide : parseFieldDescriptor "I" = some .int) (by decide : parseFieldDescriptor "I" = some .int))), Fstamp.other W (Or.inr (slot_ne (C := own_VI) (Or.inl (hw _ (List.mem_of_getElem? (i := 62) rfl))) (Or.inl (hw _ (List.mem_of_getElem? (i := 60) rfl))) (by decide) (by decide : parseFieldDescriptor "I" = some .int) (by decide : parseFieldDescriptor "I" = some .int))), Fshift.same W, Fkeys.other W (Or.inr (slot_ne (C := own_VI) (Or.inl (hw _ (List.mem_of_getElem? (i := 11) rfl))) (Or.inl (hw _ (List.mem_of_getElem? (i := 60) rfl))) (by decide) (by decide : parseFieldDescriptor "[I" = some (.array .int)) (by decide : parseFieldDescriptor "I" = some .int))), Fids.other W (Or.inr (slot_ne (C := own_VI) (Or.inl (hw _ (List.mem_of_getElem? (i := 13) rfl))) (Or.inl (hw _ (List.mem_of_getElem? (i := 60) rfl))) (by decide) (by decide : parseFieldDescriptor "[I" = some (.array .int)) (by decide : parseFieldDescriptor "I" = some .int))), Fstamps.other W (Or.inr (slot_ne (C := own_VI) (Or.inl (hw _ (List.mem_of_getElem? (i := 15) rfl))) (Or.inl (hw _ (List.mem_of_getElem? (i := 60) rfl))) (by decide) (by decide : parseFieldDescriptor "[I" = some (.array .int)) (by decide : parseFieldDescriptor "I" = some .int))), Fvalues.other W (Or.inr (slot_ne (C := own_VI) (Or.inl (hw _ (List.mem_of_getElem? (i := 17) rfl))) (Or.inl (hw _ (List.mem_of_getElem? (i := 60) rfl))) (by decide) (by decide : parseFieldDescriptor "[I" = some (.array .int)) (by decide : parseFieldDescriptor "I" = some .int))), Ak.other W (Ne.symm ok), Ai.other W (Ne.symm oi), As.other W (Ne.symm os), Av.other W (Ne.symm ov)⟩
theorem own_Ob.w_keys (hw : ∀ d ∈ tables_1, d.before a0 Z = true) (O : own_Ob Z n0 h o k i s v off lo cnt st sh Ks Is Ss Vs) (gb : n0 ≤ b) (ob : o ≠ b) (bi : b ≠ i) (bs : b ≠ s) (bv : b ≠ v) (B : o_IA Z h b L) (W : Wr h h' o (Jvm.RoadKit.slotOf Z own_VI "keys" "[I") (.ref b)) : own_Ob Z n0 h' o b i s v off lo cnt st sh L Is Ss Vs := by
  obtain ⟨g0, gk, gi, gs, gv, ok, oi, os, ov, ki, ks, kv, is_, iv, sv, E, Foffsets, Flo, Fcount, Fstamp, Fshift, Fkeys, Fids, Fstamps, Fvalues, Ak, Ai, As, Av⟩ := O
  exact ⟨g0, gb, gi, gs, gv, ob, oi, os, ov, bi, bs, bv, is_, iv, sv, E.wr W, Foffsets.other W (Or.inr (slot_ne (C := own_VI) (Or.inl (hw _ (List.mem_of_getElem? (i := 31) rfl))) (Or.inl (hw _ (List.mem_of_getElem? (i := 11) rfl))) (by decide) (by decide : parseFieldDescriptor "Z" = some .boolean) (by decide : parseFieldDescriptor "[I" = some (.array .int)))), Flo.other W (Or.inr (slot_ne (C := own_VI) (Or.inl (hw _ (List.mem_of_getElem? (i := 33) rfl))) (Or.inl (hw _ (List.mem_of_getElem? (i := 11) rfl))) (by decide) (by decide : parseFieldDescriptor "I" = some .int) (by decide : parseFieldDescriptor "[I" = some (.array .int)))), Fcount.other W (Or.inr (slot_ne (C := own_VI) (Or.inl (hw _ (List.mem_of_getElem? (i := 35) rfl))) (Or.inl (hw _ (List.mem_of_getElem? (i := 11) rfl))) (by decide) (by decide : parseFieldDescriptor "I" = some .int) (by decide : parseFieldDescriptor "[I" = some (.array .int)))), Fstamp.other W (Or.inr (slot_ne (C := own_VI) (Or.inl (hw _ (List.mem_of_getElem? (i := 62) rfl))) (Or.inl (hw _ (List.mem_of_getElem? (i := 11) rfl))) (by decide) (by decide : parseFieldDescriptor "I" = some .int) (by decide : parseFieldDescriptor "[I" = some (.array .int)))), Fshift.other W (Or.inr (slot_ne (C := own_VI) (Or.inl (hw _ (List.mem_of_getElem? (i := 60) rfl))) (Or.inl (hw _ (List.mem_of_getElem? (i := 11) rfl))) (by decide) (by decide : parseFieldDescriptor "I" = some .int) (by decide : parseFieldDescriptor "[I" = some (.array .int)))), Fkeys.same W, Fids.other W (Or.inr (slot_ne (C := own_VI) (Or.inl (hw _ (List.mem_of_getElem? (i := 13) rfl))) (Or.inl (hw _ (List.mem_of_getElem? (i := 11) rfl))) (by decide) (by decide : parseFieldDescriptor "[I" = some (.array .int)) (by decide : parseFieldDescriptor "[I" = some (.array .int)))), Fstamps.other W (Or.inr (slot_ne (C := own_VI) (Or.inl (hw _ (List.mem_of_getElem? (i := 15) rfl))) (Or.inl (hw _ (List.mem_of_getElem? (i := 11) rfl))) (by decide) (by decide : parseFieldDescriptor "[I" = some (.array .int)) (by decide : parseFieldDescriptor "[I" = some (.array .int)))), Fvalues.other W (Or.inr (slot_ne (C := own_VI) (Or.inl (hw _ (List.mem_of_getElem? (i := 17) rfl))) (Or.inl (hw _ (List.mem_of_getElem? (i := 11) rfl))) (by decide) (by decide : parseFieldDescriptor "[I" = some (.array .int)) (by decide : parseFieldDescriptor "[I" = some (.array .int)))), B.other W (Ne.symm ob), Ai.other W (Ne.symm oi), As.other W (Ne.symm os), Av.other W (Ne.symm ov)⟩
theorem own_Ob.w_ids (hw : ∀ d ∈ tables_1, d.before a0 Z = true) (O : own_Ob Z n0 h o k i s v off lo cnt st sh Ks Is Ss Vs) (gb : n0 ≤ b) (ob : o ≠ b) (bk : b ≠ k) (bs : b ≠ s) (bv : b ≠ v) (B : o_IA Z h b L) (W : Wr h h' o (Jvm.RoadKit.slotOf Z own_VI "ids" "[I") (.ref b)) : own_Ob Z n0 h' o k b s v off lo cnt st sh Ks L Ss Vs := by
  obtain ⟨g0, gk, gi, gs, gv, ok, oi, os, ov, ki, ks, kv, is_, iv, sv, E, Foffsets, Flo, Fcount, Fstamp, Fshift, Fkeys, Fids, Fstamps, Fvalues, Ak, Ai, As, Av⟩ := O
  exact ⟨g0, gk, gb, gs, gv, ok, ob, os, ov, (Ne.symm bk), ks, kv, bs, bv, sv, E.wr W, Foffsets.other W (Or.inr (slot_ne (C := own_VI) (Or.inl (hw _ (List.mem_of_getElem? (i := 31) rfl))) (Or.inl (hw _ (List.mem_of_getElem? (i := 13) rfl))) (by decide) (by decide : parseFieldDescriptor "Z" = some .boolean) (by decide : parseFieldDescriptor "[I" = some (.array .int)))), Flo.other W (Or.inr (slot_ne (C := own_VI) (Or.inl (hw _ (List.mem_of_getElem? (i := 33) rfl))) (Or.inl (hw _ (List.mem_of_getElem? (i := 13) rfl))) (by decide) (by decide : parseFieldDescriptor "I" = some .int) (by decide : parseFieldDescriptor "[I" = some (.array .int)))), Fcount.other W (Or.inr (slot_ne (C := own_VI) (Or.inl (hw _ (List.mem_of_getElem? (i := 35) rfl))) (Or.inl (hw _ (List.mem_of_getElem? (i := 13) rfl))) (by decide) (by decide : parseFieldDescriptor "I" = some .int) (by decide : parseFieldDescriptor "[I" = some (.array .int)))), Fstamp.other W (Or.inr (slot_ne (C := own_VI) (Or.inl (hw _ (List.mem_of_getElem? (i := 62) rfl))) (Or.inl (hw _ (List.mem_of_getElem? (i := 13) rfl))) (by decide) (by decide : parseFieldDescriptor "I" = some .int) (by decide : parseFieldDescriptor "[I" = some (.array .int)))), Fshift.other W (Or.inr (slot_ne (C := own_VI) (Or.inl (hw _ (List.mem_of_getElem? (i := 60) rfl))) (Or.inl (hw _ (List.mem_of_getElem? (i := 13) rfl))) (by decide) (by decide : parseFieldDescriptor "I" = some .int) (by decide : parseFieldDescriptor "[I" = some (.array .int)))), Fkeys.other W (Or.inr (slot_ne (C := own_VI) (Or.inl (hw _ (List.mem_of_getElem? (i := 11) rfl))) (Or.inl (hw _ (List.mem_of_getElem? (i := 13) rfl))) (by decide) (by decide : parseFieldDescriptor "[I" = some (.array .int)) (by decide : parseFieldDescriptor "[I" = some (.array .int)))), Fids.same W, Fstamps.other W (Or.inr (slot_ne (C := own_VI) (Or.inl (hw _ (List.mem_of_getElem? (i := 15) rfl))) (Or.inl (hw _ (List.mem_of_getElem? (i := 13) rfl))) (by decide) (by decide : parseFieldDescriptor "[I" = some (.array .int)) (by decide : parseFieldDescriptor "[I" = some (.array .int)))), Fvalues.other W (Or.inr (slot_ne (C := own_VI) (Or.inl (hw _ (List.mem_of_getElem? (i := 17) rfl))) (Or.inl (hw _ (List.mem_of_getElem? (i := 13) rfl))) (by decide) (by decide : parseFieldDescriptor "[I" = some (.array .int)) (by decide : parseFieldDescriptor "[I" = some (.array .int)))), Ak.other W (Ne.symm ok), B.other W (Ne.symm ob), As.other W (Ne.symm os), Av.other W (Ne.symm ov)⟩
theorem own_Ob.w_stamps (hw : ∀ d ∈ tables_1, d.before a0 Z = true) (O : own_Ob Z n0 h o k i s v off lo cnt st sh Ks Is Ss Vs) (gb : n0 ≤ b) (ob : o ≠ b) (bk : b ≠ k) (bi : b ≠ i) (bv : b ≠ v) (B : o_IA Z h b L) (W : Wr h h' o (Jvm.RoadKit.slotOf Z own_VI "stamps" "[I") (.ref b)) : own_Ob Z n0 h' o k i b v off lo cnt st sh Ks Is L Vs := by
  obtain ⟨g0, gk, gi, gs, gv, ok, oi, os, ov, ki, ks, kv, is_, iv, sv, E, Foffsets, Flo, Fcount, Fstamp, Fshift, Fkeys, Fids, Fstamps, Fvalues, Ak, Ai, As, Av⟩ := O
  exact ⟨g0, gk, gi, gb, gv, ok, oi, ob, ov, ki, (Ne.symm bk), kv, (Ne.symm bi), iv, bv, E.wr W, Foffsets.other W (Or.inr (slot_ne (C := own_VI) (Or.inl (hw _ (List.mem_of_getElem? (i := 31) rfl))) (Or.inl (hw _ (List.mem_of_getElem? (i := 15) rfl))) (by decide) (by decide : parseFieldDescriptor "Z" = some .boolean) (by decide : parseFieldDescriptor "[I" = some (.array .int)))), Flo.other W (Or.inr (slot_ne (C := own_VI) (Or.inl (hw _ (List.mem_of_getElem? (i := 33) rfl))) (Or.inl (hw _ (List.mem_of_getElem? (i := 15) rfl))) (by decide) (by decide : parseFieldDescriptor "I" = some .int) (by decide : parseFieldDescriptor "[I" = some (.array .int)))), Fcount.other W (Or.inr (slot_ne (C := own_VI) (Or.inl (hw _ (List.mem_of_getElem? (i := 35) rfl))) (Or.inl (hw _ (List.mem_of_getElem? (i := 15) rfl))) (by decide) (by decide : parseFieldDescriptor "I" = some .int) (by decide : parseFieldDescriptor "[I" = some (.array .int)))), Fstamp.other W (Or.inr (slot_ne (C := own_VI) (Or.inl (hw _ (List.mem_of_getElem? (i := 62) rfl))) (Or.inl (hw _ (List.mem_of_getElem? (i := 15) rfl))) (by decide) (by decide : parseFieldDescriptor "I" = some .int) (by decide : parseFieldDescriptor "[I" = some (.array .int)))), Fshift.other W (Or.inr (slot_ne (C := own_VI) (Or.inl (hw _ (List.mem_of_getElem? (i := 60) rfl))) (Or.inl (hw _ (List.mem_of_getElem? (i := 15) rfl))) (by decide) (by decide : parseFieldDescriptor "I" = some .int) (by decide : parseFieldDescriptor "[I" = some (.array .int)))), Fkeys.other W (Or.inr (slot_ne (C := own_VI) (Or.inl (hw _ (List.mem_of_getElem? (i := 11) rfl))) (Or.inl (hw _ (List.mem_of_getElem? (i := 15) rfl))) (by decide) (by decide : parseFieldDescriptor "[I" = some (.array .int)) (by decide : parseFieldDescriptor "[I" = some (.array .int)))), Fids.other W (Or.inr (slot_ne (C := own_VI) (Or.inl (hw _ (List.mem_of_getElem? (i := 13) rfl))) (Or.inl (hw _ (List.mem_of_getElem? (i := 15) rfl))) (by decide) (by decide : parseFieldDescriptor "[I" = some (.array .int)) (by decide : parseFieldDescriptor "[I" = some (.array .int)))), Fstamps.same W, Fvalues.other W (Or.inr (slot_ne (C := own_VI) (Or.inl (hw _ (List.mem_of_getElem? (i := 17) rfl))) (Or.inl (hw _ (List.mem_of_getElem? (i := 15) rfl))) (by decide) (by decide : parseFieldDescriptor "[I" = some (.array .int)) (by decide : parseFieldDescriptor "[I" = some (.array .int)))), Ak.other W (Ne.symm ok), Ai.other W (Ne.symm oi), B.other W (Ne.symm ob), Av.other W (Ne.symm ov)⟩
theorem own_Ob.w_values (hw : ∀ d ∈ tables_1, d.before a0 Z = true) (O : own_Ob Z n0 h o k i s v off lo cnt st sh Ks Is Ss Vs) (gb : n0 ≤ b) (ob : o ≠ b) (bk : b ≠ k) (bi : b ≠ i) (bs : b ≠ s) (B : o_IA Z h b L) (W : Wr h h' o (Jvm.RoadKit.slotOf Z own_VI "values" "[I") (.ref b)) : own_Ob Z n0 h' o k i s b off lo cnt st sh Ks Is Ss L := by
  obtain ⟨g0, gk, gi, gs, gv, ok, oi, os, ov, ki, ks, kv, is_, iv, sv, E, Foffsets, Flo, Fcount, Fstamp, Fshift, Fkeys, Fids, Fstamps, Fvalues, Ak, Ai, As, Av⟩ := O
  exact ⟨g0, gk, gi, gs, gb, ok, oi, os, ob, ki, ks, (Ne.symm bk), is_, (Ne.symm bi), (Ne.symm bs), E.wr W, Foffsets.other W (Or.inr (slot_ne (C := own_VI) (Or.inl (hw _ (List.mem_of_getElem? (i := 31) rfl))) (Or.inl (hw _ (List.mem_of_getElem? (i := 17) rfl))) (by decide) (by decide : parseFieldDescriptor "Z" = some .boolean) (by decide : parseFieldDescriptor "[I" = some (.array .int)))), Flo.other W (Or.inr (slot_ne (C := own_VI) (Or.inl (hw _ (List.mem_of_getElem? (i := 33) rfl))) (Or.inl (hw _ (List.mem_of_getElem? (i := 17) rfl))) (by decide) (by decide : parseFieldDescriptor "I" = some .int) (by decide : parseFieldDescriptor "[I" = some (.array .int)))), Fcount.other W (Or.inr (slot_ne (C := own_VI) (Or.inl (hw _ (List.mem_of_getElem? (i := 35) rfl))) (Or.inl (hw _ (List.mem_of_getElem? (i := 17) rfl))) (by decide) (by decide : parseFieldDescriptor "I" = some .int) (by decide : parseFieldDescriptor "[I" = some (.array .int)))), Fstamp.other W (Or.inr (slot_ne (C := own_VI) (Or.inl (hw _ (List.mem_of_getElem? (i := 62) rfl))) (Or.inl (hw _ (List.mem_of_getElem? (i := 17) rfl))) (by decide) (by decide : parseFieldDescriptor "I" = some .int) (by decide : parseFieldDescriptor "[I" = some (.array .int)))), Fshift.other W (Or.inr (slot_ne (C := own_VI) (Or.inl (hw _ (List.mem_of_getElem? (i := 60) rfl))) (Or.inl (hw _ (List.mem_of_getElem? (i := 17) rfl))) (by decide) (by decide : parseFieldDescriptor "I" = some .int) (by decide : parseFieldDescriptor "[I" = some (.array .int)))), Fkeys.other W (Or.inr (slot_ne (C := own_VI) (Or.inl (hw _ (List.mem_of_getElem? (i := 11) rfl))) (Or.inl (hw _ (List.mem_of_getElem? (i := 17) rfl))) (by decide) (by decide : parseFieldDescriptor "[I" = some (.array .int)) (by decide : parseFieldDescriptor "[I" = some (.array .int)))), Fids.other W (Or.inr (slot_ne (C := own_VI) (Or.inl (hw _ (List.mem_of_getElem? (i := 13) rfl))) (Or.inl (hw _ (List.mem_of_getElem? (i := 17) rfl))) (by decide) (by decide : parseFieldDescriptor "[I" = some (.array .int)) (by decide : parseFieldDescriptor "[I" = some (.array .int)))), Fstamps.other W (Or.inr (slot_ne (C := own_VI) (Or.inl (hw _ (List.mem_of_getElem? (i := 15) rfl))) (Or.inl (hw _ (List.mem_of_getElem? (i := 17) rfl))) (by decide) (by decide : parseFieldDescriptor "[I" = some (.array .int)) (by decide : parseFieldDescriptor "[I" = some (.array .int)))), Fvalues.same W, Ak.other W (Ne.symm ok), Ai.other W (Ne.symm oi), As.other W (Ne.symm os), B.other W (Ne.symm ob)⟩
theorem own_Ob.c_k (O : own_Ob Z n0 h o k i s v off lo cnt st sh Ks Is Ss Vs) (W : Wr h h' k j (.int x)) : own_Ob Z n0 h' o k i s v off lo cnt st sh (Ks.set j x) Is Ss Vs := by
  obtain ⟨g0, gk, gi, gs, gv, ok, oi, os, ov, ki, ks, kv, is_, iv, sv, E, Foffsets, Flo, Fcount, Fstamp, Fshift, Fkeys, Fids, Fstamps, Fvalues, Ak, Ai, As, Av⟩ := O
  exact ⟨g0, gk, gi, gs, gv, ok, oi, os, ov, ki, ks, kv, is_, iv, sv, E.wr W, Foffsets.other W (Or.inl ok), Flo.other W (Or.inl ok), Fcount.other W (Or.inl ok), Fstamp.other W (Or.inl ok), Fshift.other W (Or.inl ok), Fkeys.other W (Or.inl ok), Fids.other W (Or.inl ok), Fstamps.other W (Or.inl ok), Fvalues.other W (Or.inl ok), o_IA.same Ak W, Ai.other W (Ne.symm ki), As.other W (Ne.symm ks), Av.other W (Ne.symm kv)⟩
theorem own_Ob.c_i (O : own_Ob Z n0 h o k i s v off lo cnt st sh Ks Is Ss Vs) (W : Wr h h' i j (.int x)) : own_Ob Z n0 h' o k i s v off lo cnt st sh Ks (Is.set j x) Ss Vs := by
  obtain ⟨g0, gk, gi, gs, gv, ok, oi, os, ov, ki, ks, kv, is_, iv, sv, E, Foffsets, Flo, Fcount, Fstamp, Fshift, Fkeys, Fids, Fstamps, Fvalues, Ak, Ai, As, Av⟩ := O
  exact ⟨g0, gk, gi, gs, gv, ok, oi, os, ov, ki, ks, kv, is_, iv, sv, E.wr W, Foffsets.other W (Or.inl oi), Flo.other W (Or.inl oi), Fcount.other W (Or.inl oi), Fstamp.other W (Or.inl oi), Fshift.other W (Or.inl oi), Fkeys.other W (Or.inl oi), Fids.other W (Or.inl oi), Fstamps.other W (Or.inl oi), Fvalues.other W (Or.inl oi), Ak.other W ki, o_IA.same Ai W, As.other W (Ne.symm is_), Av.other W (Ne.symm iv)⟩
theorem own_Ob.c_s (O : own_Ob Z n0 h o k i s v off lo cnt st sh Ks Is Ss Vs) (W : Wr h h' s j (.int x)) : own_Ob Z n0 h' o k i s v off lo cnt st sh Ks Is (Ss.set j x) Vs := by
  obtain ⟨g0, gk, gi, gs, gv, ok, oi, os, ov, ki, ks, kv, is_, iv, sv, E, Foffsets, Flo, Fcount, Fstamp, Fshift, Fkeys, Fids, Fstamps, Fvalues, Ak, Ai, As, Av⟩ := O
  exact ⟨g0, gk, gi, gs, gv, ok, oi, os, ov, ki, ks, kv, is_, iv, sv, E.wr W, Foffsets.other W (Or.inl os), Flo.other W (Or.inl os), Fcount.other W (Or.inl os), Fstamp.other W (Or.inl os), Fshift.other W (Or.inl os), Fkeys.other W (Or.inl os), Fids.other W (Or.inl os), Fstamps.other W (Or.inl os), Fvalues.other W (Or.inl os), Ak.other W ks, Ai.other W is_, o_IA.same As W, Av.other W (Ne.symm sv)⟩
theorem own_Ob.c_v (O : own_Ob Z n0 h o k i s v off lo cnt st sh Ks Is Ss Vs) (W : Wr h h' v j (.int x)) : own_Ob Z n0 h' o k i s v off lo cnt st sh Ks Is Ss (Vs.set j x) := by
  obtain ⟨g0, gk, gi, gs, gv, ok, oi, os, ov, ki, ks, kv, is_, iv, sv, E, Foffsets, Flo, Fcount, Fstamp, Fshift, Fkeys, Fids, Fstamps, Fvalues, Ak, Ai, As, Av⟩ := O
  exact ⟨g0, gk, gi, gs, gv, ok, oi, os, ov, ki, ks, kv, is_, iv, sv, E.wr W, Foffsets.other W (Or.inl ov), Flo.other W (Or.inl ov), Fcount.other W (Or.inl ov), Fstamp.other W (Or.inl ov), Fshift.other W (Or.inl ov), Fkeys.other W (Or.inl ov), Fids.other W (Or.inl ov), Fstamps.other W (Or.inl ov), Fvalues.other W (Or.inl ov), Ak.other W kv, Ai.other W iv, As.other W sv, o_IA.same Av W⟩
end Ob
theorem own_map {L : List Int32} {i : Nat} {x : Int32} (q : L[i]? = some x) : (L.map Value.int)[i]? = some (.int x) := by rw [List.getElem?_map, q]; rfl
theorem own_mlt {L : List Int32} {i : Nat} (q : i < L.length) : i < (L.map Value.int).length := by rw [List.length_map]; exact q
theorem pn0 : plainFor Jvm.Pilot.@@N@@.x = true := by first | exact plainFor_of_name (by first | (simp [x, plainName, overriddenIn]; done) | decide +kernel) | decide +kernel
theorem d1_0 : decode prog_74_method_1_code 0 = .ok (.aload_n 0, 1) := by decide +kernel
theorem d1_1 : decode prog_74_method_1_code 1 = .ok (.invokespecial 1, 3) := by decide +kernel
theorem d1_4 : decode prog_74_method_1_code 4 = .ok (.aload_n 0, 1) := by decide +kernel
theorem d1_5 : decode prog_74_method_1_code 5 = .ok (.iconst 0, 1) := by decide +kernel
theorem d1_6 : decode prog_74_method_1_code 6 = .ok (.newarray .int, 2) := by decide +kernel
theorem d1_8 : decode prog_74_method_1_code 8 = .ok (.putfield 7, 3) := by decide +kernel
theorem d1_11 : decode prog_74_method_1_code 11 = .ok (.aload_n 0, 1) := by decide +kernel
theorem d1_12 : decode prog_74_method_1_code 12 = .ok (.iconst 0, 1) := by decide +kernel
theorem d1_13 : decode prog_74_method_1_code 13 = .ok (.newarray .int, 2) := by decide +kernel
theorem d1_15 : decode prog_74_method_1_code 15 = .ok (.putfield 13, 3) := by decide +kernel
theorem d1_18 : decode prog_74_method_1_code 18 = .ok (.aload_n 0, 1) := by decide +kernel
theorem d1_19 : decode prog_74_method_1_code 19 = .ok (.iconst 0, 1) := by decide +kernel
theorem d1_20 : decode prog_74_method_1_code 20 = .ok (.newarray .int, 2) := by decide +kernel
theorem d1_22 : decode prog_74_method_1_code 22 = .ok (.putfield 16, 3) := by decide +kernel
theorem d1_25 : decode prog_74_method_1_code 25 = .ok (.aload_n 0, 1) := by decide +kernel
theorem d1_26 : decode prog_74_method_1_code 26 = .ok (.iconst 0, 1) := by decide +kernel
theorem d1_27 : decode prog_74_method_1_code 27 = .ok (.newarray .int, 2) := by decide +kernel
theorem d1_29 : decode prog_74_method_1_code 29 = .ok (.putfield 19, 3) := by decide +kernel
theorem d1_32 : decode prog_74_method_1_code 32 = .ok (.return_, 1) := by decide +kernel
abbrev oy1 : MethodName := ⟨"com/example/trailhead/trailhead/globals/ValueIds", "<init>", "()V"⟩
theorem pn1 : plainFor oy1 = true := by first | exact plainFor_of_name (by first | (simp [plainName, overriddenIn]; done) | decide +kernel) | decide +kernel
theorem pd1 : parseMethodDescriptor oy1.desc = some ⟨[], none⟩ := by decide +kernel
theorem d3_0 : decode jdk_29_method_69_code 0 = .ok (.iload_n 0, 1) := by decide +kernel
theorem d3_1 : decode jdk_29_method_69_code 1 = .ok (.iload_n 1, 1) := by decide +kernel
theorem d3_2 : decode jdk_29_method_69_code 2 = .ok (.if_icmp .gt 7, 3) := by decide +kernel
theorem d3_5 : decode jdk_29_method_69_code 5 = .ok (.iload_n 0, 1) := by decide +kernel
theorem d3_6 : decode jdk_29_method_69_code 6 = .ok (.goto 4, 3) := by decide +kernel
theorem d3_9 : decode jdk_29_method_69_code 9 = .ok (.iload_n 1, 1) := by decide +kernel
theorem d3_10 : decode jdk_29_method_69_code 10 = .ok (.ireturn, 1) := by decide +kernel
abbrev oy3 : MethodName := ⟨"java/lang/Math", "min", "(II)I"⟩
theorem pn3 : plainFor oy3 = true := by first | exact plainFor_of_name (by first | (simp [plainName, overriddenIn]; done) | decide +kernel) | decide +kernel
theorem pd3 : parseMethodDescriptor oy3.desc = some ⟨[.int, .int], some .int⟩ := by decide +kernel
theorem d4_0 : decode prog_74_method_2_code 0 = .ok (.iload_n 3, 1) := by decide +kernel
theorem d4_1 : decode prog_74_method_2_code 1 = .ok (.i2l, 1) := by decide +kernel
theorem d4_2 : decode prog_74_method_2_code 2 = .ok (.iload_n 2, 1) := by decide +kernel
theorem d4_3 : decode prog_74_method_2_code 3 = .ok (.i2l, 1) := by decide +kernel
theorem d4_4 : decode prog_74_method_2_code 4 = .ok (.lsub, 1) := by decide +kernel
theorem d4_5 : decode prog_74_method_2_code 5 = .ok (.lconst 1, 1) := by decide +kernel
theorem d4_6 : decode prog_74_method_2_code 6 = .ok (.ladd, 1) := by decide +kernel
theorem d4_7 : decode prog_74_method_2_code 7 = .ok (.lstore 4, 2) := by decide +kernel
theorem d4_9 : decode prog_74_method_2_code 9 = .ok (.aload_n 0, 1) := by decide +kernel
theorem d4_10 : decode prog_74_method_2_code 10 = .ok (.lload 4, 2) := by decide +kernel
theorem d4_12 : decode prog_74_method_2_code 12 = .ok (.ldc2_w 22, 3) := by decide +kernel
theorem d4_15 : decode prog_74_method_2_code 15 = .ok (.iload_n 1, 1) := by decide +kernel
theorem d4_16 : decode prog_74_method_2_code 16 = .ok (.i2l, 1) := by decide +kernel
theorem d4_17 : decode prog_74_method_2_code 17 = .ok (.lmul, 1) := by decide +kernel
theorem d4_18 : decode prog_74_method_2_code 18 = .ok (.ldc2_w 24, 3) := by decide +kernel
theorem d4_21 : decode prog_74_method_2_code 21 = .ok (.ladd, 1) := by decide +kernel
theorem d4_22 : decode prog_74_method_2_code 22 = .ok (.lcmp, 1) := by decide +kernel
theorem d4_23 : decode prog_74_method_2_code 23 = .ok (.ifCond .gt 7, 3) := by decide +kernel
theorem d4_26 : decode prog_74_method_2_code 26 = .ok (.iconst 1, 1) := by decide +kernel
theorem d4_27 : decode prog_74_method_2_code 27 = .ok (.goto 4, 3) := by decide +kernel
theorem d4_30 : decode prog_74_method_2_code 30 = .ok (.iconst 0, 1) := by decide +kernel
theorem d4_31 : decode prog_74_method_2_code 31 = .ok (.putfield 26, 3) := by decide +kernel
theorem d4_34 : decode prog_74_method_2_code 34 = .ok (.aload_n 0, 1) := by decide +kernel
theorem d4_35 : decode prog_74_method_2_code 35 = .ok (.getfield 26, 3) := by decide +kernel
theorem d4_38 : decode prog_74_method_2_code 38 = .ok (.ifCond .eq 16, 3) := by decide +kernel
theorem d4_41 : decode prog_74_method_2_code 41 = .ok (.aload_n 0, 1) := by decide +kernel
theorem d4_42 : decode prog_74_method_2_code 42 = .ok (.iload_n 2, 1) := by decide +kernel
theorem d4_43 : decode prog_74_method_2_code 43 = .ok (.putfield 30, 3) := by decide +kernel
theorem d4_46 : decode prog_74_method_2_code 46 = .ok (.aload_n 0, 1) := by decide +kernel
theorem d4_47 : decode prog_74_method_2_code 47 = .ok (.lload 4, 2) := by decide +kernel
theorem d4_49 : decode prog_74_method_2_code 49 = .ok (.l2i, 1) := by decide +kernel
theorem d4_50 : decode prog_74_method_2_code 50 = .ok (.putfield 34, 3) := by decide +kernel
theorem d4_53 : decode prog_74_method_2_code 53 = .ok (.return_, 1) := by decide +kernel
theorem d4_54 : decode prog_74_method_2_code 54 = .ok (.aload_n 0, 1) := by decide +kernel
theorem d4_55 : decode prog_74_method_2_code 55 = .ok (.iconst 0, 1) := by decide +kernel
theorem d4_56 : decode prog_74_method_2_code 56 = .ok (.putfield 34, 3) := by decide +kernel
theorem d4_59 : decode prog_74_method_2_code 59 = .ok (.aload_n 0, 1) := by decide +kernel
theorem d4_60 : decode prog_74_method_2_code 60 = .ok (.getfield 19, 3) := by decide +kernel
theorem d4_63 : decode prog_74_method_2_code 63 = .ok (.arraylength, 1) := by decide +kernel
theorem d4_64 : decode prog_74_method_2_code 64 = .ok (.iload_n 1, 1) := by decide +kernel
theorem d4_65 : decode prog_74_method_2_code 65 = .ok (.if_icmp .ge 10, 3) := by decide +kernel
theorem d4_68 : decode prog_74_method_2_code 68 = .ok (.aload_n 0, 1) := by decide +kernel
theorem d4_69 : decode prog_74_method_2_code 69 = .ok (.iload_n 1, 1) := by decide +kernel
theorem d4_70 : decode prog_74_method_2_code 70 = .ok (.newarray .int, 2) := by decide +kernel
theorem d4_72 : decode prog_74_method_2_code 72 = .ok (.putfield 19, 3) := by decide +kernel
theorem d4_75 : decode prog_74_method_2_code 75 = .ok (.ldc2_w 37, 3) := by decide +kernel
theorem d4_78 : decode prog_74_method_2_code 78 = .ok (.iload_n 1, 1) := by decide +kernel
theorem d4_79 : decode prog_74_method_2_code 79 = .ok (.i2l, 1) := by decide +kernel
theorem d4_80 : decode prog_74_method_2_code 80 = .ok (.lmul, 1) := by decide +kernel
theorem d4_81 : decode prog_74_method_2_code 81 = .ok (.aload_n 0, 1) := by decide +kernel
theorem d4_82 : decode prog_74_method_2_code 82 = .ok (.getfield 7, 3) := by decide +kernel
theorem d4_85 : decode prog_74_method_2_code 85 = .ok (.arraylength, 1) := by decide +kernel
theorem d4_86 : decode prog_74_method_2_code 86 = .ok (.i2l, 1) := by decide +kernel
theorem d4_87 : decode prog_74_method_2_code 87 = .ok (.lcmp, 1) := by decide +kernel
theorem d4_88 : decode prog_74_method_2_code 88 = .ok (.ifCond .le 55, 3) := by decide +kernel
theorem d4_91 : decode prog_74_method_2_code 91 = .ok (.iconst 2, 1) := by decide +kernel
theorem d4_92 : decode prog_74_method_2_code 92 = .ok (.iload_n 1, 1) := by decide +kernel
theorem d4_93 : decode prog_74_method_2_code 93 = .ok (.imul, 1) := by decide +kernel
theorem d4_94 : decode prog_74_method_2_code 94 = .ok (.iconst 1, 1) := by decide +kernel
theorem d4_95 : decode prog_74_method_2_code 95 = .ok (.isub, 1) := by decide +kernel
theorem d4_96 : decode prog_74_method_2_code 96 = .ok (.invokestatic 39, 3) := by decide +kernel
theorem d4_99 : decode prog_74_method_2_code 99 = .ok (.iconst 1, 1) := by decide +kernel
theorem d4_100 : decode prog_74_method_2_code 100 = .ok (.ishl, 1) := by decide +kernel
theorem d4_101 : decode prog_74_method_2_code 101 = .ok (.istore 6, 2) := by decide +kernel
theorem d4_103 : decode prog_74_method_2_code 103 = .ok (.aload_n 0, 1) := by decide +kernel
theorem d4_104 : decode prog_74_method_2_code 104 = .ok (.iload 6, 2) := by decide +kernel
theorem d4_106 : decode prog_74_method_2_code 106 = .ok (.newarray .int, 2) := by decide +kernel
theorem d4_108 : decode prog_74_method_2_code 108 = .ok (.putfield 7, 3) := by decide +kernel
theorem d4_111 : decode prog_74_method_2_code 111 = .ok (.aload_n 0, 1) := by decide +kernel
theorem d4_112 : decode prog_74_method_2_code 112 = .ok (.iload 6, 2) := by decide +kernel
theorem d4_114 : decode prog_74_method_2_code 114 = .ok (.newarray .int, 2) := by decide +kernel
theorem d4_116 : decode prog_74_method_2_code 116 = .ok (.putfield 13, 3) := by decide +kernel
theorem d4_119 : decode prog_74_method_2_code 119 = .ok (.aload_n 0, 1) := by decide +kernel
theorem d4_120 : decode prog_74_method_2_code 120 = .ok (.iload 6, 2) := by decide +kernel
theorem d4_122 : decode prog_74_method_2_code 122 = .ok (.newarray .int, 2) := by decide +kernel
theorem d4_124 : decode prog_74_method_2_code 124 = .ok (.putfield 16, 3) := by decide +kernel
theorem d4_127 : decode prog_74_method_2_code 127 = .ok (.aload_n 0, 1) := by decide +kernel
theorem d4_128 : decode prog_74_method_2_code 128 = .ok (.iload 6, 2) := by decide +kernel
theorem d4_130 : decode prog_74_method_2_code 130 = .ok (.invokestatic 45, 3) := by decide +kernel
theorem d4_133 : decode prog_74_method_2_code 133 = .ok (.iconst 1, 1) := by decide +kernel
theorem d4_134 : decode prog_74_method_2_code 134 = .ok (.iadd, 1) := by decide +kernel
theorem d4_135 : decode prog_74_method_2_code 135 = .ok (.putfield 48, 3) := by decide +kernel
theorem d4_138 : decode prog_74_method_2_code 138 = .ok (.aload_n 0, 1) := by decide +kernel
theorem d4_139 : decode prog_74_method_2_code 139 = .ok (.iconst 0, 1) := by decide +kernel
theorem d4_140 : decode prog_74_method_2_code 140 = .ok (.putfield 51, 3) := by decide +kernel
theorem d4_143 : decode prog_74_method_2_code 143 = .ok (.aload_n 0, 1) := by decide +kernel
theorem d4_144 : decode prog_74_method_2_code 144 = .ok (.getfield 51, 3) := by decide +kernel
theorem d4_147 : decode prog_74_method_2_code 147 = .ok (.ldc 54, 2) := by decide +kernel
theorem d4_149 : decode prog_74_method_2_code 149 = .ok (.if_icmp .ne 16, 3) := by decide +kernel
theorem d4_152 : decode prog_74_method_2_code 152 = .ok (.aload_n 0, 1) := by decide +kernel
theorem d4_153 : decode prog_74_method_2_code 153 = .ok (.getfield 16, 3) := by decide +kernel
theorem d4_156 : decode prog_74_method_2_code 156 = .ok (.iconst 0, 1) := by decide +kernel
theorem d4_157 : decode prog_74_method_2_code 157 = .ok (.invokestatic 55, 3) := by decide +kernel
theorem d4_160 : decode prog_74_method_2_code 160 = .ok (.aload_n 0, 1) := by decide +kernel
theorem d4_161 : decode prog_74_method_2_code 161 = .ok (.iconst 0, 1) := by decide +kernel
theorem d4_162 : decode prog_74_method_2_code 162 = .ok (.putfield 51, 3) := by decide +kernel
theorem d4_165 : decode prog_74_method_2_code 165 = .ok (.aload_n 0, 1) := by decide +kernel
theorem d4_166 : decode prog_74_method_2_code 166 = .ok (.dup, 1) := by decide +kernel
theorem d4_167 : decode prog_74_method_2_code 167 = .ok (.getfield 51, 3) := by decide +kernel
theorem d4_170 : decode prog_74_method_2_code 170 = .ok (.iconst 1, 1) := by decide +kernel
theorem d4_171 : decode prog_74_method_2_code 171 = .ok (.iadd, 1) := by decide +kernel
theorem d4_172 : decode prog_74_method_2_code 172 = .ok (.putfield 51, 3) := by decide +kernel
theorem d4_175 : decode prog_74_method_2_code 175 = .ok (.return_, 1) := by decide +kernel
abbrev oy4 : MethodName := ⟨"com/example/trailhead/trailhead/globals/ValueIds", "clear", "(III)V"⟩
theorem pn4 : plainFor oy4 = true := by first | exact plainFor_of_name (by first | (simp [plainName, overriddenIn]; done) | decide +kernel) | decide +kernel
theorem pd4 : parseMethodDescriptor oy4.desc = some ⟨[.int, .int, .int], none⟩ := by decide +kernel
theorem d5_0 : decode prog_74_method_3_code 0 = .ok (.aload_n 0, 1) := by decide +kernel
theorem d5_1 : decode prog_74_method_3_code 1 = .ok (.getfield 26, 3) := by decide +kernel
theorem d5_4 : decode prog_74_method_3_code 4 = .ok (.ifCond .eq 10, 3) := by decide +kernel
theorem d5_7 : decode prog_74_method_3_code 7 = .ok (.iload_n 1, 1) := by decide +kernel
theorem d5_8 : decode prog_74_method_3_code 8 = .ok (.aload_n 0, 1) := by decide +kernel
theorem d5_9 : decode prog_74_method_3_code 9 = .ok (.getfield 30, 3) := by decide +kernel
theorem d5_12 : decode prog_74_method_3_code 12 = .ok (.isub, 1) := by decide +kernel
theorem d5_13 : decode prog_74_method_3_code 13 = .ok (.ireturn, 1) := by decide +kernel
theorem d5_14 : decode prog_74_method_3_code 14 = .ok (.aload_n 0, 1) := by decide +kernel
theorem d5_15 : decode prog_74_method_3_code 15 = .ok (.getfield 7, 3) := by decide +kernel
theorem d5_18 : decode prog_74_method_3_code 18 = .ok (.arraylength, 1) := by decide +kernel
theorem d5_19 : decode prog_74_method_3_code 19 = .ok (.iconst 1, 1) := by decide +kernel
theorem d5_20 : decode prog_74_method_3_code 20 = .ok (.isub, 1) := by decide +kernel
theorem d5_21 : decode prog_74_method_3_code 21 = .ok (.istore_n 2, 1) := by decide +kernel
theorem d5_22 : decode prog_74_method_3_code 22 = .ok (.iload_n 1, 1) := by decide +kernel
theorem d5_23 : decode prog_74_method_3_code 23 = .ok (.ldc 61, 2) := by decide +kernel
theorem d5_25 : decode prog_74_method_3_code 25 = .ok (.imul, 1) := by decide +kernel
theorem d5_26 : decode prog_74_method_3_code 26 = .ok (.aload_n 0, 1) := by decide +kernel
theorem d5_27 : decode prog_74_method_3_code 27 = .ok (.getfield 48, 3) := by decide +kernel
theorem d5_30 : decode prog_74_method_3_code 30 = .ok (.iushr, 1) := by decide +kernel
theorem d5_31 : decode prog_74_method_3_code 31 = .ok (.istore_n 3, 1) := by decide +kernel
theorem d5_32 : decode prog_74_method_3_code 32 = .ok (.aload_n 0, 1) := by decide +kernel
theorem d5_33 : decode prog_74_method_3_code 33 = .ok (.getfield 16, 3) := by decide +kernel
theorem d5_36 : decode prog_74_method_3_code 36 = .ok (.iload_n 3, 1) := by decide +kernel
theorem d5_37 : decode prog_74_method_3_code 37 = .ok (.iaload, 1) := by decide +kernel
theorem d5_38 : decode prog_74_method_3_code 38 = .ok (.aload_n 0, 1) := by decide +kernel
theorem d5_39 : decode prog_74_method_3_code 39 = .ok (.getfield 51, 3) := by decide +kernel
theorem d5_42 : decode prog_74_method_3_code 42 = .ok (.if_icmp .ne 29, 3) := by decide +kernel
theorem d5_45 : decode prog_74_method_3_code 45 = .ok (.aload_n 0, 1) := by decide +kernel
theorem d5_46 : decode prog_74_method_3_code 46 = .ok (.getfield 7, 3) := by decide +kernel
theorem d5_49 : decode prog_74_method_3_code 49 = .ok (.iload_n 3, 1) := by decide +kernel
theorem d5_50 : decode prog_74_method_3_code 50 = .ok (.iaload, 1) := by decide +kernel
theorem d5_51 : decode prog_74_method_3_code 51 = .ok (.iload_n 1, 1) := by decide +kernel
theorem d5_52 : decode prog_74_method_3_code 52 = .ok (.if_icmp .ne 10, 3) := by decide +kernel
theorem d5_55 : decode prog_74_method_3_code 55 = .ok (.aload_n 0, 1) := by decide +kernel
theorem d5_56 : decode prog_74_method_3_code 56 = .ok (.getfield 13, 3) := by decide +kernel
theorem d5_59 : decode prog_74_method_3_code 59 = .ok (.iload_n 3, 1) := by decide +kernel
theorem d5_60 : decode prog_74_method_3_code 60 = .ok (.iaload, 1) := by decide +kernel
theorem d5_61 : decode prog_74_method_3_code 61 = .ok (.ireturn, 1) := by decide +kernel
theorem d5_62 : decode prog_74_method_3_code 62 = .ok (.iload_n 3, 1) := by decide +kernel
theorem d5_63 : decode prog_74_method_3_code 63 = .ok (.iconst 1, 1) := by decide +kernel
theorem d5_64 : decode prog_74_method_3_code 64 = .ok (.iadd, 1) := by decide +kernel
theorem d5_65 : decode prog_74_method_3_code 65 = .ok (.iload_n 2, 1) := by decide +kernel
theorem d5_66 : decode prog_74_method_3_code 66 = .ok (.iand, 1) := by decide +kernel
theorem d5_67 : decode prog_74_method_3_code 67 = .ok (.istore_n 3, 1) := by decide +kernel
theorem d5_68 : decode prog_74_method_3_code 68 = .ok (.goto (-36), 3) := by decide +kernel
theorem d5_71 : decode prog_74_method_3_code 71 = .ok (.aload_n 0, 1) := by decide +kernel
theorem d5_72 : decode prog_74_method_3_code 72 = .ok (.getfield 7, 3) := by decide +kernel
theorem d5_75 : decode prog_74_method_3_code 75 = .ok (.iload_n 3, 1) := by decide +kernel
theorem d5_76 : decode prog_74_method_3_code 76 = .ok (.iload_n 1, 1) := by decide +kernel
theorem d5_77 : decode prog_74_method_3_code 77 = .ok (.iastore, 1) := by decide +kernel
theorem d5_78 : decode prog_74_method_3_code 78 = .ok (.aload_n 0, 1) := by decide +kernel
theorem d5_79 : decode prog_74_method_3_code 79 = .ok (.getfield 13, 3) := by decide +kernel
theorem d5_82 : decode prog_74_method_3_code 82 = .ok (.iload_n 3, 1) := by decide +kernel
theorem d5_83 : decode prog_74_method_3_code 83 = .ok (.aload_n 0, 1) := by decide +kernel
theorem d5_84 : decode prog_74_method_3_code 84 = .ok (.getfield 34, 3) := by decide +kernel
theorem d5_87 : decode prog_74_method_3_code 87 = .ok (.iastore, 1) := by decide +kernel
theorem d5_88 : decode prog_74_method_3_code 88 = .ok (.aload_n 0, 1) := by decide +kernel
theorem d5_89 : decode prog_74_method_3_code 89 = .ok (.getfield 16, 3) := by decide +kernel
theorem d5_92 : decode prog_74_method_3_code 92 = .ok (.iload_n 3, 1) := by decide +kernel
theorem d5_93 : decode prog_74_method_3_code 93 = .ok (.aload_n 0, 1) := by decide +kernel
theorem d5_94 : decode prog_74_method_3_code 94 = .ok (.getfield 51, 3) := by decide +kernel
theorem d5_97 : decode prog_74_method_3_code 97 = .ok (.iastore, 1) := by decide +kernel
theorem d5_98 : decode prog_74_method_3_code 98 = .ok (.aload_n 0, 1) := by decide +kernel
theorem d5_99 : decode prog_74_method_3_code 99 = .ok (.getfield 19, 3) := by decide +kernel
theorem d5_102 : decode prog_74_method_3_code 102 = .ok (.aload_n 0, 1) := by decide +kernel
theorem d5_103 : decode prog_74_method_3_code 103 = .ok (.getfield 34, 3) := by decide +kernel
theorem d5_106 : decode prog_74_method_3_code 106 = .ok (.iload_n 1, 1) := by decide +kernel
theorem d5_107 : decode prog_74_method_3_code 107 = .ok (.iastore, 1) := by decide +kernel
theorem d5_108 : decode prog_74_method_3_code 108 = .ok (.aload_n 0, 1) := by decide +kernel
theorem d5_109 : decode prog_74_method_3_code 109 = .ok (.dup, 1) := by decide +kernel
theorem d5_110 : decode prog_74_method_3_code 110 = .ok (.getfield 34, 3) := by decide +kernel
theorem d5_113 : decode prog_74_method_3_code 113 = .ok (.iconst 1, 1) := by decide +kernel
theorem d5_114 : decode prog_74_method_3_code 114 = .ok (.iadd, 1) := by decide +kernel
theorem d5_115 : decode prog_74_method_3_code 115 = .ok (.putfield 34, 3) := by decide +kernel
theorem d5_118 : decode prog_74_method_3_code 118 = .ok (.aload_n 0, 1) := by decide +kernel
theorem d5_119 : decode prog_74_method_3_code 119 = .ok (.getfield 34, 3) := by decide +kernel
theorem d5_122 : decode prog_74_method_3_code 122 = .ok (.iconst 1, 1) := by decide +kernel
theorem d5_123 : decode prog_74_method_3_code 123 = .ok (.isub, 1) := by decide +kernel
theorem d5_124 : decode prog_74_method_3_code 124 = .ok (.ireturn, 1) := by decide +kernel
abbrev oy5 : MethodName := ⟨"com/example/trailhead/trailhead/globals/ValueIds", "idOf", "(I)I"⟩
theorem pn5 : plainFor oy5 = true := by first | exact plainFor_of_name (by first | (simp [plainName, overriddenIn]; done) | decide +kernel) | decide +kernel
theorem pd5 : parseMethodDescriptor oy5.desc = some ⟨[.int], some .int⟩ := by decide +kernel
theorem d6_0 : decode prog_74_method_5_code 0 = .ok (.aload_n 0, 1) := by decide +kernel
theorem d6_1 : decode prog_74_method_5_code 1 = .ok (.getfield 34, 3) := by decide +kernel
theorem d6_4 : decode prog_74_method_5_code 4 = .ok (.ireturn, 1) := by decide +kernel
abbrev oy6 : MethodName := ⟨"com/example/trailhead/trailhead/globals/ValueIds", "size", "()I"⟩
theorem pn6 : plainFor oy6 = true := by first | exact plainFor_of_name (by first | (simp [plainName, overriddenIn]; done) | decide +kernel) | decide +kernel
theorem pd6 : parseMethodDescriptor oy6.desc = some ⟨[], some .int⟩ := by decide +kernel
theorem d7_0 : decode jdk_33_method_45_code 0 = .ok (.iload_n 0, 1) := by decide +kernel
theorem d7_1 : decode jdk_33_method_45_code 1 = .ok (.ldc 127, 2) := by decide +kernel
theorem d7_3 : decode jdk_33_method_45_code 3 = .ok (.iload_n 0, 1) := by decide +kernel
theorem d7_4 : decode jdk_33_method_45_code 4 = .ok (.invokestatic 51, 3) := by decide +kernel
theorem d7_7 : decode jdk_33_method_45_code 7 = .ok (.iushr, 1) := by decide +kernel
theorem d7_8 : decode jdk_33_method_45_code 8 = .ok (.iand, 1) := by decide +kernel
theorem d7_9 : decode jdk_33_method_45_code 9 = .ok (.ireturn, 1) := by decide +kernel
abbrev oy7 : MethodName := ⟨"java/lang/Integer", "highestOneBit", "(I)I"⟩
theorem pn7 : plainFor oy7 = true := by first | exact plainFor_of_name (by first | (simp [plainName, overriddenIn]; done) | decide +kernel) | decide +kernel
theorem pd7 : parseMethodDescriptor oy7.desc = some ⟨[.int], some .int⟩ := by decide +kernel
theorem d8_0 : decode jdk_33_method_47_code 0 = .ok (.iload_n 0, 1) := by decide +kernel
theorem d8_1 : decode jdk_33_method_47_code 1 = .ok (.ifCond .gt 14, 3) := by decide +kernel
theorem d8_4 : decode jdk_33_method_47_code 4 = .ok (.iload_n 0, 1) := by decide +kernel
theorem d8_5 : decode jdk_33_method_47_code 5 = .ok (.ifCond .ne 8, 3) := by decide +kernel
theorem d8_8 : decode jdk_33_method_47_code 8 = .ok (.bipush 32, 2) := by decide +kernel
theorem d8_10 : decode jdk_33_method_47_code 10 = .ok (.goto 4, 3) := by decide +kernel
theorem d8_13 : decode jdk_33_method_47_code 13 = .ok (.iconst 0, 1) := by decide +kernel
theorem d8_14 : decode jdk_33_method_47_code 14 = .ok (.ireturn, 1) := by decide +kernel
theorem d8_15 : decode jdk_33_method_47_code 15 = .ok (.bipush 31, 2) := by decide +kernel
theorem d8_17 : decode jdk_33_method_47_code 17 = .ok (.istore_n 1, 1) := by decide +kernel
theorem d8_18 : decode jdk_33_method_47_code 18 = .ok (.iload_n 0, 1) := by decide +kernel
theorem d8_19 : decode jdk_33_method_47_code 19 = .ok (.ldc_w 264, 3) := by decide +kernel
theorem d8_22 : decode jdk_33_method_47_code 22 = .ok (.if_icmp .lt 11, 3) := by decide +kernel
theorem d8_25 : decode jdk_33_method_47_code 25 = .ok (.iinc 1 (-16), 3) := by decide +kernel
theorem d8_28 : decode jdk_33_method_47_code 28 = .ok (.iload_n 0, 1) := by decide +kernel
theorem d8_29 : decode jdk_33_method_47_code 29 = .ok (.bipush 16, 2) := by decide +kernel
theorem d8_31 : decode jdk_33_method_47_code 31 = .ok (.iushr, 1) := by decide +kernel
theorem d8_32 : decode jdk_33_method_47_code 32 = .ok (.istore_n 0, 1) := by decide +kernel
theorem d8_33 : decode jdk_33_method_47_code 33 = .ok (.iload_n 0, 1) := by decide +kernel
theorem d8_34 : decode jdk_33_method_47_code 34 = .ok (.sipush 256, 3) := by decide +kernel
theorem d8_37 : decode jdk_33_method_47_code 37 = .ok (.if_icmp .lt 11, 3) := by decide +kernel
theorem d8_40 : decode jdk_33_method_47_code 40 = .ok (.iinc 1 (-8), 3) := by decide +kernel
theorem d8_43 : decode jdk_33_method_47_code 43 = .ok (.iload_n 0, 1) := by decide +kernel
theorem d8_44 : decode jdk_33_method_47_code 44 = .ok (.bipush 8, 2) := by decide +kernel
theorem d8_46 : decode jdk_33_method_47_code 46 = .ok (.iushr, 1) := by decide +kernel
theorem d8_47 : decode jdk_33_method_47_code 47 = .ok (.istore_n 0, 1) := by decide +kernel
theorem d8_48 : decode jdk_33_method_47_code 48 = .ok (.iload_n 0, 1) := by decide +kernel
theorem d8_49 : decode jdk_33_method_47_code 49 = .ok (.bipush 16, 2) := by decide +kernel
theorem d8_51 : decode jdk_33_method_47_code 51 = .ok (.if_icmp .lt 10, 3) := by decide +kernel
theorem d8_54 : decode jdk_33_method_47_code 54 = .ok (.iinc 1 (-4), 3) := by decide +kernel
theorem d8_57 : decode jdk_33_method_47_code 57 = .ok (.iload_n 0, 1) := by decide +kernel
theorem d8_58 : decode jdk_33_method_47_code 58 = .ok (.iconst 4, 1) := by decide +kernel
theorem d8_59 : decode jdk_33_method_47_code 59 = .ok (.iushr, 1) := by decide +kernel
theorem d8_60 : decode jdk_33_method_47_code 60 = .ok (.istore_n 0, 1) := by decide +kernel
theorem d8_61 : decode jdk_33_method_47_code 61 = .ok (.iload_n 0, 1) := by decide +kernel
theorem d8_62 : decode jdk_33_method_47_code 62 = .ok (.iconst 4, 1) := by decide +kernel
theorem d8_63 : decode jdk_33_method_47_code 63 = .ok (.if_icmp .lt 10, 3) := by decide +kernel
theorem d8_66 : decode jdk_33_method_47_code 66 = .ok (.iinc 1 (-2), 3) := by decide +kernel
theorem d8_69 : decode jdk_33_method_47_code 69 = .ok (.iload_n 0, 1) := by decide +kernel
theorem d8_70 : decode jdk_33_method_47_code 70 = .ok (.iconst 2, 1) := by decide +kernel
theorem d8_71 : decode jdk_33_method_47_code 71 = .ok (.iushr, 1) := by decide +kernel
theorem d8_72 : decode jdk_33_method_47_code 72 = .ok (.istore_n 0, 1) := by decide +kernel
theorem d8_73 : decode jdk_33_method_47_code 73 = .ok (.iload_n 1, 1) := by decide +kernel
theorem d8_74 : decode jdk_33_method_47_code 74 = .ok (.iload_n 0, 1) := by decide +kernel
theorem d8_75 : decode jdk_33_method_47_code 75 = .ok (.iconst 1, 1) := by decide +kernel
theorem d8_76 : decode jdk_33_method_47_code 76 = .ok (.iushr, 1) := by decide +kernel
theorem d8_77 : decode jdk_33_method_47_code 77 = .ok (.isub, 1) := by decide +kernel
theorem d8_78 : decode jdk_33_method_47_code 78 = .ok (.ireturn, 1) := by decide +kernel
abbrev oy8 : MethodName := ⟨"java/lang/Integer", "numberOfLeadingZeros", "(I)I"⟩
theorem pn8 : plainFor oy8 = true := by first | exact plainFor_of_name (by first | (simp [plainName, overriddenIn]; done) | decide +kernel) | decide +kernel
theorem pd8 : parseMethodDescriptor oy8.desc = some ⟨[.int], some .int⟩ := by decide +kernel
abbrev orm1 : Room := { frames := 1, cells := 4, slots := 0, locals := 16 }
abbrev orm3 : Room := { frames := 0, cells := 0, slots := 0, locals := 0 }
abbrev orm4 : Room := { frames := 2, cells := 4, slots := 105, locals := 48 }
abbrev orm5 : Room := { frames := 0, cells := 0, slots := 0, locals := 0 }
abbrev orm6 : Room := { frames := 0, cells := 0, slots := 0, locals := 0 }
abbrev orm7 : Room := { frames := 1, cells := 0, slots := 0, locals := 24 }
abbrev orm8 : Room := { frames := 0, cells := 0, slots := 0, locals := 0 }
set_option maxRecDepth 65536 in
set_option maxHeartbeats 40000000 in
theorem oc3 (l : Launch) (Z : State) (a0 : Array Value) (hw : ∀ d ∈ tables_1, d.before a0 Z = true) (n0 : Nat) (h : Heap) (a b : Int32) : o_C l Z n0 oy3 jdk_29_method_69_code 2 (some .int) orm3 [(.int a), (.int b)] h (fun v h' => (∃ m : Int32, v = some (.int m) ∧ m.toInt ≤ b.toInt) ∧ h' = h) := by
  refine o_body (Ls := [.val (.int a), .val (.int b)]) pn3 (by first | (simp [argsToLocals, Value.category]; done) | rfl) (fun κ B => ?_)
  refine o_iloadN (pc := 0) B d3_0 rfl ?_
  refine o_iloadN (pc := 1) B d3_1 rfl ?_
  refine o_icmp_gt (pc := 2) (pc' := 9) B d3_2 (by decide) (by decide) (fun hc2 => ?_) (fun hc2 => ?_)
  · refine o_iloadN (pc := 9) B d3_9 rfl ?_
    exact o_ireturn (pc := 10) B d3_10 (by decide) (by decide) (⟨⟨_, rfl, Int.le_refl _⟩, rfl⟩)
  refine o_iloadN (pc := 5) B d3_5 rfl ?_
  refine o_goto (pc := 6) (pc' := 10) B d3_6 (by decide) (by decide) ?_
  exact o_ireturn (pc := 10) B d3_10 (by decide) (by decide) (⟨⟨_, rfl, by rw [Int32.lt_iff_toInt_lt] at hc2; omega⟩, rfl⟩)
set_option maxRecDepth 65536 in
set_option maxHeartbeats 40000000 in
theorem oc6 (l : Launch) (Z : State) (a0 : Array Value) (hw : ∀ d ∈ tables_1, d.before a0 Z = true) (n0 : Nat) (h : Heap) (o : Addr) (m : Int32) (F : Fld Z h o own_VI "count" "I" (.int m)) : o_C l Z n0 oy6 prog_74_method_5_code 1 (some .int) orm6 [(.ref o)] h (fun v h' => v = some (.int m) ∧ h' = h) := by
  refine o_body (Ls := [.val (.ref o)]) pn6 (by first | (simp [argsToLocals, Value.category]; done) | rfl) (fun κ B => ?_)
  refine o_aloadN (pc := 0) B d6_0 rfl rfl ?_
  refine o_getF (pc := 1) B d6_1 (hw _ (List.mem_of_getElem? (i := 34) rfl)) (F) ?_
  exact o_ireturn (pc := 4) B d6_4 (by decide) (by decide) (⟨rfl, rfl⟩)
set_option maxRecDepth 65536 in
set_option maxHeartbeats 40000000 in
theorem oc8_5 (l : Launch) (Z : State) (a0 : Array Value) (hw : ∀ d ∈ tables_1, d.before a0 Z = true) (n0 : Nat) (h : Heap)  : o_C l Z n0 oy8 jdk_33_method_47_code 2 (some .int) orm8 [(.int 5)] h (fun v h' => v = some (.int 29) ∧ h' = h) := by
  refine o_body (Ls := [.val (.int 5), .unset]) pn8 (by first | (simp [argsToLocals, Value.category]; done) | rfl) (fun κ B => ?_)
  refine o_iloadN (pc := 0) B d8_0 rfl ?_
  refine o_if_gt (pc := 1) (pc' := 15) B d8_1 (by decide) (by decide) (fun hc1 => ?_) (fun hc1 => False.elim (by revert hc1; decide))
  refine o_bipush (pc := 15) B (31 : Int32) d8_15 (by decide) ?_
  refine o_istoreN_2_1 (pc := 17) B d8_17 rfl ?_
  refine o_iloadN (pc := 18) B d8_18 rfl ?_
  refine o_ldc_w (pc := 19) B (x := (65536 : Int32)) d8_19 (hw _ (List.mem_of_getElem? (i := 57) rfl)) ?_
  refine o_icmp_lt (pc := 22) (pc' := 33) B d8_22 (by decide) (by decide) (fun hc22 => ?_) (fun hc22 => False.elim (by revert hc22; decide))
  refine o_iloadN (pc := 33) B d8_33 rfl ?_
  refine o_sipush (pc := 34) B (256 : Int32) d8_34 (by decide) ?_
  refine o_icmp_lt (pc := 37) (pc' := 48) B d8_37 (by decide) (by decide) (fun hc37 => ?_) (fun hc37 => False.elim (by revert hc37; decide))
  refine o_iloadN (pc := 48) B d8_48 rfl ?_
  refine o_bipush (pc := 49) B (16 : Int32) d8_49 (by decide) ?_
  refine o_icmp_lt (pc := 51) (pc' := 61) B d8_51 (by decide) (by decide) (fun hc51 => ?_) (fun hc51 => False.elim (by revert hc51; decide))
  refine o_iloadN (pc := 61) B d8_61 rfl ?_
  refine o_iconst (pc := 62) B (4 : Int32) d8_62 (by decide) ?_
  refine o_icmp_lt (pc := 63) (pc' := 73) B d8_63 (by decide) (by decide) (fun hc63 => False.elim (by revert hc63; decide)) (fun hc63 => ?_)
  refine o_iinc_2_1 (pc := 66) B (-2 : Int32) (29 : Int32) d8_66 (by decide) (by decide) ?_
  refine o_iloadN (pc := 69) B d8_69 rfl ?_
  refine o_iconst (pc := 70) B (2 : Int32) d8_70 (by decide) ?_
  refine o_iushr_c (pc := 71) B (1 : Int32) d8_71 (by decide) ?_
  refine o_istoreN_2_0 (pc := 72) B d8_72 rfl ?_
  refine o_iloadN (pc := 73) B d8_73 rfl ?_
  refine o_iloadN (pc := 74) B d8_74 rfl ?_
  refine o_iconst (pc := 75) B (1 : Int32) d8_75 (by decide) ?_
  refine o_iushr_c (pc := 76) B (0 : Int32) d8_76 (by decide) ?_
  refine o_isub_c (pc := 77) B (29 : Int32) d8_77 (by decide) ?_
  exact o_ireturn (pc := 78) B d8_78 (by decide) (by decide) (⟨rfl, rfl⟩)
set_option maxRecDepth 65536 in
set_option maxHeartbeats 40000000 in
theorem oc8_9 (l : Launch) (Z : State) (a0 : Array Value) (hw : ∀ d ∈ tables_1, d.before a0 Z = true) (n0 : Nat) (h : Heap)  : o_C l Z n0 oy8 jdk_33_method_47_code 2 (some .int) orm8 [(.int 9)] h (fun v h' => v = some (.int 28) ∧ h' = h) := by
  refine o_body (Ls := [.val (.int 9), .unset]) pn8 (by first | (simp [argsToLocals, Value.category]; done) | rfl) (fun κ B => ?_)
  refine o_iloadN (pc := 0) B d8_0 rfl ?_
  refine o_if_gt (pc := 1) (pc' := 15) B d8_1 (by decide) (by decide) (fun hc1 => ?_) (fun hc1 => False.elim (by revert hc1; decide))
  refine o_bipush (pc := 15) B (31 : Int32) d8_15 (by decide) ?_
  refine o_istoreN_2_1 (pc := 17) B d8_17 rfl ?_
  refine o_iloadN (pc := 18) B d8_18 rfl ?_
  refine o_ldc_w (pc := 19) B (x := (65536 : Int32)) d8_19 (hw _ (List.mem_of_getElem? (i := 57) rfl)) ?_
  refine o_icmp_lt (pc := 22) (pc' := 33) B d8_22 (by decide) (by decide) (fun hc22 => ?_) (fun hc22 => False.elim (by revert hc22; decide))
  refine o_iloadN (pc := 33) B d8_33 rfl ?_
  refine o_sipush (pc := 34) B (256 : Int32) d8_34 (by decide) ?_
  refine o_icmp_lt (pc := 37) (pc' := 48) B d8_37 (by decide) (by decide) (fun hc37 => ?_) (fun hc37 => False.elim (by revert hc37; decide))
  refine o_iloadN (pc := 48) B d8_48 rfl ?_
  refine o_bipush (pc := 49) B (16 : Int32) d8_49 (by decide) ?_
  refine o_icmp_lt (pc := 51) (pc' := 61) B d8_51 (by decide) (by decide) (fun hc51 => ?_) (fun hc51 => False.elim (by revert hc51; decide))
  refine o_iloadN (pc := 61) B d8_61 rfl ?_
  refine o_iconst (pc := 62) B (4 : Int32) d8_62 (by decide) ?_
  refine o_icmp_lt (pc := 63) (pc' := 73) B d8_63 (by decide) (by decide) (fun hc63 => False.elim (by revert hc63; decide)) (fun hc63 => ?_)
  refine o_iinc_2_1 (pc := 66) B (-2 : Int32) (29 : Int32) d8_66 (by decide) (by decide) ?_
  refine o_iloadN (pc := 69) B d8_69 rfl ?_
  refine o_iconst (pc := 70) B (2 : Int32) d8_70 (by decide) ?_
  refine o_iushr_c (pc := 71) B (2 : Int32) d8_71 (by decide) ?_
  refine o_istoreN_2_0 (pc := 72) B d8_72 rfl ?_
  refine o_iloadN (pc := 73) B d8_73 rfl ?_
  refine o_iloadN (pc := 74) B d8_74 rfl ?_
  refine o_iconst (pc := 75) B (1 : Int32) d8_75 (by decide) ?_
  refine o_iushr_c (pc := 76) B (1 : Int32) d8_76 (by decide) ?_
  refine o_isub_c (pc := 77) B (28 : Int32) d8_77 (by decide) ?_
  exact o_ireturn (pc := 78) B d8_78 (by decide) (by decide) (⟨rfl, rfl⟩)
set_option maxRecDepth 65536 in
set_option maxHeartbeats 40000000 in
theorem oc8_11 (l : Launch) (Z : State) (a0 : Array Value) (hw : ∀ d ∈ tables_1, d.before a0 Z = true) (n0 : Nat) (h : Heap)  : o_C l Z n0 oy8 jdk_33_method_47_code 2 (some .int) orm8 [(.int 11)] h (fun v h' => v = some (.int 28) ∧ h' = h) := by
  refine o_body (Ls := [.val (.int 11), .unset]) pn8 (by first | (simp [argsToLocals, Value.category]; done) | rfl) (fun κ B => ?_)
  refine o_iloadN (pc := 0) B d8_0 rfl ?_
  refine o_if_gt (pc := 1) (pc' := 15) B d8_1 (by decide) (by decide) (fun hc1 => ?_) (fun hc1 => False.elim (by revert hc1; decide))
  refine o_bipush (pc := 15) B (31 : Int32) d8_15 (by decide) ?_
  refine o_istoreN_2_1 (pc := 17) B d8_17 rfl ?_
  refine o_iloadN (pc := 18) B d8_18 rfl ?_
  refine o_ldc_w (pc := 19) B (x := (65536 : Int32)) d8_19 (hw _ (List.mem_of_getElem? (i := 57) rfl)) ?_
  refine o_icmp_lt (pc := 22) (pc' := 33) B d8_22 (by decide) (by decide) (fun hc22 => ?_) (fun hc22 => False.elim (by revert hc22; decide))
  refine o_iloadN (pc := 33) B d8_33 rfl ?_
  refine o_sipush (pc := 34) B (256 : Int32) d8_34 (by decide) ?_
  refine o_icmp_lt (pc := 37) (pc' := 48) B d8_37 (by decide) (by decide) (fun hc37 => ?_) (fun hc37 => False.elim (by revert hc37; decide))
  refine o_iloadN (pc := 48) B d8_48 rfl ?_
  refine o_bipush (pc := 49) B (16 : Int32) d8_49 (by decide) ?_
  refine o_icmp_lt (pc := 51) (pc' := 61) B d8_51 (by decide) (by decide) (fun hc51 => ?_) (fun hc51 => False.elim (by revert hc51; decide))
  refine o_iloadN (pc := 61) B d8_61 rfl ?_
  refine o_iconst (pc := 62) B (4 : Int32) d8_62 (by decide) ?_
  refine o_icmp_lt (pc := 63) (pc' := 73) B d8_63 (by decide) (by decide) (fun hc63 => False.elim (by revert hc63; decide)) (fun hc63 => ?_)
  refine o_iinc_2_1 (pc := 66) B (-2 : Int32) (29 : Int32) d8_66 (by decide) (by decide) ?_
  refine o_iloadN (pc := 69) B d8_69 rfl ?_
  refine o_iconst (pc := 70) B (2 : Int32) d8_70 (by decide) ?_
  refine o_iushr_c (pc := 71) B (2 : Int32) d8_71 (by decide) ?_
  refine o_istoreN_2_0 (pc := 72) B d8_72 rfl ?_
  refine o_iloadN (pc := 73) B d8_73 rfl ?_
  refine o_iloadN (pc := 74) B d8_74 rfl ?_
  refine o_iconst (pc := 75) B (1 : Int32) d8_75 (by decide) ?_
  refine o_iushr_c (pc := 76) B (1 : Int32) d8_76 (by decide) ?_
  refine o_isub_c (pc := 77) B (28 : Int32) d8_77 (by decide) ?_
  exact o_ireturn (pc := 78) B d8_78 (by decide) (by decide) (⟨rfl, rfl⟩)
set_option maxRecDepth 65536 in
set_option maxHeartbeats 40000000 in
theorem oc8_13 (l : Launch) (Z : State) (a0 : Array Value) (hw : ∀ d ∈ tables_1, d.before a0 Z = true) (n0 : Nat) (h : Heap)  : o_C l Z n0 oy8 jdk_33_method_47_code 2 (some .int) orm8 [(.int 13)] h (fun v h' => v = some (.int 28) ∧ h' = h) := by
  refine o_body (Ls := [.val (.int 13), .unset]) pn8 (by first | (simp [argsToLocals, Value.category]; done) | rfl) (fun κ B => ?_)
  refine o_iloadN (pc := 0) B d8_0 rfl ?_
  refine o_if_gt (pc := 1) (pc' := 15) B d8_1 (by decide) (by decide) (fun hc1 => ?_) (fun hc1 => False.elim (by revert hc1; decide))
  refine o_bipush (pc := 15) B (31 : Int32) d8_15 (by decide) ?_
  refine o_istoreN_2_1 (pc := 17) B d8_17 rfl ?_
  refine o_iloadN (pc := 18) B d8_18 rfl ?_
  refine o_ldc_w (pc := 19) B (x := (65536 : Int32)) d8_19 (hw _ (List.mem_of_getElem? (i := 57) rfl)) ?_
  refine o_icmp_lt (pc := 22) (pc' := 33) B d8_22 (by decide) (by decide) (fun hc22 => ?_) (fun hc22 => False.elim (by revert hc22; decide))
  refine o_iloadN (pc := 33) B d8_33 rfl ?_
  refine o_sipush (pc := 34) B (256 : Int32) d8_34 (by decide) ?_
  refine o_icmp_lt (pc := 37) (pc' := 48) B d8_37 (by decide) (by decide) (fun hc37 => ?_) (fun hc37 => False.elim (by revert hc37; decide))
  refine o_iloadN (pc := 48) B d8_48 rfl ?_
  refine o_bipush (pc := 49) B (16 : Int32) d8_49 (by decide) ?_
  refine o_icmp_lt (pc := 51) (pc' := 61) B d8_51 (by decide) (by decide) (fun hc51 => ?_) (fun hc51 => False.elim (by revert hc51; decide))
  refine o_iloadN (pc := 61) B d8_61 rfl ?_
  refine o_iconst (pc := 62) B (4 : Int32) d8_62 (by decide) ?_
  refine o_icmp_lt (pc := 63) (pc' := 73) B d8_63 (by decide) (by decide) (fun hc63 => False.elim (by revert hc63; decide)) (fun hc63 => ?_)
  refine o_iinc_2_1 (pc := 66) B (-2 : Int32) (29 : Int32) d8_66 (by decide) (by decide) ?_
  refine o_iloadN (pc := 69) B d8_69 rfl ?_
  refine o_iconst (pc := 70) B (2 : Int32) d8_70 (by decide) ?_
  refine o_iushr_c (pc := 71) B (3 : Int32) d8_71 (by decide) ?_
  refine o_istoreN_2_0 (pc := 72) B d8_72 rfl ?_
  refine o_iloadN (pc := 73) B d8_73 rfl ?_
  refine o_iloadN (pc := 74) B d8_74 rfl ?_
  refine o_iconst (pc := 75) B (1 : Int32) d8_75 (by decide) ?_
  refine o_iushr_c (pc := 76) B (1 : Int32) d8_76 (by decide) ?_
  refine o_isub_c (pc := 77) B (28 : Int32) d8_77 (by decide) ?_
  exact o_ireturn (pc := 78) B d8_78 (by decide) (by decide) (⟨rfl, rfl⟩)
set_option maxRecDepth 65536 in
set_option maxHeartbeats 40000000 in
theorem oc8_15 (l : Launch) (Z : State) (a0 : Array Value) (hw : ∀ d ∈ tables_1, d.before a0 Z = true) (n0 : Nat) (h : Heap)  : o_C l Z n0 oy8 jdk_33_method_47_code 2 (some .int) orm8 [(.int 15)] h (fun v h' => v = some (.int 28) ∧ h' = h) := by
  refine o_body (Ls := [.val (.int 15), .unset]) pn8 (by first | (simp [argsToLocals, Value.category]; done) | rfl) (fun κ B => ?_)
  refine o_iloadN (pc := 0) B d8_0 rfl ?_
  refine o_if_gt (pc := 1) (pc' := 15) B d8_1 (by decide) (by decide) (fun hc1 => ?_) (fun hc1 => False.elim (by revert hc1; decide))
  refine o_bipush (pc := 15) B (31 : Int32) d8_15 (by decide) ?_
  refine o_istoreN_2_1 (pc := 17) B d8_17 rfl ?_
  refine o_iloadN (pc := 18) B d8_18 rfl ?_
  refine o_ldc_w (pc := 19) B (x := (65536 : Int32)) d8_19 (hw _ (List.mem_of_getElem? (i := 57) rfl)) ?_
  refine o_icmp_lt (pc := 22) (pc' := 33) B d8_22 (by decide) (by decide) (fun hc22 => ?_) (fun hc22 => False.elim (by revert hc22; decide))
  refine o_iloadN (pc := 33) B d8_33 rfl ?_
  refine o_sipush (pc := 34) B (256 : Int32) d8_34 (by decide) ?_
  refine o_icmp_lt (pc := 37) (pc' := 48) B d8_37 (by decide) (by decide) (fun hc37 => ?_) (fun hc37 => False.elim (by revert hc37; decide))
  refine o_iloadN (pc := 48) B d8_48 rfl ?_
  refine o_bipush (pc := 49) B (16 : Int32) d8_49 (by decide) ?_
  refine o_icmp_lt (pc := 51) (pc' := 61) B d8_51 (by decide) (by decide) (fun hc51 => ?_) (fun hc51 => False.elim (by revert hc51; decide))
  refine o_iloadN (pc := 61) B d8_61 rfl ?_
  refine o_iconst (pc := 62) B (4 : Int32) d8_62 (by decide) ?_
  refine o_icmp_lt (pc := 63) (pc' := 73) B d8_63 (by decide) (by decide) (fun hc63 => False.elim (by revert hc63; decide)) (fun hc63 => ?_)
  refine o_iinc_2_1 (pc := 66) B (-2 : Int32) (29 : Int32) d8_66 (by decide) (by decide) ?_
  refine o_iloadN (pc := 69) B d8_69 rfl ?_
  refine o_iconst (pc := 70) B (2 : Int32) d8_70 (by decide) ?_
  refine o_iushr_c (pc := 71) B (3 : Int32) d8_71 (by decide) ?_
  refine o_istoreN_2_0 (pc := 72) B d8_72 rfl ?_
  refine o_iloadN (pc := 73) B d8_73 rfl ?_
  refine o_iloadN (pc := 74) B d8_74 rfl ?_
  refine o_iconst (pc := 75) B (1 : Int32) d8_75 (by decide) ?_
  refine o_iushr_c (pc := 76) B (1 : Int32) d8_76 (by decide) ?_
  refine o_isub_c (pc := 77) B (28 : Int32) d8_77 (by decide) ?_
  exact o_ireturn (pc := 78) B d8_78 (by decide) (by decide) (⟨rfl, rfl⟩)
set_option maxRecDepth 65536 in
set_option maxHeartbeats 40000000 in
theorem oc8_17 (l : Launch) (Z : State) (a0 : Array Value) (hw : ∀ d ∈ tables_1, d.before a0 Z = true) (n0 : Nat) (h : Heap)  : o_C l Z n0 oy8 jdk_33_method_47_code 2 (some .int) orm8 [(.int 17)] h (fun v h' => v = some (.int 27) ∧ h' = h) := by
  refine o_body (Ls := [.val (.int 17), .unset]) pn8 (by first | (simp [argsToLocals, Value.category]; done) | rfl) (fun κ B => ?_)
  refine o_iloadN (pc := 0) B d8_0 rfl ?_
  refine o_if_gt (pc := 1) (pc' := 15) B d8_1 (by decide) (by decide) (fun hc1 => ?_) (fun hc1 => False.elim (by revert hc1; decide))
  refine o_bipush (pc := 15) B (31 : Int32) d8_15 (by decide) ?_
  refine o_istoreN_2_1 (pc := 17) B d8_17 rfl ?_
  refine o_iloadN (pc := 18) B d8_18 rfl ?_
  refine o_ldc_w (pc := 19) B (x := (65536 : Int32)) d8_19 (hw _ (List.mem_of_getElem? (i := 57) rfl)) ?_
  refine o_icmp_lt (pc := 22) (pc' := 33) B d8_22 (by decide) (by decide) (fun hc22 => ?_) (fun hc22 => False.elim (by revert hc22; decide))
  refine o_iloadN (pc := 33) B d8_33 rfl ?_
  refine o_sipush (pc := 34) B (256 : Int32) d8_34 (by decide) ?_
  refine o_icmp_lt (pc := 37) (pc' := 48) B d8_37 (by decide) (by decide) (fun hc37 => ?_) (fun hc37 => False.elim (by revert hc37; decide))
  refine o_iloadN (pc := 48) B d8_48 rfl ?_
  refine o_bipush (pc := 49) B (16 : Int32) d8_49 (by decide) ?_
  refine o_icmp_lt (pc := 51) (pc' := 61) B d8_51 (by decide) (by decide) (fun hc51 => False.elim (by revert hc51; decide)) (fun hc51 => ?_)
  refine o_iinc_2_1 (pc := 54) B (-4 : Int32) (27 : Int32) d8_54 (by decide) (by decide) ?_
  refine o_iloadN (pc := 57) B d8_57 rfl ?_
  refine o_iconst (pc := 58) B (4 : Int32) d8_58 (by decide) ?_
  refine o_iushr_c (pc := 59) B (1 : Int32) d8_59 (by decide) ?_
  refine o_istoreN_2_0 (pc := 60) B d8_60 rfl ?_
  refine o_iloadN (pc := 61) B d8_61 rfl ?_
  refine o_iconst (pc := 62) B (4 : Int32) d8_62 (by decide) ?_
  refine o_icmp_lt (pc := 63) (pc' := 73) B d8_63 (by decide) (by decide) (fun hc63 => ?_) (fun hc63 => False.elim (by revert hc63; decide))
  refine o_iloadN (pc := 73) B d8_73 rfl ?_
  refine o_iloadN (pc := 74) B d8_74 rfl ?_
  refine o_iconst (pc := 75) B (1 : Int32) d8_75 (by decide) ?_
  refine o_iushr_c (pc := 76) B (0 : Int32) d8_76 (by decide) ?_
  refine o_isub_c (pc := 77) B (27 : Int32) d8_77 (by decide) ?_
  exact o_ireturn (pc := 78) B d8_78 (by decide) (by decide) (⟨rfl, rfl⟩)
set_option maxRecDepth 65536 in
set_option maxHeartbeats 40000000 in
theorem oc8_8 (l : Launch) (Z : State) (a0 : Array Value) (hw : ∀ d ∈ tables_1, d.before a0 Z = true) (n0 : Nat) (h : Heap)  : o_C l Z n0 oy8 jdk_33_method_47_code 2 (some .int) orm8 [(.int 8)] h (fun v h' => v = some (.int 28) ∧ h' = h) := by
  refine o_body (Ls := [.val (.int 8), .unset]) pn8 (by first | (simp [argsToLocals, Value.category]; done) | rfl) (fun κ B => ?_)
  refine o_iloadN (pc := 0) B d8_0 rfl ?_
  refine o_if_gt (pc := 1) (pc' := 15) B d8_1 (by decide) (by decide) (fun hc1 => ?_) (fun hc1 => False.elim (by revert hc1; decide))
  refine o_bipush (pc := 15) B (31 : Int32) d8_15 (by decide) ?_
  refine o_istoreN_2_1 (pc := 17) B d8_17 rfl ?_
  refine o_iloadN (pc := 18) B d8_18 rfl ?_
  refine o_ldc_w (pc := 19) B (x := (65536 : Int32)) d8_19 (hw _ (List.mem_of_getElem? (i := 57) rfl)) ?_
  refine o_icmp_lt (pc := 22) (pc' := 33) B d8_22 (by decide) (by decide) (fun hc22 => ?_) (fun hc22 => False.elim (by revert hc22; decide))
  refine o_iloadN (pc := 33) B d8_33 rfl ?_
  refine o_sipush (pc := 34) B (256 : Int32) d8_34 (by decide) ?_
  refine o_icmp_lt (pc := 37) (pc' := 48) B d8_37 (by decide) (by decide) (fun hc37 => ?_) (fun hc37 => False.elim (by revert hc37; decide))
  refine o_iloadN (pc := 48) B d8_48 rfl ?_
  refine o_bipush (pc := 49) B (16 : Int32) d8_49 (by decide) ?_
  refine o_icmp_lt (pc := 51) (pc' := 61) B d8_51 (by decide) (by decide) (fun hc51 => ?_) (fun hc51 => False.elim (by revert hc51; decide))
  refine o_iloadN (pc := 61) B d8_61 rfl ?_
  refine o_iconst (pc := 62) B (4 : Int32) d8_62 (by decide) ?_
  refine o_icmp_lt (pc := 63) (pc' := 73) B d8_63 (by decide) (by decide) (fun hc63 => False.elim (by revert hc63; decide)) (fun hc63 => ?_)
  refine o_iinc_2_1 (pc := 66) B (-2 : Int32) (29 : Int32) d8_66 (by decide) (by decide) ?_
  refine o_iloadN (pc := 69) B d8_69 rfl ?_
  refine o_iconst (pc := 70) B (2 : Int32) d8_70 (by decide) ?_
  refine o_iushr_c (pc := 71) B (2 : Int32) d8_71 (by decide) ?_
  refine o_istoreN_2_0 (pc := 72) B d8_72 rfl ?_
  refine o_iloadN (pc := 73) B d8_73 rfl ?_
  refine o_iloadN (pc := 74) B d8_74 rfl ?_
  refine o_iconst (pc := 75) B (1 : Int32) d8_75 (by decide) ?_
  refine o_iushr_c (pc := 76) B (1 : Int32) d8_76 (by decide) ?_
  refine o_isub_c (pc := 77) B (28 : Int32) d8_77 (by decide) ?_
  exact o_ireturn (pc := 78) B d8_78 (by decide) (by decide) (⟨rfl, rfl⟩)
set_option maxRecDepth 65536 in
set_option maxHeartbeats 40000000 in
theorem oc8_16 (l : Launch) (Z : State) (a0 : Array Value) (hw : ∀ d ∈ tables_1, d.before a0 Z = true) (n0 : Nat) (h : Heap)  : o_C l Z n0 oy8 jdk_33_method_47_code 2 (some .int) orm8 [(.int 16)] h (fun v h' => v = some (.int 27) ∧ h' = h) := by
  refine o_body (Ls := [.val (.int 16), .unset]) pn8 (by first | (simp [argsToLocals, Value.category]; done) | rfl) (fun κ B => ?_)
  refine o_iloadN (pc := 0) B d8_0 rfl ?_
  refine o_if_gt (pc := 1) (pc' := 15) B d8_1 (by decide) (by decide) (fun hc1 => ?_) (fun hc1 => False.elim (by revert hc1; decide))
  refine o_bipush (pc := 15) B (31 : Int32) d8_15 (by decide) ?_
  refine o_istoreN_2_1 (pc := 17) B d8_17 rfl ?_
  refine o_iloadN (pc := 18) B d8_18 rfl ?_
  refine o_ldc_w (pc := 19) B (x := (65536 : Int32)) d8_19 (hw _ (List.mem_of_getElem? (i := 57) rfl)) ?_
  refine o_icmp_lt (pc := 22) (pc' := 33) B d8_22 (by decide) (by decide) (fun hc22 => ?_) (fun hc22 => False.elim (by revert hc22; decide))
  refine o_iloadN (pc := 33) B d8_33 rfl ?_
  refine o_sipush (pc := 34) B (256 : Int32) d8_34 (by decide) ?_
  refine o_icmp_lt (pc := 37) (pc' := 48) B d8_37 (by decide) (by decide) (fun hc37 => ?_) (fun hc37 => False.elim (by revert hc37; decide))
  refine o_iloadN (pc := 48) B d8_48 rfl ?_
  refine o_bipush (pc := 49) B (16 : Int32) d8_49 (by decide) ?_
  refine o_icmp_lt (pc := 51) (pc' := 61) B d8_51 (by decide) (by decide) (fun hc51 => False.elim (by revert hc51; decide)) (fun hc51 => ?_)
  refine o_iinc_2_1 (pc := 54) B (-4 : Int32) (27 : Int32) d8_54 (by decide) (by decide) ?_
  refine o_iloadN (pc := 57) B d8_57 rfl ?_
  refine o_iconst (pc := 58) B (4 : Int32) d8_58 (by decide) ?_
  refine o_iushr_c (pc := 59) B (1 : Int32) d8_59 (by decide) ?_
  refine o_istoreN_2_0 (pc := 60) B d8_60 rfl ?_
  refine o_iloadN (pc := 61) B d8_61 rfl ?_
  refine o_iconst (pc := 62) B (4 : Int32) d8_62 (by decide) ?_
  refine o_icmp_lt (pc := 63) (pc' := 73) B d8_63 (by decide) (by decide) (fun hc63 => ?_) (fun hc63 => False.elim (by revert hc63; decide))
  refine o_iloadN (pc := 73) B d8_73 rfl ?_
  refine o_iloadN (pc := 74) B d8_74 rfl ?_
  refine o_iconst (pc := 75) B (1 : Int32) d8_75 (by decide) ?_
  refine o_iushr_c (pc := 76) B (0 : Int32) d8_76 (by decide) ?_
  refine o_isub_c (pc := 77) B (27 : Int32) d8_77 (by decide) ?_
  exact o_ireturn (pc := 78) B d8_78 (by decide) (by decide) (⟨rfl, rfl⟩)
set_option maxRecDepth 65536 in
set_option maxHeartbeats 40000000 in
theorem oc8_32 (l : Launch) (Z : State) (a0 : Array Value) (hw : ∀ d ∈ tables_1, d.before a0 Z = true) (n0 : Nat) (h : Heap)  : o_C l Z n0 oy8 jdk_33_method_47_code 2 (some .int) orm8 [(.int 32)] h (fun v h' => v = some (.int 26) ∧ h' = h) := by
  refine o_body (Ls := [.val (.int 32), .unset]) pn8 (by first | (simp [argsToLocals, Value.category]; done) | rfl) (fun κ B => ?_)
  refine o_iloadN (pc := 0) B d8_0 rfl ?_
  refine o_if_gt (pc := 1) (pc' := 15) B d8_1 (by decide) (by decide) (fun hc1 => ?_) (fun hc1 => False.elim (by revert hc1; decide))
  refine o_bipush (pc := 15) B (31 : Int32) d8_15 (by decide) ?_
  refine o_istoreN_2_1 (pc := 17) B d8_17 rfl ?_
  refine o_iloadN (pc := 18) B d8_18 rfl ?_
  refine o_ldc_w (pc := 19) B (x := (65536 : Int32)) d8_19 (hw _ (List.mem_of_getElem? (i := 57) rfl)) ?_
  refine o_icmp_lt (pc := 22) (pc' := 33) B d8_22 (by decide) (by decide) (fun hc22 => ?_) (fun hc22 => False.elim (by revert hc22; decide))
  refine o_iloadN (pc := 33) B d8_33 rfl ?_
  refine o_sipush (pc := 34) B (256 : Int32) d8_34 (by decide) ?_
  refine o_icmp_lt (pc := 37) (pc' := 48) B d8_37 (by decide) (by decide) (fun hc37 => ?_) (fun hc37 => False.elim (by revert hc37; decide))
  refine o_iloadN (pc := 48) B d8_48 rfl ?_
  refine o_bipush (pc := 49) B (16 : Int32) d8_49 (by decide) ?_
  refine o_icmp_lt (pc := 51) (pc' := 61) B d8_51 (by decide) (by decide) (fun hc51 => False.elim (by revert hc51; decide)) (fun hc51 => ?_)
  refine o_iinc_2_1 (pc := 54) B (-4 : Int32) (27 : Int32) d8_54 (by decide) (by decide) ?_
  refine o_iloadN (pc := 57) B d8_57 rfl ?_
  refine o_iconst (pc := 58) B (4 : Int32) d8_58 (by decide) ?_
  refine o_iushr_c (pc := 59) B (2 : Int32) d8_59 (by decide) ?_
  refine o_istoreN_2_0 (pc := 60) B d8_60 rfl ?_
  refine o_iloadN (pc := 61) B d8_61 rfl ?_
  refine o_iconst (pc := 62) B (4 : Int32) d8_62 (by decide) ?_
  refine o_icmp_lt (pc := 63) (pc' := 73) B d8_63 (by decide) (by decide) (fun hc63 => ?_) (fun hc63 => False.elim (by revert hc63; decide))
  refine o_iloadN (pc := 73) B d8_73 rfl ?_
  refine o_iloadN (pc := 74) B d8_74 rfl ?_
  refine o_iconst (pc := 75) B (1 : Int32) d8_75 (by decide) ?_
  refine o_iushr_c (pc := 76) B (1 : Int32) d8_76 (by decide) ?_
  refine o_isub_c (pc := 77) B (26 : Int32) d8_77 (by decide) ?_
  exact o_ireturn (pc := 78) B d8_78 (by decide) (by decide) (⟨rfl, rfl⟩)
set_option maxRecDepth 65536 in
set_option maxHeartbeats 40000000 in
theorem oc7_5 (l : Launch) (Z : State) (a0 : Array Value) (hw : ∀ d ∈ tables_1, d.before a0 Z = true) (n0 : Nat) (h : Heap)  : o_C l Z n0 oy7 jdk_33_method_45_code 1 (some .int) orm7 [(.int 5)] h (fun v h' => v = some (.int 4) ∧ h' = h) := by
  refine o_body (Ls := [.val (.int 5)]) pn7 (by first | (simp [argsToLocals, Value.category]; done) | rfl) (fun κ B => ?_)
  refine o_iloadN (pc := 0) B d7_0 rfl ?_
  refine o_ldc (pc := 1) B (x := (-2147483648 : Int32)) d7_1 (hw _ (List.mem_of_getElem? (i := 53) rfl)) ?_
  refine o_iloadN (pc := 3) B d7_3 rfl ?_
  refine o_callS1 (pc := 4) B 2 d7_4 (hw _ (List.mem_of_getElem? (i := 54) rfl)) (hw _ (List.mem_of_getElem? (i := 55) rfl)) (hw _ (List.mem_of_getElem? (i := 51) rfl)) (hw _ (List.mem_of_getElem? (i := 56) rfl)) (by decide) pd8 rfl (by first | exact Nat.zero_le _ | exact Nat.le_of_ble_eq_true rfl | simp [Value.category]) (by decide) (by decide) (by decide) (by decide) rfl (oc8_5 l Z a0 hw n0 _) ?_
  rintro v h' ⟨rfl, rfl⟩
  refine o_iushr_c (pc := 7) B (4 : Int32) d7_7 (by decide) ?_
  refine o_iand_c (pc := 8) B (4 : Int32) d7_8 (by decide) ?_
  exact o_ireturn (pc := 9) B d7_9 (by decide) (by decide) (⟨rfl, rfl⟩)
set_option maxRecDepth 65536 in
set_option maxHeartbeats 40000000 in
theorem oc7_9 (l : Launch) (Z : State) (a0 : Array Value) (hw : ∀ d ∈ tables_1, d.before a0 Z = true) (n0 : Nat) (h : Heap)  : o_C l Z n0 oy7 jdk_33_method_45_code 1 (some .int) orm7 [(.int 9)] h (fun v h' => v = some (.int 8) ∧ h' = h) := by
  refine o_body (Ls := [.val (.int 9)]) pn7 (by first | (simp [argsToLocals, Value.category]; done) | rfl) (fun κ B => ?_)
  refine o_iloadN (pc := 0) B d7_0 rfl ?_
  refine o_ldc (pc := 1) B (x := (-2147483648 : Int32)) d7_1 (hw _ (List.mem_of_getElem? (i := 53) rfl)) ?_
  refine o_iloadN (pc := 3) B d7_3 rfl ?_
  refine o_callS1 (pc := 4) B 2 d7_4 (hw _ (List.mem_of_getElem? (i := 54) rfl)) (hw _ (List.mem_of_getElem? (i := 55) rfl)) (hw _ (List.mem_of_getElem? (i := 51) rfl)) (hw _ (List.mem_of_getElem? (i := 56) rfl)) (by decide) pd8 rfl (by first | exact Nat.zero_le _ | exact Nat.le_of_ble_eq_true rfl | simp [Value.category]) (by decide) (by decide) (by decide) (by decide) rfl (oc8_9 l Z a0 hw n0 _) ?_
  rintro v h' ⟨rfl, rfl⟩
  refine o_iushr_c (pc := 7) B (8 : Int32) d7_7 (by decide) ?_
  refine o_iand_c (pc := 8) B (8 : Int32) d7_8 (by decide) ?_
  exact o_ireturn (pc := 9) B d7_9 (by decide) (by decide) (⟨rfl, rfl⟩)
set_option maxRecDepth 65536 in
set_option maxHeartbeats 40000000 in
theorem oc7_11 (l : Launch) (Z : State) (a0 : Array Value) (hw : ∀ d ∈ tables_1, d.before a0 Z = true) (n0 : Nat) (h : Heap)  : o_C l Z n0 oy7 jdk_33_method_45_code 1 (some .int) orm7 [(.int 11)] h (fun v h' => v = some (.int 8) ∧ h' = h) := by
  refine o_body (Ls := [.val (.int 11)]) pn7 (by first | (simp [argsToLocals, Value.category]; done) | rfl) (fun κ B => ?_)
  refine o_iloadN (pc := 0) B d7_0 rfl ?_
  refine o_ldc (pc := 1) B (x := (-2147483648 : Int32)) d7_1 (hw _ (List.mem_of_getElem? (i := 53) rfl)) ?_
  refine o_iloadN (pc := 3) B d7_3 rfl ?_
  refine o_callS1 (pc := 4) B 2 d7_4 (hw _ (List.mem_of_getElem? (i := 54) rfl)) (hw _ (List.mem_of_getElem? (i := 55) rfl)) (hw _ (List.mem_of_getElem? (i := 51) rfl)) (hw _ (List.mem_of_getElem? (i := 56) rfl)) (by decide) pd8 rfl (by first | exact Nat.zero_le _ | exact Nat.le_of_ble_eq_true rfl | simp [Value.category]) (by decide) (by decide) (by decide) (by decide) rfl (oc8_11 l Z a0 hw n0 _) ?_
  rintro v h' ⟨rfl, rfl⟩
  refine o_iushr_c (pc := 7) B (8 : Int32) d7_7 (by decide) ?_
  refine o_iand_c (pc := 8) B (8 : Int32) d7_8 (by decide) ?_
  exact o_ireturn (pc := 9) B d7_9 (by decide) (by decide) (⟨rfl, rfl⟩)
set_option maxRecDepth 65536 in
set_option maxHeartbeats 40000000 in
theorem oc7_13 (l : Launch) (Z : State) (a0 : Array Value) (hw : ∀ d ∈ tables_1, d.before a0 Z = true) (n0 : Nat) (h : Heap)  : o_C l Z n0 oy7 jdk_33_method_45_code 1 (some .int) orm7 [(.int 13)] h (fun v h' => v = some (.int 8) ∧ h' = h) := by
  refine o_body (Ls := [.val (.int 13)]) pn7 (by first | (simp [argsToLocals, Value.category]; done) | rfl) (fun κ B => ?_)
  refine o_iloadN (pc := 0) B d7_0 rfl ?_
  refine o_ldc (pc := 1) B (x := (-2147483648 : Int32)) d7_1 (hw _ (List.mem_of_getElem? (i := 53) rfl)) ?_
  refine o_iloadN (pc := 3) B d7_3 rfl ?_
  refine o_callS1 (pc := 4) B 2 d7_4 (hw _ (List.mem_of_getElem? (i := 54) rfl)) (hw _ (List.mem_of_getElem? (i := 55) rfl)) (hw _ (List.mem_of_getElem? (i := 51) rfl)) (hw _ (List.mem_of_getElem? (i := 56) rfl)) (by decide) pd8 rfl (by first | exact Nat.zero_le _ | exact Nat.le_of_ble_eq_true rfl | simp [Value.category]) (by decide) (by decide) (by decide) (by decide) rfl (oc8_13 l Z a0 hw n0 _) ?_
  rintro v h' ⟨rfl, rfl⟩
  refine o_iushr_c (pc := 7) B (8 : Int32) d7_7 (by decide) ?_
  refine o_iand_c (pc := 8) B (8 : Int32) d7_8 (by decide) ?_
  exact o_ireturn (pc := 9) B d7_9 (by decide) (by decide) (⟨rfl, rfl⟩)
set_option maxRecDepth 65536 in
set_option maxHeartbeats 40000000 in
theorem oc7_15 (l : Launch) (Z : State) (a0 : Array Value) (hw : ∀ d ∈ tables_1, d.before a0 Z = true) (n0 : Nat) (h : Heap)  : o_C l Z n0 oy7 jdk_33_method_45_code 1 (some .int) orm7 [(.int 15)] h (fun v h' => v = some (.int 8) ∧ h' = h) := by
  refine o_body (Ls := [.val (.int 15)]) pn7 (by first | (simp [argsToLocals, Value.category]; done) | rfl) (fun κ B => ?_)
  refine o_iloadN (pc := 0) B d7_0 rfl ?_
  refine o_ldc (pc := 1) B (x := (-2147483648 : Int32)) d7_1 (hw _ (List.mem_of_getElem? (i := 53) rfl)) ?_
  refine o_iloadN (pc := 3) B d7_3 rfl ?_
  refine o_callS1 (pc := 4) B 2 d7_4 (hw _ (List.mem_of_getElem? (i := 54) rfl)) (hw _ (List.mem_of_getElem? (i := 55) rfl)) (hw _ (List.mem_of_getElem? (i := 51) rfl)) (hw _ (List.mem_of_getElem? (i := 56) rfl)) (by decide) pd8 rfl (by first | exact Nat.zero_le _ | exact Nat.le_of_ble_eq_true rfl | simp [Value.category]) (by decide) (by decide) (by decide) (by decide) rfl (oc8_15 l Z a0 hw n0 _) ?_
  rintro v h' ⟨rfl, rfl⟩
  refine o_iushr_c (pc := 7) B (8 : Int32) d7_7 (by decide) ?_
  refine o_iand_c (pc := 8) B (8 : Int32) d7_8 (by decide) ?_
  exact o_ireturn (pc := 9) B d7_9 (by decide) (by decide) (⟨rfl, rfl⟩)
set_option maxRecDepth 65536 in
set_option maxHeartbeats 40000000 in
theorem oc7_17 (l : Launch) (Z : State) (a0 : Array Value) (hw : ∀ d ∈ tables_1, d.before a0 Z = true) (n0 : Nat) (h : Heap)  : o_C l Z n0 oy7 jdk_33_method_45_code 1 (some .int) orm7 [(.int 17)] h (fun v h' => v = some (.int 16) ∧ h' = h) := by
  refine o_body (Ls := [.val (.int 17)]) pn7 (by first | (simp [argsToLocals, Value.category]; done) | rfl) (fun κ B => ?_)
  refine o_iloadN (pc := 0) B d7_0 rfl ?_
  refine o_ldc (pc := 1) B (x := (-2147483648 : Int32)) d7_1 (hw _ (List.mem_of_getElem? (i := 53) rfl)) ?_
  refine o_iloadN (pc := 3) B d7_3 rfl ?_
  refine o_callS1 (pc := 4) B 2 d7_4 (hw _ (List.mem_of_getElem? (i := 54) rfl)) (hw _ (List.mem_of_getElem? (i := 55) rfl)) (hw _ (List.mem_of_getElem? (i := 51) rfl)) (hw _ (List.mem_of_getElem? (i := 56) rfl)) (by decide) pd8 rfl (by first | exact Nat.zero_le _ | exact Nat.le_of_ble_eq_true rfl | simp [Value.category]) (by decide) (by decide) (by decide) (by decide) rfl (oc8_17 l Z a0 hw n0 _) ?_
  rintro v h' ⟨rfl, rfl⟩
  refine o_iushr_c (pc := 7) B (16 : Int32) d7_7 (by decide) ?_
  refine o_iand_c (pc := 8) B (16 : Int32) d7_8 (by decide) ?_
  exact o_ireturn (pc := 9) B d7_9 (by decide) (by decide) (⟨rfl, rfl⟩)
set_option maxRecDepth 65536 in
set_option maxHeartbeats 40000000 in
theorem oc1 (l : Launch) (Z : State) (a0 : Array Value) (hw : ∀ d ∈ tables_1, d.before a0 Z = true) (n0 : Nat) (h : Heap) (o : Addr) (go : n0 ≤ o) (Z0 : n0 ≤ h.size) (E : Exa Z h o own_VI) (Foffsets : Fld Z h o own_VI "offsets" "Z" (.int 0)) (Flo : Fld Z h o own_VI "lo" "I" (.int 0)) (Fcount : Fld Z h o own_VI "count" "I" (.int 0)) (Fstamp : Fld Z h o own_VI "stamp" "I" (.int 0)) (Fshift : Fld Z h o own_VI "shift" "I" (.int 0)) (Fkeys : Fld Z h o own_VI "keys" "[I" .null) (Fids : Fld Z h o own_VI "ids" "[I" .null) (Fstamps : Fld Z h o own_VI "stamps" "[I" .null) (Fvalues : Fld Z h o own_VI "values" "[I" .null) : o_C l Z n0 oy1 prog_74_method_1_code 1 none orm1 [(.ref o)] h (fun v h' => v = none ∧ h.size ≤ h'.size ∧ ∃ k i s v, own_Ob Z n0 h' o k i s v 0 0 0 0 0 [] [] [] []) := by
  refine o_body (Ls := [.val (.ref o)]) pn1 (by first | (simp [argsToLocals, Value.category]; done) | rfl) (fun κ B => ?_)
  have lto := o_lt E.lt
  refine o_aloadN (pc := 0) B d1_0 rfl rfl ?_
  refine o_initO (pc := 1) B (W := 0) d1_1 (hw _ (List.mem_of_getElem? (i := 6) rfl)) (hw _ (List.mem_of_getElem? (i := 7) rfl)) (hw _ (List.mem_of_getElem? (i := 8) rfl)) (by decide) (by first | exact Nat.zero_le _ | exact Nat.le_of_ble_eq_true rfl | simp [Value.category]) (by decide) rfl ?_
  refine o_aloadN (pc := 4) B d1_4 rfl rfl ?_
  refine o_iconst (pc := 5) B (0 : Int32) d1_5 (by decide) ?_
  refine o_newarray (pc := 6) B (0) (0) d1_6 (hw _ (List.mem_of_getElem? (i := 9) rfl)) (by decide) (by first | decide | omega) (by first | decide | omega) (by decide) (by decide) ?_
  intro h1 X0 lt0 A0
  obtain ⟨k, gk, ek⟩ : ∃ a, n0 ≤ a ∧ a = h.size := ⟨_, (by omega), rfl⟩
  rw [← ek] at A0 ⊢
  have Ak : o_IA Z h1 k [] := A0
  have Foffsets_0x := Foffsets.ext X0
  have Flo_0x := Flo.ext X0
  have Fcount_0x := Fcount.ext X0
  have Fstamp_0x := Fstamp.ext X0
  have Fshift_0x := Fshift.ext X0
  have Fkeys_0x := Fkeys.ext X0
  have Fids_0x := Fids.ext X0
  have Fstamps_0x := Fstamps.ext X0
  have Fvalues_0x := Fvalues.ext X0
  have E_0x := E.ext X0
  refine o_putF (pc := 8) (ty := (.array .int)) B d1_8 (hw _ (List.mem_of_getElem? (i := 10) rfl)) (Fkeys_0x) (E_0x) (Or.inl (hw _ (List.mem_of_getElem? (i := 11) rfl))) (hw _ (List.mem_of_getElem? (i := 1) rfl)) (by decide) rfl rfl (go) ?_
  intro h2 W0
  have z0 := W0.size
  have Foffsets_1 := Foffsets_0x.other W0 (Or.inr (slot_ne (C := own_VI) (Or.inl (hw _ (List.mem_of_getElem? (i := 31) rfl))) (Or.inl (hw _ (List.mem_of_getElem? (i := 11) rfl))) (by decide) (by decide : parseFieldDescriptor "Z" = some .boolean) (by decide : parseFieldDescriptor "[I" = some (.array .int))))
  have Flo_1 := Flo_0x.other W0 (Or.inr (slot_ne (C := own_VI) (Or.inl (hw _ (List.mem_of_getElem? (i := 33) rfl))) (Or.inl (hw _ (List.mem_of_getElem? (i := 11) rfl))) (by decide) (by decide : parseFieldDescriptor "I" = some .int) (by decide : parseFieldDescriptor "[I" = some (.array .int))))
  have Fcount_1 := Fcount_0x.other W0 (Or.inr (slot_ne (C := own_VI) (Or.inl (hw _ (List.mem_of_getElem? (i := 35) rfl))) (Or.inl (hw _ (List.mem_of_getElem? (i := 11) rfl))) (by decide) (by decide : parseFieldDescriptor "I" = some .int) (by decide : parseFieldDescriptor "[I" = some (.array .int))))
  have Fstamp_1 := Fstamp_0x.other W0 (Or.inr (slot_ne (C := own_VI) (Or.inl (hw _ (List.mem_of_getElem? (i := 62) rfl))) (Or.inl (hw _ (List.mem_of_getElem? (i := 11) rfl))) (by decide) (by decide : parseFieldDescriptor "I" = some .int) (by decide : parseFieldDescriptor "[I" = some (.array .int))))
  have Fshift_1 := Fshift_0x.other W0 (Or.inr (slot_ne (C := own_VI) (Or.inl (hw _ (List.mem_of_getElem? (i := 60) rfl))) (Or.inl (hw _ (List.mem_of_getElem? (i := 11) rfl))) (by decide) (by decide : parseFieldDescriptor "I" = some .int) (by decide : parseFieldDescriptor "[I" = some (.array .int))))
  have Fkeys_1 := Fkeys_0x.same W0
  have Fids_1 := Fids_0x.other W0 (Or.inr (slot_ne (C := own_VI) (Or.inl (hw _ (List.mem_of_getElem? (i := 13) rfl))) (Or.inl (hw _ (List.mem_of_getElem? (i := 11) rfl))) (by decide) (by decide : parseFieldDescriptor "[I" = some (.array .int)) (by decide : parseFieldDescriptor "[I" = some (.array .int))))
  have Fstamps_1 := Fstamps_0x.other W0 (Or.inr (slot_ne (C := own_VI) (Or.inl (hw _ (List.mem_of_getElem? (i := 15) rfl))) (Or.inl (hw _ (List.mem_of_getElem? (i := 11) rfl))) (by decide) (by decide : parseFieldDescriptor "[I" = some (.array .int)) (by decide : parseFieldDescriptor "[I" = some (.array .int))))
  have Fvalues_1 := Fvalues_0x.other W0 (Or.inr (slot_ne (C := own_VI) (Or.inl (hw _ (List.mem_of_getElem? (i := 17) rfl))) (Or.inl (hw _ (List.mem_of_getElem? (i := 11) rfl))) (by decide) (by decide : parseFieldDescriptor "[I" = some (.array .int)) (by decide : parseFieldDescriptor "[I" = some (.array .int))))
  have E_1 := E_0x.wr W0
  have Ak_1 := Ak.other W0 (o_ne (by omega))
  refine o_aloadN (pc := 11) B d1_11 rfl rfl ?_
  refine o_iconst (pc := 12) B (0 : Int32) d1_12 (by decide) ?_
  refine o_newarray (pc := 13) B (0) (0) d1_13 (hw _ (List.mem_of_getElem? (i := 9) rfl)) (by decide) (by first | decide | omega) (by first | decide | omega) (by decide) (by decide) ?_
  intro h3 X1 lt1 A1
  obtain ⟨i, gi, ei⟩ : ∃ a, n0 ≤ a ∧ a = h2.size := ⟨_, (by omega), rfl⟩
  rw [← ei] at A1 ⊢
  have Ai : o_IA Z h3 i [] := A1
  have Foffsets_1x := Foffsets_1.ext X1
  have Flo_1x := Flo_1.ext X1
  have Fcount_1x := Fcount_1.ext X1
  have Fstamp_1x := Fstamp_1.ext X1
  have Fshift_1x := Fshift_1.ext X1
  have Fkeys_1x := Fkeys_1.ext X1
  have Fids_1x := Fids_1.ext X1
  have Fstamps_1x := Fstamps_1.ext X1
  have Fvalues_1x := Fvalues_1.ext X1
  have E_1x := E_1.ext X1
  have Ak_1x := Ak_1.ext X1
  refine o_putF (pc := 15) (ty := (.array .int)) B d1_15 (hw _ (List.mem_of_getElem? (i := 12) rfl)) (Fids_1x) (E_1x) (Or.inl (hw _ (List.mem_of_getElem? (i := 13) rfl))) (hw _ (List.mem_of_getElem? (i := 1) rfl)) (by decide) rfl rfl (go) ?_
  intro h4 W1
  have z1 := W1.size
  have Foffsets_2 := Foffsets_1x.other W1 (Or.inr (slot_ne (C := own_VI) (Or.inl (hw _ (List.mem_of_getElem? (i := 31) rfl))) (Or.inl (hw _ (List.mem_of_getElem? (i := 13) rfl))) (by decide) (by decide : parseFieldDescriptor "Z" = some .boolean) (by decide : parseFieldDescriptor "[I" = some (.array .int))))
  have Flo_2 := Flo_1x.other W1 (Or.inr (slot_ne (C := own_VI) (Or.inl (hw _ (List.mem_of_getElem? (i := 33) rfl))) (Or.inl (hw _ (List.mem_of_getElem? (i := 13) rfl))) (by decide) (by decide : parseFieldDescriptor "I" = some .int) (by decide : parseFieldDescriptor "[I" = some (.array .int))))
  have Fcount_2 := Fcount_1x.other W1 (Or.inr (slot_ne (C := own_VI) (Or.inl (hw _ (List.mem_of_getElem? (i := 35) rfl))) (Or.inl (hw _ (List.mem_of_getElem? (i := 13) rfl))) (by decide) (by decide : parseFieldDescriptor "I" = some .int) (by decide : parseFieldDescriptor "[I" = some (.array .int))))
  have Fstamp_2 := Fstamp_1x.other W1 (Or.inr (slot_ne (C := own_VI) (Or.inl (hw _ (List.mem_of_getElem? (i := 62) rfl))) (Or.inl (hw _ (List.mem_of_getElem? (i := 13) rfl))) (by decide) (by decide : parseFieldDescriptor "I" = some .int) (by decide : parseFieldDescriptor "[I" = some (.array .int))))
  have Fshift_2 := Fshift_1x.other W1 (Or.inr (slot_ne (C := own_VI) (Or.inl (hw _ (List.mem_of_getElem? (i := 60) rfl))) (Or.inl (hw _ (List.mem_of_getElem? (i := 13) rfl))) (by decide) (by decide : parseFieldDescriptor "I" = some .int) (by decide : parseFieldDescriptor "[I" = some (.array .int))))
  have Fkeys_2 := Fkeys_1x.other W1 (Or.inr (slot_ne (C := own_VI) (Or.inl (hw _ (List.mem_of_getElem? (i := 11) rfl))) (Or.inl (hw _ (List.mem_of_getElem? (i := 13) rfl))) (by decide) (by decide : parseFieldDescriptor "[I" = some (.array .int)) (by decide : parseFieldDescriptor "[I" = some (.array .int))))
  have Fids_2 := Fids_1x.same W1
  have Fstamps_2 := Fstamps_1x.other W1 (Or.inr (slot_ne (C := own_VI) (Or.inl (hw _ (List.mem_of_getElem? (i := 15) rfl))) (Or.inl (hw _ (List.mem_of_getElem? (i := 13) rfl))) (by decide) (by decide : parseFieldDescriptor "[I" = some (.array .int)) (by decide : parseFieldDescriptor "[I" = some (.array .int))))
  have Fvalues_2 := Fvalues_1x.other W1 (Or.inr (slot_ne (C := own_VI) (Or.inl (hw _ (List.mem_of_getElem? (i := 17) rfl))) (Or.inl (hw _ (List.mem_of_getElem? (i := 13) rfl))) (by decide) (by decide : parseFieldDescriptor "[I" = some (.array .int)) (by decide : parseFieldDescriptor "[I" = some (.array .int))))
  have E_2 := E_1x.wr W1
  have Ak_2 := Ak_1x.other W1 (o_ne (by omega))
  have Ai_2 := Ai.other W1 (o_ne (by omega))
  refine o_aloadN (pc := 18) B d1_18 rfl rfl ?_
  refine o_iconst (pc := 19) B (0 : Int32) d1_19 (by decide) ?_
  refine o_newarray (pc := 20) B (0) (0) d1_20 (hw _ (List.mem_of_getElem? (i := 9) rfl)) (by decide) (by first | decide | omega) (by first | decide | omega) (by decide) (by decide) ?_
  intro h5 X2 lt2 A2
  obtain ⟨s, gs, es⟩ : ∃ a, n0 ≤ a ∧ a = h4.size := ⟨_, (by omega), rfl⟩
  rw [← es] at A2 ⊢
  have As : o_IA Z h5 s [] := A2
  have Foffsets_2x := Foffsets_2.ext X2
  have Flo_2x := Flo_2.ext X2
  have Fcount_2x := Fcount_2.ext X2
  have Fstamp_2x := Fstamp_2.ext X2
  have Fshift_2x := Fshift_2.ext X2
  have Fkeys_2x := Fkeys_2.ext X2
  have Fids_2x := Fids_2.ext X2
  have Fstamps_2x := Fstamps_2.ext X2
  have Fvalues_2x := Fvalues_2.ext X2
  have E_2x := E_2.ext X2
  have Ak_2x := Ak_2.ext X2
  have Ai_2x := Ai_2.ext X2
  refine o_putF (pc := 22) (ty := (.array .int)) B d1_22 (hw _ (List.mem_of_getElem? (i := 14) rfl)) (Fstamps_2x) (E_2x) (Or.inl (hw _ (List.mem_of_getElem? (i := 15) rfl))) (hw _ (List.mem_of_getElem? (i := 1) rfl)) (by decide) rfl rfl (go) ?_
  intro h6 W2
  have z2 := W2.size
  have Foffsets_3 := Foffsets_2x.other W2 (Or.inr (slot_ne (C := own_VI) (Or.inl (hw _ (List.mem_of_getElem? (i := 31) rfl))) (Or.inl (hw _ (List.mem_of_getElem? (i := 15) rfl))) (by decide) (by decide : parseFieldDescriptor "Z" = some .boolean) (by decide : parseFieldDescriptor "[I" = some (.array .int))))
  have Flo_3 := Flo_2x.other W2 (Or.inr (slot_ne (C := own_VI) (Or.inl (hw _ (List.mem_of_getElem? (i := 33) rfl))) (Or.inl (hw _ (List.mem_of_getElem? (i := 15) rfl))) (by decide) (by decide : parseFieldDescriptor "I" = some .int) (by decide : parseFieldDescriptor "[I" = some (.array .int))))
  have Fcount_3 := Fcount_2x.other W2 (Or.inr (slot_ne (C := own_VI) (Or.inl (hw _ (List.mem_of_getElem? (i := 35) rfl))) (Or.inl (hw _ (List.mem_of_getElem? (i := 15) rfl))) (by decide) (by decide : parseFieldDescriptor "I" = some .int) (by decide : parseFieldDescriptor "[I" = some (.array .int))))
  have Fstamp_3 := Fstamp_2x.other W2 (Or.inr (slot_ne (C := own_VI) (Or.inl (hw _ (List.mem_of_getElem? (i := 62) rfl))) (Or.inl (hw _ (List.mem_of_getElem? (i := 15) rfl))) (by decide) (by decide : parseFieldDescriptor "I" = some .int) (by decide : parseFieldDescriptor "[I" = some (.array .int))))
  have Fshift_3 := Fshift_2x.other W2 (Or.inr (slot_ne (C := own_VI) (Or.inl (hw _ (List.mem_of_getElem? (i := 60) rfl))) (Or.inl (hw _ (List.mem_of_getElem? (i := 15) rfl))) (by decide) (by decide : parseFieldDescriptor "I" = some .int) (by decide : parseFieldDescriptor "[I" = some (.array .int))))
  have Fkeys_3 := Fkeys_2x.other W2 (Or.inr (slot_ne (C := own_VI) (Or.inl (hw _ (List.mem_of_getElem? (i := 11) rfl))) (Or.inl (hw _ (List.mem_of_getElem? (i := 15) rfl))) (by decide) (by decide : parseFieldDescriptor "[I" = some (.array .int)) (by decide : parseFieldDescriptor "[I" = some (.array .int))))
  have Fids_3 := Fids_2x.other W2 (Or.inr (slot_ne (C := own_VI) (Or.inl (hw _ (List.mem_of_getElem? (i := 13) rfl))) (Or.inl (hw _ (List.mem_of_getElem? (i := 15) rfl))) (by decide) (by decide : parseFieldDescriptor "[I" = some (.array .int)) (by decide : parseFieldDescriptor "[I" = some (.array .int))))
  have Fstamps_3 := Fstamps_2x.same W2
  have Fvalues_3 := Fvalues_2x.other W2 (Or.inr (slot_ne (C := own_VI) (Or.inl (hw _ (List.mem_of_getElem? (i := 17) rfl))) (Or.inl (hw _ (List.mem_of_getElem? (i := 15) rfl))) (by decide) (by decide : parseFieldDescriptor "[I" = some (.array .int)) (by decide : parseFieldDescriptor "[I" = some (.array .int))))
  have E_3 := E_2x.wr W2
  have Ak_3 := Ak_2x.other W2 (o_ne (by omega))
  have Ai_3 := Ai_2x.other W2 (o_ne (by omega))
  have As_3 := As.other W2 (o_ne (by omega))
  refine o_aloadN (pc := 25) B d1_25 rfl rfl ?_
  refine o_iconst (pc := 26) B (0 : Int32) d1_26 (by decide) ?_
  refine o_newarray (pc := 27) B (0) (0) d1_27 (hw _ (List.mem_of_getElem? (i := 9) rfl)) (by decide) (by first | decide | omega) (by first | decide | omega) (by decide) (by decide) ?_
  intro h7 X3 lt3 A3
  obtain ⟨v, gv, ev⟩ : ∃ a, n0 ≤ a ∧ a = h6.size := ⟨_, (by omega), rfl⟩
  rw [← ev] at A3 ⊢
  have Av : o_IA Z h7 v [] := A3
  have Foffsets_3x := Foffsets_3.ext X3
  have Flo_3x := Flo_3.ext X3
  have Fcount_3x := Fcount_3.ext X3
  have Fstamp_3x := Fstamp_3.ext X3
  have Fshift_3x := Fshift_3.ext X3
  have Fkeys_3x := Fkeys_3.ext X3
  have Fids_3x := Fids_3.ext X3
  have Fstamps_3x := Fstamps_3.ext X3
  have Fvalues_3x := Fvalues_3.ext X3
  have E_3x := E_3.ext X3
  have Ak_3x := Ak_3.ext X3
  have Ai_3x := Ai_3.ext X3
  have As_3x := As_3.ext X3
  refine o_putF (pc := 29) (ty := (.array .int)) B d1_29 (hw _ (List.mem_of_getElem? (i := 16) rfl)) (Fvalues_3x) (E_3x) (Or.inl (hw _ (List.mem_of_getElem? (i := 17) rfl))) (hw _ (List.mem_of_getElem? (i := 1) rfl)) (by decide) rfl rfl (go) ?_
  intro h8 W3
  have z3 := W3.size
  have Foffsets_4 := Foffsets_3x.other W3 (Or.inr (slot_ne (C := own_VI) (Or.inl (hw _ (List.mem_of_getElem? (i := 31) rfl))) (Or.inl (hw _ (List.mem_of_getElem? (i := 17) rfl))) (by decide) (by decide : parseFieldDescriptor "Z" = some .boolean) (by decide : parseFieldDescriptor "[I" = some (.array .int))))
  have Flo_4 := Flo_3x.other W3 (Or.inr (slot_ne (C := own_VI) (Or.inl (hw _ (List.mem_of_getElem? (i := 33) rfl))) (Or.inl (hw _ (List.mem_of_getElem? (i := 17) rfl))) (by decide) (by decide : parseFieldDescriptor "I" = some .int) (by decide : parseFieldDescriptor "[I" = some (.array .int))))
  have Fcount_4 := Fcount_3x.other W3 (Or.inr (slot_ne (C := own_VI) (Or.inl (hw _ (List.mem_of_getElem? (i := 35) rfl))) (Or.inl (hw _ (List.mem_of_getElem? (i := 17) rfl))) (by decide) (by decide : parseFieldDescriptor "I" = some .int) (by decide : parseFieldDescriptor "[I" = some (.array .int))))
  have Fstamp_4 := Fstamp_3x.other W3 (Or.inr (slot_ne (C := own_VI) (Or.inl (hw _ (List.mem_of_getElem? (i := 62) rfl))) (Or.inl (hw _ (List.mem_of_getElem? (i := 17) rfl))) (by decide) (by decide : parseFieldDescriptor "I" = some .int) (by decide : parseFieldDescriptor "[I" = some (.array .int))))
  have Fshift_4 := Fshift_3x.other W3 (Or.inr (slot_ne (C := own_VI) (Or.inl (hw _ (List.mem_of_getElem? (i := 60) rfl))) (Or.inl (hw _ (List.mem_of_getElem? (i := 17) rfl))) (by decide) (by decide : parseFieldDescriptor "I" = some .int) (by decide : parseFieldDescriptor "[I" = some (.array .int))))
  have Fkeys_4 := Fkeys_3x.other W3 (Or.inr (slot_ne (C := own_VI) (Or.inl (hw _ (List.mem_of_getElem? (i := 11) rfl))) (Or.inl (hw _ (List.mem_of_getElem? (i := 17) rfl))) (by decide) (by decide : parseFieldDescriptor "[I" = some (.array .int)) (by decide : parseFieldDescriptor "[I" = some (.array .int))))
  have Fids_4 := Fids_3x.other W3 (Or.inr (slot_ne (C := own_VI) (Or.inl (hw _ (List.mem_of_getElem? (i := 13) rfl))) (Or.inl (hw _ (List.mem_of_getElem? (i := 17) rfl))) (by decide) (by decide : parseFieldDescriptor "[I" = some (.array .int)) (by decide : parseFieldDescriptor "[I" = some (.array .int))))
  have Fstamps_4 := Fstamps_3x.other W3 (Or.inr (slot_ne (C := own_VI) (Or.inl (hw _ (List.mem_of_getElem? (i := 15) rfl))) (Or.inl (hw _ (List.mem_of_getElem? (i := 17) rfl))) (by decide) (by decide : parseFieldDescriptor "[I" = some (.array .int)) (by decide : parseFieldDescriptor "[I" = some (.array .int))))
  have Fvalues_4 := Fvalues_3x.same W3
  have E_4 := E_3x.wr W3
  have Ak_4 := Ak_3x.other W3 (o_ne (by omega))
  have Ai_4 := Ai_3x.other W3 (o_ne (by omega))
  have As_4 := As_3x.other W3 (o_ne (by omega))
  have Av_4 := Av.other W3 (o_ne (by omega))
  exact o_return (pc := 32) B d1_32 (by decide) (by decide) (⟨rfl, by omega, k, i, s, v, go, gk, gi, gs, gv, o_ne (by omega), o_ne (by omega), o_ne (by omega), o_ne (by omega), o_ne (by omega), o_ne (by omega), o_ne (by omega), o_ne (by omega), o_ne (by omega), o_ne (by omega), E_4, Foffsets_4, Flo_4, Fcount_4, Fstamp_4, Fshift_4, Fkeys_4, Fids_4, Fstamps_4, Fvalues_4, Ak_4, Ai_4, As_4, Av_4⟩)
set_option maxRecDepth 65536 in
set_option maxHeartbeats 40000000 in
theorem oc4d (l : Launch) (Z : State) (a0 : Array Value) (hw : ∀ d ∈ tables_1, d.before a0 Z = true) (n0 : Nat) (h : Heap) (o k i s v : Addr) (off lo cnt st sh : Int32) (Ks Is Ss Vs : List Int32) (cap lo2 hi2 : Int32) (O : own_Ob Z n0 h o k i s v off lo cnt st sh Ks Is Ss Vs) (hd : ¬ (4 : Int64) * cap.toInt64 + 64 < hi2.toInt64 - lo2.toInt64 + 1) : o_C l Z n0 oy4 prog_74_method_2_code 7 none orm4 [(.ref o), (.int cap), (.int lo2), (.int hi2)] h (fun w h' => w = none ∧ own_Ob Z n0 h' o k i s v 1 lo2 (hi2.toInt64 - lo2.toInt64 + 1).toInt32 st sh Ks Is Ss Vs) := by
  refine o_body (Ls := [.val (.ref o), .val (.int cap), .val (.int lo2), .val (.int hi2), .unset, .unset, .unset]) pn4 (by first | (simp [argsToLocals, Value.category]; done) | rfl) (fun κ B => ?_)
  refine o_iloadN (pc := 0) B d4_0 rfl ?_
  refine o_i2l (pc := 1) B d4_1 ?_
  refine o_iloadN (pc := 2) B d4_2 rfl ?_
  refine o_i2l (pc := 3) B d4_3 ?_
  refine o_lsub (pc := 4) B d4_4 ?_
  refine o_lconst (pc := 5) B (1 : Int64) d4_5 (by decide) ?_
  refine o_ladd (pc := 6) B d4_6 ?_
  refine o_lstore_7_4 (pc := 7) B d4_7 rfl ?_
  refine o_aloadN (pc := 9) B d4_9 rfl rfl ?_
  refine o_lload (pc := 10) B d4_10 rfl ?_
  refine o_ldc2_w (pc := 12) B (x := (4 : Int64)) d4_12 (hw _ (List.mem_of_getElem? (i := 28) rfl)) ?_
  refine o_iloadN (pc := 15) B d4_15 rfl ?_
  refine o_i2l (pc := 16) B d4_16 ?_
  refine o_lmul (pc := 17) B d4_17 ?_
  refine o_ldc2_w (pc := 18) B (x := (64 : Int64)) d4_18 (hw _ (List.mem_of_getElem? (i := 29) rfl)) ?_
  refine o_ladd (pc := 21) B d4_21 ?_
  refine o_lcmp (pc := 22) B d4_22 ?_
  refine o_lif_gt (pc := 23) (pc' := 30) B d4_23 (by decide) (by decide) (fun hc23 => False.elim (hd hc23)) (fun hc23 => ?_)
  refine o_iconst (pc := 26) B (1 : Int32) d4_26 (by decide) ?_
  refine o_goto (pc := 27) (pc' := 31) B d4_27 (by decide) (by decide) ?_
  refine o_putF (pc := 31) (ty := .boolean) B d4_31 (hw _ (List.mem_of_getElem? (i := 30) rfl)) (O.p_Foffsets) (O.p_E) (Or.inl (hw _ (List.mem_of_getElem? (i := 31) rfl))) (hw _ (List.mem_of_getElem? (i := 1) rfl)) (by decide) rfl rfl (O.p_g0) ?_
  intro h1 W1
  have O1 := O.w_offsets hw W1
  refine o_aloadN (pc := 34) B d4_34 rfl rfl ?_
  refine o_getF (pc := 35) B d4_35 (hw _ (List.mem_of_getElem? (i := 30) rfl)) (O1.p_Foffsets) ?_
  refine o_if_eq (pc := 38) (pc' := 54) B d4_38 (by decide) (by decide) (fun hc38 => False.elim (by revert hc38; decide)) (fun hc38 => ?_)
  refine o_aloadN (pc := 41) B d4_41 rfl rfl ?_
  refine o_iloadN (pc := 42) B d4_42 rfl ?_
  refine o_putF (pc := 43) (ty := .int) B d4_43 (hw _ (List.mem_of_getElem? (i := 32) rfl)) (O1.p_Flo) (O1.p_E) (Or.inl (hw _ (List.mem_of_getElem? (i := 33) rfl))) (hw _ (List.mem_of_getElem? (i := 1) rfl)) (by decide) rfl rfl (O1.p_g0) ?_
  intro h2 W2
  have O2 := O1.w_lo hw W2
  refine o_aloadN (pc := 46) B d4_46 rfl rfl ?_
  refine o_lload (pc := 47) B d4_47 rfl ?_
  refine o_l2i (pc := 49) B d4_49 ?_
  refine o_putF (pc := 50) (ty := .int) B d4_50 (hw _ (List.mem_of_getElem? (i := 34) rfl)) (O2.p_Fcount) (O2.p_E) (Or.inl (hw _ (List.mem_of_getElem? (i := 35) rfl))) (hw _ (List.mem_of_getElem? (i := 1) rfl)) (by decide) rfl rfl (O2.p_g0) ?_
  intro h3 W3
  exact o_return (pc := 53) B d4_53 (by decide) (by decide) (⟨rfl, O2.w_count hw W3⟩)
set_option maxRecDepth 65536 in
set_option maxHeartbeats 40000000 in
theorem oc4_first (l : Launch) (Z : State) (a0 : Array Value) (hw : ∀ d ∈ tables_1, d.before a0 Z = true) (n0 : Nat) (h : Heap) (o k i s v : Addr) (off lo cnt st sh : Int32) (Ks Is Ss Vs : List Int32) (Z0 : n0 ≤ h.size) (O : own_Ob Z n0 h o k i s v off lo cnt 0 sh Ks Is Ss Vs) (hV : Vs.length = 0) (hK : Ks.length = 0) : o_C l Z n0 oy4 prog_74_method_2_code 7 none orm4 [(.ref o), (.int 3), (.int (-2147483648)), (.int 2147483647)] h (fun w h' => w = none ∧ ∃ k i s v, own_Ob Z n0 h' o k i s v 0 lo 0 1 29 (List.replicate 8 0) (List.replicate 8 0) (List.replicate 8 0) (List.replicate 3 0)) := by
  refine o_body (Ls := [.val (.ref o), .val (.int 3), .val (.int (-2147483648)), .val (.int 2147483647), .unset, .unset, .unset]) pn4 (by first | (simp [argsToLocals, Value.category]; done) | rfl) (fun κ B => ?_)
  refine o_iloadN (pc := 0) B d4_0 rfl ?_
  refine o_i2l (pc := 1) B d4_1 ?_
  refine o_iloadN (pc := 2) B d4_2 rfl ?_
  refine o_i2l (pc := 3) B d4_3 ?_
  refine o_lsub (pc := 4) B d4_4 ?_
  refine o_lconst (pc := 5) B (1 : Int64) d4_5 (by decide) ?_
  refine o_ladd (pc := 6) B d4_6 ?_
  refine o_lstore_7_4 (pc := 7) B d4_7 rfl ?_
  refine o_aloadN (pc := 9) B d4_9 rfl rfl ?_
  refine o_lload (pc := 10) B d4_10 rfl ?_
  refine o_ldc2_w (pc := 12) B (x := (4 : Int64)) d4_12 (hw _ (List.mem_of_getElem? (i := 28) rfl)) ?_
  refine o_iloadN (pc := 15) B d4_15 rfl ?_
  refine o_i2l (pc := 16) B d4_16 ?_
  refine o_lmul (pc := 17) B d4_17 ?_
  refine o_ldc2_w (pc := 18) B (x := (64 : Int64)) d4_18 (hw _ (List.mem_of_getElem? (i := 29) rfl)) ?_
  refine o_ladd (pc := 21) B d4_21 ?_
  refine o_lcmp (pc := 22) B d4_22 ?_
  refine o_lif_gt (pc := 23) (pc' := 30) B d4_23 (by decide) (by decide) (fun hc23 => ?_) (fun hc23 => False.elim (by revert hc23; decide))
  refine o_iconst (pc := 30) B (0 : Int32) d4_30 (by decide) ?_
  refine o_putF (pc := 31) (ty := .boolean) B d4_31 (hw _ (List.mem_of_getElem? (i := 30) rfl)) (O.p_Foffsets) (O.p_E) (Or.inl (hw _ (List.mem_of_getElem? (i := 31) rfl))) (hw _ (List.mem_of_getElem? (i := 1) rfl)) (by decide) rfl rfl (O.p_g0) ?_
  intro h1 W1
  have O1 := O.w_offsets hw W1
  have z1 := W1.size
  refine o_aloadN (pc := 34) B d4_34 rfl rfl ?_
  refine o_getF (pc := 35) B d4_35 (hw _ (List.mem_of_getElem? (i := 30) rfl)) (O1.p_Foffsets) ?_
  refine o_if_eq (pc := 38) (pc' := 54) B d4_38 (by decide) (by decide) (fun hc38 => ?_) (fun hc38 => False.elim (by revert hc38; decide))
  refine o_aloadN (pc := 54) B d4_54 rfl rfl ?_
  refine o_iconst (pc := 55) B (0 : Int32) d4_55 (by decide) ?_
  refine o_putF (pc := 56) (ty := .int) B d4_56 (hw _ (List.mem_of_getElem? (i := 34) rfl)) (O1.p_Fcount) (O1.p_E) (Or.inl (hw _ (List.mem_of_getElem? (i := 35) rfl))) (hw _ (List.mem_of_getElem? (i := 1) rfl)) (by decide) rfl rfl (O1.p_g0) ?_
  intro h2 W2
  have O2 := O1.w_count hw W2
  have z2 := W2.size
  refine o_aloadN (pc := 59) B d4_59 rfl rfl ?_
  refine o_getF (pc := 60) B d4_60 (hw _ (List.mem_of_getElem? (i := 16) rfl)) (O2.p_Fvalues) ?_
  refine o_arraylen (pc := 63) B (0 : Int32) d4_63 (O2.p_Av) (by rw [List.length_map, hV]; rfl) ?_
  refine o_iloadN (pc := 64) B d4_64 rfl ?_
  refine o_icmp_ge (pc := 65) (pc' := 75) B d4_65 (by decide) (by decide) (fun hc65 => False.elim (by revert hc65; decide)) (fun hc65 => ?_)
  refine o_aloadN (pc := 68) B d4_68 rfl rfl ?_
  refine o_iloadN (pc := 69) B d4_69 rfl ?_
  refine o_newarray (pc := 70) B (3) (3) d4_70 (hw _ (List.mem_of_getElem? (i := 9) rfl)) (by decide) (by first | decide | omega) (by first | decide | omega) (by decide) (by decide) ?_
  intro h3 X3 lt3 A3
  obtain ⟨v3, gv3, ev3⟩ : ∃ a, n0 ≤ a ∧ a = h2.size := ⟨_, (by omega), rfl⟩
  rw [← ev3] at A3 ⊢
  have B3 : o_IA Z h3 v3 (List.replicate 3 0) := A3
  have lts := o_lt O2.p_E.lt
  have ltk := o_lt O2.p_Ak.lt
  have lti := o_lt O2.p_Ai.lt
  have ltt := o_lt O2.p_As.lt
  have O3 := O2.ext X3
  refine o_putF (pc := 72) (ty := (.array .int)) B d4_72 (hw _ (List.mem_of_getElem? (i := 16) rfl)) (O3.p_Fvalues) (O3.p_E) (Or.inl (hw _ (List.mem_of_getElem? (i := 17) rfl))) (hw _ (List.mem_of_getElem? (i := 1) rfl)) (by decide) rfl rfl (O3.p_g0) ?_
  intro h4 W4
  have O4 := O3.w_values hw gv3 (o_ne (by omega)) (o_ne (by omega)) (o_ne (by omega)) (o_ne (by omega)) B3 W4
  have z4 := W4.size
  refine o_ldc2_w (pc := 75) B (x := (2 : Int64)) d4_75 (hw _ (List.mem_of_getElem? (i := 48) rfl)) ?_
  refine o_iloadN (pc := 78) B d4_78 rfl ?_
  refine o_i2l (pc := 79) B d4_79 ?_
  refine o_lmul (pc := 80) B d4_80 ?_
  refine o_aloadN (pc := 81) B d4_81 rfl rfl ?_
  refine o_getF (pc := 82) B d4_82 (hw _ (List.mem_of_getElem? (i := 10) rfl)) (O4.p_Fkeys) ?_
  refine o_arraylen (pc := 85) B (0 : Int32) d4_85 (O4.p_Ak) (by rw [List.length_map, hK]; rfl) ?_
  refine o_i2l (pc := 86) B d4_86 ?_
  refine o_lcmp (pc := 87) B d4_87 ?_
  refine o_lif_le (pc := 88) (pc' := 143) B d4_88 (by decide) (by decide) (fun hc88 => False.elim (by revert hc88; decide)) (fun hc88 => ?_)
  refine o_iconst (pc := 91) B (2 : Int32) d4_91 (by decide) ?_
  refine o_iloadN (pc := 92) B d4_92 rfl ?_
  refine o_imul_c (pc := 93) B (6 : Int32) d4_93 (by decide) ?_
  refine o_iconst (pc := 94) B (1 : Int32) d4_94 (by decide) ?_
  refine o_isub_c (pc := 95) B (5 : Int32) d4_95 (by decide) ?_
  refine o_callS1 (pc := 96) B 0 d4_96 (hw _ (List.mem_of_getElem? (i := 49) rfl)) (hw _ (List.mem_of_getElem? (i := 50) rfl)) (hw _ (List.mem_of_getElem? (i := 51) rfl)) (hw _ (List.mem_of_getElem? (i := 52) rfl)) (by decide) pd7 rfl (by first | exact Nat.zero_le _ | exact Nat.le_of_ble_eq_true rfl | simp [Value.category]) (by decide) (by decide) (by decide) (by decide) rfl (oc7_5 l Z a0 hw n0 _) ?_
  rintro w h' ⟨rfl, rfl⟩
  refine o_iconst (pc := 99) B (1 : Int32) d4_99 (by decide) ?_
  refine o_ishl_c (pc := 100) B (8 : Int32) d4_100 (by decide) ?_
  refine o_istore_7_6 (pc := 101) B d4_101 rfl ?_
  refine o_aloadN (pc := 103) B d4_103 rfl rfl ?_
  refine o_iload (pc := 104) B d4_104 rfl ?_
  refine o_newarray (pc := 106) B (8) (8) d4_106 (hw _ (List.mem_of_getElem? (i := 9) rfl)) (by decide) (by first | decide | omega) (by first | decide | omega) (by decide) (by decide) ?_
  intro hn0 Xn0 ltn0 An0
  have gg0 := Nat.le_trans (o_le O4.p_g0) (Nat.le_of_lt (o_lt O4.p_E.lt))
  have lo0 := o_lt O4.p_E.lt
  have lk0 := o_lt O4.p_Ak.lt
  have li0 := o_lt O4.p_Ai.lt
  have ls0 := o_lt O4.p_As.lt
  have lv0 := o_lt O4.p_Av.lt
  generalize eb0 : Array.size (α := Cell) _ = b0 at An0 gg0 lo0 lk0 li0 ls0 lv0 ⊢
  have Bn0 : o_IA Z hn0 b0 (List.replicate 8 0) := An0
  have On0 := O4.ext Xn0
  refine o_putF (pc := 108) (ty := (.array .int)) B d4_108 (hw _ (List.mem_of_getElem? (i := 10) rfl)) (On0.p_Fkeys) (On0.p_E) (Or.inl (hw _ (List.mem_of_getElem? (i := 11) rfl))) (hw _ (List.mem_of_getElem? (i := 1) rfl)) (by decide) rfl rfl (On0.p_g0) ?_
  intro hm0 Wn0
  have Om0 := On0.w_keys hw gg0 (o_ne (by omega)) (o_ne (by omega)) (o_ne (by omega)) (o_ne (by omega)) Bn0 Wn0
  refine o_aloadN (pc := 111) B d4_111 rfl rfl ?_
  refine o_iload (pc := 112) B d4_112 rfl ?_
  refine o_newarray (pc := 114) B (8) (8) d4_114 (hw _ (List.mem_of_getElem? (i := 9) rfl)) (by decide) (by first | decide | omega) (by first | decide | omega) (by decide) (by decide) ?_
  intro hn1 Xn1 ltn1 An1
  have gg1 := Nat.le_trans (o_le Om0.p_g0) (Nat.le_of_lt (o_lt Om0.p_E.lt))
  have lo1 := o_lt Om0.p_E.lt
  have lk1 := o_lt Om0.p_Ak.lt
  have li1 := o_lt Om0.p_Ai.lt
  have ls1 := o_lt Om0.p_As.lt
  have lv1 := o_lt Om0.p_Av.lt
  generalize eb1 : Array.size (α := Cell) _ = b1 at An1 gg1 lo1 lk1 li1 ls1 lv1 ⊢
  have Bn1 : o_IA Z hn1 b1 (List.replicate 8 0) := An1
  have On1 := Om0.ext Xn1
  refine o_putF (pc := 116) (ty := (.array .int)) B d4_116 (hw _ (List.mem_of_getElem? (i := 12) rfl)) (On1.p_Fids) (On1.p_E) (Or.inl (hw _ (List.mem_of_getElem? (i := 13) rfl))) (hw _ (List.mem_of_getElem? (i := 1) rfl)) (by decide) rfl rfl (On1.p_g0) ?_
  intro hm1 Wn1
  have Om1 := On1.w_ids hw gg1 (o_ne (by omega)) (o_ne (by omega)) (o_ne (by omega)) (o_ne (by omega)) Bn1 Wn1
  refine o_aloadN (pc := 119) B d4_119 rfl rfl ?_
  refine o_iload (pc := 120) B d4_120 rfl ?_
  refine o_newarray (pc := 122) B (8) (8) d4_122 (hw _ (List.mem_of_getElem? (i := 9) rfl)) (by decide) (by first | decide | omega) (by first | decide | omega) (by decide) (by decide) ?_
  intro hn2 Xn2 ltn2 An2
  have gg2 := Nat.le_trans (o_le Om1.p_g0) (Nat.le_of_lt (o_lt Om1.p_E.lt))
  have lo2 := o_lt Om1.p_E.lt
  have lk2 := o_lt Om1.p_Ak.lt
  have li2 := o_lt Om1.p_Ai.lt
  have ls2 := o_lt Om1.p_As.lt
  have lv2 := o_lt Om1.p_Av.lt
  generalize eb2 : Array.size (α := Cell) _ = b2 at An2 gg2 lo2 lk2 li2 ls2 lv2 ⊢
  have Bn2 : o_IA Z hn2 b2 (List.replicate 8 0) := An2
  have On2 := Om1.ext Xn2
  refine o_putF (pc := 124) (ty := (.array .int)) B d4_124 (hw _ (List.mem_of_getElem? (i := 14) rfl)) (On2.p_Fstamps) (On2.p_E) (Or.inl (hw _ (List.mem_of_getElem? (i := 15) rfl))) (hw _ (List.mem_of_getElem? (i := 1) rfl)) (by decide) rfl rfl (On2.p_g0) ?_
  intro hm2 Wn2
  have Om2 := On2.w_stamps hw gg2 (o_ne (by omega)) (o_ne (by omega)) (o_ne (by omega)) (o_ne (by omega)) Bn2 Wn2
  refine o_aloadN (pc := 127) B d4_127 rfl rfl ?_
  refine o_iload (pc := 128) B d4_128 rfl ?_
  refine o_callS1 (pc := 130) B 1 d4_130 (hw _ (List.mem_of_getElem? (i := 58) rfl)) (hw _ (List.mem_of_getElem? (i := 55) rfl)) (hw _ (List.mem_of_getElem? (i := 51) rfl)) (hw _ (List.mem_of_getElem? (i := 56) rfl)) (by decide) pd8 rfl (by first | exact Nat.zero_le _ | exact Nat.le_of_ble_eq_true rfl | simp [Value.category]) (by decide) (by decide) (by decide) (by decide) rfl (oc8_8 l Z a0 hw n0 _) ?_
  rintro w h' ⟨rfl, rfl⟩
  refine o_iconst (pc := 133) B (1 : Int32) d4_133 (by decide) ?_
  refine o_iadd_c (pc := 134) B (29 : Int32) d4_134 (by decide) ?_
  refine o_putF (pc := 135) (ty := .int) B d4_135 (hw _ (List.mem_of_getElem? (i := 59) rfl)) (Om2.p_Fshift) (Om2.p_E) (Or.inl (hw _ (List.mem_of_getElem? (i := 60) rfl))) (hw _ (List.mem_of_getElem? (i := 1) rfl)) (by decide) rfl rfl (Om2.p_g0) ?_
  intro hp Wp
  have Op := Om2.w_shift hw Wp
  refine o_aloadN (pc := 138) B d4_138 rfl rfl ?_
  refine o_iconst (pc := 139) B (0 : Int32) d4_139 (by decide) ?_
  refine o_putF (pc := 140) (ty := .int) B d4_140 (hw _ (List.mem_of_getElem? (i := 61) rfl)) (Op.p_Fstamp) (Op.p_E) (Or.inl (hw _ (List.mem_of_getElem? (i := 62) rfl))) (hw _ (List.mem_of_getElem? (i := 1) rfl)) (by decide) rfl rfl (Op.p_g0) ?_
  intro hq Wq
  have Oq := Op.w_stamp hw Wq
  refine o_aloadN (pc := 143) B d4_143 rfl rfl ?_
  refine o_getF (pc := 144) B d4_144 (hw _ (List.mem_of_getElem? (i := 61) rfl)) (Oq.p_Fstamp) ?_
  refine o_ldc (pc := 147) B (x := (2147483647 : Int32)) d4_147 (hw _ (List.mem_of_getElem? (i := 63) rfl)) ?_
  refine o_icmp_ne (pc := 149) (pc' := 165) B d4_149 (by decide) (by decide) (fun hc149 => ?_) (fun hc149 => False.elim (by revert hc149; decide))
  refine o_aloadN (pc := 165) B d4_165 rfl rfl ?_
  refine o_dup (pc := 166) B d4_166 rfl ?_
  refine o_getF (pc := 167) B d4_167 (hw _ (List.mem_of_getElem? (i := 61) rfl)) (Oq.p_Fstamp) ?_
  refine o_iconst (pc := 170) B (1 : Int32) d4_170 (by decide) ?_
  refine o_iadd_c (pc := 171) B (1 : Int32) d4_171 (by decide) ?_
  refine o_putF (pc := 172) (ty := .int) B d4_172 (hw _ (List.mem_of_getElem? (i := 61) rfl)) (Oq.p_Fstamp) (Oq.p_E) (Or.inl (hw _ (List.mem_of_getElem? (i := 62) rfl))) (hw _ (List.mem_of_getElem? (i := 1) rfl)) (by decide) rfl rfl (Oq.p_g0) ?_
  intro hz Wz
  have Oz := Oq.w_stamp hw Wz
  exact o_return (pc := 175) B d4_175 (by decide) (by decide) (⟨rfl, _, _, _, _, Oz⟩)
set_option maxRecDepth 65536 in
set_option maxHeartbeats 40000000 in
theorem oc4_2 (l : Launch) (Z : State) (a0 : Array Value) (hw : ∀ d ∈ tables_1, d.before a0 Z = true) (n0 : Nat) (h : Heap) (o k i s v : Addr) (off lo cnt st sh : Int32) (Ks Is Ss Vs : List Int32) (Z0 : n0 ≤ h.size) (O : own_Ob Z n0 h o k i s v off lo cnt 1 sh Ks Is Ss Vs) (hV : Vs.length = 3) (hK : Ks.length = 8) (hI : Is.length = 8) (hS : Ss.length = 8) (h01 : ∀ (a : Nat) (b : Int32), Ss[a]? = some b → b = 0 ∨ b = 1) (hsh : sh = 29) : o_C l Z n0 oy4 prog_74_method_2_code 7 none orm4 [(.ref o), (.int 2), (.int (-2147483648)), (.int 2147483647)] h (fun w h' => w = none ∧ ∃ k i s v j st sh Ks Is Ss Vs, own_Ob Z n0 h' o k i s v 0 lo 0 st sh Ks Is Ss Vs ∧ own_T j (own_h sh) st Ks Is Ss [] [] ∧ 3 ≤ j ∧ j ≤ 5 ∧ (∀ v, own_h sh v < 2 ^ j) ∧ 2 ≤ Vs.length) := by
  refine o_body (Ls := [.val (.ref o), .val (.int 2), .val (.int (-2147483648)), .val (.int 2147483647), .unset, .unset, .unset]) pn4 (by first | (simp [argsToLocals, Value.category]; done) | rfl) (fun κ B => ?_)
  refine o_iloadN (pc := 0) B d4_0 rfl ?_
  refine o_i2l (pc := 1) B d4_1 ?_
  refine o_iloadN (pc := 2) B d4_2 rfl ?_
  refine o_i2l (pc := 3) B d4_3 ?_
  refine o_lsub (pc := 4) B d4_4 ?_
  refine o_lconst (pc := 5) B (1 : Int64) d4_5 (by decide) ?_
  refine o_ladd (pc := 6) B d4_6 ?_
  refine o_lstore_7_4 (pc := 7) B d4_7 rfl ?_
  refine o_aloadN (pc := 9) B d4_9 rfl rfl ?_
  refine o_lload (pc := 10) B d4_10 rfl ?_
  refine o_ldc2_w (pc := 12) B (x := (4 : Int64)) d4_12 (hw _ (List.mem_of_getElem? (i := 28) rfl)) ?_
  refine o_iloadN (pc := 15) B d4_15 rfl ?_
  refine o_i2l (pc := 16) B d4_16 ?_
  refine o_lmul (pc := 17) B d4_17 ?_
  refine o_ldc2_w (pc := 18) B (x := (64 : Int64)) d4_18 (hw _ (List.mem_of_getElem? (i := 29) rfl)) ?_
  refine o_ladd (pc := 21) B d4_21 ?_
  refine o_lcmp (pc := 22) B d4_22 ?_
  refine o_lif_gt (pc := 23) (pc' := 30) B d4_23 (by decide) (by decide) (fun hc23 => ?_) (fun hc23 => False.elim (by revert hc23; decide))
  refine o_iconst (pc := 30) B (0 : Int32) d4_30 (by decide) ?_
  refine o_putF (pc := 31) (ty := .boolean) B d4_31 (hw _ (List.mem_of_getElem? (i := 30) rfl)) (O.p_Foffsets) (O.p_E) (Or.inl (hw _ (List.mem_of_getElem? (i := 31) rfl))) (hw _ (List.mem_of_getElem? (i := 1) rfl)) (by decide) rfl rfl (O.p_g0) ?_
  intro h1 W1
  have O1 := O.w_offsets hw W1
  have z1 := W1.size
  refine o_aloadN (pc := 34) B d4_34 rfl rfl ?_
  refine o_getF (pc := 35) B d4_35 (hw _ (List.mem_of_getElem? (i := 30) rfl)) (O1.p_Foffsets) ?_
  refine o_if_eq (pc := 38) (pc' := 54) B d4_38 (by decide) (by decide) (fun hc38 => ?_) (fun hc38 => False.elim (by revert hc38; decide))
  refine o_aloadN (pc := 54) B d4_54 rfl rfl ?_
  refine o_iconst (pc := 55) B (0 : Int32) d4_55 (by decide) ?_
  refine o_putF (pc := 56) (ty := .int) B d4_56 (hw _ (List.mem_of_getElem? (i := 34) rfl)) (O1.p_Fcount) (O1.p_E) (Or.inl (hw _ (List.mem_of_getElem? (i := 35) rfl))) (hw _ (List.mem_of_getElem? (i := 1) rfl)) (by decide) rfl rfl (O1.p_g0) ?_
  intro h2 W2
  have O2 := O1.w_count hw W2
  have z2 := W2.size
  refine o_aloadN (pc := 59) B d4_59 rfl rfl ?_
  refine o_getF (pc := 60) B d4_60 (hw _ (List.mem_of_getElem? (i := 16) rfl)) (O2.p_Fvalues) ?_
  refine o_arraylen (pc := 63) B (3 : Int32) d4_63 (O2.p_Av) (by rw [List.length_map, hV]; rfl) ?_
  refine o_iloadN (pc := 64) B d4_64 rfl ?_
  refine o_icmp_ge (pc := 65) (pc' := 75) B d4_65 (by decide) (by decide) (fun hc65 => ?_) (fun hc65 => False.elim (by revert hc65; decide))
  refine o_ldc2_w (pc := 75) B (x := (2 : Int64)) d4_75 (hw _ (List.mem_of_getElem? (i := 48) rfl)) ?_
  refine o_iloadN (pc := 78) B d4_78 rfl ?_
  refine o_i2l (pc := 79) B d4_79 ?_
  refine o_lmul (pc := 80) B d4_80 ?_
  refine o_aloadN (pc := 81) B d4_81 rfl rfl ?_
  refine o_getF (pc := 82) B d4_82 (hw _ (List.mem_of_getElem? (i := 10) rfl)) (O2.p_Fkeys) ?_
  refine o_arraylen (pc := 85) B (8 : Int32) d4_85 (O2.p_Ak) (by rw [List.length_map, hK]; rfl) ?_
  refine o_i2l (pc := 86) B d4_86 ?_
  refine o_lcmp (pc := 87) B d4_87 ?_
  refine o_lif_le (pc := 88) (pc' := 143) B d4_88 (by decide) (by decide) (fun hc88 => ?_) (fun hc88 => False.elim (by revert hc88; decide))
  refine o_aloadN (pc := 143) B d4_143 rfl rfl ?_
  refine o_getF (pc := 144) B d4_144 (hw _ (List.mem_of_getElem? (i := 61) rfl)) (O2.p_Fstamp) ?_
  refine o_ldc (pc := 147) B (x := (2147483647 : Int32)) d4_147 (hw _ (List.mem_of_getElem? (i := 63) rfl)) ?_
  refine o_icmp_ne (pc := 149) (pc' := 165) B d4_149 (by decide) (by decide) (fun hc149 => ?_) (fun hc149 => False.elim (by revert hc149; decide))
  refine o_aloadN (pc := 165) B d4_165 rfl rfl ?_
  refine o_dup (pc := 166) B d4_166 rfl ?_
  refine o_getF (pc := 167) B d4_167 (hw _ (List.mem_of_getElem? (i := 61) rfl)) (O2.p_Fstamp) ?_
  refine o_iconst (pc := 170) B (1 : Int32) d4_170 (by decide) ?_
  refine o_iadd_c (pc := 171) B (2 : Int32) d4_171 (by decide) ?_
  refine o_putF (pc := 172) (ty := .int) B d4_172 (hw _ (List.mem_of_getElem? (i := 61) rfl)) (O2.p_Fstamp) (O2.p_E) (Or.inl (hw _ (List.mem_of_getElem? (i := 62) rfl))) (hw _ (List.mem_of_getElem? (i := 1) rfl)) (by decide) rfl rfl (O2.p_g0) ?_
  intro hz Wz
  have Oz := O2.w_stamp hw Wz
  exact o_return (pc := 175) B d4_175 (by decide) (by decide) (⟨rfl, _, _, _, _, 3, _, _, _, _, _, _, Oz, own_T_new hK hI hS (fun a b q e => by rcases h01 a b q with z | z <;> (rw [z] at e; revert e; decide)), by decide, by decide, by rw [hsh]; exact own_h29, by simp [hV]⟩)
set_option maxRecDepth 65536 in
set_option maxHeartbeats 40000000 in
theorem oc4_3 (l : Launch) (Z : State) (a0 : Array Value) (hw : ∀ d ∈ tables_1, d.before a0 Z = true) (n0 : Nat) (h : Heap) (o k i s v : Addr) (off lo cnt st sh : Int32) (Ks Is Ss Vs : List Int32) (Z0 : n0 ≤ h.size) (O : own_Ob Z n0 h o k i s v off lo cnt 1 sh Ks Is Ss Vs) (hV : Vs.length = 3) (hK : Ks.length = 8) (hI : Is.length = 8) (hS : Ss.length = 8) (h01 : ∀ (a : Nat) (b : Int32), Ss[a]? = some b → b = 0 ∨ b = 1) (hsh : sh = 29) : o_C l Z n0 oy4 prog_74_method_2_code 7 none orm4 [(.ref o), (.int 3), (.int (-2147483648)), (.int 2147483647)] h (fun w h' => w = none ∧ ∃ k i s v j st sh Ks Is Ss Vs, own_Ob Z n0 h' o k i s v 0 lo 0 st sh Ks Is Ss Vs ∧ own_T j (own_h sh) st Ks Is Ss [] [] ∧ 3 ≤ j ∧ j ≤ 5 ∧ (∀ v, own_h sh v < 2 ^ j) ∧ 2 ≤ Vs.length) := by
  refine o_body (Ls := [.val (.ref o), .val (.int 3), .val (.int (-2147483648)), .val (.int 2147483647), .unset, .unset, .unset]) pn4 (by first | (simp [argsToLocals, Value.category]; done) | rfl) (fun κ B => ?_)
  refine o_iloadN (pc := 0) B d4_0 rfl ?_
  refine o_i2l (pc := 1) B d4_1 ?_
  refine o_iloadN (pc := 2) B d4_2 rfl ?_
  refine o_i2l (pc := 3) B d4_3 ?_
  refine o_lsub (pc := 4) B d4_4 ?_
  refine o_lconst (pc := 5) B (1 : Int64) d4_5 (by decide) ?_
  refine o_ladd (pc := 6) B d4_6 ?_
  refine o_lstore_7_4 (pc := 7) B d4_7 rfl ?_
  refine o_aloadN (pc := 9) B d4_9 rfl rfl ?_
  refine o_lload (pc := 10) B d4_10 rfl ?_
  refine o_ldc2_w (pc := 12) B (x := (4 : Int64)) d4_12 (hw _ (List.mem_of_getElem? (i := 28) rfl)) ?_
  refine o_iloadN (pc := 15) B d4_15 rfl ?_
  refine o_i2l (pc := 16) B d4_16 ?_
  refine o_lmul (pc := 17) B d4_17 ?_
  refine o_ldc2_w (pc := 18) B (x := (64 : Int64)) d4_18 (hw _ (List.mem_of_getElem? (i := 29) rfl)) ?_
  refine o_ladd (pc := 21) B d4_21 ?_
  refine o_lcmp (pc := 22) B d4_22 ?_
  refine o_lif_gt (pc := 23) (pc' := 30) B d4_23 (by decide) (by decide) (fun hc23 => ?_) (fun hc23 => False.elim (by revert hc23; decide))
  refine o_iconst (pc := 30) B (0 : Int32) d4_30 (by decide) ?_
  refine o_putF (pc := 31) (ty := .boolean) B d4_31 (hw _ (List.mem_of_getElem? (i := 30) rfl)) (O.p_Foffsets) (O.p_E) (Or.inl (hw _ (List.mem_of_getElem? (i := 31) rfl))) (hw _ (List.mem_of_getElem? (i := 1) rfl)) (by decide) rfl rfl (O.p_g0) ?_
  intro h1 W1
  have O1 := O.w_offsets hw W1
  have z1 := W1.size
  refine o_aloadN (pc := 34) B d4_34 rfl rfl ?_
  refine o_getF (pc := 35) B d4_35 (hw _ (List.mem_of_getElem? (i := 30) rfl)) (O1.p_Foffsets) ?_
  refine o_if_eq (pc := 38) (pc' := 54) B d4_38 (by decide) (by decide) (fun hc38 => ?_) (fun hc38 => False.elim (by revert hc38; decide))
  refine o_aloadN (pc := 54) B d4_54 rfl rfl ?_
  refine o_iconst (pc := 55) B (0 : Int32) d4_55 (by decide) ?_
  refine o_putF (pc := 56) (ty := .int) B d4_56 (hw _ (List.mem_of_getElem? (i := 34) rfl)) (O1.p_Fcount) (O1.p_E) (Or.inl (hw _ (List.mem_of_getElem? (i := 35) rfl))) (hw _ (List.mem_of_getElem? (i := 1) rfl)) (by decide) rfl rfl (O1.p_g0) ?_
  intro h2 W2
  have O2 := O1.w_count hw W2
  have z2 := W2.size
  refine o_aloadN (pc := 59) B d4_59 rfl rfl ?_
  refine o_getF (pc := 60) B d4_60 (hw _ (List.mem_of_getElem? (i := 16) rfl)) (O2.p_Fvalues) ?_
  refine o_arraylen (pc := 63) B (3 : Int32) d4_63 (O2.p_Av) (by rw [List.length_map, hV]; rfl) ?_
  refine o_iloadN (pc := 64) B d4_64 rfl ?_
  refine o_icmp_ge (pc := 65) (pc' := 75) B d4_65 (by decide) (by decide) (fun hc65 => ?_) (fun hc65 => False.elim (by revert hc65; decide))
  refine o_ldc2_w (pc := 75) B (x := (2 : Int64)) d4_75 (hw _ (List.mem_of_getElem? (i := 48) rfl)) ?_
  refine o_iloadN (pc := 78) B d4_78 rfl ?_
  refine o_i2l (pc := 79) B d4_79 ?_
  refine o_lmul (pc := 80) B d4_80 ?_
  refine o_aloadN (pc := 81) B d4_81 rfl rfl ?_
  refine o_getF (pc := 82) B d4_82 (hw _ (List.mem_of_getElem? (i := 10) rfl)) (O2.p_Fkeys) ?_
  refine o_arraylen (pc := 85) B (8 : Int32) d4_85 (O2.p_Ak) (by rw [List.length_map, hK]; rfl) ?_
  refine o_i2l (pc := 86) B d4_86 ?_
  refine o_lcmp (pc := 87) B d4_87 ?_
  refine o_lif_le (pc := 88) (pc' := 143) B d4_88 (by decide) (by decide) (fun hc88 => ?_) (fun hc88 => False.elim (by revert hc88; decide))
  refine o_aloadN (pc := 143) B d4_143 rfl rfl ?_
  refine o_getF (pc := 144) B d4_144 (hw _ (List.mem_of_getElem? (i := 61) rfl)) (O2.p_Fstamp) ?_
  refine o_ldc (pc := 147) B (x := (2147483647 : Int32)) d4_147 (hw _ (List.mem_of_getElem? (i := 63) rfl)) ?_
  refine o_icmp_ne (pc := 149) (pc' := 165) B d4_149 (by decide) (by decide) (fun hc149 => ?_) (fun hc149 => False.elim (by revert hc149; decide))
  refine o_aloadN (pc := 165) B d4_165 rfl rfl ?_
  refine o_dup (pc := 166) B d4_166 rfl ?_
  refine o_getF (pc := 167) B d4_167 (hw _ (List.mem_of_getElem? (i := 61) rfl)) (O2.p_Fstamp) ?_
  refine o_iconst (pc := 170) B (1 : Int32) d4_170 (by decide) ?_
  refine o_iadd_c (pc := 171) B (2 : Int32) d4_171 (by decide) ?_
  refine o_putF (pc := 172) (ty := .int) B d4_172 (hw _ (List.mem_of_getElem? (i := 61) rfl)) (O2.p_Fstamp) (O2.p_E) (Or.inl (hw _ (List.mem_of_getElem? (i := 62) rfl))) (hw _ (List.mem_of_getElem? (i := 1) rfl)) (by decide) rfl rfl (O2.p_g0) ?_
  intro hz Wz
  have Oz := O2.w_stamp hw Wz
  exact o_return (pc := 175) B d4_175 (by decide) (by decide) (⟨rfl, _, _, _, _, 3, _, _, _, _, _, _, Oz, own_T_new hK hI hS (fun a b q e => by rcases h01 a b q with z | z <;> (rw [z] at e; revert e; decide)), by decide, by decide, by rw [hsh]; exact own_h29, by simp [hV]⟩)
set_option maxRecDepth 65536 in
set_option maxHeartbeats 40000000 in
theorem oc4_4 (l : Launch) (Z : State) (a0 : Array Value) (hw : ∀ d ∈ tables_1, d.before a0 Z = true) (n0 : Nat) (h : Heap) (o k i s v : Addr) (off lo cnt st sh : Int32) (Ks Is Ss Vs : List Int32) (Z0 : n0 ≤ h.size) (O : own_Ob Z n0 h o k i s v off lo cnt 1 sh Ks Is Ss Vs) (hV : Vs.length = 3) (hK : Ks.length = 8) (hI : Is.length = 8) (hS : Ss.length = 8) (h01 : ∀ (a : Nat) (b : Int32), Ss[a]? = some b → b = 0 ∨ b = 1) (hsh : sh = 29) : o_C l Z n0 oy4 prog_74_method_2_code 7 none orm4 [(.ref o), (.int 4), (.int (-2147483648)), (.int 2147483647)] h (fun w h' => w = none ∧ ∃ k i s v j st sh Ks Is Ss Vs, own_Ob Z n0 h' o k i s v 0 lo 0 st sh Ks Is Ss Vs ∧ own_T j (own_h sh) st Ks Is Ss [] [] ∧ 3 ≤ j ∧ j ≤ 5 ∧ (∀ v, own_h sh v < 2 ^ j) ∧ 2 ≤ Vs.length) := by
  refine o_body (Ls := [.val (.ref o), .val (.int 4), .val (.int (-2147483648)), .val (.int 2147483647), .unset, .unset, .unset]) pn4 (by first | (simp [argsToLocals, Value.category]; done) | rfl) (fun κ B => ?_)
  refine o_iloadN (pc := 0) B d4_0 rfl ?_
  refine o_i2l (pc := 1) B d4_1 ?_
  refine o_iloadN (pc := 2) B d4_2 rfl ?_
  refine o_i2l (pc := 3) B d4_3 ?_
  refine o_lsub (pc := 4) B d4_4 ?_
  refine o_lconst (pc := 5) B (1 : Int64) d4_5 (by decide) ?_
  refine o_ladd (pc := 6) B d4_6 ?_
  refine o_lstore_7_4 (pc := 7) B d4_7 rfl ?_
  refine o_aloadN (pc := 9) B d4_9 rfl rfl ?_
  refine o_lload (pc := 10) B d4_10 rfl ?_
  refine o_ldc2_w (pc := 12) B (x := (4 : Int64)) d4_12 (hw _ (List.mem_of_getElem? (i := 28) rfl)) ?_
  refine o_iloadN (pc := 15) B d4_15 rfl ?_
  refine o_i2l (pc := 16) B d4_16 ?_
  refine o_lmul (pc := 17) B d4_17 ?_
  refine o_ldc2_w (pc := 18) B (x := (64 : Int64)) d4_18 (hw _ (List.mem_of_getElem? (i := 29) rfl)) ?_
  refine o_ladd (pc := 21) B d4_21 ?_
  refine o_lcmp (pc := 22) B d4_22 ?_
  refine o_lif_gt (pc := 23) (pc' := 30) B d4_23 (by decide) (by decide) (fun hc23 => ?_) (fun hc23 => False.elim (by revert hc23; decide))
  refine o_iconst (pc := 30) B (0 : Int32) d4_30 (by decide) ?_
  refine o_putF (pc := 31) (ty := .boolean) B d4_31 (hw _ (List.mem_of_getElem? (i := 30) rfl)) (O.p_Foffsets) (O.p_E) (Or.inl (hw _ (List.mem_of_getElem? (i := 31) rfl))) (hw _ (List.mem_of_getElem? (i := 1) rfl)) (by decide) rfl rfl (O.p_g0) ?_
  intro h1 W1
  have O1 := O.w_offsets hw W1
  have z1 := W1.size
  refine o_aloadN (pc := 34) B d4_34 rfl rfl ?_
  refine o_getF (pc := 35) B d4_35 (hw _ (List.mem_of_getElem? (i := 30) rfl)) (O1.p_Foffsets) ?_
  refine o_if_eq (pc := 38) (pc' := 54) B d4_38 (by decide) (by decide) (fun hc38 => ?_) (fun hc38 => False.elim (by revert hc38; decide))
  refine o_aloadN (pc := 54) B d4_54 rfl rfl ?_
  refine o_iconst (pc := 55) B (0 : Int32) d4_55 (by decide) ?_
  refine o_putF (pc := 56) (ty := .int) B d4_56 (hw _ (List.mem_of_getElem? (i := 34) rfl)) (O1.p_Fcount) (O1.p_E) (Or.inl (hw _ (List.mem_of_getElem? (i := 35) rfl))) (hw _ (List.mem_of_getElem? (i := 1) rfl)) (by decide) rfl rfl (O1.p_g0) ?_
  intro h2 W2
  have O2 := O1.w_count hw W2
  have z2 := W2.size
  refine o_aloadN (pc := 59) B d4_59 rfl rfl ?_
  refine o_getF (pc := 60) B d4_60 (hw _ (List.mem_of_getElem? (i := 16) rfl)) (O2.p_Fvalues) ?_
  refine o_arraylen (pc := 63) B (3 : Int32) d4_63 (O2.p_Av) (by rw [List.length_map, hV]; rfl) ?_
  refine o_iloadN (pc := 64) B d4_64 rfl ?_
  refine o_icmp_ge (pc := 65) (pc' := 75) B d4_65 (by decide) (by decide) (fun hc65 => False.elim (by revert hc65; decide)) (fun hc65 => ?_)
  refine o_aloadN (pc := 68) B d4_68 rfl rfl ?_
  refine o_iloadN (pc := 69) B d4_69 rfl ?_
  refine o_newarray (pc := 70) B (4) (4) d4_70 (hw _ (List.mem_of_getElem? (i := 9) rfl)) (by decide) (by first | decide | omega) (by first | decide | omega) (by decide) (by decide) ?_
  intro h3 X3 lt3 A3
  obtain ⟨v3, gv3, ev3⟩ : ∃ a, n0 ≤ a ∧ a = h2.size := ⟨_, (by omega), rfl⟩
  rw [← ev3] at A3 ⊢
  have B3 : o_IA Z h3 v3 (List.replicate 4 0) := A3
  have lts := o_lt O2.p_E.lt
  have ltk := o_lt O2.p_Ak.lt
  have lti := o_lt O2.p_Ai.lt
  have ltt := o_lt O2.p_As.lt
  have O3 := O2.ext X3
  refine o_putF (pc := 72) (ty := (.array .int)) B d4_72 (hw _ (List.mem_of_getElem? (i := 16) rfl)) (O3.p_Fvalues) (O3.p_E) (Or.inl (hw _ (List.mem_of_getElem? (i := 17) rfl))) (hw _ (List.mem_of_getElem? (i := 1) rfl)) (by decide) rfl rfl (O3.p_g0) ?_
  intro h4 W4
  have O4 := O3.w_values hw gv3 (o_ne (by omega)) (o_ne (by omega)) (o_ne (by omega)) (o_ne (by omega)) B3 W4
  have z4 := W4.size
  refine o_ldc2_w (pc := 75) B (x := (2 : Int64)) d4_75 (hw _ (List.mem_of_getElem? (i := 48) rfl)) ?_
  refine o_iloadN (pc := 78) B d4_78 rfl ?_
  refine o_i2l (pc := 79) B d4_79 ?_
  refine o_lmul (pc := 80) B d4_80 ?_
  refine o_aloadN (pc := 81) B d4_81 rfl rfl ?_
  refine o_getF (pc := 82) B d4_82 (hw _ (List.mem_of_getElem? (i := 10) rfl)) (O4.p_Fkeys) ?_
  refine o_arraylen (pc := 85) B (8 : Int32) d4_85 (O4.p_Ak) (by rw [List.length_map, hK]; rfl) ?_
  refine o_i2l (pc := 86) B d4_86 ?_
  refine o_lcmp (pc := 87) B d4_87 ?_
  refine o_lif_le (pc := 88) (pc' := 143) B d4_88 (by decide) (by decide) (fun hc88 => ?_) (fun hc88 => False.elim (by revert hc88; decide))
  refine o_aloadN (pc := 143) B d4_143 rfl rfl ?_
  refine o_getF (pc := 144) B d4_144 (hw _ (List.mem_of_getElem? (i := 61) rfl)) (O4.p_Fstamp) ?_
  refine o_ldc (pc := 147) B (x := (2147483647 : Int32)) d4_147 (hw _ (List.mem_of_getElem? (i := 63) rfl)) ?_
  refine o_icmp_ne (pc := 149) (pc' := 165) B d4_149 (by decide) (by decide) (fun hc149 => ?_) (fun hc149 => False.elim (by revert hc149; decide))
  refine o_aloadN (pc := 165) B d4_165 rfl rfl ?_
  refine o_dup (pc := 166) B d4_166 rfl ?_
  refine o_getF (pc := 167) B d4_167 (hw _ (List.mem_of_getElem? (i := 61) rfl)) (O4.p_Fstamp) ?_
  refine o_iconst (pc := 170) B (1 : Int32) d4_170 (by decide) ?_
  refine o_iadd_c (pc := 171) B (2 : Int32) d4_171 (by decide) ?_
  refine o_putF (pc := 172) (ty := .int) B d4_172 (hw _ (List.mem_of_getElem? (i := 61) rfl)) (O4.p_Fstamp) (O4.p_E) (Or.inl (hw _ (List.mem_of_getElem? (i := 62) rfl))) (hw _ (List.mem_of_getElem? (i := 1) rfl)) (by decide) rfl rfl (O4.p_g0) ?_
  intro hz Wz
  have Oz := O4.w_stamp hw Wz
  exact o_return (pc := 175) B d4_175 (by decide) (by decide) (⟨rfl, _, _, _, _, 3, _, _, _, _, _, _, Oz, own_T_new hK hI hS (fun a b q e => by rcases h01 a b q with z | z <;> (rw [z] at e; revert e; decide)), by decide, by decide, by rw [hsh]; exact own_h29, by simp [hV]⟩)
set_option maxRecDepth 65536 in
set_option maxHeartbeats 40000000 in
theorem oc4_5 (l : Launch) (Z : State) (a0 : Array Value) (hw : ∀ d ∈ tables_1, d.before a0 Z = true) (n0 : Nat) (h : Heap) (o k i s v : Addr) (off lo cnt st sh : Int32) (Ks Is Ss Vs : List Int32) (Z0 : n0 ≤ h.size) (O : own_Ob Z n0 h o k i s v off lo cnt 1 sh Ks Is Ss Vs) (hV : Vs.length = 3) (hK : Ks.length = 8) (hI : Is.length = 8) (hS : Ss.length = 8) (h01 : ∀ (a : Nat) (b : Int32), Ss[a]? = some b → b = 0 ∨ b = 1) (hsh : sh = 29) : o_C l Z n0 oy4 prog_74_method_2_code 7 none orm4 [(.ref o), (.int 5), (.int (-2147483648)), (.int 2147483647)] h (fun w h' => w = none ∧ ∃ k i s v j st sh Ks Is Ss Vs, own_Ob Z n0 h' o k i s v 0 lo 0 st sh Ks Is Ss Vs ∧ own_T j (own_h sh) st Ks Is Ss [] [] ∧ 3 ≤ j ∧ j ≤ 5 ∧ (∀ v, own_h sh v < 2 ^ j) ∧ 2 ≤ Vs.length) := by
  refine o_body (Ls := [.val (.ref o), .val (.int 5), .val (.int (-2147483648)), .val (.int 2147483647), .unset, .unset, .unset]) pn4 (by first | (simp [argsToLocals, Value.category]; done) | rfl) (fun κ B => ?_)
  refine o_iloadN (pc := 0) B d4_0 rfl ?_
  refine o_i2l (pc := 1) B d4_1 ?_
  refine o_iloadN (pc := 2) B d4_2 rfl ?_
  refine o_i2l (pc := 3) B d4_3 ?_
  refine o_lsub (pc := 4) B d4_4 ?_
  refine o_lconst (pc := 5) B (1 : Int64) d4_5 (by decide) ?_
  refine o_ladd (pc := 6) B d4_6 ?_
  refine o_lstore_7_4 (pc := 7) B d4_7 rfl ?_
  refine o_aloadN (pc := 9) B d4_9 rfl rfl ?_
  refine o_lload (pc := 10) B d4_10 rfl ?_
  refine o_ldc2_w (pc := 12) B (x := (4 : Int64)) d4_12 (hw _ (List.mem_of_getElem? (i := 28) rfl)) ?_
  refine o_iloadN (pc := 15) B d4_15 rfl ?_
  refine o_i2l (pc := 16) B d4_16 ?_
  refine o_lmul (pc := 17) B d4_17 ?_
  refine o_ldc2_w (pc := 18) B (x := (64 : Int64)) d4_18 (hw _ (List.mem_of_getElem? (i := 29) rfl)) ?_
  refine o_ladd (pc := 21) B d4_21 ?_
  refine o_lcmp (pc := 22) B d4_22 ?_
  refine o_lif_gt (pc := 23) (pc' := 30) B d4_23 (by decide) (by decide) (fun hc23 => ?_) (fun hc23 => False.elim (by revert hc23; decide))
  refine o_iconst (pc := 30) B (0 : Int32) d4_30 (by decide) ?_
  refine o_putF (pc := 31) (ty := .boolean) B d4_31 (hw _ (List.mem_of_getElem? (i := 30) rfl)) (O.p_Foffsets) (O.p_E) (Or.inl (hw _ (List.mem_of_getElem? (i := 31) rfl))) (hw _ (List.mem_of_getElem? (i := 1) rfl)) (by decide) rfl rfl (O.p_g0) ?_
  intro h1 W1
  have O1 := O.w_offsets hw W1
  have z1 := W1.size
  refine o_aloadN (pc := 34) B d4_34 rfl rfl ?_
  refine o_getF (pc := 35) B d4_35 (hw _ (List.mem_of_getElem? (i := 30) rfl)) (O1.p_Foffsets) ?_
  refine o_if_eq (pc := 38) (pc' := 54) B d4_38 (by decide) (by decide) (fun hc38 => ?_) (fun hc38 => False.elim (by revert hc38; decide))
  refine o_aloadN (pc := 54) B d4_54 rfl rfl ?_
  refine o_iconst (pc := 55) B (0 : Int32) d4_55 (by decide) ?_
  refine o_putF (pc := 56) (ty := .int) B d4_56 (hw _ (List.mem_of_getElem? (i := 34) rfl)) (O1.p_Fcount) (O1.p_E) (Or.inl (hw _ (List.mem_of_getElem? (i := 35) rfl))) (hw _ (List.mem_of_getElem? (i := 1) rfl)) (by decide) rfl rfl (O1.p_g0) ?_
  intro h2 W2
  have O2 := O1.w_count hw W2
  have z2 := W2.size
  refine o_aloadN (pc := 59) B d4_59 rfl rfl ?_
  refine o_getF (pc := 60) B d4_60 (hw _ (List.mem_of_getElem? (i := 16) rfl)) (O2.p_Fvalues) ?_
  refine o_arraylen (pc := 63) B (3 : Int32) d4_63 (O2.p_Av) (by rw [List.length_map, hV]; rfl) ?_
  refine o_iloadN (pc := 64) B d4_64 rfl ?_
  refine o_icmp_ge (pc := 65) (pc' := 75) B d4_65 (by decide) (by decide) (fun hc65 => False.elim (by revert hc65; decide)) (fun hc65 => ?_)
  refine o_aloadN (pc := 68) B d4_68 rfl rfl ?_
  refine o_iloadN (pc := 69) B d4_69 rfl ?_
  refine o_newarray (pc := 70) B (5) (5) d4_70 (hw _ (List.mem_of_getElem? (i := 9) rfl)) (by decide) (by first | decide | omega) (by first | decide | omega) (by decide) (by decide) ?_
  intro h3 X3 lt3 A3
  obtain ⟨v3, gv3, ev3⟩ : ∃ a, n0 ≤ a ∧ a = h2.size := ⟨_, (by omega), rfl⟩
  rw [← ev3] at A3 ⊢
  have B3 : o_IA Z h3 v3 (List.replicate 5 0) := A3
  have lts := o_lt O2.p_E.lt
  have ltk := o_lt O2.p_Ak.lt
  have lti := o_lt O2.p_Ai.lt
  have ltt := o_lt O2.p_As.lt
  have O3 := O2.ext X3
  refine o_putF (pc := 72) (ty := (.array .int)) B d4_72 (hw _ (List.mem_of_getElem? (i := 16) rfl)) (O3.p_Fvalues) (O3.p_E) (Or.inl (hw _ (List.mem_of_getElem? (i := 17) rfl))) (hw _ (List.mem_of_getElem? (i := 1) rfl)) (by decide) rfl rfl (O3.p_g0) ?_
  intro h4 W4
  have O4 := O3.w_values hw gv3 (o_ne (by omega)) (o_ne (by omega)) (o_ne (by omega)) (o_ne (by omega)) B3 W4
  have z4 := W4.size
  refine o_ldc2_w (pc := 75) B (x := (2 : Int64)) d4_75 (hw _ (List.mem_of_getElem? (i := 48) rfl)) ?_
  refine o_iloadN (pc := 78) B d4_78 rfl ?_
  refine o_i2l (pc := 79) B d4_79 ?_
  refine o_lmul (pc := 80) B d4_80 ?_
  refine o_aloadN (pc := 81) B d4_81 rfl rfl ?_
  refine o_getF (pc := 82) B d4_82 (hw _ (List.mem_of_getElem? (i := 10) rfl)) (O4.p_Fkeys) ?_
  refine o_arraylen (pc := 85) B (8 : Int32) d4_85 (O4.p_Ak) (by rw [List.length_map, hK]; rfl) ?_
  refine o_i2l (pc := 86) B d4_86 ?_
  refine o_lcmp (pc := 87) B d4_87 ?_
  refine o_lif_le (pc := 88) (pc' := 143) B d4_88 (by decide) (by decide) (fun hc88 => False.elim (by revert hc88; decide)) (fun hc88 => ?_)
  refine o_iconst (pc := 91) B (2 : Int32) d4_91 (by decide) ?_
  refine o_iloadN (pc := 92) B d4_92 rfl ?_
  refine o_imul_c (pc := 93) B (10 : Int32) d4_93 (by decide) ?_
  refine o_iconst (pc := 94) B (1 : Int32) d4_94 (by decide) ?_
  refine o_isub_c (pc := 95) B (9 : Int32) d4_95 (by decide) ?_
  refine o_callS1 (pc := 96) B 0 d4_96 (hw _ (List.mem_of_getElem? (i := 49) rfl)) (hw _ (List.mem_of_getElem? (i := 50) rfl)) (hw _ (List.mem_of_getElem? (i := 51) rfl)) (hw _ (List.mem_of_getElem? (i := 52) rfl)) (by decide) pd7 rfl (by first | exact Nat.zero_le _ | exact Nat.le_of_ble_eq_true rfl | simp [Value.category]) (by decide) (by decide) (by decide) (by decide) rfl (oc7_9 l Z a0 hw n0 _) ?_
  rintro w h' ⟨rfl, rfl⟩
  refine o_iconst (pc := 99) B (1 : Int32) d4_99 (by decide) ?_
  refine o_ishl_c (pc := 100) B (16 : Int32) d4_100 (by decide) ?_
  refine o_istore_7_6 (pc := 101) B d4_101 rfl ?_
  refine o_aloadN (pc := 103) B d4_103 rfl rfl ?_
  refine o_iload (pc := 104) B d4_104 rfl ?_
  refine o_newarray (pc := 106) B (16) (16) d4_106 (hw _ (List.mem_of_getElem? (i := 9) rfl)) (by decide) (by first | decide | omega) (by first | decide | omega) (by decide) (by decide) ?_
  intro hn0 Xn0 ltn0 An0
  have gg0 := Nat.le_trans (o_le O4.p_g0) (Nat.le_of_lt (o_lt O4.p_E.lt))
  have lo0 := o_lt O4.p_E.lt
  have lk0 := o_lt O4.p_Ak.lt
  have li0 := o_lt O4.p_Ai.lt
  have ls0 := o_lt O4.p_As.lt
  have lv0 := o_lt O4.p_Av.lt
  generalize eb0 : Array.size (α := Cell) _ = b0 at An0 gg0 lo0 lk0 li0 ls0 lv0 ⊢
  have Bn0 : o_IA Z hn0 b0 (List.replicate 16 0) := An0
  have On0 := O4.ext Xn0
  refine o_putF (pc := 108) (ty := (.array .int)) B d4_108 (hw _ (List.mem_of_getElem? (i := 10) rfl)) (On0.p_Fkeys) (On0.p_E) (Or.inl (hw _ (List.mem_of_getElem? (i := 11) rfl))) (hw _ (List.mem_of_getElem? (i := 1) rfl)) (by decide) rfl rfl (On0.p_g0) ?_
  intro hm0 Wn0
  have Om0 := On0.w_keys hw gg0 (o_ne (by omega)) (o_ne (by omega)) (o_ne (by omega)) (o_ne (by omega)) Bn0 Wn0
  refine o_aloadN (pc := 111) B d4_111 rfl rfl ?_
  refine o_iload (pc := 112) B d4_112 rfl ?_
  refine o_newarray (pc := 114) B (16) (16) d4_114 (hw _ (List.mem_of_getElem? (i := 9) rfl)) (by decide) (by first | decide | omega) (by first | decide | omega) (by decide) (by decide) ?_
  intro hn1 Xn1 ltn1 An1
  have gg1 := Nat.le_trans (o_le Om0.p_g0) (Nat.le_of_lt (o_lt Om0.p_E.lt))
  have lo1 := o_lt Om0.p_E.lt
  have lk1 := o_lt Om0.p_Ak.lt
  have li1 := o_lt Om0.p_Ai.lt
  have ls1 := o_lt Om0.p_As.lt
  have lv1 := o_lt Om0.p_Av.lt
  generalize eb1 : Array.size (α := Cell) _ = b1 at An1 gg1 lo1 lk1 li1 ls1 lv1 ⊢
  have Bn1 : o_IA Z hn1 b1 (List.replicate 16 0) := An1
  have On1 := Om0.ext Xn1
  refine o_putF (pc := 116) (ty := (.array .int)) B d4_116 (hw _ (List.mem_of_getElem? (i := 12) rfl)) (On1.p_Fids) (On1.p_E) (Or.inl (hw _ (List.mem_of_getElem? (i := 13) rfl))) (hw _ (List.mem_of_getElem? (i := 1) rfl)) (by decide) rfl rfl (On1.p_g0) ?_
  intro hm1 Wn1
  have Om1 := On1.w_ids hw gg1 (o_ne (by omega)) (o_ne (by omega)) (o_ne (by omega)) (o_ne (by omega)) Bn1 Wn1
  refine o_aloadN (pc := 119) B d4_119 rfl rfl ?_
  refine o_iload (pc := 120) B d4_120 rfl ?_
  refine o_newarray (pc := 122) B (16) (16) d4_122 (hw _ (List.mem_of_getElem? (i := 9) rfl)) (by decide) (by first | decide | omega) (by first | decide | omega) (by decide) (by decide) ?_
  intro hn2 Xn2 ltn2 An2
  have gg2 := Nat.le_trans (o_le Om1.p_g0) (Nat.le_of_lt (o_lt Om1.p_E.lt))
  have lo2 := o_lt Om1.p_E.lt
  have lk2 := o_lt Om1.p_Ak.lt
  have li2 := o_lt Om1.p_Ai.lt
  have ls2 := o_lt Om1.p_As.lt
  have lv2 := o_lt Om1.p_Av.lt
  generalize eb2 : Array.size (α := Cell) _ = b2 at An2 gg2 lo2 lk2 li2 ls2 lv2 ⊢
  have Bn2 : o_IA Z hn2 b2 (List.replicate 16 0) := An2
  have On2 := Om1.ext Xn2
  refine o_putF (pc := 124) (ty := (.array .int)) B d4_124 (hw _ (List.mem_of_getElem? (i := 14) rfl)) (On2.p_Fstamps) (On2.p_E) (Or.inl (hw _ (List.mem_of_getElem? (i := 15) rfl))) (hw _ (List.mem_of_getElem? (i := 1) rfl)) (by decide) rfl rfl (On2.p_g0) ?_
  intro hm2 Wn2
  have Om2 := On2.w_stamps hw gg2 (o_ne (by omega)) (o_ne (by omega)) (o_ne (by omega)) (o_ne (by omega)) Bn2 Wn2
  refine o_aloadN (pc := 127) B d4_127 rfl rfl ?_
  refine o_iload (pc := 128) B d4_128 rfl ?_
  refine o_callS1 (pc := 130) B 1 d4_130 (hw _ (List.mem_of_getElem? (i := 58) rfl)) (hw _ (List.mem_of_getElem? (i := 55) rfl)) (hw _ (List.mem_of_getElem? (i := 51) rfl)) (hw _ (List.mem_of_getElem? (i := 56) rfl)) (by decide) pd8 rfl (by first | exact Nat.zero_le _ | exact Nat.le_of_ble_eq_true rfl | simp [Value.category]) (by decide) (by decide) (by decide) (by decide) rfl (oc8_16 l Z a0 hw n0 _) ?_
  rintro w h' ⟨rfl, rfl⟩
  refine o_iconst (pc := 133) B (1 : Int32) d4_133 (by decide) ?_
  refine o_iadd_c (pc := 134) B (28 : Int32) d4_134 (by decide) ?_
  refine o_putF (pc := 135) (ty := .int) B d4_135 (hw _ (List.mem_of_getElem? (i := 59) rfl)) (Om2.p_Fshift) (Om2.p_E) (Or.inl (hw _ (List.mem_of_getElem? (i := 60) rfl))) (hw _ (List.mem_of_getElem? (i := 1) rfl)) (by decide) rfl rfl (Om2.p_g0) ?_
  intro hp Wp
  have Op := Om2.w_shift hw Wp
  refine o_aloadN (pc := 138) B d4_138 rfl rfl ?_
  refine o_iconst (pc := 139) B (0 : Int32) d4_139 (by decide) ?_
  refine o_putF (pc := 140) (ty := .int) B d4_140 (hw _ (List.mem_of_getElem? (i := 61) rfl)) (Op.p_Fstamp) (Op.p_E) (Or.inl (hw _ (List.mem_of_getElem? (i := 62) rfl))) (hw _ (List.mem_of_getElem? (i := 1) rfl)) (by decide) rfl rfl (Op.p_g0) ?_
  intro hq Wq
  have Oq := Op.w_stamp hw Wq
  refine o_aloadN (pc := 143) B d4_143 rfl rfl ?_
  refine o_getF (pc := 144) B d4_144 (hw _ (List.mem_of_getElem? (i := 61) rfl)) (Oq.p_Fstamp) ?_
  refine o_ldc (pc := 147) B (x := (2147483647 : Int32)) d4_147 (hw _ (List.mem_of_getElem? (i := 63) rfl)) ?_
  refine o_icmp_ne (pc := 149) (pc' := 165) B d4_149 (by decide) (by decide) (fun hc149 => ?_) (fun hc149 => False.elim (by revert hc149; decide))
  refine o_aloadN (pc := 165) B d4_165 rfl rfl ?_
  refine o_dup (pc := 166) B d4_166 rfl ?_
  refine o_getF (pc := 167) B d4_167 (hw _ (List.mem_of_getElem? (i := 61) rfl)) (Oq.p_Fstamp) ?_
  refine o_iconst (pc := 170) B (1 : Int32) d4_170 (by decide) ?_
  refine o_iadd_c (pc := 171) B (1 : Int32) d4_171 (by decide) ?_
  refine o_putF (pc := 172) (ty := .int) B d4_172 (hw _ (List.mem_of_getElem? (i := 61) rfl)) (Oq.p_Fstamp) (Oq.p_E) (Or.inl (hw _ (List.mem_of_getElem? (i := 62) rfl))) (hw _ (List.mem_of_getElem? (i := 1) rfl)) (by decide) rfl rfl (Oq.p_g0) ?_
  intro hz Wz
  have Oz := Oq.w_stamp hw Wz
  exact o_return (pc := 175) B d4_175 (by decide) (by decide) (⟨rfl, _, _, _, _, 4, _, _, _, _, _, _, Oz, own_T_new (by simp) (by simp) (by simp) (fun a b q => by have := List.eq_of_mem_replicate (List.mem_of_getElem? q); rw [this]; decide), by decide, by decide, own_h28, by simp⟩)
set_option maxRecDepth 65536 in
set_option maxHeartbeats 40000000 in
theorem oc4_6 (l : Launch) (Z : State) (a0 : Array Value) (hw : ∀ d ∈ tables_1, d.before a0 Z = true) (n0 : Nat) (h : Heap) (o k i s v : Addr) (off lo cnt st sh : Int32) (Ks Is Ss Vs : List Int32) (Z0 : n0 ≤ h.size) (O : own_Ob Z n0 h o k i s v off lo cnt 1 sh Ks Is Ss Vs) (hV : Vs.length = 3) (hK : Ks.length = 8) (hI : Is.length = 8) (hS : Ss.length = 8) (h01 : ∀ (a : Nat) (b : Int32), Ss[a]? = some b → b = 0 ∨ b = 1) (hsh : sh = 29) : o_C l Z n0 oy4 prog_74_method_2_code 7 none orm4 [(.ref o), (.int 6), (.int (-2147483648)), (.int 2147483647)] h (fun w h' => w = none ∧ ∃ k i s v j st sh Ks Is Ss Vs, own_Ob Z n0 h' o k i s v 0 lo 0 st sh Ks Is Ss Vs ∧ own_T j (own_h sh) st Ks Is Ss [] [] ∧ 3 ≤ j ∧ j ≤ 5 ∧ (∀ v, own_h sh v < 2 ^ j) ∧ 2 ≤ Vs.length) := by
  refine o_body (Ls := [.val (.ref o), .val (.int 6), .val (.int (-2147483648)), .val (.int 2147483647), .unset, .unset, .unset]) pn4 (by first | (simp [argsToLocals, Value.category]; done) | rfl) (fun κ B => ?_)
  refine o_iloadN (pc := 0) B d4_0 rfl ?_
  refine o_i2l (pc := 1) B d4_1 ?_
  refine o_iloadN (pc := 2) B d4_2 rfl ?_
  refine o_i2l (pc := 3) B d4_3 ?_
  refine o_lsub (pc := 4) B d4_4 ?_
  refine o_lconst (pc := 5) B (1 : Int64) d4_5 (by decide) ?_
  refine o_ladd (pc := 6) B d4_6 ?_
  refine o_lstore_7_4 (pc := 7) B d4_7 rfl ?_
  refine o_aloadN (pc := 9) B d4_9 rfl rfl ?_
  refine o_lload (pc := 10) B d4_10 rfl ?_
  refine o_ldc2_w (pc := 12) B (x := (4 : Int64)) d4_12 (hw _ (List.mem_of_getElem? (i := 28) rfl)) ?_
  refine o_iloadN (pc := 15) B d4_15 rfl ?_
  refine o_i2l (pc := 16) B d4_16 ?_
  refine o_lmul (pc := 17) B d4_17 ?_
  refine o_ldc2_w (pc := 18) B (x := (64 : Int64)) d4_18 (hw _ (List.mem_of_getElem? (i := 29) rfl)) ?_
  refine o_ladd (pc := 21) B d4_21 ?_
  refine o_lcmp (pc := 22) B d4_22 ?_
  refine o_lif_gt (pc := 23) (pc' := 30) B d4_23 (by decide) (by decide) (fun hc23 => ?_) (fun hc23 => False.elim (by revert hc23; decide))
  refine o_iconst (pc := 30) B (0 : Int32) d4_30 (by decide) ?_
  refine o_putF (pc := 31) (ty := .boolean) B d4_31 (hw _ (List.mem_of_getElem? (i := 30) rfl)) (O.p_Foffsets) (O.p_E) (Or.inl (hw _ (List.mem_of_getElem? (i := 31) rfl))) (hw _ (List.mem_of_getElem? (i := 1) rfl)) (by decide) rfl rfl (O.p_g0) ?_
  intro h1 W1
  have O1 := O.w_offsets hw W1
  have z1 := W1.size
  refine o_aloadN (pc := 34) B d4_34 rfl rfl ?_
  refine o_getF (pc := 35) B d4_35 (hw _ (List.mem_of_getElem? (i := 30) rfl)) (O1.p_Foffsets) ?_
  refine o_if_eq (pc := 38) (pc' := 54) B d4_38 (by decide) (by decide) (fun hc38 => ?_) (fun hc38 => False.elim (by revert hc38; decide))
  refine o_aloadN (pc := 54) B d4_54 rfl rfl ?_
  refine o_iconst (pc := 55) B (0 : Int32) d4_55 (by decide) ?_
  refine o_putF (pc := 56) (ty := .int) B d4_56 (hw _ (List.mem_of_getElem? (i := 34) rfl)) (O1.p_Fcount) (O1.p_E) (Or.inl (hw _ (List.mem_of_getElem? (i := 35) rfl))) (hw _ (List.mem_of_getElem? (i := 1) rfl)) (by decide) rfl rfl (O1.p_g0) ?_
  intro h2 W2
  have O2 := O1.w_count hw W2
  have z2 := W2.size
  refine o_aloadN (pc := 59) B d4_59 rfl rfl ?_
  refine o_getF (pc := 60) B d4_60 (hw _ (List.mem_of_getElem? (i := 16) rfl)) (O2.p_Fvalues) ?_
  refine o_arraylen (pc := 63) B (3 : Int32) d4_63 (O2.p_Av) (by rw [List.length_map, hV]; rfl) ?_
  refine o_iloadN (pc := 64) B d4_64 rfl ?_
  refine o_icmp_ge (pc := 65) (pc' := 75) B d4_65 (by decide) (by decide) (fun hc65 => False.elim (by revert hc65; decide)) (fun hc65 => ?_)
  refine o_aloadN (pc := 68) B d4_68 rfl rfl ?_
  refine o_iloadN (pc := 69) B d4_69 rfl ?_
  refine o_newarray (pc := 70) B (6) (6) d4_70 (hw _ (List.mem_of_getElem? (i := 9) rfl)) (by decide) (by first | decide | omega) (by first | decide | omega) (by decide) (by decide) ?_
  intro h3 X3 lt3 A3
  obtain ⟨v3, gv3, ev3⟩ : ∃ a, n0 ≤ a ∧ a = h2.size := ⟨_, (by omega), rfl⟩
  rw [← ev3] at A3 ⊢
  have B3 : o_IA Z h3 v3 (List.replicate 6 0) := A3
  have lts := o_lt O2.p_E.lt
  have ltk := o_lt O2.p_Ak.lt
  have lti := o_lt O2.p_Ai.lt
  have ltt := o_lt O2.p_As.lt
  have O3 := O2.ext X3
  refine o_putF (pc := 72) (ty := (.array .int)) B d4_72 (hw _ (List.mem_of_getElem? (i := 16) rfl)) (O3.p_Fvalues) (O3.p_E) (Or.inl (hw _ (List.mem_of_getElem? (i := 17) rfl))) (hw _ (List.mem_of_getElem? (i := 1) rfl)) (by decide) rfl rfl (O3.p_g0) ?_
  intro h4 W4
  have O4 := O3.w_values hw gv3 (o_ne (by omega)) (o_ne (by omega)) (o_ne (by omega)) (o_ne (by omega)) B3 W4
  have z4 := W4.size
  refine o_ldc2_w (pc := 75) B (x := (2 : Int64)) d4_75 (hw _ (List.mem_of_getElem? (i := 48) rfl)) ?_
  refine o_iloadN (pc := 78) B d4_78 rfl ?_
  refine o_i2l (pc := 79) B d4_79 ?_
  refine o_lmul (pc := 80) B d4_80 ?_
  refine o_aloadN (pc := 81) B d4_81 rfl rfl ?_
  refine o_getF (pc := 82) B d4_82 (hw _ (List.mem_of_getElem? (i := 10) rfl)) (O4.p_Fkeys) ?_
  refine o_arraylen (pc := 85) B (8 : Int32) d4_85 (O4.p_Ak) (by rw [List.length_map, hK]; rfl) ?_
  refine o_i2l (pc := 86) B d4_86 ?_
  refine o_lcmp (pc := 87) B d4_87 ?_
  refine o_lif_le (pc := 88) (pc' := 143) B d4_88 (by decide) (by decide) (fun hc88 => False.elim (by revert hc88; decide)) (fun hc88 => ?_)
  refine o_iconst (pc := 91) B (2 : Int32) d4_91 (by decide) ?_
  refine o_iloadN (pc := 92) B d4_92 rfl ?_
  refine o_imul_c (pc := 93) B (12 : Int32) d4_93 (by decide) ?_
  refine o_iconst (pc := 94) B (1 : Int32) d4_94 (by decide) ?_
  refine o_isub_c (pc := 95) B (11 : Int32) d4_95 (by decide) ?_
  refine o_callS1 (pc := 96) B 0 d4_96 (hw _ (List.mem_of_getElem? (i := 49) rfl)) (hw _ (List.mem_of_getElem? (i := 50) rfl)) (hw _ (List.mem_of_getElem? (i := 51) rfl)) (hw _ (List.mem_of_getElem? (i := 52) rfl)) (by decide) pd7 rfl (by first | exact Nat.zero_le _ | exact Nat.le_of_ble_eq_true rfl | simp [Value.category]) (by decide) (by decide) (by decide) (by decide) rfl (oc7_11 l Z a0 hw n0 _) ?_
  rintro w h' ⟨rfl, rfl⟩
  refine o_iconst (pc := 99) B (1 : Int32) d4_99 (by decide) ?_
  refine o_ishl_c (pc := 100) B (16 : Int32) d4_100 (by decide) ?_
  refine o_istore_7_6 (pc := 101) B d4_101 rfl ?_
  refine o_aloadN (pc := 103) B d4_103 rfl rfl ?_
  refine o_iload (pc := 104) B d4_104 rfl ?_
  refine o_newarray (pc := 106) B (16) (16) d4_106 (hw _ (List.mem_of_getElem? (i := 9) rfl)) (by decide) (by first | decide | omega) (by first | decide | omega) (by decide) (by decide) ?_
  intro hn0 Xn0 ltn0 An0
  have gg0 := Nat.le_trans (o_le O4.p_g0) (Nat.le_of_lt (o_lt O4.p_E.lt))
  have lo0 := o_lt O4.p_E.lt
  have lk0 := o_lt O4.p_Ak.lt
  have li0 := o_lt O4.p_Ai.lt
  have ls0 := o_lt O4.p_As.lt
  have lv0 := o_lt O4.p_Av.lt
  generalize eb0 : Array.size (α := Cell) _ = b0 at An0 gg0 lo0 lk0 li0 ls0 lv0 ⊢
  have Bn0 : o_IA Z hn0 b0 (List.replicate 16 0) := An0
  have On0 := O4.ext Xn0
  refine o_putF (pc := 108) (ty := (.array .int)) B d4_108 (hw _ (List.mem_of_getElem? (i := 10) rfl)) (On0.p_Fkeys) (On0.p_E) (Or.inl (hw _ (List.mem_of_getElem? (i := 11) rfl))) (hw _ (List.mem_of_getElem? (i := 1) rfl)) (by decide) rfl rfl (On0.p_g0) ?_
  intro hm0 Wn0
  have Om0 := On0.w_keys hw gg0 (o_ne (by omega)) (o_ne (by omega)) (o_ne (by omega)) (o_ne (by omega)) Bn0 Wn0
  refine o_aloadN (pc := 111) B d4_111 rfl rfl ?_
  refine o_iload (pc := 112) B d4_112 rfl ?_
  refine o_newarray (pc := 114) B (16) (16) d4_114 (hw _ (List.mem_of_getElem? (i := 9) rfl)) (by decide) (by first | decide | omega) (by first | decide | omega) (by decide) (by decide) ?_
  intro hn1 Xn1 ltn1 An1
  have gg1 := Nat.le_trans (o_le Om0.p_g0) (Nat.le_of_lt (o_lt Om0.p_E.lt))
  have lo1 := o_lt Om0.p_E.lt
  have lk1 := o_lt Om0.p_Ak.lt
  have li1 := o_lt Om0.p_Ai.lt
  have ls1 := o_lt Om0.p_As.lt
  have lv1 := o_lt Om0.p_Av.lt
  generalize eb1 : Array.size (α := Cell) _ = b1 at An1 gg1 lo1 lk1 li1 ls1 lv1 ⊢
  have Bn1 : o_IA Z hn1 b1 (List.replicate 16 0) := An1
  have On1 := Om0.ext Xn1
  refine o_putF (pc := 116) (ty := (.array .int)) B d4_116 (hw _ (List.mem_of_getElem? (i := 12) rfl)) (On1.p_Fids) (On1.p_E) (Or.inl (hw _ (List.mem_of_getElem? (i := 13) rfl))) (hw _ (List.mem_of_getElem? (i := 1) rfl)) (by decide) rfl rfl (On1.p_g0) ?_
  intro hm1 Wn1
  have Om1 := On1.w_ids hw gg1 (o_ne (by omega)) (o_ne (by omega)) (o_ne (by omega)) (o_ne (by omega)) Bn1 Wn1
  refine o_aloadN (pc := 119) B d4_119 rfl rfl ?_
  refine o_iload (pc := 120) B d4_120 rfl ?_
  refine o_newarray (pc := 122) B (16) (16) d4_122 (hw _ (List.mem_of_getElem? (i := 9) rfl)) (by decide) (by first | decide | omega) (by first | decide | omega) (by decide) (by decide) ?_
  intro hn2 Xn2 ltn2 An2
  have gg2 := Nat.le_trans (o_le Om1.p_g0) (Nat.le_of_lt (o_lt Om1.p_E.lt))
  have lo2 := o_lt Om1.p_E.lt
  have lk2 := o_lt Om1.p_Ak.lt
  have li2 := o_lt Om1.p_Ai.lt
  have ls2 := o_lt Om1.p_As.lt
  have lv2 := o_lt Om1.p_Av.lt
  generalize eb2 : Array.size (α := Cell) _ = b2 at An2 gg2 lo2 lk2 li2 ls2 lv2 ⊢
  have Bn2 : o_IA Z hn2 b2 (List.replicate 16 0) := An2
  have On2 := Om1.ext Xn2
  refine o_putF (pc := 124) (ty := (.array .int)) B d4_124 (hw _ (List.mem_of_getElem? (i := 14) rfl)) (On2.p_Fstamps) (On2.p_E) (Or.inl (hw _ (List.mem_of_getElem? (i := 15) rfl))) (hw _ (List.mem_of_getElem? (i := 1) rfl)) (by decide) rfl rfl (On2.p_g0) ?_
  intro hm2 Wn2
  have Om2 := On2.w_stamps hw gg2 (o_ne (by omega)) (o_ne (by omega)) (o_ne (by omega)) (o_ne (by omega)) Bn2 Wn2
  refine o_aloadN (pc := 127) B d4_127 rfl rfl ?_
  refine o_iload (pc := 128) B d4_128 rfl ?_
  refine o_callS1 (pc := 130) B 1 d4_130 (hw _ (List.mem_of_getElem? (i := 58) rfl)) (hw _ (List.mem_of_getElem? (i := 55) rfl)) (hw _ (List.mem_of_getElem? (i := 51) rfl)) (hw _ (List.mem_of_getElem? (i := 56) rfl)) (by decide) pd8 rfl (by first | exact Nat.zero_le _ | exact Nat.le_of_ble_eq_true rfl | simp [Value.category]) (by decide) (by decide) (by decide) (by decide) rfl (oc8_16 l Z a0 hw n0 _) ?_
  rintro w h' ⟨rfl, rfl⟩
  refine o_iconst (pc := 133) B (1 : Int32) d4_133 (by decide) ?_
  refine o_iadd_c (pc := 134) B (28 : Int32) d4_134 (by decide) ?_
  refine o_putF (pc := 135) (ty := .int) B d4_135 (hw _ (List.mem_of_getElem? (i := 59) rfl)) (Om2.p_Fshift) (Om2.p_E) (Or.inl (hw _ (List.mem_of_getElem? (i := 60) rfl))) (hw _ (List.mem_of_getElem? (i := 1) rfl)) (by decide) rfl rfl (Om2.p_g0) ?_
  intro hp Wp
  have Op := Om2.w_shift hw Wp
  refine o_aloadN (pc := 138) B d4_138 rfl rfl ?_
  refine o_iconst (pc := 139) B (0 : Int32) d4_139 (by decide) ?_
  refine o_putF (pc := 140) (ty := .int) B d4_140 (hw _ (List.mem_of_getElem? (i := 61) rfl)) (Op.p_Fstamp) (Op.p_E) (Or.inl (hw _ (List.mem_of_getElem? (i := 62) rfl))) (hw _ (List.mem_of_getElem? (i := 1) rfl)) (by decide) rfl rfl (Op.p_g0) ?_
  intro hq Wq
  have Oq := Op.w_stamp hw Wq
  refine o_aloadN (pc := 143) B d4_143 rfl rfl ?_
  refine o_getF (pc := 144) B d4_144 (hw _ (List.mem_of_getElem? (i := 61) rfl)) (Oq.p_Fstamp) ?_
  refine o_ldc (pc := 147) B (x := (2147483647 : Int32)) d4_147 (hw _ (List.mem_of_getElem? (i := 63) rfl)) ?_
  refine o_icmp_ne (pc := 149) (pc' := 165) B d4_149 (by decide) (by decide) (fun hc149 => ?_) (fun hc149 => False.elim (by revert hc149; decide))
  refine o_aloadN (pc := 165) B d4_165 rfl rfl ?_
  refine o_dup (pc := 166) B d4_166 rfl ?_
  refine o_getF (pc := 167) B d4_167 (hw _ (List.mem_of_getElem? (i := 61) rfl)) (Oq.p_Fstamp) ?_
  refine o_iconst (pc := 170) B (1 : Int32) d4_170 (by decide) ?_
  refine o_iadd_c (pc := 171) B (1 : Int32) d4_171 (by decide) ?_
  refine o_putF (pc := 172) (ty := .int) B d4_172 (hw _ (List.mem_of_getElem? (i := 61) rfl)) (Oq.p_Fstamp) (Oq.p_E) (Or.inl (hw _ (List.mem_of_getElem? (i := 62) rfl))) (hw _ (List.mem_of_getElem? (i := 1) rfl)) (by decide) rfl rfl (Oq.p_g0) ?_
  intro hz Wz
  have Oz := Oq.w_stamp hw Wz
  exact o_return (pc := 175) B d4_175 (by decide) (by decide) (⟨rfl, _, _, _, _, 4, _, _, _, _, _, _, Oz, own_T_new (by simp) (by simp) (by simp) (fun a b q => by have := List.eq_of_mem_replicate (List.mem_of_getElem? q); rw [this]; decide), by decide, by decide, own_h28, by simp⟩)
set_option maxRecDepth 65536 in
set_option maxHeartbeats 40000000 in
theorem oc4_7 (l : Launch) (Z : State) (a0 : Array Value) (hw : ∀ d ∈ tables_1, d.before a0 Z = true) (n0 : Nat) (h : Heap) (o k i s v : Addr) (off lo cnt st sh : Int32) (Ks Is Ss Vs : List Int32) (Z0 : n0 ≤ h.size) (O : own_Ob Z n0 h o k i s v off lo cnt 1 sh Ks Is Ss Vs) (hV : Vs.length = 3) (hK : Ks.length = 8) (hI : Is.length = 8) (hS : Ss.length = 8) (h01 : ∀ (a : Nat) (b : Int32), Ss[a]? = some b → b = 0 ∨ b = 1) (hsh : sh = 29) : o_C l Z n0 oy4 prog_74_method_2_code 7 none orm4 [(.ref o), (.int 7), (.int (-2147483648)), (.int 2147483647)] h (fun w h' => w = none ∧ ∃ k i s v j st sh Ks Is Ss Vs, own_Ob Z n0 h' o k i s v 0 lo 0 st sh Ks Is Ss Vs ∧ own_T j (own_h sh) st Ks Is Ss [] [] ∧ 3 ≤ j ∧ j ≤ 5 ∧ (∀ v, own_h sh v < 2 ^ j) ∧ 2 ≤ Vs.length) := by
  refine o_body (Ls := [.val (.ref o), .val (.int 7), .val (.int (-2147483648)), .val (.int 2147483647), .unset, .unset, .unset]) pn4 (by first | (simp [argsToLocals, Value.category]; done) | rfl) (fun κ B => ?_)
  refine o_iloadN (pc := 0) B d4_0 rfl ?_
  refine o_i2l (pc := 1) B d4_1 ?_
  refine o_iloadN (pc := 2) B d4_2 rfl ?_
  refine o_i2l (pc := 3) B d4_3 ?_
  refine o_lsub (pc := 4) B d4_4 ?_
  refine o_lconst (pc := 5) B (1 : Int64) d4_5 (by decide) ?_
  refine o_ladd (pc := 6) B d4_6 ?_
  refine o_lstore_7_4 (pc := 7) B d4_7 rfl ?_
  refine o_aloadN (pc := 9) B d4_9 rfl rfl ?_
  refine o_lload (pc := 10) B d4_10 rfl ?_
  refine o_ldc2_w (pc := 12) B (x := (4 : Int64)) d4_12 (hw _ (List.mem_of_getElem? (i := 28) rfl)) ?_
  refine o_iloadN (pc := 15) B d4_15 rfl ?_
  refine o_i2l (pc := 16) B d4_16 ?_
  refine o_lmul (pc := 17) B d4_17 ?_
  refine o_ldc2_w (pc := 18) B (x := (64 : Int64)) d4_18 (hw _ (List.mem_of_getElem? (i := 29) rfl)) ?_
  refine o_ladd (pc := 21) B d4_21 ?_
  refine o_lcmp (pc := 22) B d4_22 ?_
  refine o_lif_gt (pc := 23) (pc' := 30) B d4_23 (by decide) (by decide) (fun hc23 => ?_) (fun hc23 => False.elim (by revert hc23; decide))
  refine o_iconst (pc := 30) B (0 : Int32) d4_30 (by decide) ?_
  refine o_putF (pc := 31) (ty := .boolean) B d4_31 (hw _ (List.mem_of_getElem? (i := 30) rfl)) (O.p_Foffsets) (O.p_E) (Or.inl (hw _ (List.mem_of_getElem? (i := 31) rfl))) (hw _ (List.mem_of_getElem? (i := 1) rfl)) (by decide) rfl rfl (O.p_g0) ?_
  intro h1 W1
  have O1 := O.w_offsets hw W1
  have z1 := W1.size
  refine o_aloadN (pc := 34) B d4_34 rfl rfl ?_
  refine o_getF (pc := 35) B d4_35 (hw _ (List.mem_of_getElem? (i := 30) rfl)) (O1.p_Foffsets) ?_
  refine o_if_eq (pc := 38) (pc' := 54) B d4_38 (by decide) (by decide) (fun hc38 => ?_) (fun hc38 => False.elim (by revert hc38; decide))
  refine o_aloadN (pc := 54) B d4_54 rfl rfl ?_
  refine o_iconst (pc := 55) B (0 : Int32) d4_55 (by decide) ?_
  refine o_putF (pc := 56) (ty := .int) B d4_56 (hw _ (List.mem_of_getElem? (i := 34) rfl)) (O1.p_Fcount) (O1.p_E) (Or.inl (hw _ (List.mem_of_getElem? (i := 35) rfl))) (hw _ (List.mem_of_getElem? (i := 1) rfl)) (by decide) rfl rfl (O1.p_g0) ?_
  intro h2 W2
  have O2 := O1.w_count hw W2
  have z2 := W2.size
  refine o_aloadN (pc := 59) B d4_59 rfl rfl ?_
  refine o_getF (pc := 60) B d4_60 (hw _ (List.mem_of_getElem? (i := 16) rfl)) (O2.p_Fvalues) ?_
  refine o_arraylen (pc := 63) B (3 : Int32) d4_63 (O2.p_Av) (by rw [List.length_map, hV]; rfl) ?_
  refine o_iloadN (pc := 64) B d4_64 rfl ?_
  refine o_icmp_ge (pc := 65) (pc' := 75) B d4_65 (by decide) (by decide) (fun hc65 => False.elim (by revert hc65; decide)) (fun hc65 => ?_)
  refine o_aloadN (pc := 68) B d4_68 rfl rfl ?_
  refine o_iloadN (pc := 69) B d4_69 rfl ?_
  refine o_newarray (pc := 70) B (7) (7) d4_70 (hw _ (List.mem_of_getElem? (i := 9) rfl)) (by decide) (by first | decide | omega) (by first | decide | omega) (by decide) (by decide) ?_
  intro h3 X3 lt3 A3
  obtain ⟨v3, gv3, ev3⟩ : ∃ a, n0 ≤ a ∧ a = h2.size := ⟨_, (by omega), rfl⟩
  rw [← ev3] at A3 ⊢
  have B3 : o_IA Z h3 v3 (List.replicate 7 0) := A3
  have lts := o_lt O2.p_E.lt
  have ltk := o_lt O2.p_Ak.lt
  have lti := o_lt O2.p_Ai.lt
  have ltt := o_lt O2.p_As.lt
  have O3 := O2.ext X3
  refine o_putF (pc := 72) (ty := (.array .int)) B d4_72 (hw _ (List.mem_of_getElem? (i := 16) rfl)) (O3.p_Fvalues) (O3.p_E) (Or.inl (hw _ (List.mem_of_getElem? (i := 17) rfl))) (hw _ (List.mem_of_getElem? (i := 1) rfl)) (by decide) rfl rfl (O3.p_g0) ?_
  intro h4 W4
  have O4 := O3.w_values hw gv3 (o_ne (by omega)) (o_ne (by omega)) (o_ne (by omega)) (o_ne (by omega)) B3 W4
  have z4 := W4.size
  refine o_ldc2_w (pc := 75) B (x := (2 : Int64)) d4_75 (hw _ (List.mem_of_getElem? (i := 48) rfl)) ?_
  refine o_iloadN (pc := 78) B d4_78 rfl ?_
  refine o_i2l (pc := 79) B d4_79 ?_
  refine o_lmul (pc := 80) B d4_80 ?_
  refine o_aloadN (pc := 81) B d4_81 rfl rfl ?_
  refine o_getF (pc := 82) B d4_82 (hw _ (List.mem_of_getElem? (i := 10) rfl)) (O4.p_Fkeys) ?_
  refine o_arraylen (pc := 85) B (8 : Int32) d4_85 (O4.p_Ak) (by rw [List.length_map, hK]; rfl) ?_
  refine o_i2l (pc := 86) B d4_86 ?_
  refine o_lcmp (pc := 87) B d4_87 ?_
  refine o_lif_le (pc := 88) (pc' := 143) B d4_88 (by decide) (by decide) (fun hc88 => False.elim (by revert hc88; decide)) (fun hc88 => ?_)
  refine o_iconst (pc := 91) B (2 : Int32) d4_91 (by decide) ?_
  refine o_iloadN (pc := 92) B d4_92 rfl ?_
  refine o_imul_c (pc := 93) B (14 : Int32) d4_93 (by decide) ?_
  refine o_iconst (pc := 94) B (1 : Int32) d4_94 (by decide) ?_
  refine o_isub_c (pc := 95) B (13 : Int32) d4_95 (by decide) ?_
  refine o_callS1 (pc := 96) B 0 d4_96 (hw _ (List.mem_of_getElem? (i := 49) rfl)) (hw _ (List.mem_of_getElem? (i := 50) rfl)) (hw _ (List.mem_of_getElem? (i := 51) rfl)) (hw _ (List.mem_of_getElem? (i := 52) rfl)) (by decide) pd7 rfl (by first | exact Nat.zero_le _ | exact Nat.le_of_ble_eq_true rfl | simp [Value.category]) (by decide) (by decide) (by decide) (by decide) rfl (oc7_13 l Z a0 hw n0 _) ?_
  rintro w h' ⟨rfl, rfl⟩
  refine o_iconst (pc := 99) B (1 : Int32) d4_99 (by decide) ?_
  refine o_ishl_c (pc := 100) B (16 : Int32) d4_100 (by decide) ?_
  refine o_istore_7_6 (pc := 101) B d4_101 rfl ?_
  refine o_aloadN (pc := 103) B d4_103 rfl rfl ?_
  refine o_iload (pc := 104) B d4_104 rfl ?_
  refine o_newarray (pc := 106) B (16) (16) d4_106 (hw _ (List.mem_of_getElem? (i := 9) rfl)) (by decide) (by first | decide | omega) (by first | decide | omega) (by decide) (by decide) ?_
  intro hn0 Xn0 ltn0 An0
  have gg0 := Nat.le_trans (o_le O4.p_g0) (Nat.le_of_lt (o_lt O4.p_E.lt))
  have lo0 := o_lt O4.p_E.lt
  have lk0 := o_lt O4.p_Ak.lt
  have li0 := o_lt O4.p_Ai.lt
  have ls0 := o_lt O4.p_As.lt
  have lv0 := o_lt O4.p_Av.lt
  generalize eb0 : Array.size (α := Cell) _ = b0 at An0 gg0 lo0 lk0 li0 ls0 lv0 ⊢
  have Bn0 : o_IA Z hn0 b0 (List.replicate 16 0) := An0
  have On0 := O4.ext Xn0
  refine o_putF (pc := 108) (ty := (.array .int)) B d4_108 (hw _ (List.mem_of_getElem? (i := 10) rfl)) (On0.p_Fkeys) (On0.p_E) (Or.inl (hw _ (List.mem_of_getElem? (i := 11) rfl))) (hw _ (List.mem_of_getElem? (i := 1) rfl)) (by decide) rfl rfl (On0.p_g0) ?_
  intro hm0 Wn0
  have Om0 := On0.w_keys hw gg0 (o_ne (by omega)) (o_ne (by omega)) (o_ne (by omega)) (o_ne (by omega)) Bn0 Wn0
  refine o_aloadN (pc := 111) B d4_111 rfl rfl ?_
  refine o_iload (pc := 112) B d4_112 rfl ?_
  refine o_newarray (pc := 114) B (16) (16) d4_114 (hw _ (List.mem_of_getElem? (i := 9) rfl)) (by decide) (by first | decide | omega) (by first | decide | omega) (by decide) (by decide) ?_
  intro hn1 Xn1 ltn1 An1
  have gg1 := Nat.le_trans (o_le Om0.p_g0) (Nat.le_of_lt (o_lt Om0.p_E.lt))
  have lo1 := o_lt Om0.p_E.lt
  have lk1 := o_lt Om0.p_Ak.lt
  have li1 := o_lt Om0.p_Ai.lt
  have ls1 := o_lt Om0.p_As.lt
  have lv1 := o_lt Om0.p_Av.lt
  generalize eb1 : Array.size (α := Cell) _ = b1 at An1 gg1 lo1 lk1 li1 ls1 lv1 ⊢
  have Bn1 : o_IA Z hn1 b1 (List.replicate 16 0) := An1
  have On1 := Om0.ext Xn1
  refine o_putF (pc := 116) (ty := (.array .int)) B d4_116 (hw _ (List.mem_of_getElem? (i := 12) rfl)) (On1.p_Fids) (On1.p_E) (Or.inl (hw _ (List.mem_of_getElem? (i := 13) rfl))) (hw _ (List.mem_of_getElem? (i := 1) rfl)) (by decide) rfl rfl (On1.p_g0) ?_
  intro hm1 Wn1
  have Om1 := On1.w_ids hw gg1 (o_ne (by omega)) (o_ne (by omega)) (o_ne (by omega)) (o_ne (by omega)) Bn1 Wn1
  refine o_aloadN (pc := 119) B d4_119 rfl rfl ?_
  refine o_iload (pc := 120) B d4_120 rfl ?_
  refine o_newarray (pc := 122) B (16) (16) d4_122 (hw _ (List.mem_of_getElem? (i := 9) rfl)) (by decide) (by first | decide | omega) (by first | decide | omega) (by decide) (by decide) ?_
  intro hn2 Xn2 ltn2 An2
  have gg2 := Nat.le_trans (o_le Om1.p_g0) (Nat.le_of_lt (o_lt Om1.p_E.lt))
  have lo2 := o_lt Om1.p_E.lt
  have lk2 := o_lt Om1.p_Ak.lt
  have li2 := o_lt Om1.p_Ai.lt
  have ls2 := o_lt Om1.p_As.lt
  have lv2 := o_lt Om1.p_Av.lt
  generalize eb2 : Array.size (α := Cell) _ = b2 at An2 gg2 lo2 lk2 li2 ls2 lv2 ⊢
  have Bn2 : o_IA Z hn2 b2 (List.replicate 16 0) := An2
  have On2 := Om1.ext Xn2
  refine o_putF (pc := 124) (ty := (.array .int)) B d4_124 (hw _ (List.mem_of_getElem? (i := 14) rfl)) (On2.p_Fstamps) (On2.p_E) (Or.inl (hw _ (List.mem_of_getElem? (i := 15) rfl))) (hw _ (List.mem_of_getElem? (i := 1) rfl)) (by decide) rfl rfl (On2.p_g0) ?_
  intro hm2 Wn2
  have Om2 := On2.w_stamps hw gg2 (o_ne (by omega)) (o_ne (by omega)) (o_ne (by omega)) (o_ne (by omega)) Bn2 Wn2
  refine o_aloadN (pc := 127) B d4_127 rfl rfl ?_
  refine o_iload (pc := 128) B d4_128 rfl ?_
  refine o_callS1 (pc := 130) B 1 d4_130 (hw _ (List.mem_of_getElem? (i := 58) rfl)) (hw _ (List.mem_of_getElem? (i := 55) rfl)) (hw _ (List.mem_of_getElem? (i := 51) rfl)) (hw _ (List.mem_of_getElem? (i := 56) rfl)) (by decide) pd8 rfl (by first | exact Nat.zero_le _ | exact Nat.le_of_ble_eq_true rfl | simp [Value.category]) (by decide) (by decide) (by decide) (by decide) rfl (oc8_16 l Z a0 hw n0 _) ?_
  rintro w h' ⟨rfl, rfl⟩
  refine o_iconst (pc := 133) B (1 : Int32) d4_133 (by decide) ?_
  refine o_iadd_c (pc := 134) B (28 : Int32) d4_134 (by decide) ?_
  refine o_putF (pc := 135) (ty := .int) B d4_135 (hw _ (List.mem_of_getElem? (i := 59) rfl)) (Om2.p_Fshift) (Om2.p_E) (Or.inl (hw _ (List.mem_of_getElem? (i := 60) rfl))) (hw _ (List.mem_of_getElem? (i := 1) rfl)) (by decide) rfl rfl (Om2.p_g0) ?_
  intro hp Wp
  have Op := Om2.w_shift hw Wp
  refine o_aloadN (pc := 138) B d4_138 rfl rfl ?_
  refine o_iconst (pc := 139) B (0 : Int32) d4_139 (by decide) ?_
  refine o_putF (pc := 140) (ty := .int) B d4_140 (hw _ (List.mem_of_getElem? (i := 61) rfl)) (Op.p_Fstamp) (Op.p_E) (Or.inl (hw _ (List.mem_of_getElem? (i := 62) rfl))) (hw _ (List.mem_of_getElem? (i := 1) rfl)) (by decide) rfl rfl (Op.p_g0) ?_
  intro hq Wq
  have Oq := Op.w_stamp hw Wq
  refine o_aloadN (pc := 143) B d4_143 rfl rfl ?_
  refine o_getF (pc := 144) B d4_144 (hw _ (List.mem_of_getElem? (i := 61) rfl)) (Oq.p_Fstamp) ?_
  refine o_ldc (pc := 147) B (x := (2147483647 : Int32)) d4_147 (hw _ (List.mem_of_getElem? (i := 63) rfl)) ?_
  refine o_icmp_ne (pc := 149) (pc' := 165) B d4_149 (by decide) (by decide) (fun hc149 => ?_) (fun hc149 => False.elim (by revert hc149; decide))
  refine o_aloadN (pc := 165) B d4_165 rfl rfl ?_
  refine o_dup (pc := 166) B d4_166 rfl ?_
  refine o_getF (pc := 167) B d4_167 (hw _ (List.mem_of_getElem? (i := 61) rfl)) (Oq.p_Fstamp) ?_
  refine o_iconst (pc := 170) B (1 : Int32) d4_170 (by decide) ?_
  refine o_iadd_c (pc := 171) B (1 : Int32) d4_171 (by decide) ?_
  refine o_putF (pc := 172) (ty := .int) B d4_172 (hw _ (List.mem_of_getElem? (i := 61) rfl)) (Oq.p_Fstamp) (Oq.p_E) (Or.inl (hw _ (List.mem_of_getElem? (i := 62) rfl))) (hw _ (List.mem_of_getElem? (i := 1) rfl)) (by decide) rfl rfl (Oq.p_g0) ?_
  intro hz Wz
  have Oz := Oq.w_stamp hw Wz
  exact o_return (pc := 175) B d4_175 (by decide) (by decide) (⟨rfl, _, _, _, _, 4, _, _, _, _, _, _, Oz, own_T_new (by simp) (by simp) (by simp) (fun a b q => by have := List.eq_of_mem_replicate (List.mem_of_getElem? q); rw [this]; decide), by decide, by decide, own_h28, by simp⟩)
set_option maxRecDepth 65536 in
set_option maxHeartbeats 40000000 in
theorem oc4_8 (l : Launch) (Z : State) (a0 : Array Value) (hw : ∀ d ∈ tables_1, d.before a0 Z = true) (n0 : Nat) (h : Heap) (o k i s v : Addr) (off lo cnt st sh : Int32) (Ks Is Ss Vs : List Int32) (Z0 : n0 ≤ h.size) (O : own_Ob Z n0 h o k i s v off lo cnt 1 sh Ks Is Ss Vs) (hV : Vs.length = 3) (hK : Ks.length = 8) (hI : Is.length = 8) (hS : Ss.length = 8) (h01 : ∀ (a : Nat) (b : Int32), Ss[a]? = some b → b = 0 ∨ b = 1) (hsh : sh = 29) : o_C l Z n0 oy4 prog_74_method_2_code 7 none orm4 [(.ref o), (.int 8), (.int (-2147483648)), (.int 2147483647)] h (fun w h' => w = none ∧ ∃ k i s v j st sh Ks Is Ss Vs, own_Ob Z n0 h' o k i s v 0 lo 0 st sh Ks Is Ss Vs ∧ own_T j (own_h sh) st Ks Is Ss [] [] ∧ 3 ≤ j ∧ j ≤ 5 ∧ (∀ v, own_h sh v < 2 ^ j) ∧ 2 ≤ Vs.length) := by
  refine o_body (Ls := [.val (.ref o), .val (.int 8), .val (.int (-2147483648)), .val (.int 2147483647), .unset, .unset, .unset]) pn4 (by first | (simp [argsToLocals, Value.category]; done) | rfl) (fun κ B => ?_)
  refine o_iloadN (pc := 0) B d4_0 rfl ?_
  refine o_i2l (pc := 1) B d4_1 ?_
  refine o_iloadN (pc := 2) B d4_2 rfl ?_
  refine o_i2l (pc := 3) B d4_3 ?_
  refine o_lsub (pc := 4) B d4_4 ?_
  refine o_lconst (pc := 5) B (1 : Int64) d4_5 (by decide) ?_
  refine o_ladd (pc := 6) B d4_6 ?_
  refine o_lstore_7_4 (pc := 7) B d4_7 rfl ?_
  refine o_aloadN (pc := 9) B d4_9 rfl rfl ?_
  refine o_lload (pc := 10) B d4_10 rfl ?_
  refine o_ldc2_w (pc := 12) B (x := (4 : Int64)) d4_12 (hw _ (List.mem_of_getElem? (i := 28) rfl)) ?_
  refine o_iloadN (pc := 15) B d4_15 rfl ?_
  refine o_i2l (pc := 16) B d4_16 ?_
  refine o_lmul (pc := 17) B d4_17 ?_
  refine o_ldc2_w (pc := 18) B (x := (64 : Int64)) d4_18 (hw _ (List.mem_of_getElem? (i := 29) rfl)) ?_
  refine o_ladd (pc := 21) B d4_21 ?_
  refine o_lcmp (pc := 22) B d4_22 ?_
  refine o_lif_gt (pc := 23) (pc' := 30) B d4_23 (by decide) (by decide) (fun hc23 => ?_) (fun hc23 => False.elim (by revert hc23; decide))
  refine o_iconst (pc := 30) B (0 : Int32) d4_30 (by decide) ?_
  refine o_putF (pc := 31) (ty := .boolean) B d4_31 (hw _ (List.mem_of_getElem? (i := 30) rfl)) (O.p_Foffsets) (O.p_E) (Or.inl (hw _ (List.mem_of_getElem? (i := 31) rfl))) (hw _ (List.mem_of_getElem? (i := 1) rfl)) (by decide) rfl rfl (O.p_g0) ?_
  intro h1 W1
  have O1 := O.w_offsets hw W1
  have z1 := W1.size
  refine o_aloadN (pc := 34) B d4_34 rfl rfl ?_
  refine o_getF (pc := 35) B d4_35 (hw _ (List.mem_of_getElem? (i := 30) rfl)) (O1.p_Foffsets) ?_
  refine o_if_eq (pc := 38) (pc' := 54) B d4_38 (by decide) (by decide) (fun hc38 => ?_) (fun hc38 => False.elim (by revert hc38; decide))
  refine o_aloadN (pc := 54) B d4_54 rfl rfl ?_
  refine o_iconst (pc := 55) B (0 : Int32) d4_55 (by decide) ?_
  refine o_putF (pc := 56) (ty := .int) B d4_56 (hw _ (List.mem_of_getElem? (i := 34) rfl)) (O1.p_Fcount) (O1.p_E) (Or.inl (hw _ (List.mem_of_getElem? (i := 35) rfl))) (hw _ (List.mem_of_getElem? (i := 1) rfl)) (by decide) rfl rfl (O1.p_g0) ?_
  intro h2 W2
  have O2 := O1.w_count hw W2
  have z2 := W2.size
  refine o_aloadN (pc := 59) B d4_59 rfl rfl ?_
  refine o_getF (pc := 60) B d4_60 (hw _ (List.mem_of_getElem? (i := 16) rfl)) (O2.p_Fvalues) ?_
  refine o_arraylen (pc := 63) B (3 : Int32) d4_63 (O2.p_Av) (by rw [List.length_map, hV]; rfl) ?_
  refine o_iloadN (pc := 64) B d4_64 rfl ?_
  refine o_icmp_ge (pc := 65) (pc' := 75) B d4_65 (by decide) (by decide) (fun hc65 => False.elim (by revert hc65; decide)) (fun hc65 => ?_)
  refine o_aloadN (pc := 68) B d4_68 rfl rfl ?_
  refine o_iloadN (pc := 69) B d4_69 rfl ?_
  refine o_newarray (pc := 70) B (8) (8) d4_70 (hw _ (List.mem_of_getElem? (i := 9) rfl)) (by decide) (by first | decide | omega) (by first | decide | omega) (by decide) (by decide) ?_
  intro h3 X3 lt3 A3
  obtain ⟨v3, gv3, ev3⟩ : ∃ a, n0 ≤ a ∧ a = h2.size := ⟨_, (by omega), rfl⟩
  rw [← ev3] at A3 ⊢
  have B3 : o_IA Z h3 v3 (List.replicate 8 0) := A3
  have lts := o_lt O2.p_E.lt
  have ltk := o_lt O2.p_Ak.lt
  have lti := o_lt O2.p_Ai.lt
  have ltt := o_lt O2.p_As.lt
  have O3 := O2.ext X3
  refine o_putF (pc := 72) (ty := (.array .int)) B d4_72 (hw _ (List.mem_of_getElem? (i := 16) rfl)) (O3.p_Fvalues) (O3.p_E) (Or.inl (hw _ (List.mem_of_getElem? (i := 17) rfl))) (hw _ (List.mem_of_getElem? (i := 1) rfl)) (by decide) rfl rfl (O3.p_g0) ?_
  intro h4 W4
  have O4 := O3.w_values hw gv3 (o_ne (by omega)) (o_ne (by omega)) (o_ne (by omega)) (o_ne (by omega)) B3 W4
  have z4 := W4.size
  refine o_ldc2_w (pc := 75) B (x := (2 : Int64)) d4_75 (hw _ (List.mem_of_getElem? (i := 48) rfl)) ?_
  refine o_iloadN (pc := 78) B d4_78 rfl ?_
  refine o_i2l (pc := 79) B d4_79 ?_
  refine o_lmul (pc := 80) B d4_80 ?_
  refine o_aloadN (pc := 81) B d4_81 rfl rfl ?_
  refine o_getF (pc := 82) B d4_82 (hw _ (List.mem_of_getElem? (i := 10) rfl)) (O4.p_Fkeys) ?_
  refine o_arraylen (pc := 85) B (8 : Int32) d4_85 (O4.p_Ak) (by rw [List.length_map, hK]; rfl) ?_
  refine o_i2l (pc := 86) B d4_86 ?_
  refine o_lcmp (pc := 87) B d4_87 ?_
  refine o_lif_le (pc := 88) (pc' := 143) B d4_88 (by decide) (by decide) (fun hc88 => False.elim (by revert hc88; decide)) (fun hc88 => ?_)
  refine o_iconst (pc := 91) B (2 : Int32) d4_91 (by decide) ?_
  refine o_iloadN (pc := 92) B d4_92 rfl ?_
  refine o_imul_c (pc := 93) B (16 : Int32) d4_93 (by decide) ?_
  refine o_iconst (pc := 94) B (1 : Int32) d4_94 (by decide) ?_
  refine o_isub_c (pc := 95) B (15 : Int32) d4_95 (by decide) ?_
  refine o_callS1 (pc := 96) B 0 d4_96 (hw _ (List.mem_of_getElem? (i := 49) rfl)) (hw _ (List.mem_of_getElem? (i := 50) rfl)) (hw _ (List.mem_of_getElem? (i := 51) rfl)) (hw _ (List.mem_of_getElem? (i := 52) rfl)) (by decide) pd7 rfl (by first | exact Nat.zero_le _ | exact Nat.le_of_ble_eq_true rfl | simp [Value.category]) (by decide) (by decide) (by decide) (by decide) rfl (oc7_15 l Z a0 hw n0 _) ?_
  rintro w h' ⟨rfl, rfl⟩
  refine o_iconst (pc := 99) B (1 : Int32) d4_99 (by decide) ?_
  refine o_ishl_c (pc := 100) B (16 : Int32) d4_100 (by decide) ?_
  refine o_istore_7_6 (pc := 101) B d4_101 rfl ?_
  refine o_aloadN (pc := 103) B d4_103 rfl rfl ?_
  refine o_iload (pc := 104) B d4_104 rfl ?_
  refine o_newarray (pc := 106) B (16) (16) d4_106 (hw _ (List.mem_of_getElem? (i := 9) rfl)) (by decide) (by first | decide | omega) (by first | decide | omega) (by decide) (by decide) ?_
  intro hn0 Xn0 ltn0 An0
  have gg0 := Nat.le_trans (o_le O4.p_g0) (Nat.le_of_lt (o_lt O4.p_E.lt))
  have lo0 := o_lt O4.p_E.lt
  have lk0 := o_lt O4.p_Ak.lt
  have li0 := o_lt O4.p_Ai.lt
  have ls0 := o_lt O4.p_As.lt
  have lv0 := o_lt O4.p_Av.lt
  generalize eb0 : Array.size (α := Cell) _ = b0 at An0 gg0 lo0 lk0 li0 ls0 lv0 ⊢
  have Bn0 : o_IA Z hn0 b0 (List.replicate 16 0) := An0
  have On0 := O4.ext Xn0
  refine o_putF (pc := 108) (ty := (.array .int)) B d4_108 (hw _ (List.mem_of_getElem? (i := 10) rfl)) (On0.p_Fkeys) (On0.p_E) (Or.inl (hw _ (List.mem_of_getElem? (i := 11) rfl))) (hw _ (List.mem_of_getElem? (i := 1) rfl)) (by decide) rfl rfl (On0.p_g0) ?_
  intro hm0 Wn0
  have Om0 := On0.w_keys hw gg0 (o_ne (by omega)) (o_ne (by omega)) (o_ne (by omega)) (o_ne (by omega)) Bn0 Wn0
  refine o_aloadN (pc := 111) B d4_111 rfl rfl ?_
  refine o_iload (pc := 112) B d4_112 rfl ?_
  refine o_newarray (pc := 114) B (16) (16) d4_114 (hw _ (List.mem_of_getElem? (i := 9) rfl)) (by decide) (by first | decide | omega) (by first | decide | omega) (by decide) (by decide) ?_
  intro hn1 Xn1 ltn1 An1
  have gg1 := Nat.le_trans (o_le Om0.p_g0) (Nat.le_of_lt (o_lt Om0.p_E.lt))
  have lo1 := o_lt Om0.p_E.lt
  have lk1 := o_lt Om0.p_Ak.lt
  have li1 := o_lt Om0.p_Ai.lt
  have ls1 := o_lt Om0.p_As.lt
  have lv1 := o_lt Om0.p_Av.lt
  generalize eb1 : Array.size (α := Cell) _ = b1 at An1 gg1 lo1 lk1 li1 ls1 lv1 ⊢
  have Bn1 : o_IA Z hn1 b1 (List.replicate 16 0) := An1
  have On1 := Om0.ext Xn1
  refine o_putF (pc := 116) (ty := (.array .int)) B d4_116 (hw _ (List.mem_of_getElem? (i := 12) rfl)) (On1.p_Fids) (On1.p_E) (Or.inl (hw _ (List.mem_of_getElem? (i := 13) rfl))) (hw _ (List.mem_of_getElem? (i := 1) rfl)) (by decide) rfl rfl (On1.p_g0) ?_
  intro hm1 Wn1
  have Om1 := On1.w_ids hw gg1 (o_ne (by omega)) (o_ne (by omega)) (o_ne (by omega)) (o_ne (by omega)) Bn1 Wn1
  refine o_aloadN (pc := 119) B d4_119 rfl rfl ?_
  refine o_iload (pc := 120) B d4_120 rfl ?_
  refine o_newarray (pc := 122) B (16) (16) d4_122 (hw _ (List.mem_of_getElem? (i := 9) rfl)) (by decide) (by first | decide | omega) (by first | decide | omega) (by decide) (by decide) ?_
  intro hn2 Xn2 ltn2 An2
  have gg2 := Nat.le_trans (o_le Om1.p_g0) (Nat.le_of_lt (o_lt Om1.p_E.lt))
  have lo2 := o_lt Om1.p_E.lt
  have lk2 := o_lt Om1.p_Ak.lt
  have li2 := o_lt Om1.p_Ai.lt
  have ls2 := o_lt Om1.p_As.lt
  have lv2 := o_lt Om1.p_Av.lt
  generalize eb2 : Array.size (α := Cell) _ = b2 at An2 gg2 lo2 lk2 li2 ls2 lv2 ⊢
  have Bn2 : o_IA Z hn2 b2 (List.replicate 16 0) := An2
  have On2 := Om1.ext Xn2
  refine o_putF (pc := 124) (ty := (.array .int)) B d4_124 (hw _ (List.mem_of_getElem? (i := 14) rfl)) (On2.p_Fstamps) (On2.p_E) (Or.inl (hw _ (List.mem_of_getElem? (i := 15) rfl))) (hw _ (List.mem_of_getElem? (i := 1) rfl)) (by decide) rfl rfl (On2.p_g0) ?_
  intro hm2 Wn2
  have Om2 := On2.w_stamps hw gg2 (o_ne (by omega)) (o_ne (by omega)) (o_ne (by omega)) (o_ne (by omega)) Bn2 Wn2
  refine o_aloadN (pc := 127) B d4_127 rfl rfl ?_
  refine o_iload (pc := 128) B d4_128 rfl ?_
  refine o_callS1 (pc := 130) B 1 d4_130 (hw _ (List.mem_of_getElem? (i := 58) rfl)) (hw _ (List.mem_of_getElem? (i := 55) rfl)) (hw _ (List.mem_of_getElem? (i := 51) rfl)) (hw _ (List.mem_of_getElem? (i := 56) rfl)) (by decide) pd8 rfl (by first | exact Nat.zero_le _ | exact Nat.le_of_ble_eq_true rfl | simp [Value.category]) (by decide) (by decide) (by decide) (by decide) rfl (oc8_16 l Z a0 hw n0 _) ?_
  rintro w h' ⟨rfl, rfl⟩
  refine o_iconst (pc := 133) B (1 : Int32) d4_133 (by decide) ?_
  refine o_iadd_c (pc := 134) B (28 : Int32) d4_134 (by decide) ?_
  refine o_putF (pc := 135) (ty := .int) B d4_135 (hw _ (List.mem_of_getElem? (i := 59) rfl)) (Om2.p_Fshift) (Om2.p_E) (Or.inl (hw _ (List.mem_of_getElem? (i := 60) rfl))) (hw _ (List.mem_of_getElem? (i := 1) rfl)) (by decide) rfl rfl (Om2.p_g0) ?_
  intro hp Wp
  have Op := Om2.w_shift hw Wp
  refine o_aloadN (pc := 138) B d4_138 rfl rfl ?_
  refine o_iconst (pc := 139) B (0 : Int32) d4_139 (by decide) ?_
  refine o_putF (pc := 140) (ty := .int) B d4_140 (hw _ (List.mem_of_getElem? (i := 61) rfl)) (Op.p_Fstamp) (Op.p_E) (Or.inl (hw _ (List.mem_of_getElem? (i := 62) rfl))) (hw _ (List.mem_of_getElem? (i := 1) rfl)) (by decide) rfl rfl (Op.p_g0) ?_
  intro hq Wq
  have Oq := Op.w_stamp hw Wq
  refine o_aloadN (pc := 143) B d4_143 rfl rfl ?_
  refine o_getF (pc := 144) B d4_144 (hw _ (List.mem_of_getElem? (i := 61) rfl)) (Oq.p_Fstamp) ?_
  refine o_ldc (pc := 147) B (x := (2147483647 : Int32)) d4_147 (hw _ (List.mem_of_getElem? (i := 63) rfl)) ?_
  refine o_icmp_ne (pc := 149) (pc' := 165) B d4_149 (by decide) (by decide) (fun hc149 => ?_) (fun hc149 => False.elim (by revert hc149; decide))
  refine o_aloadN (pc := 165) B d4_165 rfl rfl ?_
  refine o_dup (pc := 166) B d4_166 rfl ?_
  refine o_getF (pc := 167) B d4_167 (hw _ (List.mem_of_getElem? (i := 61) rfl)) (Oq.p_Fstamp) ?_
  refine o_iconst (pc := 170) B (1 : Int32) d4_170 (by decide) ?_
  refine o_iadd_c (pc := 171) B (1 : Int32) d4_171 (by decide) ?_
  refine o_putF (pc := 172) (ty := .int) B d4_172 (hw _ (List.mem_of_getElem? (i := 61) rfl)) (Oq.p_Fstamp) (Oq.p_E) (Or.inl (hw _ (List.mem_of_getElem? (i := 62) rfl))) (hw _ (List.mem_of_getElem? (i := 1) rfl)) (by decide) rfl rfl (Oq.p_g0) ?_
  intro hz Wz
  have Oz := Oq.w_stamp hw Wz
  exact o_return (pc := 175) B d4_175 (by decide) (by decide) (⟨rfl, _, _, _, _, 4, _, _, _, _, _, _, Oz, own_T_new (by simp) (by simp) (by simp) (fun a b q => by have := List.eq_of_mem_replicate (List.mem_of_getElem? q); rw [this]; decide), by decide, by decide, own_h28, by simp⟩)
set_option maxRecDepth 65536 in
set_option maxHeartbeats 40000000 in
theorem oc4_9 (l : Launch) (Z : State) (a0 : Array Value) (hw : ∀ d ∈ tables_1, d.before a0 Z = true) (n0 : Nat) (h : Heap) (o k i s v : Addr) (off lo cnt st sh : Int32) (Ks Is Ss Vs : List Int32) (Z0 : n0 ≤ h.size) (O : own_Ob Z n0 h o k i s v off lo cnt 1 sh Ks Is Ss Vs) (hV : Vs.length = 3) (hK : Ks.length = 8) (hI : Is.length = 8) (hS : Ss.length = 8) (h01 : ∀ (a : Nat) (b : Int32), Ss[a]? = some b → b = 0 ∨ b = 1) (hsh : sh = 29) : o_C l Z n0 oy4 prog_74_method_2_code 7 none orm4 [(.ref o), (.int 9), (.int (-2147483648)), (.int 2147483647)] h (fun w h' => w = none ∧ ∃ k i s v j st sh Ks Is Ss Vs, own_Ob Z n0 h' o k i s v 0 lo 0 st sh Ks Is Ss Vs ∧ own_T j (own_h sh) st Ks Is Ss [] [] ∧ 3 ≤ j ∧ j ≤ 5 ∧ (∀ v, own_h sh v < 2 ^ j) ∧ 2 ≤ Vs.length) := by
  refine o_body (Ls := [.val (.ref o), .val (.int 9), .val (.int (-2147483648)), .val (.int 2147483647), .unset, .unset, .unset]) pn4 (by first | (simp [argsToLocals, Value.category]; done) | rfl) (fun κ B => ?_)
  refine o_iloadN (pc := 0) B d4_0 rfl ?_
  refine o_i2l (pc := 1) B d4_1 ?_
  refine o_iloadN (pc := 2) B d4_2 rfl ?_
  refine o_i2l (pc := 3) B d4_3 ?_
  refine o_lsub (pc := 4) B d4_4 ?_
  refine o_lconst (pc := 5) B (1 : Int64) d4_5 (by decide) ?_
  refine o_ladd (pc := 6) B d4_6 ?_
  refine o_lstore_7_4 (pc := 7) B d4_7 rfl ?_
  refine o_aloadN (pc := 9) B d4_9 rfl rfl ?_
  refine o_lload (pc := 10) B d4_10 rfl ?_
  refine o_ldc2_w (pc := 12) B (x := (4 : Int64)) d4_12 (hw _ (List.mem_of_getElem? (i := 28) rfl)) ?_
  refine o_iloadN (pc := 15) B d4_15 rfl ?_
  refine o_i2l (pc := 16) B d4_16 ?_
  refine o_lmul (pc := 17) B d4_17 ?_
  refine o_ldc2_w (pc := 18) B (x := (64 : Int64)) d4_18 (hw _ (List.mem_of_getElem? (i := 29) rfl)) ?_
  refine o_ladd (pc := 21) B d4_21 ?_
  refine o_lcmp (pc := 22) B d4_22 ?_
  refine o_lif_gt (pc := 23) (pc' := 30) B d4_23 (by decide) (by decide) (fun hc23 => ?_) (fun hc23 => False.elim (by revert hc23; decide))
  refine o_iconst (pc := 30) B (0 : Int32) d4_30 (by decide) ?_
  refine o_putF (pc := 31) (ty := .boolean) B d4_31 (hw _ (List.mem_of_getElem? (i := 30) rfl)) (O.p_Foffsets) (O.p_E) (Or.inl (hw _ (List.mem_of_getElem? (i := 31) rfl))) (hw _ (List.mem_of_getElem? (i := 1) rfl)) (by decide) rfl rfl (O.p_g0) ?_
  intro h1 W1
  have O1 := O.w_offsets hw W1
  have z1 := W1.size
  refine o_aloadN (pc := 34) B d4_34 rfl rfl ?_
  refine o_getF (pc := 35) B d4_35 (hw _ (List.mem_of_getElem? (i := 30) rfl)) (O1.p_Foffsets) ?_
  refine o_if_eq (pc := 38) (pc' := 54) B d4_38 (by decide) (by decide) (fun hc38 => ?_) (fun hc38 => False.elim (by revert hc38; decide))
  refine o_aloadN (pc := 54) B d4_54 rfl rfl ?_
  refine o_iconst (pc := 55) B (0 : Int32) d4_55 (by decide) ?_
  refine o_putF (pc := 56) (ty := .int) B d4_56 (hw _ (List.mem_of_getElem? (i := 34) rfl)) (O1.p_Fcount) (O1.p_E) (Or.inl (hw _ (List.mem_of_getElem? (i := 35) rfl))) (hw _ (List.mem_of_getElem? (i := 1) rfl)) (by decide) rfl rfl (O1.p_g0) ?_
  intro h2 W2
  have O2 := O1.w_count hw W2
  have z2 := W2.size
  refine o_aloadN (pc := 59) B d4_59 rfl rfl ?_
  refine o_getF (pc := 60) B d4_60 (hw _ (List.mem_of_getElem? (i := 16) rfl)) (O2.p_Fvalues) ?_
  refine o_arraylen (pc := 63) B (3 : Int32) d4_63 (O2.p_Av) (by rw [List.length_map, hV]; rfl) ?_
  refine o_iloadN (pc := 64) B d4_64 rfl ?_
  refine o_icmp_ge (pc := 65) (pc' := 75) B d4_65 (by decide) (by decide) (fun hc65 => False.elim (by revert hc65; decide)) (fun hc65 => ?_)
  refine o_aloadN (pc := 68) B d4_68 rfl rfl ?_
  refine o_iloadN (pc := 69) B d4_69 rfl ?_
  refine o_newarray (pc := 70) B (9) (9) d4_70 (hw _ (List.mem_of_getElem? (i := 9) rfl)) (by decide) (by first | decide | omega) (by first | decide | omega) (by decide) (by decide) ?_
  intro h3 X3 lt3 A3
  obtain ⟨v3, gv3, ev3⟩ : ∃ a, n0 ≤ a ∧ a = h2.size := ⟨_, (by omega), rfl⟩
  rw [← ev3] at A3 ⊢
  have B3 : o_IA Z h3 v3 (List.replicate 9 0) := A3
  have lts := o_lt O2.p_E.lt
  have ltk := o_lt O2.p_Ak.lt
  have lti := o_lt O2.p_Ai.lt
  have ltt := o_lt O2.p_As.lt
  have O3 := O2.ext X3
  refine o_putF (pc := 72) (ty := (.array .int)) B d4_72 (hw _ (List.mem_of_getElem? (i := 16) rfl)) (O3.p_Fvalues) (O3.p_E) (Or.inl (hw _ (List.mem_of_getElem? (i := 17) rfl))) (hw _ (List.mem_of_getElem? (i := 1) rfl)) (by decide) rfl rfl (O3.p_g0) ?_
  intro h4 W4
  have O4 := O3.w_values hw gv3 (o_ne (by omega)) (o_ne (by omega)) (o_ne (by omega)) (o_ne (by omega)) B3 W4
  have z4 := W4.size
  refine o_ldc2_w (pc := 75) B (x := (2 : Int64)) d4_75 (hw _ (List.mem_of_getElem? (i := 48) rfl)) ?_
  refine o_iloadN (pc := 78) B d4_78 rfl ?_
  refine o_i2l (pc := 79) B d4_79 ?_
  refine o_lmul (pc := 80) B d4_80 ?_
  refine o_aloadN (pc := 81) B d4_81 rfl rfl ?_
  refine o_getF (pc := 82) B d4_82 (hw _ (List.mem_of_getElem? (i := 10) rfl)) (O4.p_Fkeys) ?_
  refine o_arraylen (pc := 85) B (8 : Int32) d4_85 (O4.p_Ak) (by rw [List.length_map, hK]; rfl) ?_
  refine o_i2l (pc := 86) B d4_86 ?_
  refine o_lcmp (pc := 87) B d4_87 ?_
  refine o_lif_le (pc := 88) (pc' := 143) B d4_88 (by decide) (by decide) (fun hc88 => False.elim (by revert hc88; decide)) (fun hc88 => ?_)
  refine o_iconst (pc := 91) B (2 : Int32) d4_91 (by decide) ?_
  refine o_iloadN (pc := 92) B d4_92 rfl ?_
  refine o_imul_c (pc := 93) B (18 : Int32) d4_93 (by decide) ?_
  refine o_iconst (pc := 94) B (1 : Int32) d4_94 (by decide) ?_
  refine o_isub_c (pc := 95) B (17 : Int32) d4_95 (by decide) ?_
  refine o_callS1 (pc := 96) B 0 d4_96 (hw _ (List.mem_of_getElem? (i := 49) rfl)) (hw _ (List.mem_of_getElem? (i := 50) rfl)) (hw _ (List.mem_of_getElem? (i := 51) rfl)) (hw _ (List.mem_of_getElem? (i := 52) rfl)) (by decide) pd7 rfl (by first | exact Nat.zero_le _ | exact Nat.le_of_ble_eq_true rfl | simp [Value.category]) (by decide) (by decide) (by decide) (by decide) rfl (oc7_17 l Z a0 hw n0 _) ?_
  rintro w h' ⟨rfl, rfl⟩
  refine o_iconst (pc := 99) B (1 : Int32) d4_99 (by decide) ?_
  refine o_ishl_c (pc := 100) B (32 : Int32) d4_100 (by decide) ?_
  refine o_istore_7_6 (pc := 101) B d4_101 rfl ?_
  refine o_aloadN (pc := 103) B d4_103 rfl rfl ?_
  refine o_iload (pc := 104) B d4_104 rfl ?_
  refine o_newarray (pc := 106) B (32) (32) d4_106 (hw _ (List.mem_of_getElem? (i := 9) rfl)) (by decide) (by first | decide | omega) (by first | decide | omega) (by decide) (by decide) ?_
  intro hn0 Xn0 ltn0 An0
  have gg0 := Nat.le_trans (o_le O4.p_g0) (Nat.le_of_lt (o_lt O4.p_E.lt))
  have lo0 := o_lt O4.p_E.lt
  have lk0 := o_lt O4.p_Ak.lt
  have li0 := o_lt O4.p_Ai.lt
  have ls0 := o_lt O4.p_As.lt
  have lv0 := o_lt O4.p_Av.lt
  generalize eb0 : Array.size (α := Cell) _ = b0 at An0 gg0 lo0 lk0 li0 ls0 lv0 ⊢
  have Bn0 : o_IA Z hn0 b0 (List.replicate 32 0) := An0
  have On0 := O4.ext Xn0
  refine o_putF (pc := 108) (ty := (.array .int)) B d4_108 (hw _ (List.mem_of_getElem? (i := 10) rfl)) (On0.p_Fkeys) (On0.p_E) (Or.inl (hw _ (List.mem_of_getElem? (i := 11) rfl))) (hw _ (List.mem_of_getElem? (i := 1) rfl)) (by decide) rfl rfl (On0.p_g0) ?_
  intro hm0 Wn0
  have Om0 := On0.w_keys hw gg0 (o_ne (by omega)) (o_ne (by omega)) (o_ne (by omega)) (o_ne (by omega)) Bn0 Wn0
  refine o_aloadN (pc := 111) B d4_111 rfl rfl ?_
  refine o_iload (pc := 112) B d4_112 rfl ?_
  refine o_newarray (pc := 114) B (32) (32) d4_114 (hw _ (List.mem_of_getElem? (i := 9) rfl)) (by decide) (by first | decide | omega) (by first | decide | omega) (by decide) (by decide) ?_
  intro hn1 Xn1 ltn1 An1
  have gg1 := Nat.le_trans (o_le Om0.p_g0) (Nat.le_of_lt (o_lt Om0.p_E.lt))
  have lo1 := o_lt Om0.p_E.lt
  have lk1 := o_lt Om0.p_Ak.lt
  have li1 := o_lt Om0.p_Ai.lt
  have ls1 := o_lt Om0.p_As.lt
  have lv1 := o_lt Om0.p_Av.lt
  generalize eb1 : Array.size (α := Cell) _ = b1 at An1 gg1 lo1 lk1 li1 ls1 lv1 ⊢
  have Bn1 : o_IA Z hn1 b1 (List.replicate 32 0) := An1
  have On1 := Om0.ext Xn1
  refine o_putF (pc := 116) (ty := (.array .int)) B d4_116 (hw _ (List.mem_of_getElem? (i := 12) rfl)) (On1.p_Fids) (On1.p_E) (Or.inl (hw _ (List.mem_of_getElem? (i := 13) rfl))) (hw _ (List.mem_of_getElem? (i := 1) rfl)) (by decide) rfl rfl (On1.p_g0) ?_
  intro hm1 Wn1
  have Om1 := On1.w_ids hw gg1 (o_ne (by omega)) (o_ne (by omega)) (o_ne (by omega)) (o_ne (by omega)) Bn1 Wn1
  refine o_aloadN (pc := 119) B d4_119 rfl rfl ?_
  refine o_iload (pc := 120) B d4_120 rfl ?_
  refine o_newarray (pc := 122) B (32) (32) d4_122 (hw _ (List.mem_of_getElem? (i := 9) rfl)) (by decide) (by first | decide | omega) (by first | decide | omega) (by decide) (by decide) ?_
  intro hn2 Xn2 ltn2 An2
  have gg2 := Nat.le_trans (o_le Om1.p_g0) (Nat.le_of_lt (o_lt Om1.p_E.lt))
  have lo2 := o_lt Om1.p_E.lt
  have lk2 := o_lt Om1.p_Ak.lt
  have li2 := o_lt Om1.p_Ai.lt
  have ls2 := o_lt Om1.p_As.lt
  have lv2 := o_lt Om1.p_Av.lt
  generalize eb2 : Array.size (α := Cell) _ = b2 at An2 gg2 lo2 lk2 li2 ls2 lv2 ⊢
  have Bn2 : o_IA Z hn2 b2 (List.replicate 32 0) := An2
  have On2 := Om1.ext Xn2
  refine o_putF (pc := 124) (ty := (.array .int)) B d4_124 (hw _ (List.mem_of_getElem? (i := 14) rfl)) (On2.p_Fstamps) (On2.p_E) (Or.inl (hw _ (List.mem_of_getElem? (i := 15) rfl))) (hw _ (List.mem_of_getElem? (i := 1) rfl)) (by decide) rfl rfl (On2.p_g0) ?_
  intro hm2 Wn2
  have Om2 := On2.w_stamps hw gg2 (o_ne (by omega)) (o_ne (by omega)) (o_ne (by omega)) (o_ne (by omega)) Bn2 Wn2
  refine o_aloadN (pc := 127) B d4_127 rfl rfl ?_
  refine o_iload (pc := 128) B d4_128 rfl ?_
  refine o_callS1 (pc := 130) B 1 d4_130 (hw _ (List.mem_of_getElem? (i := 58) rfl)) (hw _ (List.mem_of_getElem? (i := 55) rfl)) (hw _ (List.mem_of_getElem? (i := 51) rfl)) (hw _ (List.mem_of_getElem? (i := 56) rfl)) (by decide) pd8 rfl (by first | exact Nat.zero_le _ | exact Nat.le_of_ble_eq_true rfl | simp [Value.category]) (by decide) (by decide) (by decide) (by decide) rfl (oc8_32 l Z a0 hw n0 _) ?_
  rintro w h' ⟨rfl, rfl⟩
  refine o_iconst (pc := 133) B (1 : Int32) d4_133 (by decide) ?_
  refine o_iadd_c (pc := 134) B (27 : Int32) d4_134 (by decide) ?_
  refine o_putF (pc := 135) (ty := .int) B d4_135 (hw _ (List.mem_of_getElem? (i := 59) rfl)) (Om2.p_Fshift) (Om2.p_E) (Or.inl (hw _ (List.mem_of_getElem? (i := 60) rfl))) (hw _ (List.mem_of_getElem? (i := 1) rfl)) (by decide) rfl rfl (Om2.p_g0) ?_
  intro hp Wp
  have Op := Om2.w_shift hw Wp
  refine o_aloadN (pc := 138) B d4_138 rfl rfl ?_
  refine o_iconst (pc := 139) B (0 : Int32) d4_139 (by decide) ?_
  refine o_putF (pc := 140) (ty := .int) B d4_140 (hw _ (List.mem_of_getElem? (i := 61) rfl)) (Op.p_Fstamp) (Op.p_E) (Or.inl (hw _ (List.mem_of_getElem? (i := 62) rfl))) (hw _ (List.mem_of_getElem? (i := 1) rfl)) (by decide) rfl rfl (Op.p_g0) ?_
  intro hq Wq
  have Oq := Op.w_stamp hw Wq
  refine o_aloadN (pc := 143) B d4_143 rfl rfl ?_
  refine o_getF (pc := 144) B d4_144 (hw _ (List.mem_of_getElem? (i := 61) rfl)) (Oq.p_Fstamp) ?_
  refine o_ldc (pc := 147) B (x := (2147483647 : Int32)) d4_147 (hw _ (List.mem_of_getElem? (i := 63) rfl)) ?_
  refine o_icmp_ne (pc := 149) (pc' := 165) B d4_149 (by decide) (by decide) (fun hc149 => ?_) (fun hc149 => False.elim (by revert hc149; decide))
  refine o_aloadN (pc := 165) B d4_165 rfl rfl ?_
  refine o_dup (pc := 166) B d4_166 rfl ?_
  refine o_getF (pc := 167) B d4_167 (hw _ (List.mem_of_getElem? (i := 61) rfl)) (Oq.p_Fstamp) ?_
  refine o_iconst (pc := 170) B (1 : Int32) d4_170 (by decide) ?_
  refine o_iadd_c (pc := 171) B (1 : Int32) d4_171 (by decide) ?_
  refine o_putF (pc := 172) (ty := .int) B d4_172 (hw _ (List.mem_of_getElem? (i := 61) rfl)) (Oq.p_Fstamp) (Oq.p_E) (Or.inl (hw _ (List.mem_of_getElem? (i := 62) rfl))) (hw _ (List.mem_of_getElem? (i := 1) rfl)) (by decide) rfl rfl (Oq.p_g0) ?_
  intro hz Wz
  have Oz := Oq.w_stamp hw Wz
  exact o_return (pc := 175) B d4_175 (by decide) (by decide) (⟨rfl, _, _, _, _, 5, _, _, _, _, _, _, Oz, own_T_new (by simp) (by simp) (by simp) (fun a b q => by have := List.eq_of_mem_replicate (List.mem_of_getElem? q); rw [this]; decide), by decide, by decide, own_h27, by simp⟩)
theorem oc4s (l : Launch) (Z : State) (a0 : Array Value) (hw : ∀ d ∈ tables_1, d.before a0 Z = true) (n0 : Nat) (h : Heap) (o k i s v : Addr) (off lo cnt st sh : Int32) (Ks Is Ss Vs : List Int32) (c2 : Nat) (h2 : 2 ≤ c2) (h9 : c2 ≤ 9) (Z0 : n0 ≤ h.size) (O : own_Ob Z n0 h o k i s v off lo cnt 1 sh Ks Is Ss Vs) (hV : Vs.length = 3) (hK : Ks.length = 8) (hI : Is.length = 8) (hS : Ss.length = 8) (h01 : ∀ (a : Nat) (b : Int32), Ss[a]? = some b → b = 0 ∨ b = 1) (hsh : sh = 29) : o_C l Z n0 oy4 prog_74_method_2_code 7 none orm4 [(.ref o), (.int (Int32.ofNat c2)), (.int (-2147483648)), (.int 2147483647)] h (fun w h' => w = none ∧ ∃ k i s v j st sh Ks Is Ss Vs, own_Ob Z n0 h' o k i s v 0 lo 0 st sh Ks Is Ss Vs ∧ own_T j (own_h sh) st Ks Is Ss [] [] ∧ 3 ≤ j ∧ j ≤ 5 ∧ (∀ v, own_h sh v < 2 ^ j) ∧ 2 ≤ Vs.length) := by
  have hc : c2 = 2 ∨ c2 = 3 ∨ c2 = 4 ∨ c2 = 5 ∨ c2 = 6 ∨ c2 = 7 ∨ c2 = 8 ∨ c2 = 9 := by omega
  rcases hc with rfl | rfl | rfl | rfl | rfl | rfl | rfl | rfl
  · exact oc4_2 l Z a0 hw n0 h o k i s v off lo cnt 1 sh Ks Is Ss Vs Z0 O hV hK hI hS h01 hsh
  · exact oc4_3 l Z a0 hw n0 h o k i s v off lo cnt 1 sh Ks Is Ss Vs Z0 O hV hK hI hS h01 hsh
  · exact oc4_4 l Z a0 hw n0 h o k i s v off lo cnt 1 sh Ks Is Ss Vs Z0 O hV hK hI hS h01 hsh
  · exact oc4_5 l Z a0 hw n0 h o k i s v off lo cnt 1 sh Ks Is Ss Vs Z0 O hV hK hI hS h01 hsh
  · exact oc4_6 l Z a0 hw n0 h o k i s v off lo cnt 1 sh Ks Is Ss Vs Z0 O hV hK hI hS h01 hsh
  · exact oc4_7 l Z a0 hw n0 h o k i s v off lo cnt 1 sh Ks Is Ss Vs Z0 O hV hK hI hS h01 hsh
  · exact oc4_8 l Z a0 hw n0 h o k i s v off lo cnt 1 sh Ks Is Ss Vs Z0 O hV hK hI hS h01 hsh
  · exact oc4_9 l Z a0 hw n0 h o k i s v off lo cnt 1 sh Ks Is Ss Vs Z0 O hV hK hI hS h01 hsh
set_option maxRecDepth 65536 in
set_option maxHeartbeats 40000000 in
theorem oc5d (l : Launch) (Z : State) (a0 : Array Value) (hw : ∀ d ∈ tables_1, d.before a0 Z = true) (n0 : Nat) (h : Heap) (o k i s v : Addr) (off lo cnt st sh : Int32) (Ks Is Ss Vs : List Int32) (x : Int32) (O : own_Ob Z n0 h o k i s v 1 lo cnt st sh Ks Is Ss Vs) : o_C l Z n0 oy5 prog_74_method_3_code 4 (some .int) orm5 [(.ref o), (.int x)] h (fun w h' => w = some (.int (x - lo)) ∧ h' = h) := by
  refine o_body (Ls := [.val (.ref o), .val (.int x), .unset, .unset]) pn5 (by first | (simp [argsToLocals, Value.category]; done) | rfl) (fun κ B => ?_)
  refine o_aloadN (pc := 0) B d5_0 rfl rfl ?_
  refine o_getF (pc := 1) B d5_1 (hw _ (List.mem_of_getElem? (i := 30) rfl)) (O.p_Foffsets) ?_
  refine o_if_eq (pc := 4) (pc' := 14) B d5_4 (by decide) (by decide) (fun hc4 => False.elim (by revert hc4; decide)) (fun hc4 => ?_)
  refine o_iloadN (pc := 7) B d5_7 rfl ?_
  refine o_aloadN (pc := 8) B d5_8 rfl rfl ?_
  refine o_getF (pc := 9) B d5_9 (hw _ (List.mem_of_getElem? (i := 32) rfl)) (O.p_Flo) ?_
  refine o_isub (pc := 12) B d5_12 ?_
  exact o_ireturn (pc := 13) B d5_13 (by decide) (by decide) (⟨rfl, rfl⟩)
set_option maxRecDepth 65536 in
set_option maxHeartbeats 40000000 in
theorem own_lp (l : Launch) (Z : State) (a0 : Array Value) (hw : ∀ d ∈ tables_1, d.before a0 Z = true) (n0 : Nat) (h : Heap) (κ : o_K) (B : o_Bo κ l Z n0 orm5 oy5 prog_74_method_3_code 4 (some .int)) (o k i s v : Addr) (off lo cnt st sh : Int32) (Ks Is Ss Vs : List Int32) (x : Int32) (j d0 : Nat) (ent : List Int32) (P : List Nat) (Q : Option Value → Heap → Prop) (O : own_Ob Z n0 h o k i s v 0 lo cnt st sh Ks Is Ss Vs) (T : own_T j (own_h sh) st Ks Is Ss ent P) (hj : j ≤ 5) (hq : ∀ d, d < d0 → (own_h sh x + d) % 2 ^ j ∈ P ∧ ∃ u, Ks[(own_h sh x + d) % 2 ^ j]? = some u ∧ u ≠ x)
    (K : o_Go κ Q h 0 0 32 [.val (.ref o), .val (.int x), .val (.int (Int32.ofNat (2 ^ j - 1))), .val (.int (Int32.ofNat ((own_h sh x + d0) % 2 ^ j)))] []) :
    ∀ m d, d + m = d0 → o_Go κ Q h 0 0 32 [.val (.ref o), .val (.int x), .val (.int (Int32.ofNat (2 ^ j - 1))), .val (.int (Int32.ofNat ((own_h sh x + d) % 2 ^ j)))] [] := by
  have pp : 0 < 2 ^ j := Nat.two_pow_pos j
  intro m
  induction m with
  | zero =>
    intro d hd
    have ed : d = d0 := by omega
    subst ed
    exact K
  | succ m ih =>
    intro d hd
    have hm : (own_h sh x + d) % 2 ^ j < 2 ^ j := Nat.mod_lt _ pp
    obtain ⟨m1, u, u1, u2⟩ := hq d (by omega)
    have m2 := T.2.2.2.2.1 _ hm m1
    refine o_aloadN (pc := 32) B d5_32 rfl rfl ?_
    refine o_getF (pc := 33) B d5_33 (hw _ (List.mem_of_getElem? (i := 14) rfl)) (O.p_Fstamps) ?_
    refine o_iloadN (pc := 36) B d5_36 rfl ?_
    refine o_iaload (pc := 37) B ((own_h sh x + d) % 2 ^ j) d5_37 (O.p_As) (rfl) (own_map m2) ?_
    refine o_aloadN (pc := 38) B d5_38 rfl rfl ?_
    refine o_getF (pc := 39) B d5_39 (hw _ (List.mem_of_getElem? (i := 61) rfl)) (O.p_Fstamp) ?_
    refine o_icmp_ne (pc := 42) (pc' := 71) B d5_42 (by decide) (by decide) (fun hc42 => False.elim (hc42 rfl)) (fun hc42 => ?_)
    refine o_aloadN (pc := 45) B d5_45 rfl rfl ?_
    refine o_getF (pc := 46) B d5_46 (hw _ (List.mem_of_getElem? (i := 10) rfl)) (O.p_Fkeys) ?_
    refine o_iloadN (pc := 49) B d5_49 rfl ?_
    refine o_iaload (pc := 50) B ((own_h sh x + d) % 2 ^ j) d5_50 (O.p_Ak) (rfl) (own_map u1) ?_
    refine o_iloadN (pc := 51) B d5_51 rfl ?_
    refine o_icmp_ne (pc := 52) (pc' := 62) B d5_52 (by decide) (by decide) (fun hc52 => ?_) (fun hc52 => False.elim (u2 hc52))
    refine o_iloadN (pc := 62) B d5_62 rfl ?_
    refine o_iconst (pc := 63) B (1 : Int32) d5_63 (by decide) ?_
    refine o_iadd (pc := 64) B d5_64 ?_
    refine o_iloadN (pc := 65) B d5_65 rfl ?_
    refine o_iand (pc := 66) B d5_66 ?_
    rw [own_step (by omega) hm, Nat.mod_add_mod, Nat.add_assoc]
    refine o_istoreN_4_3 (pc := 67) B d5_67 rfl ?_
    refine o_goto (pc := 68) (pc' := 32) B d5_68 (by decide) (by decide) ?_
    exact ih (d + 1) (by omega)
set_option maxRecDepth 65536 in
set_option maxHeartbeats 40000000 in
theorem oc5h (l : Launch) (Z : State) (a0 : Array Value) (hw : ∀ d ∈ tables_1, d.before a0 Z = true) (n0 : Nat) (h : Heap) (o k i s v : Addr) (off lo cnt st sh : Int32) (Ks Is Ss Vs : List Int32) (x : Int32) (j q : Nat) (ent : List Int32) (P : List Nat) (O : own_Ob Z n0 h o k i s v 0 lo cnt st sh Ks Is Ss Vs) (T : own_T j (own_h sh) st Ks Is Ss ent P) (hj : j ≤ 5) (hh : own_h sh x < 2 ^ j) (hx : ent[q]? = some x) : o_C l Z n0 oy5 prog_74_method_3_code 4 (some .int) orm5 [(.ref o), (.int x)] h (fun w h' => w = some (.int (Int32.ofNat q)) ∧ h' = h) := by
  refine o_body (Ls := [.val (.ref o), .val (.int x), .unset, .unset]) pn5 (by first | (simp [argsToLocals, Value.category]; done) | rfl) (fun κ B => ?_)
  have pp : 0 < 2 ^ j := Nat.two_pow_pos j
  obtain ⟨d0, ⟨q1, q2, q3⟩, q4⟩ := own_T_hit T hx
  have hm : (own_h sh x + d0) % 2 ^ j < 2 ^ j := Nat.mod_lt _ pp
  have m2 := T.2.2.2.2.1 _ hm q1
  have Kk : o_Go κ (fun w h' => w = some (.int (Int32.ofNat q)) ∧ h' = h) h 0 0 32 [.val (.ref o), .val (.int x), .val (.int (Int32.ofNat (2 ^ j - 1))), .val (.int (Int32.ofNat ((own_h sh x + d0) % 2 ^ j)))] [] := by
    refine o_aloadN (pc := 32) B d5_32 rfl rfl ?_
    refine o_getF (pc := 33) B d5_33 (hw _ (List.mem_of_getElem? (i := 14) rfl)) (O.p_Fstamps) ?_
    refine o_iloadN (pc := 36) B d5_36 rfl ?_
    refine o_iaload (pc := 37) B ((own_h sh x + d0) % 2 ^ j) d5_37 (O.p_As) (rfl) (own_map m2) ?_
    refine o_aloadN (pc := 38) B d5_38 rfl rfl ?_
    refine o_getF (pc := 39) B d5_39 (hw _ (List.mem_of_getElem? (i := 61) rfl)) (O.p_Fstamp) ?_
    refine o_icmp_ne (pc := 42) (pc' := 71) B d5_42 (by decide) (by decide) (fun hc42 => False.elim (hc42 rfl)) (fun hc42 => ?_)
    refine o_aloadN (pc := 45) B d5_45 rfl rfl ?_
    refine o_getF (pc := 46) B d5_46 (hw _ (List.mem_of_getElem? (i := 10) rfl)) (O.p_Fkeys) ?_
    refine o_iloadN (pc := 49) B d5_49 rfl ?_
    refine o_iaload (pc := 50) B ((own_h sh x + d0) % 2 ^ j) d5_50 (O.p_Ak) (rfl) (own_map q2) ?_
    refine o_iloadN (pc := 51) B d5_51 rfl ?_
    refine o_icmp_ne (pc := 52) (pc' := 62) B d5_52 (by decide) (by decide) (fun hc52 => False.elim (hc52 rfl)) (fun hc52 => ?_)
    refine o_aloadN (pc := 55) B d5_55 rfl rfl ?_
    refine o_getF (pc := 56) B d5_56 (hw _ (List.mem_of_getElem? (i := 12) rfl)) (O.p_Fids) ?_
    refine o_iloadN (pc := 59) B d5_59 rfl ?_
    refine o_iaload (pc := 60) B ((own_h sh x + d0) % 2 ^ j) d5_60 (O.p_Ai) (rfl) (own_map q3) ?_
    exact o_ireturn (pc := 61) B d5_61 (by decide) (by decide) (⟨rfl, rfl⟩)
  have e := own_lp l Z a0 hw n0 h κ B o k i s v 0 lo cnt st sh Ks Is Ss Vs x j d0 ent P _ O T hj q4 Kk d0 0 (by omega)
  rw [show (own_h sh x + 0) % 2 ^ j = own_h sh x by rw [Nat.add_zero, Nat.mod_eq_of_lt hh]] at e
  refine o_aloadN (pc := 0) B d5_0 rfl rfl ?_
  refine o_getF (pc := 1) B d5_1 (hw _ (List.mem_of_getElem? (i := 30) rfl)) (O.p_Foffsets) ?_
  refine o_if_eq (pc := 4) (pc' := 14) B d5_4 (by decide) (by decide) (fun hc4 => ?_) (fun hc4 => False.elim (by revert hc4; decide))
  refine o_aloadN (pc := 14) B d5_14 rfl rfl ?_
  refine o_getF (pc := 15) B d5_15 (hw _ (List.mem_of_getElem? (i := 10) rfl)) (O.p_Fkeys) ?_
  refine o_arraylen (pc := 18) B (Int32.ofNat (2 ^ j)) d5_18 (O.p_Ak) (by rw [List.length_map, T.1]) ?_
  refine o_iconst (pc := 19) B (1 : Int32) d5_19 (by decide) ?_
  refine o_isub (pc := 20) B d5_20 ?_
  rw [own_sub1 (by omega)]
  refine o_istoreN_4_2 (pc := 21) B d5_21 rfl ?_
  refine o_iloadN (pc := 22) B d5_22 rfl ?_
  refine o_ldc (pc := 23) B (x := (-1640531527 : Int32)) d5_23 (hw _ (List.mem_of_getElem? (i := 64) rfl)) ?_
  refine o_imul (pc := 25) B d5_25 ?_
  refine o_aloadN (pc := 26) B d5_26 rfl rfl ?_
  refine o_getF (pc := 27) B d5_27 (hw _ (List.mem_of_getElem? (i := 59) rfl)) (O.p_Fshift) ?_
  refine o_iushr (pc := 30) B d5_30 ?_
  rw [own_h_eq]
  refine o_istoreN_4_3 (pc := 31) B d5_31 rfl ?_
  exact e
set_option maxRecDepth 65536 in
set_option maxHeartbeats 40000000 in
theorem oc5n (l : Launch) (Z : State) (a0 : Array Value) (hw : ∀ d ∈ tables_1, d.before a0 Z = true) (n0 : Nat) (h : Heap) (o k i s v : Addr) (off lo cnt st sh : Int32) (Ks Is Ss Vs : List Int32) (x : Int32) (j : Nat) (ent : List Int32) (P : List Nat) (O : own_Ob Z n0 h o k i s v 0 lo (Int32.ofNat ent.length) st sh Ks Is Ss Vs) (T : own_T j (own_h sh) st Ks Is Ss ent P) (hj3 : 3 ≤ j) (hj : j ≤ 5) (hh : own_h sh x < 2 ^ j) (hx : x ∉ ent) (hl : ent.length ≤ 2) (hV : ent.length < Vs.length) : o_C l Z n0 oy5 prog_74_method_3_code 4 (some .int) orm5 [(.ref o), (.int x)] h (fun w h' => w = some (.int (Int32.ofNat ent.length)) ∧ ∃ Ks' Is' Vs' sl P', own_Ob Z n0 h' o k i s v 0 lo (Int32.ofNat (ent ++ [x]).length) st sh Ks' Is' (Ss.set sl st) Vs' ∧ own_T j (own_h sh) st Ks' Is' (Ss.set sl st) (ent ++ [x]) P' ∧ Vs'.length = Vs.length) := by
  refine o_body (Ls := [.val (.ref o), .val (.int x), .unset, .unset]) pn5 (by first | (simp [argsToLocals, Value.category]; done) | rfl) (fun κ B => ?_)
  have pp : 0 < 2 ^ j := Nat.two_pow_pos j
  obtain ⟨d0, q1, q4⟩ := own_T_miss T hj3 hl hh hx
  have hm : (own_h sh x + d0) % 2 ^ j < 2 ^ j := Nat.mod_lt _ pp
  have T2 := own_T_add T q1 q4
  obtain ⟨y, y1, y2⟩ := T.2.2.2.2.2.1 _ hm q1
  have Kk : o_Go κ (fun w h' => w = some (.int (Int32.ofNat ent.length)) ∧ ∃ Ks' Is' Vs' sl P', own_Ob Z n0 h' o k i s v 0 lo (Int32.ofNat (ent ++ [x]).length) st sh Ks' Is' (Ss.set sl st) Vs' ∧ own_T j (own_h sh) st Ks' Is' (Ss.set sl st) (ent ++ [x]) P' ∧ Vs'.length = Vs.length) h 0 0 32 [.val (.ref o), .val (.int x), .val (.int (Int32.ofNat (2 ^ j - 1))), .val (.int (Int32.ofNat ((own_h sh x + d0) % 2 ^ j)))] [] := by
    refine o_aloadN (pc := 32) B d5_32 rfl rfl ?_
    refine o_getF (pc := 33) B d5_33 (hw _ (List.mem_of_getElem? (i := 14) rfl)) (O.p_Fstamps) ?_
    refine o_iloadN (pc := 36) B d5_36 rfl ?_
    refine o_iaload (pc := 37) B ((own_h sh x + d0) % 2 ^ j) d5_37 (O.p_As) (rfl) (own_map y1) ?_
    refine o_aloadN (pc := 38) B d5_38 rfl rfl ?_
    refine o_getF (pc := 39) B d5_39 (hw _ (List.mem_of_getElem? (i := 61) rfl)) (O.p_Fstamp) ?_
    refine o_icmp_ne (pc := 42) (pc' := 71) B d5_42 (by decide) (by decide) (fun hc42 => ?_) (fun hc42 => False.elim (y2 hc42))
    refine o_aloadN (pc := 71) B d5_71 rfl rfl ?_
    refine o_getF (pc := 72) B d5_72 (hw _ (List.mem_of_getElem? (i := 10) rfl)) (O.p_Fkeys) ?_
    refine o_iloadN (pc := 75) B d5_75 rfl ?_
    refine o_iloadN (pc := 76) B d5_76 rfl ?_
    refine o_iastore (pc := 77) B ((own_h sh x + d0) % 2 ^ j) d5_77 (O.p_Ak) (rfl) (own_mlt (by rw [T.1]; exact hm)) (O.p_gk) ?_
    intro h1 W1
    have O1 := O.c_k W1
    refine o_aloadN (pc := 78) B d5_78 rfl rfl ?_
    refine o_getF (pc := 79) B d5_79 (hw _ (List.mem_of_getElem? (i := 12) rfl)) (O1.p_Fids) ?_
    refine o_iloadN (pc := 82) B d5_82 rfl ?_
    refine o_aloadN (pc := 83) B d5_83 rfl rfl ?_
    refine o_getF (pc := 84) B d5_84 (hw _ (List.mem_of_getElem? (i := 34) rfl)) (O1.p_Fcount) ?_
    refine o_iastore (pc := 87) B ((own_h sh x + d0) % 2 ^ j) d5_87 (O1.p_Ai) (rfl) (own_mlt (by rw [T.2.1]; exact hm)) (O1.p_gi) ?_
    intro h2 W2
    have O2 := O1.c_i W2
    refine o_aloadN (pc := 88) B d5_88 rfl rfl ?_
    refine o_getF (pc := 89) B d5_89 (hw _ (List.mem_of_getElem? (i := 14) rfl)) (O2.p_Fstamps) ?_
    refine o_iloadN (pc := 92) B d5_92 rfl ?_
    refine o_aloadN (pc := 93) B d5_93 rfl rfl ?_
    refine o_getF (pc := 94) B d5_94 (hw _ (List.mem_of_getElem? (i := 61) rfl)) (O2.p_Fstamp) ?_
    refine o_iastore (pc := 97) B ((own_h sh x + d0) % 2 ^ j) d5_97 (O2.p_As) (rfl) (own_mlt (by rw [T.2.2.1]; exact hm)) (O2.p_gs) ?_
    intro h3 W3
    have O3 := O2.c_s W3
    refine o_aloadN (pc := 98) B d5_98 rfl rfl ?_
    refine o_getF (pc := 99) B d5_99 (hw _ (List.mem_of_getElem? (i := 16) rfl)) (O3.p_Fvalues) ?_
    refine o_aloadN (pc := 102) B d5_102 rfl rfl ?_
    refine o_getF (pc := 103) B d5_103 (hw _ (List.mem_of_getElem? (i := 34) rfl)) (O3.p_Fcount) ?_
    refine o_iloadN (pc := 106) B d5_106 rfl ?_
    refine o_iastore (pc := 107) B (ent.length) d5_107 (O3.p_Av) (rfl) (own_mlt hV) (O3.p_gv) ?_
    intro h4 W4
    have O4 := O3.c_v W4
    refine o_aloadN (pc := 108) B d5_108 rfl rfl ?_
    refine o_dup (pc := 109) B d5_109 rfl ?_
    refine o_getF (pc := 110) B d5_110 (hw _ (List.mem_of_getElem? (i := 34) rfl)) (O4.p_Fcount) ?_
    refine o_iconst (pc := 113) B (1 : Int32) d5_113 (by decide) ?_
    refine o_iadd (pc := 114) B d5_114 ?_
    rw [own_one]
    refine o_putF (pc := 115) (ty := .int) B d5_115 (hw _ (List.mem_of_getElem? (i := 34) rfl)) (O4.p_Fcount) (O4.p_E) (Or.inl (hw _ (List.mem_of_getElem? (i := 35) rfl))) (hw _ (List.mem_of_getElem? (i := 1) rfl)) (by decide) rfl rfl (O4.p_g0) ?_
    intro h5 W5
    have O5 := O4.w_count hw W5
    refine o_aloadN (pc := 118) B d5_118 rfl rfl ?_
    refine o_getF (pc := 119) B d5_119 (hw _ (List.mem_of_getElem? (i := 34) rfl)) (O5.p_Fcount) ?_
    refine o_iconst (pc := 122) B (1 : Int32) d5_122 (by decide) ?_
    refine o_isub (pc := 123) B d5_123 ?_
    have O6 := O5
    rw [show ent.length + 1 = (ent ++ [x]).length by simp] at O6
    exact o_ireturn (pc := 124) B d5_124 (by decide) (by decide) (⟨by rw [← own_one, Int32.add_sub_cancel], _, _, _, _, _, O6, T2, by simp⟩)
  have e := own_lp l Z a0 hw n0 h κ B o k i s v 0 lo _ st sh Ks Is Ss Vs x j d0 ent P _ O T hj q4 Kk d0 0 (by omega)
  rw [show (own_h sh x + 0) % 2 ^ j = own_h sh x by rw [Nat.add_zero, Nat.mod_eq_of_lt hh]] at e
  refine o_aloadN (pc := 0) B d5_0 rfl rfl ?_
  refine o_getF (pc := 1) B d5_1 (hw _ (List.mem_of_getElem? (i := 30) rfl)) (O.p_Foffsets) ?_
  refine o_if_eq (pc := 4) (pc' := 14) B d5_4 (by decide) (by decide) (fun hc4 => ?_) (fun hc4 => False.elim (by revert hc4; decide))
  refine o_aloadN (pc := 14) B d5_14 rfl rfl ?_
  refine o_getF (pc := 15) B d5_15 (hw _ (List.mem_of_getElem? (i := 10) rfl)) (O.p_Fkeys) ?_
  refine o_arraylen (pc := 18) B (Int32.ofNat (2 ^ j)) d5_18 (O.p_Ak) (by rw [List.length_map, T.1]) ?_
  refine o_iconst (pc := 19) B (1 : Int32) d5_19 (by decide) ?_
  refine o_isub (pc := 20) B d5_20 ?_
  rw [own_sub1 (by omega)]
  refine o_istoreN_4_2 (pc := 21) B d5_21 rfl ?_
  refine o_iloadN (pc := 22) B d5_22 rfl ?_
  refine o_ldc (pc := 23) B (x := (-1640531527 : Int32)) d5_23 (hw _ (List.mem_of_getElem? (i := 64) rfl)) ?_
  refine o_imul (pc := 25) B d5_25 ?_
  refine o_aloadN (pc := 26) B d5_26 rfl rfl ?_
  refine o_getF (pc := 27) B d5_27 (hw _ (List.mem_of_getElem? (i := 59) rfl)) (O.p_Fshift) ?_
  refine o_iushr (pc := 30) B d5_30 ?_
  rw [own_h_eq]
  refine o_istoreN_4_3 (pc := 31) B d5_31 rfl ?_
  exact e
theorem own_num (b : Int32) {n : Nat} (h0 : 0 < n) (hn : n < 2 ^ 31) : ∃ u, u < n ∧ (b &&& 2147483647) % Int32.ofNat n = Int32.ofNat u := by
  have e : b &&& 2147483647 = Int32.ofNat (b.toBitVec.toNat % 2 ^ 31) := by
    apply Int32.toBitVec_inj.mp; apply BitVec.eq_of_toNat_eq
    have m := Nat.mod_lt b.toBitVec.toNat (show 0 < 2 ^ 31 by decide)
    rw [own_i32n _ (by omega), Int32.toBitVec_and, BitVec.toNat_and]
    exact Nat.and_two_pow_sub_one_eq_mod _ 31
  have m := Nat.mod_lt b.toBitVec.toNat (show 0 < 2 ^ 31 by decide)
  exact ⟨_, Nat.mod_lt _ h0, by rw [e, own_rem m hn]⟩
theorem own_cancel (a b : Int32) : a + b - a = b := by rw [Int32.add_comm, Int32.add_sub_cancel]
theorem own_width {base : Int32} {W : Nat} (h1 : 1 ≤ W) (h2 : W ≤ 64) (hb : base.toInt ≤ 2147483584) : (base + (Int32.ofNat W - 1)).toInt64 - base.toInt64 + 1 = Int64.ofNat W := by
  have lb := Int32.le_toInt base
  have e0 : (Int32.ofNat W - 1).toInt = W - 1 := by
    have : Int32.ofNat W - 1 = Int32.ofNat (W - 1) := by
      have q : Int32.ofNat W = Int32.ofNat (W - 1) + 1 := by rw [own_one]; congr 1; omega
      rw [q, Int32.add_sub_cancel]
    rw [this, own_toInt (by omega)]; omega
  have e1 : (base + (Int32.ofNat W - 1)).toInt = base.toInt + (W - 1) := by
    rw [Int32.toInt_add, e0]; apply Int.bmod_eq_of_le <;> omega
  apply Int64.toInt_inj.mp
  have e2 : ((base + (Int32.ofNat W - 1)).toInt64 - base.toInt64).toInt = W - 1 := by
    rw [Int64.toInt_sub, Int32.toInt_toInt64, Int32.toInt_toInt64, e1]
    rw [Int.bmod_eq_of_le (by omega) (by omega)]; omega
  rw [Int64.toInt_add, e2, Int64.toInt_ofNat_of_lt (by omega), show (1 : Int64).toInt = 1 from rfl]
  rw [Int.bmod_eq_of_le (by omega) (by omega)]; omega
theorem own_dense {C W : Nat} (hC : C ≤ 15) (hW : W ≤ 64) : ¬ (4 : Int64) * (Int32.ofNat C).toInt64 + 64 < Int64.ofNat W := by
  rw [own_wide (by omega)]
  have e : (4 : Int64) * Int64.ofNat C + 64 = Int64.ofNat (4 * C + 64) := by rw [Int64.ofNat_add, Int64.ofNat_mul]; rfl
  rw [e, Int64.lt_iff_toInt_lt, Int64.toInt_ofNat_of_lt (by omega), Int64.toInt_ofNat_of_lt (by omega)]
  omega
theorem own_01 {Ss : List Int32} {sl : Nat} (h : ∀ (a : Nat) (b : Int32), Ss[a]? = some b → b = 0 ∨ b = 1) : ∀ (a : Nat) (b : Int32), (Ss.set sl 1)[a]? = some b → b = 0 ∨ b = 1 := fun a b q => by
  by_cases e : sl = a
  · subst e
    rw [List.getElem?_set] at q
    split at q
    · split at q
      · exact Or.inr (Option.some.inj q).symm
      · cases q
    · exact h _ b q
  · rw [List.getElem?_set_ne e] at q; exact h a b q
theorem own_00 : ∀ (a : Nat) (b : Int32), (List.replicate 8 (0 : Int32))[a]? = some b → b = 0 ∨ b = 1 := fun a b q => Or.inl (List.eq_of_mem_replicate (List.mem_of_getElem? q))
set_option maxRecDepth 65536 in
set_option maxHeartbeats 40000000 in
theorem own_t402 (l : Launch) (Z : State) (a0 : Array Value) (hw : ∀ d ∈ tables_1, d.before a0 Z = true) (n0 : Nat) (h : Heap) (κ : o_K) (B : o_Bo κ l Z n0 room_1 Jvm.Pilot.@@N@@.x code maxLocals ret) (mode lo1 x b c d : Int32) (s8 s9 s10 s12 s13 s14 s15 : Slot) (c2 : Nat) (h2 : 2 ≤ c2) (h9 : c2 ≤ 9) (o k i s v : Addr) (lo cnt : Int32) (Ks Is Ss Vs : List Int32) (Z0 : n0 ≤ h.size) (O : own_Ob Z n0 h o k i s v 0 lo cnt 1 29 Ks Is Ss Vs) (hV : Vs.length = 3) (hK : Ks.length = 8) (hI : Is.length = 8) (hS : Ss.length = 8) (h01 : ∀ (a : Nat) (b : Int32), Ss[a]? = some b → b = 0 ∨ b = 1) :
    o_Go κ (fun v h' => v = some (.int 1)) h 9 114 402 [.val (.int mode), .val (.int lo1), .val (.int x), .val (.int b), .val (.int c), .val (.int d), .val (.ref o), .val (.int x), s8, s9, s10, .val (.int (Int32.ofNat c2)), s12, s13, s14, s15, .val (.int 1), .val (.int 1), .val (.int 1), .val (.int 1), .val (.int 1), .unset, .unset] [] := by
  refine o_aload (pc := 402) B at_402 rfl rfl ?_
  refine o_iload (pc := 404) B at_404 rfl ?_
  refine o_ldc (pc := 406) B (x := (-2147483648 : Int32)) at_406 (hw _ (List.mem_of_getElem? (i := 47) rfl)) ?_
  refine o_ldc (pc := 408) B (x := (2147483647 : Int32)) at_408 (hw _ (List.mem_of_getElem? (i := 36) rfl)) ?_
  refine o_callV3 (pc := 410) B 0 at_410 (hw _ (List.mem_of_getElem? (i := 23) rfl)) (hw _ (List.mem_of_getElem? (i := 24) rfl)) (hw _ (List.mem_of_getElem? (i := 26) rfl)) (hw _ (List.mem_of_getElem? (i := 25) rfl)) (hw _ (List.mem_of_getElem? (i := 2) rfl)) (hw _ (List.mem_of_getElem? (i := 27) rfl)) (by decide) pd4 rfl (by first | exact Nat.zero_le _ | exact Nat.le_of_ble_eq_true rfl | simp [Value.category]) (by decide) (by decide) (by decide) (by decide) rfl (O.p_E) (oc4s l Z a0 hw n0 _ o k i s v 0 lo cnt 1 29 Ks Is Ss Vs c2 h2 h9 Z0 O hV hK hI hS h01 rfl) ?_
  rintro w h1 ⟨rfl, k1, i1, s1, v1, j, st, sh, Ks1, Is1, Ss1, Vs1, O1, T1, hj3, hj5, hh, hV1⟩
  refine o_aload (pc := 413) B at_413 rfl rfl ?_
  refine o_iload (pc := 415) B at_415 rfl ?_
  refine o_callV1 (pc := 417) B 0 at_417 (hw _ (List.mem_of_getElem? (i := 37) rfl)) (hw _ (List.mem_of_getElem? (i := 38) rfl)) (hw _ (List.mem_of_getElem? (i := 40) rfl)) (hw _ (List.mem_of_getElem? (i := 39) rfl)) (hw _ (List.mem_of_getElem? (i := 2) rfl)) (hw _ (List.mem_of_getElem? (i := 41) rfl)) (by decide) pd5 rfl (by first | exact Nat.zero_le _ | exact Nat.le_of_ble_eq_true rfl | simp [Value.category]) (by decide) (by decide) (by decide) (by decide) rfl (O1.p_E) (oc5n l Z a0 hw n0 _ o k1 i1 s1 v1 0 lo 0 st sh Ks1 Is1 Ss1 Vs1 d j [] [] O1 T1 hj3 hj5 (hh d) (by simp) (by simp) (by simp; omega)) ?_
  rintro w h2 ⟨rfl, Ks2, Is2, Vs2, sl2, P2, O2, T2, hV2⟩
  refine o_if_ne (pc := 420) (pc' := 427) B at_420 (by decide) (by decide) (fun hc420 => False.elim (hc420 rfl)) (fun hc420 => ?_)
  refine o_iconst (pc := 423) B (1 : Int32) at_423 (by decide) ?_
  refine o_goto (pc := 424) (pc' := 428) B at_424 (by decide) (by decide) ?_
  refine o_istore_23_21 (pc := 428) B at_428 rfl ?_
  refine o_aload (pc := 430) B at_430 rfl rfl ?_
  refine o_iload (pc := 432) B at_432 rfl ?_
  by_cases e : x = d
  · refine o_callV1 (pc := 434) B 0 at_434 (hw _ (List.mem_of_getElem? (i := 37) rfl)) (hw _ (List.mem_of_getElem? (i := 38) rfl)) (hw _ (List.mem_of_getElem? (i := 40) rfl)) (hw _ (List.mem_of_getElem? (i := 39) rfl)) (hw _ (List.mem_of_getElem? (i := 2) rfl)) (hw _ (List.mem_of_getElem? (i := 41) rfl)) (by decide) pd5 rfl (by first | exact Nat.zero_le _ | exact Nat.le_of_ble_eq_true rfl | simp [Value.category]) (by decide) (by decide) (by decide) (by decide) rfl (O2.p_E) (oc5h l Z a0 hw n0 _ o k1 i1 s1 v1 0 lo _ st sh Ks2 Is2 _ Vs2 x j 0 ([] ++ [d]) P2 O2 T2 hj5 (hh x) (by rw [e]; rfl)) ?_
    rintro w h3 ⟨rfl, rfl⟩
    refine o_iload (pc := 437) B at_437 rfl ?_
    refine o_iload (pc := 439) B at_439 rfl ?_
    refine o_icmp_ne (pc := 441) (pc' := 448) B at_441 (by decide) (by decide) (fun hc441 => False.elim (hc441 e)) (fun hc441 => ?_)
    refine o_iconst (pc := 444) B (0 : Int32) at_444 (by decide) ?_
    refine o_goto (pc := 445) (pc' := 449) B at_445 (by decide) (by decide) ?_
    refine o_icmp_ne (pc := 449) (pc' := 456) B at_449 (by decide) (by decide) (fun hc449 => False.elim (hc449 rfl)) (fun hc449 => ?_)
    refine o_iconst (pc := 452) B (1 : Int32) at_452 (by decide) ?_
    refine o_goto (pc := 453) (pc' := 457) B at_453 (by decide) (by decide) ?_
    refine o_istore_23_22 (pc := 457) B at_457 rfl ?_
    refine o_iload (pc := 459) B at_459 rfl ?_
    refine o_if_eq (pc := 461) (pc' := 498) B at_461 (by decide) (by decide) (fun hc461 => False.elim (by revert hc461; decide)) (fun hc461 => ?_)
    refine o_iload (pc := 464) B at_464 rfl ?_
    refine o_if_eq (pc := 466) (pc' := 498) B at_466 (by decide) (by decide) (fun hc466 => False.elim (by revert hc466; decide)) (fun hc466 => ?_)
    refine o_iload (pc := 469) B at_469 rfl ?_
    refine o_if_eq (pc := 471) (pc' := 498) B at_471 (by decide) (by decide) (fun hc471 => False.elim (by revert hc471; decide)) (fun hc471 => ?_)
    refine o_iload (pc := 474) B at_474 rfl ?_
    refine o_if_eq (pc := 476) (pc' := 498) B at_476 (by decide) (by decide) (fun hc476 => False.elim (by revert hc476; decide)) (fun hc476 => ?_)
    refine o_iload (pc := 479) B at_479 rfl ?_
    refine o_if_eq (pc := 481) (pc' := 498) B at_481 (by decide) (by decide) (fun hc481 => False.elim (by revert hc481; decide)) (fun hc481 => ?_)
    refine o_iload (pc := 484) B at_484 rfl ?_
    refine o_if_eq (pc := 486) (pc' := 498) B at_486 (by decide) (by decide) (fun hc486 => False.elim (by revert hc486; decide)) (fun hc486 => ?_)
    refine o_iload (pc := 489) B at_489 rfl ?_
    refine o_if_eq (pc := 491) (pc' := 498) B at_491 (by decide) (by decide) (fun hc491 => False.elim (by revert hc491; decide)) (fun hc491 => ?_)
    refine o_iconst (pc := 494) B (1 : Int32) at_494 (by decide) ?_
    refine o_goto (pc := 495) (pc' := 499) B at_495 (by decide) (by decide) ?_
    exact o_zreturn (pc := 499) B at_499 (by decide) (by decide) (rfl)
  refine o_callV1 (pc := 434) B 0 at_434 (hw _ (List.mem_of_getElem? (i := 37) rfl)) (hw _ (List.mem_of_getElem? (i := 38) rfl)) (hw _ (List.mem_of_getElem? (i := 40) rfl)) (hw _ (List.mem_of_getElem? (i := 39) rfl)) (hw _ (List.mem_of_getElem? (i := 2) rfl)) (hw _ (List.mem_of_getElem? (i := 41) rfl)) (by decide) pd5 rfl (by first | exact Nat.zero_le _ | exact Nat.le_of_ble_eq_true rfl | simp [Value.category]) (by decide) (by decide) (by decide) (by decide) rfl (O2.p_E) (oc5n l Z a0 hw n0 _ o k1 i1 s1 v1 0 lo 0 st sh Ks2 Is2 _ Vs2 x j ([] ++ [d]) P2 O2 T2 hj3 hj5 (hh x) (by simpa using e) (by simp) (by rw [hV2]; simp; omega)) ?_
  rintro w h3 ⟨rfl, Ks3, Is3, Vs3, sl3, P3, O3, T3, hV3⟩
  refine o_iload (pc := 437) B at_437 rfl ?_
  refine o_iload (pc := 439) B at_439 rfl ?_
  refine o_icmp_ne (pc := 441) (pc' := 448) B at_441 (by decide) (by decide) (fun hc441 => ?_) (fun hc441 => False.elim (e hc441))
  refine o_iconst (pc := 448) B (1 : Int32) at_448 (by decide) ?_
  refine o_icmp_ne (pc := 449) (pc' := 456) B at_449 (by decide) (by decide) (fun hc449 => False.elim (hc449 rfl)) (fun hc449 => ?_)
  refine o_iconst (pc := 452) B (1 : Int32) at_452 (by decide) ?_
  refine o_goto (pc := 453) (pc' := 457) B at_453 (by decide) (by decide) ?_
  refine o_istore_23_22 (pc := 457) B at_457 rfl ?_
  refine o_iload (pc := 459) B at_459 rfl ?_
  refine o_if_eq (pc := 461) (pc' := 498) B at_461 (by decide) (by decide) (fun hc461 => False.elim (by revert hc461; decide)) (fun hc461 => ?_)
  refine o_iload (pc := 464) B at_464 rfl ?_
  refine o_if_eq (pc := 466) (pc' := 498) B at_466 (by decide) (by decide) (fun hc466 => False.elim (by revert hc466; decide)) (fun hc466 => ?_)
  refine o_iload (pc := 469) B at_469 rfl ?_
  refine o_if_eq (pc := 471) (pc' := 498) B at_471 (by decide) (by decide) (fun hc471 => False.elim (by revert hc471; decide)) (fun hc471 => ?_)
  refine o_iload (pc := 474) B at_474 rfl ?_
  refine o_if_eq (pc := 476) (pc' := 498) B at_476 (by decide) (by decide) (fun hc476 => False.elim (by revert hc476; decide)) (fun hc476 => ?_)
  refine o_iload (pc := 479) B at_479 rfl ?_
  refine o_if_eq (pc := 481) (pc' := 498) B at_481 (by decide) (by decide) (fun hc481 => False.elim (by revert hc481; decide)) (fun hc481 => ?_)
  refine o_iload (pc := 484) B at_484 rfl ?_
  refine o_if_eq (pc := 486) (pc' := 498) B at_486 (by decide) (by decide) (fun hc486 => False.elim (by revert hc486; decide)) (fun hc486 => ?_)
  refine o_iload (pc := 489) B at_489 rfl ?_
  refine o_if_eq (pc := 491) (pc' := 498) B at_491 (by decide) (by decide) (fun hc491 => False.elim (by revert hc491; decide)) (fun hc491 => ?_)
  refine o_iconst (pc := 494) B (1 : Int32) at_494 (by decide) ?_
  refine o_goto (pc := 495) (pc' := 499) B at_495 (by decide) (by decide) ?_
  exact o_zreturn (pc := 499) B at_499 (by decide) (by decide) (rfl)
set_option maxRecDepth 65536 in
set_option maxHeartbeats 40000000 in
theorem own_t236 (l : Launch) (Z : State) (a0 : Array Value) (hw : ∀ d ∈ tables_1, d.before a0 Z = true) (n0 : Nat) (h : Heap) (κ : o_K) (B : o_Bo κ l Z n0 room_1 Jvm.Pilot.@@N@@.x code maxLocals ret) (mode lo1 x b c d y z : Int32) (s9 : Slot) (c2 : Nat) (h2 : 2 ≤ c2) (h9 : c2 ≤ 9) (o k i s v : Addr) (Z0 : n0 ≤ h.size) (O : own_Ob Z n0 h o k i s v 0 0 0 0 0 [] [] [] []) :
    o_Go κ (fun v h' => v = some (.int 1)) h 5 9 236 [.val (.int mode), .val (.int lo1), .val (.int x), .val (.int b), .val (.int c), .val (.int d), .val (.ref o), .val (.int x), .val (.int y), s9, .val (.int z), .val (.int (Int32.ofNat c2)), .unset, .unset, .unset, .unset, .unset, .unset, .unset, .unset, .unset, .unset, .unset] [] := by
  refine o_aload (pc := 236) B at_236 rfl rfl ?_
  refine o_iconst (pc := 238) B (3 : Int32) at_238 (by decide) ?_
  refine o_ldc (pc := 239) B (x := (-2147483648 : Int32)) at_239 (hw _ (List.mem_of_getElem? (i := 47) rfl)) ?_
  refine o_ldc (pc := 241) B (x := (2147483647 : Int32)) at_241 (hw _ (List.mem_of_getElem? (i := 36) rfl)) ?_
  refine o_callV3 (pc := 243) B 0 at_243 (hw _ (List.mem_of_getElem? (i := 23) rfl)) (hw _ (List.mem_of_getElem? (i := 24) rfl)) (hw _ (List.mem_of_getElem? (i := 26) rfl)) (hw _ (List.mem_of_getElem? (i := 25) rfl)) (hw _ (List.mem_of_getElem? (i := 2) rfl)) (hw _ (List.mem_of_getElem? (i := 27) rfl)) (by decide) pd4 rfl (by first | exact Nat.zero_le _ | exact Nat.le_of_ble_eq_true rfl | simp [Value.category]) (by decide) (by decide) (by decide) (by decide) rfl (O.p_E) (oc4_first l Z a0 hw n0 _ o k i s v 0 0 0 0 0 [] [] [] [] Z0 O rfl rfl) ?_
  rintro w h1 ⟨rfl, k1, i1, s1, v1, O1⟩
  have T1 : own_T 3 (own_h 29) 1 (List.replicate 8 0) (List.replicate 8 0) (List.replicate 8 0) [] [] := own_T_new (by simp) (by simp) (by simp) (fun a b q => by have := List.eq_of_mem_replicate (List.mem_of_getElem? q); rw [this]; decide)
  have Z1 : n0 ≤ Array.size h1 := Nat.le_trans O1.p_g0 (Nat.le_of_lt O1.p_E.lt)
  refine o_iload (pc := 246) B at_246 rfl ?_
  refine o_iload (pc := 248) B at_248 rfl ?_
  by_cases ey : y = x
  · by_cases ez : z = x
    · refine o_icmp_ne (pc := 250) (pc' := 257) B at_250 (by decide) (by decide) (fun hc250 => False.elim (hc250 ey)) (fun hc250 => ?_)
      refine o_iconst (pc := 253) B (0 : Int32) at_253 (by decide) ?_
      refine o_goto (pc := 254) (pc' := 258) B at_254 (by decide) (by decide) ?_
      refine o_istore_23_12 (pc := 258) B at_258 rfl ?_
      refine o_iload (pc := 260) B at_260 rfl ?_
      refine o_iconst (pc := 262) B (1 : Int32) at_262 (by decide) ?_
      refine o_iadd_c (pc := 263) B (1 : Int32) at_263 (by decide) ?_
      refine o_istore_23_13 (pc := 264) B at_264 rfl ?_
      refine o_iload (pc := 266) B at_266 rfl ?_
      refine o_iload (pc := 268) B at_268 rfl ?_
      refine o_icmp_ne (pc := 270) (pc' := 283) B at_270 (by decide) (by decide) (fun hc270 => False.elim (hc270 ez)) (fun hc270 => ?_)
      refine o_iconst (pc := 273) B (0 : Int32) at_273 (by decide) ?_
      refine o_istore_23_14 (pc := 274) B at_274 rfl ?_
      refine o_iload (pc := 276) B at_276 rfl ?_
      refine o_istore_23_15 (pc := 278) B at_278 rfl ?_
      refine o_goto (pc := 280) (pc' := 311) B at_280 (by decide) (by decide) ?_
      refine o_aload (pc := 311) B at_311 rfl rfl ?_
      refine o_iload (pc := 313) B at_313 rfl ?_
      refine o_callV1 (pc := 315) B 0 at_315 (hw _ (List.mem_of_getElem? (i := 37) rfl)) (hw _ (List.mem_of_getElem? (i := 38) rfl)) (hw _ (List.mem_of_getElem? (i := 40) rfl)) (hw _ (List.mem_of_getElem? (i := 39) rfl)) (hw _ (List.mem_of_getElem? (i := 2) rfl)) (hw _ (List.mem_of_getElem? (i := 41) rfl)) (by decide) pd5 rfl (by first | exact Nat.zero_le _ | exact Nat.le_of_ble_eq_true rfl | simp [Value.category]) (by decide) (by decide) (by decide) (by decide) rfl (O1.p_E) (oc5n l Z a0 hw n0 _ o k1 i1 s1 v1 0 0 0 1 29 (List.replicate 8 0) (List.replicate 8 0) (List.replicate 8 0) (List.replicate 3 0) x 3 ([]) [] O1 T1 (by decide) (by decide) (own_h29 _) (by simp) (by simp) (by simp; try omega)) ?_
      rintro w h2_ ⟨rfl, Ks2, Is2, Vs2, sl2, P2, O2, T2, hV2⟩
      refine o_if_ne (pc := 318) (pc' := 325) B at_318 (by decide) (by decide) (fun hc318 => False.elim (hc318 rfl)) (fun hc318 => ?_)
      refine o_iconst (pc := 321) B (1 : Int32) at_321 (by decide) ?_
      refine o_goto (pc := 322) (pc' := 326) B at_322 (by decide) (by decide) ?_
      refine o_istore_23_16 (pc := 326) B at_326 rfl ?_
      refine o_aload (pc := 328) B at_328 rfl rfl ?_
      refine o_iload (pc := 330) B at_330 rfl ?_
      refine o_callV1 (pc := 332) B 0 at_332 (hw _ (List.mem_of_getElem? (i := 37) rfl)) (hw _ (List.mem_of_getElem? (i := 38) rfl)) (hw _ (List.mem_of_getElem? (i := 40) rfl)) (hw _ (List.mem_of_getElem? (i := 39) rfl)) (hw _ (List.mem_of_getElem? (i := 2) rfl)) (hw _ (List.mem_of_getElem? (i := 41) rfl)) (by decide) pd5 rfl (by first | exact Nat.zero_le _ | exact Nat.le_of_ble_eq_true rfl | simp [Value.category]) (by decide) (by decide) (by decide) (by decide) rfl (O2.p_E) (oc5h l Z a0 hw n0 _ o k1 i1 s1 v1 0 0 _ 1 29 Ks2 Is2 _ Vs2 y 3 0 ([] ++ [x]) P2 O2 T2 (by decide) (own_h29 _) (by rw [ey]; rfl)) ?_
      rintro w h' ⟨rfl, rfl⟩
      refine o_iload (pc := 335) B at_335 rfl ?_
      refine o_icmp_ne (pc := 337) (pc' := 344) B at_337 (by decide) (by decide) (fun hc337 => False.elim (hc337 rfl)) (fun hc337 => ?_)
      refine o_iconst (pc := 340) B (1 : Int32) at_340 (by decide) ?_
      refine o_goto (pc := 341) (pc' := 345) B at_341 (by decide) (by decide) ?_
      refine o_istore_23_17 (pc := 345) B at_345 rfl ?_
      refine o_aload (pc := 347) B at_347 rfl rfl ?_
      refine o_iload (pc := 349) B at_349 rfl ?_
      refine o_callV1 (pc := 351) B 0 at_351 (hw _ (List.mem_of_getElem? (i := 37) rfl)) (hw _ (List.mem_of_getElem? (i := 38) rfl)) (hw _ (List.mem_of_getElem? (i := 40) rfl)) (hw _ (List.mem_of_getElem? (i := 39) rfl)) (hw _ (List.mem_of_getElem? (i := 2) rfl)) (hw _ (List.mem_of_getElem? (i := 41) rfl)) (by decide) pd5 rfl (by first | exact Nat.zero_le _ | exact Nat.le_of_ble_eq_true rfl | simp [Value.category]) (by decide) (by decide) (by decide) (by decide) rfl (O2.p_E) (oc5h l Z a0 hw n0 _ o k1 i1 s1 v1 0 0 _ 1 29 Ks2 Is2 _ Vs2 z 3 0 ([] ++ [x]) P2 O2 T2 (by decide) (own_h29 _) (by rw [ez]; rfl)) ?_
      rintro w h' ⟨rfl, rfl⟩
      refine o_iload (pc := 354) B at_354 rfl ?_
      refine o_icmp_ne (pc := 356) (pc' := 363) B at_356 (by decide) (by decide) (fun hc356 => False.elim (hc356 rfl)) (fun hc356 => ?_)
      refine o_iconst (pc := 359) B (1 : Int32) at_359 (by decide) ?_
      refine o_goto (pc := 360) (pc' := 364) B at_360 (by decide) (by decide) ?_
      refine o_istore_23_18 (pc := 364) B at_364 rfl ?_
      refine o_aload (pc := 366) B at_366 rfl rfl ?_
      refine o_iload (pc := 368) B at_368 rfl ?_
      refine o_callV1 (pc := 370) B 0 at_370 (hw _ (List.mem_of_getElem? (i := 37) rfl)) (hw _ (List.mem_of_getElem? (i := 38) rfl)) (hw _ (List.mem_of_getElem? (i := 40) rfl)) (hw _ (List.mem_of_getElem? (i := 39) rfl)) (hw _ (List.mem_of_getElem? (i := 2) rfl)) (hw _ (List.mem_of_getElem? (i := 41) rfl)) (by decide) pd5 rfl (by first | exact Nat.zero_le _ | exact Nat.le_of_ble_eq_true rfl | simp [Value.category]) (by decide) (by decide) (by decide) (by decide) rfl (O2.p_E) (oc5h l Z a0 hw n0 _ o k1 i1 s1 v1 0 0 _ 1 29 Ks2 Is2 _ Vs2 y 3 0 ([] ++ [x]) P2 O2 T2 (by decide) (own_h29 _) (by rw [ey]; rfl)) ?_
      rintro w h' ⟨rfl, rfl⟩
      refine o_iload (pc := 373) B at_373 rfl ?_
      refine o_icmp_ne (pc := 375) (pc' := 382) B at_375 (by decide) (by decide) (fun hc375 => False.elim (hc375 rfl)) (fun hc375 => ?_)
      refine o_iconst (pc := 378) B (1 : Int32) at_378 (by decide) ?_
      refine o_goto (pc := 379) (pc' := 383) B at_379 (by decide) (by decide) ?_
      refine o_istore_23_19 (pc := 383) B at_383 rfl ?_
      refine o_aload (pc := 385) B at_385 rfl rfl ?_
      refine o_callV0 (pc := 387) B 0 at_387 (hw _ (List.mem_of_getElem? (i := 42) rfl)) (hw _ (List.mem_of_getElem? (i := 43) rfl)) (hw _ (List.mem_of_getElem? (i := 45) rfl)) (hw _ (List.mem_of_getElem? (i := 44) rfl)) (hw _ (List.mem_of_getElem? (i := 2) rfl)) (hw _ (List.mem_of_getElem? (i := 46) rfl)) (by decide) pd6 rfl (by first | exact Nat.zero_le _ | exact Nat.le_of_ble_eq_true rfl | simp [Value.category]) (by decide) (by decide) (by decide) (by decide) rfl (O2.p_E) (oc6 l Z a0 hw n0 _ o _ O2.p_Fcount) ?_
      rintro w h' ⟨rfl, rfl⟩
      refine o_iload (pc := 390) B at_390 rfl ?_
      refine o_icmp_ne (pc := 392) (pc' := 399) B at_392 (by decide) (by decide) (fun hc392 => False.elim (hc392 rfl)) (fun hc392 => ?_)
      refine o_iconst (pc := 395) B (1 : Int32) at_395 (by decide) ?_
      refine o_goto (pc := 396) (pc' := 400) B at_396 (by decide) (by decide) ?_
      refine o_istore_23_20 (pc := 400) B at_400 rfl ?_
      exact own_t402 l Z a0 hw n0 _ κ B mode lo1 x b c d _ _ _ _ _ _ _ c2 h2 h9 o k1 i1 s1 v1 0 _ _ _ _ _ (Nat.le_trans O2.p_g0 (Nat.le_of_lt O2.p_E.lt)) O2 (by rw [hV2]; simp) T2.1 T2.2.1 T2.2.2.1 (own_01 own_00)
    have ez2 : ¬ z = y := fun q => ez (q.trans ey)
    refine o_icmp_ne (pc := 250) (pc' := 257) B at_250 (by decide) (by decide) (fun hc250 => False.elim (hc250 ey)) (fun hc250 => ?_)
    refine o_iconst (pc := 253) B (0 : Int32) at_253 (by decide) ?_
    refine o_goto (pc := 254) (pc' := 258) B at_254 (by decide) (by decide) ?_
    refine o_istore_23_12 (pc := 258) B at_258 rfl ?_
    refine o_iload (pc := 260) B at_260 rfl ?_
    refine o_iconst (pc := 262) B (1 : Int32) at_262 (by decide) ?_
    refine o_iadd_c (pc := 263) B (1 : Int32) at_263 (by decide) ?_
    refine o_istore_23_13 (pc := 264) B at_264 rfl ?_
    refine o_iload (pc := 266) B at_266 rfl ?_
    refine o_iload (pc := 268) B at_268 rfl ?_
    refine o_icmp_ne (pc := 270) (pc' := 283) B at_270 (by decide) (by decide) (fun hc270 => ?_) (fun hc270 => False.elim (ez hc270))
    refine o_iload (pc := 283) B at_283 rfl ?_
    refine o_iload (pc := 285) B at_285 rfl ?_
    refine o_icmp_ne (pc := 287) (pc' := 301) B at_287 (by decide) (by decide) (fun hc287 => ?_) (fun hc287 => False.elim (ez2 hc287))
    refine o_iload (pc := 301) B at_301 rfl ?_
    refine o_istore_23_14 (pc := 303) B at_303 rfl ?_
    refine o_iload (pc := 305) B at_305 rfl ?_
    refine o_iconst (pc := 307) B (1 : Int32) at_307 (by decide) ?_
    refine o_iadd_c (pc := 308) B (2 : Int32) at_308 (by decide) ?_
    refine o_istore_23_15 (pc := 309) B at_309 rfl ?_
    refine o_aload (pc := 311) B at_311 rfl rfl ?_
    refine o_iload (pc := 313) B at_313 rfl ?_
    refine o_callV1 (pc := 315) B 0 at_315 (hw _ (List.mem_of_getElem? (i := 37) rfl)) (hw _ (List.mem_of_getElem? (i := 38) rfl)) (hw _ (List.mem_of_getElem? (i := 40) rfl)) (hw _ (List.mem_of_getElem? (i := 39) rfl)) (hw _ (List.mem_of_getElem? (i := 2) rfl)) (hw _ (List.mem_of_getElem? (i := 41) rfl)) (by decide) pd5 rfl (by first | exact Nat.zero_le _ | exact Nat.le_of_ble_eq_true rfl | simp [Value.category]) (by decide) (by decide) (by decide) (by decide) rfl (O1.p_E) (oc5n l Z a0 hw n0 _ o k1 i1 s1 v1 0 0 0 1 29 (List.replicate 8 0) (List.replicate 8 0) (List.replicate 8 0) (List.replicate 3 0) x 3 ([]) [] O1 T1 (by decide) (by decide) (own_h29 _) (by simp) (by simp) (by simp; try omega)) ?_
    rintro w h2_ ⟨rfl, Ks2, Is2, Vs2, sl2, P2, O2, T2, hV2⟩
    refine o_if_ne (pc := 318) (pc' := 325) B at_318 (by decide) (by decide) (fun hc318 => False.elim (hc318 rfl)) (fun hc318 => ?_)
    refine o_iconst (pc := 321) B (1 : Int32) at_321 (by decide) ?_
    refine o_goto (pc := 322) (pc' := 326) B at_322 (by decide) (by decide) ?_
    refine o_istore_23_16 (pc := 326) B at_326 rfl ?_
    refine o_aload (pc := 328) B at_328 rfl rfl ?_
    refine o_iload (pc := 330) B at_330 rfl ?_
    refine o_callV1 (pc := 332) B 0 at_332 (hw _ (List.mem_of_getElem? (i := 37) rfl)) (hw _ (List.mem_of_getElem? (i := 38) rfl)) (hw _ (List.mem_of_getElem? (i := 40) rfl)) (hw _ (List.mem_of_getElem? (i := 39) rfl)) (hw _ (List.mem_of_getElem? (i := 2) rfl)) (hw _ (List.mem_of_getElem? (i := 41) rfl)) (by decide) pd5 rfl (by first | exact Nat.zero_le _ | exact Nat.le_of_ble_eq_true rfl | simp [Value.category]) (by decide) (by decide) (by decide) (by decide) rfl (O2.p_E) (oc5h l Z a0 hw n0 _ o k1 i1 s1 v1 0 0 _ 1 29 Ks2 Is2 _ Vs2 y 3 0 ([] ++ [x]) P2 O2 T2 (by decide) (own_h29 _) (by rw [ey]; rfl)) ?_
    rintro w h' ⟨rfl, rfl⟩
    refine o_iload (pc := 335) B at_335 rfl ?_
    refine o_icmp_ne (pc := 337) (pc' := 344) B at_337 (by decide) (by decide) (fun hc337 => False.elim (hc337 rfl)) (fun hc337 => ?_)
    refine o_iconst (pc := 340) B (1 : Int32) at_340 (by decide) ?_
    refine o_goto (pc := 341) (pc' := 345) B at_341 (by decide) (by decide) ?_
    refine o_istore_23_17 (pc := 345) B at_345 rfl ?_
    refine o_aload (pc := 347) B at_347 rfl rfl ?_
    refine o_iload (pc := 349) B at_349 rfl ?_
    refine o_callV1 (pc := 351) B 0 at_351 (hw _ (List.mem_of_getElem? (i := 37) rfl)) (hw _ (List.mem_of_getElem? (i := 38) rfl)) (hw _ (List.mem_of_getElem? (i := 40) rfl)) (hw _ (List.mem_of_getElem? (i := 39) rfl)) (hw _ (List.mem_of_getElem? (i := 2) rfl)) (hw _ (List.mem_of_getElem? (i := 41) rfl)) (by decide) pd5 rfl (by first | exact Nat.zero_le _ | exact Nat.le_of_ble_eq_true rfl | simp [Value.category]) (by decide) (by decide) (by decide) (by decide) rfl (O2.p_E) (oc5n l Z a0 hw n0 _ o k1 i1 s1 v1 0 0 0 1 29 Ks2 Is2 _ Vs2 z 3 ([] ++ [x]) P2 O2 T2 (by decide) (by decide) (own_h29 _) (by simpa using ez) (by simp) (by rw [hV2]; simp)) ?_
    rintro w h3_ ⟨rfl, Ks3, Is3, Vs3, sl3, P3, O3, T3, hV3⟩
    refine o_iload (pc := 354) B at_354 rfl ?_
    refine o_icmp_ne (pc := 356) (pc' := 363) B at_356 (by decide) (by decide) (fun hc356 => False.elim (hc356 rfl)) (fun hc356 => ?_)
    refine o_iconst (pc := 359) B (1 : Int32) at_359 (by decide) ?_
    refine o_goto (pc := 360) (pc' := 364) B at_360 (by decide) (by decide) ?_
    refine o_istore_23_18 (pc := 364) B at_364 rfl ?_
    refine o_aload (pc := 366) B at_366 rfl rfl ?_
    refine o_iload (pc := 368) B at_368 rfl ?_
    refine o_callV1 (pc := 370) B 0 at_370 (hw _ (List.mem_of_getElem? (i := 37) rfl)) (hw _ (List.mem_of_getElem? (i := 38) rfl)) (hw _ (List.mem_of_getElem? (i := 40) rfl)) (hw _ (List.mem_of_getElem? (i := 39) rfl)) (hw _ (List.mem_of_getElem? (i := 2) rfl)) (hw _ (List.mem_of_getElem? (i := 41) rfl)) (by decide) pd5 rfl (by first | exact Nat.zero_le _ | exact Nat.le_of_ble_eq_true rfl | simp [Value.category]) (by decide) (by decide) (by decide) (by decide) rfl (O3.p_E) (oc5h l Z a0 hw n0 _ o k1 i1 s1 v1 0 0 _ 1 29 Ks3 Is3 _ Vs3 y 3 0 ([] ++ [x] ++ [z]) P3 O3 T3 (by decide) (own_h29 _) (by rw [ey]; rfl)) ?_
    rintro w h' ⟨rfl, rfl⟩
    refine o_iload (pc := 373) B at_373 rfl ?_
    refine o_icmp_ne (pc := 375) (pc' := 382) B at_375 (by decide) (by decide) (fun hc375 => False.elim (hc375 rfl)) (fun hc375 => ?_)
    refine o_iconst (pc := 378) B (1 : Int32) at_378 (by decide) ?_
    refine o_goto (pc := 379) (pc' := 383) B at_379 (by decide) (by decide) ?_
    refine o_istore_23_19 (pc := 383) B at_383 rfl ?_
    refine o_aload (pc := 385) B at_385 rfl rfl ?_
    refine o_callV0 (pc := 387) B 0 at_387 (hw _ (List.mem_of_getElem? (i := 42) rfl)) (hw _ (List.mem_of_getElem? (i := 43) rfl)) (hw _ (List.mem_of_getElem? (i := 45) rfl)) (hw _ (List.mem_of_getElem? (i := 44) rfl)) (hw _ (List.mem_of_getElem? (i := 2) rfl)) (hw _ (List.mem_of_getElem? (i := 46) rfl)) (by decide) pd6 rfl (by first | exact Nat.zero_le _ | exact Nat.le_of_ble_eq_true rfl | simp [Value.category]) (by decide) (by decide) (by decide) (by decide) rfl (O3.p_E) (oc6 l Z a0 hw n0 _ o _ O3.p_Fcount) ?_
    rintro w h' ⟨rfl, rfl⟩
    refine o_iload (pc := 390) B at_390 rfl ?_
    refine o_icmp_ne (pc := 392) (pc' := 399) B at_392 (by decide) (by decide) (fun hc392 => False.elim (hc392 rfl)) (fun hc392 => ?_)
    refine o_iconst (pc := 395) B (1 : Int32) at_395 (by decide) ?_
    refine o_goto (pc := 396) (pc' := 400) B at_396 (by decide) (by decide) ?_
    refine o_istore_23_20 (pc := 400) B at_400 rfl ?_
    exact own_t402 l Z a0 hw n0 _ κ B mode lo1 x b c d _ _ _ _ _ _ _ c2 h2 h9 o k1 i1 s1 v1 0 _ _ _ _ _ (Nat.le_trans O3.p_g0 (Nat.le_of_lt O3.p_E.lt)) O3 (by rw [hV3, hV2]; simp) T3.1 T3.2.1 T3.2.2.1 (own_01 (own_01 own_00))
  by_cases ez : z = x
  · refine o_icmp_ne (pc := 250) (pc' := 257) B at_250 (by decide) (by decide) (fun hc250 => ?_) (fun hc250 => False.elim (ey hc250))
    refine o_iconst (pc := 257) B (1 : Int32) at_257 (by decide) ?_
    refine o_istore_23_12 (pc := 258) B at_258 rfl ?_
    refine o_iload (pc := 260) B at_260 rfl ?_
    refine o_iconst (pc := 262) B (1 : Int32) at_262 (by decide) ?_
    refine o_iadd_c (pc := 263) B (2 : Int32) at_263 (by decide) ?_
    refine o_istore_23_13 (pc := 264) B at_264 rfl ?_
    refine o_iload (pc := 266) B at_266 rfl ?_
    refine o_iload (pc := 268) B at_268 rfl ?_
    refine o_icmp_ne (pc := 270) (pc' := 283) B at_270 (by decide) (by decide) (fun hc270 => False.elim (hc270 ez)) (fun hc270 => ?_)
    refine o_iconst (pc := 273) B (0 : Int32) at_273 (by decide) ?_
    refine o_istore_23_14 (pc := 274) B at_274 rfl ?_
    refine o_iload (pc := 276) B at_276 rfl ?_
    refine o_istore_23_15 (pc := 278) B at_278 rfl ?_
    refine o_goto (pc := 280) (pc' := 311) B at_280 (by decide) (by decide) ?_
    refine o_aload (pc := 311) B at_311 rfl rfl ?_
    refine o_iload (pc := 313) B at_313 rfl ?_
    refine o_callV1 (pc := 315) B 0 at_315 (hw _ (List.mem_of_getElem? (i := 37) rfl)) (hw _ (List.mem_of_getElem? (i := 38) rfl)) (hw _ (List.mem_of_getElem? (i := 40) rfl)) (hw _ (List.mem_of_getElem? (i := 39) rfl)) (hw _ (List.mem_of_getElem? (i := 2) rfl)) (hw _ (List.mem_of_getElem? (i := 41) rfl)) (by decide) pd5 rfl (by first | exact Nat.zero_le _ | exact Nat.le_of_ble_eq_true rfl | simp [Value.category]) (by decide) (by decide) (by decide) (by decide) rfl (O1.p_E) (oc5n l Z a0 hw n0 _ o k1 i1 s1 v1 0 0 0 1 29 (List.replicate 8 0) (List.replicate 8 0) (List.replicate 8 0) (List.replicate 3 0) x 3 ([]) [] O1 T1 (by decide) (by decide) (own_h29 _) (by simp) (by simp) (by simp; try omega)) ?_
    rintro w h2_ ⟨rfl, Ks2, Is2, Vs2, sl2, P2, O2, T2, hV2⟩
    refine o_if_ne (pc := 318) (pc' := 325) B at_318 (by decide) (by decide) (fun hc318 => False.elim (hc318 rfl)) (fun hc318 => ?_)
    refine o_iconst (pc := 321) B (1 : Int32) at_321 (by decide) ?_
    refine o_goto (pc := 322) (pc' := 326) B at_322 (by decide) (by decide) ?_
    refine o_istore_23_16 (pc := 326) B at_326 rfl ?_
    refine o_aload (pc := 328) B at_328 rfl rfl ?_
    refine o_iload (pc := 330) B at_330 rfl ?_
    refine o_callV1 (pc := 332) B 0 at_332 (hw _ (List.mem_of_getElem? (i := 37) rfl)) (hw _ (List.mem_of_getElem? (i := 38) rfl)) (hw _ (List.mem_of_getElem? (i := 40) rfl)) (hw _ (List.mem_of_getElem? (i := 39) rfl)) (hw _ (List.mem_of_getElem? (i := 2) rfl)) (hw _ (List.mem_of_getElem? (i := 41) rfl)) (by decide) pd5 rfl (by first | exact Nat.zero_le _ | exact Nat.le_of_ble_eq_true rfl | simp [Value.category]) (by decide) (by decide) (by decide) (by decide) rfl (O2.p_E) (oc5n l Z a0 hw n0 _ o k1 i1 s1 v1 0 0 0 1 29 Ks2 Is2 _ Vs2 y 3 ([] ++ [x]) P2 O2 T2 (by decide) (by decide) (own_h29 _) (by simpa using ey) (by simp) (by rw [hV2]; simp)) ?_
    rintro w h3_ ⟨rfl, Ks3, Is3, Vs3, sl3, P3, O3, T3, hV3⟩
    refine o_iload (pc := 335) B at_335 rfl ?_
    refine o_icmp_ne (pc := 337) (pc' := 344) B at_337 (by decide) (by decide) (fun hc337 => False.elim (hc337 rfl)) (fun hc337 => ?_)
    refine o_iconst (pc := 340) B (1 : Int32) at_340 (by decide) ?_
    refine o_goto (pc := 341) (pc' := 345) B at_341 (by decide) (by decide) ?_
    refine o_istore_23_17 (pc := 345) B at_345 rfl ?_
    refine o_aload (pc := 347) B at_347 rfl rfl ?_
    refine o_iload (pc := 349) B at_349 rfl ?_
    refine o_callV1 (pc := 351) B 0 at_351 (hw _ (List.mem_of_getElem? (i := 37) rfl)) (hw _ (List.mem_of_getElem? (i := 38) rfl)) (hw _ (List.mem_of_getElem? (i := 40) rfl)) (hw _ (List.mem_of_getElem? (i := 39) rfl)) (hw _ (List.mem_of_getElem? (i := 2) rfl)) (hw _ (List.mem_of_getElem? (i := 41) rfl)) (by decide) pd5 rfl (by first | exact Nat.zero_le _ | exact Nat.le_of_ble_eq_true rfl | simp [Value.category]) (by decide) (by decide) (by decide) (by decide) rfl (O3.p_E) (oc5h l Z a0 hw n0 _ o k1 i1 s1 v1 0 0 _ 1 29 Ks3 Is3 _ Vs3 z 3 0 ([] ++ [x] ++ [y]) P3 O3 T3 (by decide) (own_h29 _) (by rw [ez]; rfl)) ?_
    rintro w h' ⟨rfl, rfl⟩
    refine o_iload (pc := 354) B at_354 rfl ?_
    refine o_icmp_ne (pc := 356) (pc' := 363) B at_356 (by decide) (by decide) (fun hc356 => False.elim (hc356 rfl)) (fun hc356 => ?_)
    refine o_iconst (pc := 359) B (1 : Int32) at_359 (by decide) ?_
    refine o_goto (pc := 360) (pc' := 364) B at_360 (by decide) (by decide) ?_
    refine o_istore_23_18 (pc := 364) B at_364 rfl ?_
    refine o_aload (pc := 366) B at_366 rfl rfl ?_
    refine o_iload (pc := 368) B at_368 rfl ?_
    refine o_callV1 (pc := 370) B 0 at_370 (hw _ (List.mem_of_getElem? (i := 37) rfl)) (hw _ (List.mem_of_getElem? (i := 38) rfl)) (hw _ (List.mem_of_getElem? (i := 40) rfl)) (hw _ (List.mem_of_getElem? (i := 39) rfl)) (hw _ (List.mem_of_getElem? (i := 2) rfl)) (hw _ (List.mem_of_getElem? (i := 41) rfl)) (by decide) pd5 rfl (by first | exact Nat.zero_le _ | exact Nat.le_of_ble_eq_true rfl | simp [Value.category]) (by decide) (by decide) (by decide) (by decide) rfl (O3.p_E) (oc5h l Z a0 hw n0 _ o k1 i1 s1 v1 0 0 _ 1 29 Ks3 Is3 _ Vs3 y 3 1 ([] ++ [x] ++ [y]) P3 O3 T3 (by decide) (own_h29 _) (rfl)) ?_
    rintro w h' ⟨rfl, rfl⟩
    refine o_iload (pc := 373) B at_373 rfl ?_
    refine o_icmp_ne (pc := 375) (pc' := 382) B at_375 (by decide) (by decide) (fun hc375 => False.elim (hc375 rfl)) (fun hc375 => ?_)
    refine o_iconst (pc := 378) B (1 : Int32) at_378 (by decide) ?_
    refine o_goto (pc := 379) (pc' := 383) B at_379 (by decide) (by decide) ?_
    refine o_istore_23_19 (pc := 383) B at_383 rfl ?_
    refine o_aload (pc := 385) B at_385 rfl rfl ?_
    refine o_callV0 (pc := 387) B 0 at_387 (hw _ (List.mem_of_getElem? (i := 42) rfl)) (hw _ (List.mem_of_getElem? (i := 43) rfl)) (hw _ (List.mem_of_getElem? (i := 45) rfl)) (hw _ (List.mem_of_getElem? (i := 44) rfl)) (hw _ (List.mem_of_getElem? (i := 2) rfl)) (hw _ (List.mem_of_getElem? (i := 46) rfl)) (by decide) pd6 rfl (by first | exact Nat.zero_le _ | exact Nat.le_of_ble_eq_true rfl | simp [Value.category]) (by decide) (by decide) (by decide) (by decide) rfl (O3.p_E) (oc6 l Z a0 hw n0 _ o _ O3.p_Fcount) ?_
    rintro w h' ⟨rfl, rfl⟩
    refine o_iload (pc := 390) B at_390 rfl ?_
    refine o_icmp_ne (pc := 392) (pc' := 399) B at_392 (by decide) (by decide) (fun hc392 => False.elim (hc392 rfl)) (fun hc392 => ?_)
    refine o_iconst (pc := 395) B (1 : Int32) at_395 (by decide) ?_
    refine o_goto (pc := 396) (pc' := 400) B at_396 (by decide) (by decide) ?_
    refine o_istore_23_20 (pc := 400) B at_400 rfl ?_
    exact own_t402 l Z a0 hw n0 _ κ B mode lo1 x b c d _ _ _ _ _ _ _ c2 h2 h9 o k1 i1 s1 v1 0 _ _ _ _ _ (Nat.le_trans O3.p_g0 (Nat.le_of_lt O3.p_E.lt)) O3 (by rw [hV3, hV2]; simp) T3.1 T3.2.1 T3.2.2.1 (own_01 (own_01 own_00))
  by_cases ez2 : z = y
  · refine o_icmp_ne (pc := 250) (pc' := 257) B at_250 (by decide) (by decide) (fun hc250 => ?_) (fun hc250 => False.elim (ey hc250))
    refine o_iconst (pc := 257) B (1 : Int32) at_257 (by decide) ?_
    refine o_istore_23_12 (pc := 258) B at_258 rfl ?_
    refine o_iload (pc := 260) B at_260 rfl ?_
    refine o_iconst (pc := 262) B (1 : Int32) at_262 (by decide) ?_
    refine o_iadd_c (pc := 263) B (2 : Int32) at_263 (by decide) ?_
    refine o_istore_23_13 (pc := 264) B at_264 rfl ?_
    refine o_iload (pc := 266) B at_266 rfl ?_
    refine o_iload (pc := 268) B at_268 rfl ?_
    refine o_icmp_ne (pc := 270) (pc' := 283) B at_270 (by decide) (by decide) (fun hc270 => ?_) (fun hc270 => False.elim (ez hc270))
    refine o_iload (pc := 283) B at_283 rfl ?_
    refine o_iload (pc := 285) B at_285 rfl ?_
    refine o_icmp_ne (pc := 287) (pc' := 301) B at_287 (by decide) (by decide) (fun hc287 => False.elim (hc287 ez2)) (fun hc287 => ?_)
    refine o_iload (pc := 290) B at_290 rfl ?_
    refine o_istore_23_14 (pc := 292) B at_292 rfl ?_
    refine o_iload (pc := 294) B at_294 rfl ?_
    refine o_istore_23_15 (pc := 296) B at_296 rfl ?_
    refine o_goto (pc := 298) (pc' := 311) B at_298 (by decide) (by decide) ?_
    refine o_aload (pc := 311) B at_311 rfl rfl ?_
    refine o_iload (pc := 313) B at_313 rfl ?_
    refine o_callV1 (pc := 315) B 0 at_315 (hw _ (List.mem_of_getElem? (i := 37) rfl)) (hw _ (List.mem_of_getElem? (i := 38) rfl)) (hw _ (List.mem_of_getElem? (i := 40) rfl)) (hw _ (List.mem_of_getElem? (i := 39) rfl)) (hw _ (List.mem_of_getElem? (i := 2) rfl)) (hw _ (List.mem_of_getElem? (i := 41) rfl)) (by decide) pd5 rfl (by first | exact Nat.zero_le _ | exact Nat.le_of_ble_eq_true rfl | simp [Value.category]) (by decide) (by decide) (by decide) (by decide) rfl (O1.p_E) (oc5n l Z a0 hw n0 _ o k1 i1 s1 v1 0 0 0 1 29 (List.replicate 8 0) (List.replicate 8 0) (List.replicate 8 0) (List.replicate 3 0) x 3 ([]) [] O1 T1 (by decide) (by decide) (own_h29 _) (by simp) (by simp) (by simp; try omega)) ?_
    rintro w h2_ ⟨rfl, Ks2, Is2, Vs2, sl2, P2, O2, T2, hV2⟩
    refine o_if_ne (pc := 318) (pc' := 325) B at_318 (by decide) (by decide) (fun hc318 => False.elim (hc318 rfl)) (fun hc318 => ?_)
    refine o_iconst (pc := 321) B (1 : Int32) at_321 (by decide) ?_
    refine o_goto (pc := 322) (pc' := 326) B at_322 (by decide) (by decide) ?_
    refine o_istore_23_16 (pc := 326) B at_326 rfl ?_
    refine o_aload (pc := 328) B at_328 rfl rfl ?_
    refine o_iload (pc := 330) B at_330 rfl ?_
    refine o_callV1 (pc := 332) B 0 at_332 (hw _ (List.mem_of_getElem? (i := 37) rfl)) (hw _ (List.mem_of_getElem? (i := 38) rfl)) (hw _ (List.mem_of_getElem? (i := 40) rfl)) (hw _ (List.mem_of_getElem? (i := 39) rfl)) (hw _ (List.mem_of_getElem? (i := 2) rfl)) (hw _ (List.mem_of_getElem? (i := 41) rfl)) (by decide) pd5 rfl (by first | exact Nat.zero_le _ | exact Nat.le_of_ble_eq_true rfl | simp [Value.category]) (by decide) (by decide) (by decide) (by decide) rfl (O2.p_E) (oc5n l Z a0 hw n0 _ o k1 i1 s1 v1 0 0 0 1 29 Ks2 Is2 _ Vs2 y 3 ([] ++ [x]) P2 O2 T2 (by decide) (by decide) (own_h29 _) (by simpa using ey) (by simp) (by rw [hV2]; simp)) ?_
    rintro w h3_ ⟨rfl, Ks3, Is3, Vs3, sl3, P3, O3, T3, hV3⟩
    refine o_iload (pc := 335) B at_335 rfl ?_
    refine o_icmp_ne (pc := 337) (pc' := 344) B at_337 (by decide) (by decide) (fun hc337 => False.elim (hc337 rfl)) (fun hc337 => ?_)
    refine o_iconst (pc := 340) B (1 : Int32) at_340 (by decide) ?_
    refine o_goto (pc := 341) (pc' := 345) B at_341 (by decide) (by decide) ?_
    refine o_istore_23_17 (pc := 345) B at_345 rfl ?_
    refine o_aload (pc := 347) B at_347 rfl rfl ?_
    refine o_iload (pc := 349) B at_349 rfl ?_
    refine o_callV1 (pc := 351) B 0 at_351 (hw _ (List.mem_of_getElem? (i := 37) rfl)) (hw _ (List.mem_of_getElem? (i := 38) rfl)) (hw _ (List.mem_of_getElem? (i := 40) rfl)) (hw _ (List.mem_of_getElem? (i := 39) rfl)) (hw _ (List.mem_of_getElem? (i := 2) rfl)) (hw _ (List.mem_of_getElem? (i := 41) rfl)) (by decide) pd5 rfl (by first | exact Nat.zero_le _ | exact Nat.le_of_ble_eq_true rfl | simp [Value.category]) (by decide) (by decide) (by decide) (by decide) rfl (O3.p_E) (oc5h l Z a0 hw n0 _ o k1 i1 s1 v1 0 0 _ 1 29 Ks3 Is3 _ Vs3 z 3 1 ([] ++ [x] ++ [y]) P3 O3 T3 (by decide) (own_h29 _) (by rw [ez2]; rfl)) ?_
    rintro w h' ⟨rfl, rfl⟩
    refine o_iload (pc := 354) B at_354 rfl ?_
    refine o_icmp_ne (pc := 356) (pc' := 363) B at_356 (by decide) (by decide) (fun hc356 => False.elim (hc356 rfl)) (fun hc356 => ?_)
    refine o_iconst (pc := 359) B (1 : Int32) at_359 (by decide) ?_
    refine o_goto (pc := 360) (pc' := 364) B at_360 (by decide) (by decide) ?_
    refine o_istore_23_18 (pc := 364) B at_364 rfl ?_
    refine o_aload (pc := 366) B at_366 rfl rfl ?_
    refine o_iload (pc := 368) B at_368 rfl ?_
    refine o_callV1 (pc := 370) B 0 at_370 (hw _ (List.mem_of_getElem? (i := 37) rfl)) (hw _ (List.mem_of_getElem? (i := 38) rfl)) (hw _ (List.mem_of_getElem? (i := 40) rfl)) (hw _ (List.mem_of_getElem? (i := 39) rfl)) (hw _ (List.mem_of_getElem? (i := 2) rfl)) (hw _ (List.mem_of_getElem? (i := 41) rfl)) (by decide) pd5 rfl (by first | exact Nat.zero_le _ | exact Nat.le_of_ble_eq_true rfl | simp [Value.category]) (by decide) (by decide) (by decide) (by decide) rfl (O3.p_E) (oc5h l Z a0 hw n0 _ o k1 i1 s1 v1 0 0 _ 1 29 Ks3 Is3 _ Vs3 y 3 1 ([] ++ [x] ++ [y]) P3 O3 T3 (by decide) (own_h29 _) (rfl)) ?_
    rintro w h' ⟨rfl, rfl⟩
    refine o_iload (pc := 373) B at_373 rfl ?_
    refine o_icmp_ne (pc := 375) (pc' := 382) B at_375 (by decide) (by decide) (fun hc375 => False.elim (hc375 rfl)) (fun hc375 => ?_)
    refine o_iconst (pc := 378) B (1 : Int32) at_378 (by decide) ?_
    refine o_goto (pc := 379) (pc' := 383) B at_379 (by decide) (by decide) ?_
    refine o_istore_23_19 (pc := 383) B at_383 rfl ?_
    refine o_aload (pc := 385) B at_385 rfl rfl ?_
    refine o_callV0 (pc := 387) B 0 at_387 (hw _ (List.mem_of_getElem? (i := 42) rfl)) (hw _ (List.mem_of_getElem? (i := 43) rfl)) (hw _ (List.mem_of_getElem? (i := 45) rfl)) (hw _ (List.mem_of_getElem? (i := 44) rfl)) (hw _ (List.mem_of_getElem? (i := 2) rfl)) (hw _ (List.mem_of_getElem? (i := 46) rfl)) (by decide) pd6 rfl (by first | exact Nat.zero_le _ | exact Nat.le_of_ble_eq_true rfl | simp [Value.category]) (by decide) (by decide) (by decide) (by decide) rfl (O3.p_E) (oc6 l Z a0 hw n0 _ o _ O3.p_Fcount) ?_
    rintro w h' ⟨rfl, rfl⟩
    refine o_iload (pc := 390) B at_390 rfl ?_
    refine o_icmp_ne (pc := 392) (pc' := 399) B at_392 (by decide) (by decide) (fun hc392 => False.elim (hc392 rfl)) (fun hc392 => ?_)
    refine o_iconst (pc := 395) B (1 : Int32) at_395 (by decide) ?_
    refine o_goto (pc := 396) (pc' := 400) B at_396 (by decide) (by decide) ?_
    refine o_istore_23_20 (pc := 400) B at_400 rfl ?_
    exact own_t402 l Z a0 hw n0 _ κ B mode lo1 x b c d _ _ _ _ _ _ _ c2 h2 h9 o k1 i1 s1 v1 0 _ _ _ _ _ (Nat.le_trans O3.p_g0 (Nat.le_of_lt O3.p_E.lt)) O3 (by rw [hV3, hV2]; simp) T3.1 T3.2.1 T3.2.2.1 (own_01 (own_01 own_00))
  refine o_icmp_ne (pc := 250) (pc' := 257) B at_250 (by decide) (by decide) (fun hc250 => ?_) (fun hc250 => False.elim (ey hc250))
  refine o_iconst (pc := 257) B (1 : Int32) at_257 (by decide) ?_
  refine o_istore_23_12 (pc := 258) B at_258 rfl ?_
  refine o_iload (pc := 260) B at_260 rfl ?_
  refine o_iconst (pc := 262) B (1 : Int32) at_262 (by decide) ?_
  refine o_iadd_c (pc := 263) B (2 : Int32) at_263 (by decide) ?_
  refine o_istore_23_13 (pc := 264) B at_264 rfl ?_
  refine o_iload (pc := 266) B at_266 rfl ?_
  refine o_iload (pc := 268) B at_268 rfl ?_
  refine o_icmp_ne (pc := 270) (pc' := 283) B at_270 (by decide) (by decide) (fun hc270 => ?_) (fun hc270 => False.elim (ez hc270))
  refine o_iload (pc := 283) B at_283 rfl ?_
  refine o_iload (pc := 285) B at_285 rfl ?_
  refine o_icmp_ne (pc := 287) (pc' := 301) B at_287 (by decide) (by decide) (fun hc287 => ?_) (fun hc287 => False.elim (ez2 hc287))
  refine o_iload (pc := 301) B at_301 rfl ?_
  refine o_istore_23_14 (pc := 303) B at_303 rfl ?_
  refine o_iload (pc := 305) B at_305 rfl ?_
  refine o_iconst (pc := 307) B (1 : Int32) at_307 (by decide) ?_
  refine o_iadd_c (pc := 308) B (3 : Int32) at_308 (by decide) ?_
  refine o_istore_23_15 (pc := 309) B at_309 rfl ?_
  refine o_aload (pc := 311) B at_311 rfl rfl ?_
  refine o_iload (pc := 313) B at_313 rfl ?_
  refine o_callV1 (pc := 315) B 0 at_315 (hw _ (List.mem_of_getElem? (i := 37) rfl)) (hw _ (List.mem_of_getElem? (i := 38) rfl)) (hw _ (List.mem_of_getElem? (i := 40) rfl)) (hw _ (List.mem_of_getElem? (i := 39) rfl)) (hw _ (List.mem_of_getElem? (i := 2) rfl)) (hw _ (List.mem_of_getElem? (i := 41) rfl)) (by decide) pd5 rfl (by first | exact Nat.zero_le _ | exact Nat.le_of_ble_eq_true rfl | simp [Value.category]) (by decide) (by decide) (by decide) (by decide) rfl (O1.p_E) (oc5n l Z a0 hw n0 _ o k1 i1 s1 v1 0 0 0 1 29 (List.replicate 8 0) (List.replicate 8 0) (List.replicate 8 0) (List.replicate 3 0) x 3 ([]) [] O1 T1 (by decide) (by decide) (own_h29 _) (by simp) (by simp) (by simp; try omega)) ?_
  rintro w h2_ ⟨rfl, Ks2, Is2, Vs2, sl2, P2, O2, T2, hV2⟩
  refine o_if_ne (pc := 318) (pc' := 325) B at_318 (by decide) (by decide) (fun hc318 => False.elim (hc318 rfl)) (fun hc318 => ?_)
  refine o_iconst (pc := 321) B (1 : Int32) at_321 (by decide) ?_
  refine o_goto (pc := 322) (pc' := 326) B at_322 (by decide) (by decide) ?_
  refine o_istore_23_16 (pc := 326) B at_326 rfl ?_
  refine o_aload (pc := 328) B at_328 rfl rfl ?_
  refine o_iload (pc := 330) B at_330 rfl ?_
  refine o_callV1 (pc := 332) B 0 at_332 (hw _ (List.mem_of_getElem? (i := 37) rfl)) (hw _ (List.mem_of_getElem? (i := 38) rfl)) (hw _ (List.mem_of_getElem? (i := 40) rfl)) (hw _ (List.mem_of_getElem? (i := 39) rfl)) (hw _ (List.mem_of_getElem? (i := 2) rfl)) (hw _ (List.mem_of_getElem? (i := 41) rfl)) (by decide) pd5 rfl (by first | exact Nat.zero_le _ | exact Nat.le_of_ble_eq_true rfl | simp [Value.category]) (by decide) (by decide) (by decide) (by decide) rfl (O2.p_E) (oc5n l Z a0 hw n0 _ o k1 i1 s1 v1 0 0 0 1 29 Ks2 Is2 _ Vs2 y 3 ([] ++ [x]) P2 O2 T2 (by decide) (by decide) (own_h29 _) (by simpa using ey) (by simp) (by rw [hV2]; simp)) ?_
  rintro w h3_ ⟨rfl, Ks3, Is3, Vs3, sl3, P3, O3, T3, hV3⟩
  refine o_iload (pc := 335) B at_335 rfl ?_
  refine o_icmp_ne (pc := 337) (pc' := 344) B at_337 (by decide) (by decide) (fun hc337 => False.elim (hc337 rfl)) (fun hc337 => ?_)
  refine o_iconst (pc := 340) B (1 : Int32) at_340 (by decide) ?_
  refine o_goto (pc := 341) (pc' := 345) B at_341 (by decide) (by decide) ?_
  refine o_istore_23_17 (pc := 345) B at_345 rfl ?_
  refine o_aload (pc := 347) B at_347 rfl rfl ?_
  refine o_iload (pc := 349) B at_349 rfl ?_
  refine o_callV1 (pc := 351) B 0 at_351 (hw _ (List.mem_of_getElem? (i := 37) rfl)) (hw _ (List.mem_of_getElem? (i := 38) rfl)) (hw _ (List.mem_of_getElem? (i := 40) rfl)) (hw _ (List.mem_of_getElem? (i := 39) rfl)) (hw _ (List.mem_of_getElem? (i := 2) rfl)) (hw _ (List.mem_of_getElem? (i := 41) rfl)) (by decide) pd5 rfl (by first | exact Nat.zero_le _ | exact Nat.le_of_ble_eq_true rfl | simp [Value.category]) (by decide) (by decide) (by decide) (by decide) rfl (O3.p_E) (oc5n l Z a0 hw n0 _ o k1 i1 s1 v1 0 0 0 1 29 Ks3 Is3 _ Vs3 z 3 ([] ++ [x] ++ [y]) P3 O3 T3 (by decide) (by decide) (own_h29 _) (by simp [ez, ez2]) (by simp) (by rw [hV3, hV2]; simp)) ?_
  rintro w h4_ ⟨rfl, Ks4, Is4, Vs4, sl4, P4, O4, T4, hV4⟩
  refine o_iload (pc := 354) B at_354 rfl ?_
  refine o_icmp_ne (pc := 356) (pc' := 363) B at_356 (by decide) (by decide) (fun hc356 => False.elim (hc356 rfl)) (fun hc356 => ?_)
  refine o_iconst (pc := 359) B (1 : Int32) at_359 (by decide) ?_
  refine o_goto (pc := 360) (pc' := 364) B at_360 (by decide) (by decide) ?_
  refine o_istore_23_18 (pc := 364) B at_364 rfl ?_
  refine o_aload (pc := 366) B at_366 rfl rfl ?_
  refine o_iload (pc := 368) B at_368 rfl ?_
  refine o_callV1 (pc := 370) B 0 at_370 (hw _ (List.mem_of_getElem? (i := 37) rfl)) (hw _ (List.mem_of_getElem? (i := 38) rfl)) (hw _ (List.mem_of_getElem? (i := 40) rfl)) (hw _ (List.mem_of_getElem? (i := 39) rfl)) (hw _ (List.mem_of_getElem? (i := 2) rfl)) (hw _ (List.mem_of_getElem? (i := 41) rfl)) (by decide) pd5 rfl (by first | exact Nat.zero_le _ | exact Nat.le_of_ble_eq_true rfl | simp [Value.category]) (by decide) (by decide) (by decide) (by decide) rfl (O4.p_E) (oc5h l Z a0 hw n0 _ o k1 i1 s1 v1 0 0 _ 1 29 Ks4 Is4 _ Vs4 y 3 1 ([] ++ [x] ++ [y] ++ [z]) P4 O4 T4 (by decide) (own_h29 _) (rfl)) ?_
  rintro w h' ⟨rfl, rfl⟩
  refine o_iload (pc := 373) B at_373 rfl ?_
  refine o_icmp_ne (pc := 375) (pc' := 382) B at_375 (by decide) (by decide) (fun hc375 => False.elim (hc375 rfl)) (fun hc375 => ?_)
  refine o_iconst (pc := 378) B (1 : Int32) at_378 (by decide) ?_
  refine o_goto (pc := 379) (pc' := 383) B at_379 (by decide) (by decide) ?_
  refine o_istore_23_19 (pc := 383) B at_383 rfl ?_
  refine o_aload (pc := 385) B at_385 rfl rfl ?_
  refine o_callV0 (pc := 387) B 0 at_387 (hw _ (List.mem_of_getElem? (i := 42) rfl)) (hw _ (List.mem_of_getElem? (i := 43) rfl)) (hw _ (List.mem_of_getElem? (i := 45) rfl)) (hw _ (List.mem_of_getElem? (i := 44) rfl)) (hw _ (List.mem_of_getElem? (i := 2) rfl)) (hw _ (List.mem_of_getElem? (i := 46) rfl)) (by decide) pd6 rfl (by first | exact Nat.zero_le _ | exact Nat.le_of_ble_eq_true rfl | simp [Value.category]) (by decide) (by decide) (by decide) (by decide) rfl (O4.p_E) (oc6 l Z a0 hw n0 _ o _ O4.p_Fcount) ?_
  rintro w h' ⟨rfl, rfl⟩
  refine o_iload (pc := 390) B at_390 rfl ?_
  refine o_icmp_ne (pc := 392) (pc' := 399) B at_392 (by decide) (by decide) (fun hc392 => False.elim (hc392 rfl)) (fun hc392 => ?_)
  refine o_iconst (pc := 395) B (1 : Int32) at_395 (by decide) ?_
  refine o_goto (pc := 396) (pc' := 400) B at_396 (by decide) (by decide) ?_
  refine o_istore_23_20 (pc := 400) B at_400 rfl ?_
  exact own_t402 l Z a0 hw n0 _ κ B mode lo1 x b c d _ _ _ _ _ _ _ c2 h2 h9 o k1 i1 s1 v1 0 _ _ _ _ _ (Nat.le_trans O4.p_g0 (Nat.le_of_lt O4.p_E.lt)) O4 (by rw [hV4, hV3, hV2]; simp) T4.1 T4.2.1 T4.2.2.1 (own_01 (own_01 (own_01 own_00)))
set_option maxRecDepth 65536 in
set_option maxHeartbeats 40000000 in
theorem own_tab (l : Launch) (Z : State) (a0 : Array Value) (hw : ∀ d ∈ tables_1, d.before a0 Z = true) (n0 : Nat) (h : Heap) (κ : o_K) (B : o_Bo κ l Z n0 room_1 Jvm.Pilot.@@N@@.x code maxLocals ret) (mode lo1 x b c d : Int32) (o k i s v : Addr) (Z0 : n0 ≤ h.size) (O : own_Ob Z n0 h o k i s v 0 0 0 0 0 [] [] [] []) :
    o_Go κ (fun v h' => v = some (.int 1)) h 5 9 177 [.val (.int mode), .val (.int lo1), .val (.int x), .val (.int b), .val (.int c), .val (.int d), .val (.ref o), .unset, .unset, .unset, .unset, .unset, .unset, .unset, .unset, .unset, .unset, .unset, .unset, .unset, .unset, .unset, .unset] [] := by
  have T224 : ∀ y z : Int32, o_Go κ (fun v h' => v = some (.int 1)) h 5 9 224 [.val (.int mode), .val (.int lo1), .val (.int x), .val (.int b), .val (.int c), .val (.int d), .val (.ref o), .val (.int x), .val (.int y), .val (.int (XT.ushr mode 2 &&& 3)), .unset, .unset, .unset, .unset, .unset, .unset, .unset, .unset, .unset, .unset, .unset, .unset, .unset] [.int z] := by
    intro y z
    refine o_istore_23_10 (pc := 224) B at_224 rfl ?_
    refine o_iconst (pc := 226) B (2 : Int32) at_226 (by decide) ?_
    refine o_iloadN (pc := 227) B at_227 rfl ?_
    refine o_iconst (pc := 228) B (4 : Int32) at_228 (by decide) ?_
    refine o_iushr (pc := 229) B at_229 ?_
    refine o_bipush (pc := 230) B (7 : Int32) at_230 (by decide) ?_
    refine o_iand (pc := 232) B at_232 ?_
    have m := Nat.mod_lt (XT.ushr mode 4).toBitVec.toNat (show 0 < 2 ^ 3 by decide)
    have e : XT.ushr mode 4 &&& 7 = Int32.ofNat ((XT.ushr mode 4).toBitVec.toNat % 2 ^ 3) := own_and (XT.ushr mode 4) (j := 3) (by decide)
    rw [e]
    refine o_iadd (pc := 233) B at_233 ?_
    rw [show (2 : Int32) = Int32.ofNat 2 from rfl, ← Int32.ofNat_add]
    refine o_istore_23_11 (pc := 234) B at_234 rfl ?_
    exact own_t236 l Z a0 hw n0 h κ B mode lo1 x b c d y z _ _ (by omega) (by omega) o k i s v Z0 O
  have T195 : ∀ y : Int32, o_Go κ (fun v h' => v = some (.int 1)) h 5 9 195 [.val (.int mode), .val (.int lo1), .val (.int x), .val (.int b), .val (.int c), .val (.int d), .val (.ref o), .val (.int x), .val (.int y), .unset, .unset, .unset, .unset, .unset, .unset, .unset, .unset, .unset, .unset, .unset, .unset, .unset, .unset] [] := by
    intro y
    refine o_iloadN (pc := 195) B at_195 rfl ?_
    refine o_iconst (pc := 196) B (2 : Int32) at_196 (by decide) ?_
    refine o_iushr (pc := 197) B at_197 ?_
    refine o_iconst (pc := 198) B (3 : Int32) at_198 (by decide) ?_
    refine o_iand (pc := 199) B at_199 ?_
    refine o_istore_23_9 (pc := 200) B at_200 rfl ?_
    refine o_iload (pc := 202) B at_202 rfl ?_
    refine o_if_ne (pc := 204) (pc' := 211) B at_204 (by decide) (by decide) (fun hc204 => ?_) (fun hc204 => ?_)
    · refine o_iload (pc := 211) B at_211 rfl ?_
      refine o_iconst (pc := 213) B (1 : Int32) at_213 (by decide) ?_
      refine o_icmp_ne (pc := 214) (pc' := 222) B at_214 (by decide) (by decide) (fun hc214 => ?_) (fun hc214 => ?_)
      · refine o_iload (pc := 222) B at_222 rfl ?_
        exact T224 y c
      refine o_iload (pc := 217) B at_217 rfl ?_
      refine o_goto (pc := 219) (pc' := 224) B at_219 (by decide) (by decide) ?_
      exact T224 y y
    refine o_iloadN (pc := 207) B at_207 rfl ?_
    refine o_goto (pc := 208) (pc' := 224) B at_208 (by decide) (by decide) ?_
    exact T224 y x
  refine o_iloadN (pc := 177) B at_177 rfl ?_
  refine o_istore_23_7 (pc := 178) B at_178 rfl ?_
  refine o_iloadN (pc := 180) B at_180 rfl ?_
  refine o_iconst (pc := 181) B (1 : Int32) at_181 (by decide) ?_
  refine o_iushr (pc := 182) B at_182 ?_
  refine o_iconst (pc := 183) B (1 : Int32) at_183 (by decide) ?_
  refine o_iand (pc := 184) B at_184 ?_
  refine o_if_eq (pc := 185) (pc' := 192) B at_185 (by decide) (by decide) (fun hc185 => ?_) (fun hc185 => ?_)
  · refine o_iloadN (pc := 192) B at_192 rfl ?_
    refine o_istore_23_8 (pc := 193) B at_193 rfl ?_
    exact T195 b
  refine o_iloadN (pc := 188) B at_188 rfl ?_
  refine o_goto (pc := 189) (pc' := 193) B at_189 (by decide) (by decide) ?_
  refine o_istore_23_8 (pc := 193) B at_193 rfl ?_
  exact T195 x
set_option maxRecDepth 65536 in
set_option maxHeartbeats 40000000 in
theorem oc0 (l : Launch) (Z : State) (a0 : Array Value) (hw : ∀ d ∈ tables_1, d.before a0 Z = true) (n0 : Nat) (h : Heap) (mode lo1 x b c d : Int32) (Z0 : n0 ≤ h.size) : o_C l Z n0 Jvm.Pilot.@@N@@.x code maxLocals ret room_1 [(.int mode), (.int lo1), (.int x), (.int b), (.int c), (.int d)] h (fun v h' => v = some (.int 1)) := by
  refine o_body (Ls := [.val (.int mode), .val (.int lo1), .val (.int x), .val (.int b), .val (.int c), .val (.int d), .unset, .unset, .unset, .unset, .unset, .unset, .unset, .unset, .unset, .unset, .unset, .unset, .unset, .unset, .unset, .unset, .unset]) pn0 (by first | (simp [argsToLocals, Value.category, maxLocals]; done) | rfl) (fun κ B => ?_)
  refine o_new (pc := 0) B at_0 (hw _ (List.mem_of_getElem? (i := 0) rfl)) (hw _ (List.mem_of_getElem? (i := 1) rfl)) (hw _ (List.mem_of_getElem? (i := 2) rfl)) (by decide) (by decide) ?_
  intro h1 E1 X1 D1
  obtain ⟨o, go, eo⟩ : ∃ a, n0 ≤ a ∧ a = h.size := ⟨_, Z0, rfl⟩
  rw [← eo] at X1 ⊢
  have Foffsets : Fld Z h1 o own_VI "offsets" "Z" (.int 0) := eo ▸ D1 (Or.inl (hw _ (List.mem_of_getElem? (i := 31) rfl))) (ty := .boolean) (by decide)
  have Flo : Fld Z h1 o own_VI "lo" "I" (.int 0) := eo ▸ D1 (Or.inl (hw _ (List.mem_of_getElem? (i := 33) rfl))) (ty := .int) (by decide)
  have Fcount : Fld Z h1 o own_VI "count" "I" (.int 0) := eo ▸ D1 (Or.inl (hw _ (List.mem_of_getElem? (i := 35) rfl))) (ty := .int) (by decide)
  have Fstamp : Fld Z h1 o own_VI "stamp" "I" (.int 0) := eo ▸ D1 (Or.inl (hw _ (List.mem_of_getElem? (i := 62) rfl))) (ty := .int) (by decide)
  have Fshift : Fld Z h1 o own_VI "shift" "I" (.int 0) := eo ▸ D1 (Or.inl (hw _ (List.mem_of_getElem? (i := 60) rfl))) (ty := .int) (by decide)
  have Fkeys : Fld Z h1 o own_VI "keys" "[I" .null := eo ▸ D1 (Or.inl (hw _ (List.mem_of_getElem? (i := 11) rfl))) (ty := .array .int) (by decide)
  have Fids : Fld Z h1 o own_VI "ids" "[I" .null := eo ▸ D1 (Or.inl (hw _ (List.mem_of_getElem? (i := 13) rfl))) (ty := .array .int) (by decide)
  have Fstamps : Fld Z h1 o own_VI "stamps" "[I" .null := eo ▸ D1 (Or.inl (hw _ (List.mem_of_getElem? (i := 15) rfl))) (ty := .array .int) (by decide)
  have Fvalues : Fld Z h1 o own_VI "values" "[I" .null := eo ▸ D1 (Or.inl (hw _ (List.mem_of_getElem? (i := 17) rfl))) (ty := .array .int) (by decide)
  have z1 := E1.1
  refine o_dup (pc := 3) B at_3 rfl ?_
  refine o_callN0 (pc := 4) B 1 at_4 rfl (hw _ (List.mem_of_getElem? (i := 3) rfl)) (hw _ (List.mem_of_getElem? (i := 4) rfl)) (hw _ (List.mem_of_getElem? (i := 2) rfl)) (hw _ (List.mem_of_getElem? (i := 5) rfl)) (by decide) pd1 rfl (by first | exact Nat.zero_le _ | exact Nat.le_of_ble_eq_true rfl | simp [Value.category]) (by decide) (by decide) (by decide) (by decide) rfl (oc1 l Z a0 hw n0 _ o go (by omega) X1 Foffsets Flo Fcount Fstamp Fshift Fkeys Fids Fstamps Fvalues) ?_
  rintro w h2 ⟨rfl, z2, k, i, s, v, O⟩
  refine o_astore_23_6 (pc := 7) B at_7 rfl rfl ?_
  refine o_iloadN (pc := 9) B at_9 rfl ?_
  refine o_iconst (pc := 10) B (1 : Int32) at_10 (by decide) ?_
  refine o_iand (pc := 11) B at_11 ?_
  refine o_if_ne (pc := 12) (pc' := 177) B at_12 (by decide) (by decide) (fun hc12 => ?_) (fun hc12 => ?_)
  · exact own_tab l Z a0 hw n0 _ κ B mode lo1 x b c d o k i s v (by omega) O
  have eW : (XT.ushr mode 1 &&& 63) + 1 = Int32.ofNat ((XT.ushr mode 1).toBitVec.toNat % 2 ^ 6 + 1) := by
    have e : XT.ushr mode 1 &&& 63 = Int32.ofNat ((XT.ushr mode 1).toBitVec.toNat % 2 ^ 6) := own_and (XT.ushr mode 1) (j := 6) (by decide)
    rw [e, own_one]
  have eC : XT.ushr mode 7 &&& 15 = Int32.ofNat ((XT.ushr mode 7).toBitVec.toNat % 2 ^ 4) := own_and (XT.ushr mode 7) (j := 4) (by decide)
  have mW := Nat.mod_lt (XT.ushr mode 1).toBitVec.toNat (show 0 < 2 ^ 6 by decide)
  have mC := Nat.mod_lt (XT.ushr mode 7).toBitVec.toNat (show 0 < 2 ^ 4 by decide)
  generalize (XT.ushr mode 7).toBitVec.toNat % 2 ^ 4 = C at eC mC
  have hW : 1 ≤ (XT.ushr mode 1).toBitVec.toNat % 2 ^ 6 + 1 ∧ (XT.ushr mode 1).toBitVec.toNat % 2 ^ 6 + 1 ≤ 64 := by omega
  generalize (XT.ushr mode 1).toBitVec.toNat % 2 ^ 6 + 1 = W at eW hW
  have nz : Int32.ofNat W ≠ 0 := own_ne0 (by omega) (by omega)
  refine o_iloadN (pc := 15) B at_15 rfl ?_
  refine o_iconst (pc := 16) B (1 : Int32) at_16 (by decide) ?_
  refine o_iushr (pc := 17) B at_17 ?_
  refine o_bipush (pc := 18) B (63 : Int32) at_18 (by decide) ?_
  refine o_iand (pc := 20) B at_20 ?_
  refine o_iconst (pc := 21) B (1 : Int32) at_21 (by decide) ?_
  refine o_iadd (pc := 22) B at_22 ?_
  rw [eW]
  refine o_istore_23_7 (pc := 23) B at_23 rfl ?_
  refine o_iloadN (pc := 25) B at_25 rfl ?_
  refine o_bipush (pc := 26) B (7 : Int32) at_26 (by decide) ?_
  refine o_iushr (pc := 28) B at_28 ?_
  refine o_bipush (pc := 29) B (15 : Int32) at_29 (by decide) ?_
  refine o_iand (pc := 31) B at_31 ?_
  rw [eC]
  refine o_istore_23_8 (pc := 32) B at_32 rfl ?_
  refine o_iloadN (pc := 34) B at_34 rfl ?_
  refine o_ldc (pc := 35) B (x := (2147483584 : Int32)) at_35 (hw _ (List.mem_of_getElem? (i := 18) rfl)) ?_
  refine o_callS2 (pc := 37) B 0 at_37 (hw _ (List.mem_of_getElem? (i := 19) rfl)) (hw _ (List.mem_of_getElem? (i := 20) rfl)) (hw _ (List.mem_of_getElem? (i := 21) rfl)) (hw _ (List.mem_of_getElem? (i := 22) rfl)) (by decide) pd3 rfl (by first | exact Nat.zero_le _ | exact Nat.le_of_ble_eq_true rfl | simp [Value.category]) (by decide) (by decide) (by decide) (by decide) rfl (oc3 l Z a0 hw n0 _ lo1 2147483584) ?_
  rintro w h3 ⟨⟨base, rfl, hb⟩, rfl⟩
  have hb' : base.toInt ≤ 2147483584 := hb
  refine o_istore_23_9 (pc := 40) B at_40 rfl ?_
  refine o_iload (pc := 42) B at_42 rfl ?_
  refine o_iload (pc := 44) B at_44 rfl ?_
  refine o_iconst (pc := 46) B (1 : Int32) at_46 (by decide) ?_
  refine o_isub (pc := 47) B at_47 ?_
  refine o_iadd (pc := 48) B at_48 ?_
  refine o_istore_23_10 (pc := 49) B at_49 rfl ?_
  refine o_aload (pc := 51) B at_51 rfl rfl ?_
  refine o_iload (pc := 53) B at_53 rfl ?_
  refine o_iload (pc := 55) B at_55 rfl ?_
  refine o_iload (pc := 57) B at_57 rfl ?_
  refine o_callV3 (pc := 59) B 0 at_59 (hw _ (List.mem_of_getElem? (i := 23) rfl)) (hw _ (List.mem_of_getElem? (i := 24) rfl)) (hw _ (List.mem_of_getElem? (i := 26) rfl)) (hw _ (List.mem_of_getElem? (i := 25) rfl)) (hw _ (List.mem_of_getElem? (i := 2) rfl)) (hw _ (List.mem_of_getElem? (i := 27) rfl)) (by decide) pd4 rfl (by first | exact Nat.zero_le _ | exact Nat.le_of_ble_eq_true rfl | simp [Value.category]) (by decide) (by decide) (by decide) (by decide) rfl (O.p_E) (oc4d l Z a0 hw n0 _ o k i s v 0 0 0 0 0 [] [] [] [] _ base _ O (by rw [own_width hW.1 hW.2 hb']; exact own_dense (by omega) hW.2)) ?_
  rintro w h4 ⟨rfl, O4⟩
  rw [own_width hW.1 hW.2 hb', own_narrow (by omega)] at O4
  obtain ⟨I, hI, eI⟩ := own_num x (n := W) (by omega) (by omega)
  obtain ⟨J, hJ, eJ⟩ := own_num b (n := W) (by omega) (by omega)
  refine o_iloadN (pc := 62) B at_62 rfl ?_
  refine o_ldc (pc := 63) B (x := (2147483647 : Int32)) at_63 (hw _ (List.mem_of_getElem? (i := 36) rfl)) ?_
  refine o_iand (pc := 65) B at_65 ?_
  refine o_iload (pc := 66) B at_66 rfl ?_
  refine o_irem (pc := 68) B at_68 (nz) ?_
  rw [eI]
  refine o_istore_23_11 (pc := 69) B at_69 rfl ?_
  refine o_iloadN (pc := 71) B at_71 rfl ?_
  refine o_ldc (pc := 72) B (x := (2147483647 : Int32)) at_72 (hw _ (List.mem_of_getElem? (i := 36) rfl)) ?_
  refine o_iand (pc := 74) B at_74 ?_
  refine o_iload (pc := 75) B at_75 rfl ?_
  refine o_irem (pc := 77) B at_77 (nz) ?_
  rw [eJ]
  refine o_istore_23_12 (pc := 78) B at_78 rfl ?_
  refine o_aload (pc := 80) B at_80 rfl rfl ?_
  refine o_iload (pc := 82) B at_82 rfl ?_
  refine o_iload (pc := 84) B at_84 rfl ?_
  refine o_iadd (pc := 86) B at_86 ?_
  refine o_callV1 (pc := 87) B 0 at_87 (hw _ (List.mem_of_getElem? (i := 37) rfl)) (hw _ (List.mem_of_getElem? (i := 38) rfl)) (hw _ (List.mem_of_getElem? (i := 40) rfl)) (hw _ (List.mem_of_getElem? (i := 39) rfl)) (hw _ (List.mem_of_getElem? (i := 2) rfl)) (hw _ (List.mem_of_getElem? (i := 41) rfl)) (by decide) pd5 rfl (by first | exact Nat.zero_le _ | exact Nat.le_of_ble_eq_true rfl | simp [Value.category]) (by decide) (by decide) (by decide) (by decide) rfl (O4.p_E) (oc5d l Z a0 hw n0 _ o k i s v 1 base _ _ _ _ _ _ _ (base + Int32.ofNat I) O4) ?_
  rintro w h' ⟨rfl, rfl⟩
  rw [own_cancel]
  refine o_iload (pc := 90) B at_90 rfl ?_
  refine o_icmp_ne (pc := 92) (pc' := 99) B at_92 (by decide) (by decide) (fun hc92 => False.elim (hc92 rfl)) (fun hc92 => ?_)
  refine o_iconst (pc := 95) B (1 : Int32) at_95 (by decide) ?_
  refine o_goto (pc := 96) (pc' := 100) B at_96 (by decide) (by decide) ?_
  refine o_istore_23_13 (pc := 100) B at_100 rfl ?_
  refine o_aload (pc := 102) B at_102 rfl rfl ?_
  refine o_iload (pc := 104) B at_104 rfl ?_
  refine o_iload (pc := 106) B at_106 rfl ?_
  refine o_iadd (pc := 108) B at_108 ?_
  refine o_callV1 (pc := 109) B 0 at_109 (hw _ (List.mem_of_getElem? (i := 37) rfl)) (hw _ (List.mem_of_getElem? (i := 38) rfl)) (hw _ (List.mem_of_getElem? (i := 40) rfl)) (hw _ (List.mem_of_getElem? (i := 39) rfl)) (hw _ (List.mem_of_getElem? (i := 2) rfl)) (hw _ (List.mem_of_getElem? (i := 41) rfl)) (by decide) pd5 rfl (by first | exact Nat.zero_le _ | exact Nat.le_of_ble_eq_true rfl | simp [Value.category]) (by decide) (by decide) (by decide) (by decide) rfl (O4.p_E) (oc5d l Z a0 hw n0 _ o k i s v 1 base _ _ _ _ _ _ _ (base + Int32.ofNat J) O4) ?_
  rintro w h' ⟨rfl, rfl⟩
  rw [own_cancel]
  refine o_iload (pc := 112) B at_112 rfl ?_
  refine o_icmp_ne (pc := 114) (pc' := 121) B at_114 (by decide) (by decide) (fun hc114 => False.elim (hc114 rfl)) (fun hc114 => ?_)
  refine o_iconst (pc := 117) B (1 : Int32) at_117 (by decide) ?_
  refine o_goto (pc := 118) (pc' := 122) B at_118 (by decide) (by decide) ?_
  refine o_istore_23_14 (pc := 122) B at_122 rfl ?_
  refine o_aload (pc := 124) B at_124 rfl rfl ?_
  refine o_iload (pc := 126) B at_126 rfl ?_
  refine o_iload (pc := 128) B at_128 rfl ?_
  refine o_iadd (pc := 130) B at_130 ?_
  refine o_callV1 (pc := 131) B 0 at_131 (hw _ (List.mem_of_getElem? (i := 37) rfl)) (hw _ (List.mem_of_getElem? (i := 38) rfl)) (hw _ (List.mem_of_getElem? (i := 40) rfl)) (hw _ (List.mem_of_getElem? (i := 39) rfl)) (hw _ (List.mem_of_getElem? (i := 2) rfl)) (hw _ (List.mem_of_getElem? (i := 41) rfl)) (by decide) pd5 rfl (by first | exact Nat.zero_le _ | exact Nat.le_of_ble_eq_true rfl | simp [Value.category]) (by decide) (by decide) (by decide) (by decide) rfl (O4.p_E) (oc5d l Z a0 hw n0 _ o k i s v 1 base _ _ _ _ _ _ _ (base + Int32.ofNat I) O4) ?_
  rintro w h' ⟨rfl, rfl⟩
  rw [own_cancel]
  refine o_iload (pc := 134) B at_134 rfl ?_
  refine o_icmp_ne (pc := 136) (pc' := 143) B at_136 (by decide) (by decide) (fun hc136 => False.elim (hc136 rfl)) (fun hc136 => ?_)
  refine o_iconst (pc := 139) B (1 : Int32) at_139 (by decide) ?_
  refine o_goto (pc := 140) (pc' := 144) B at_140 (by decide) (by decide) ?_
  refine o_istore_23_15 (pc := 144) B at_144 rfl ?_
  refine o_iload (pc := 146) B at_146 rfl ?_
  refine o_if_eq (pc := 148) (pc' := 175) B at_148 (by decide) (by decide) (fun hc148 => False.elim (by revert hc148; decide)) (fun hc148 => ?_)
  refine o_iload (pc := 151) B at_151 rfl ?_
  refine o_if_eq (pc := 153) (pc' := 175) B at_153 (by decide) (by decide) (fun hc153 => False.elim (by revert hc153; decide)) (fun hc153 => ?_)
  refine o_iload (pc := 156) B at_156 rfl ?_
  refine o_if_eq (pc := 158) (pc' := 175) B at_158 (by decide) (by decide) (fun hc158 => False.elim (by revert hc158; decide)) (fun hc158 => ?_)
  refine o_aload (pc := 161) B at_161 rfl rfl ?_
  refine o_callV0 (pc := 163) B 0 at_163 (hw _ (List.mem_of_getElem? (i := 42) rfl)) (hw _ (List.mem_of_getElem? (i := 43) rfl)) (hw _ (List.mem_of_getElem? (i := 45) rfl)) (hw _ (List.mem_of_getElem? (i := 44) rfl)) (hw _ (List.mem_of_getElem? (i := 2) rfl)) (hw _ (List.mem_of_getElem? (i := 46) rfl)) (by decide) pd6 rfl (by first | exact Nat.zero_le _ | exact Nat.le_of_ble_eq_true rfl | simp [Value.category]) (by decide) (by decide) (by decide) (by decide) rfl (O4.p_E) (oc6 l Z a0 hw n0 _ o _ O4.p_Fcount) ?_
  rintro w h' ⟨rfl, rfl⟩
  refine o_iload (pc := 166) B at_166 rfl ?_
  refine o_icmp_ne (pc := 168) (pc' := 175) B at_168 (by decide) (by decide) (fun hc168 => False.elim (hc168 rfl)) (fun hc168 => ?_)
  refine o_iconst (pc := 171) B (1 : Int32) at_171 (by decide) ?_
  refine o_goto (pc := 172) (pc' := 176) B at_172 (by decide) (by decide) ?_
  exact o_zreturn (pc := 176) B at_176 (by decide) (by decide) (rfl)
set_option maxRecDepth 65536 in
set_option maxHeartbeats 40000000 in
theorem comes_1 {Post : Tables → Env → Array Value → State → Outcome → State → Prop} (hpost : ∀ tb e args s v u, (limb_1_1.after args s (.returned v) u = true ∧ limb_1_2.after args s (.returned v) u = true ∧ True) → FrameEnd s (.returned v) u (Jvm.fieldLocs frame_1_writes args s ++ Jvm.arrayLocs frame_1_arrays args s ++ Jvm.staticLocs frame_1_statics s) 40 384 → Post tb e args s (.returned v) u) :
    ArmFor flags0 classFile x code maxLocals ret World_1 tables_1 room_1 Calls_1 rest_1 Pre_1 Post := by
  intro l hfl _ _ p e ha hc hk s m args below hf hA hF happ hP
  obtain ⟨hcalls, hrest, hpre⟩ := hP
  obtain ⟨-, -, -, hnamed, -, -, -, hat⟩ := (Spec.applies_iff hf).mp happ
  obtain ⟨hg, hn⟩ := and_e (Cond.before_iff.mp (show (Jvm.Cond.and given_1 narrow_1).before args s = true from hpre))
  obtain ⟨hcnt, g0⟩ := and_e hg
  obtain ⟨q0, g1⟩ := and_e g0
  obtain ⟨q1, g2⟩ := and_e g1
  obtain ⟨q2, g3⟩ := and_e g2
  obtain ⟨q3, g4⟩ := and_e g3
  obtain ⟨q4, g5⟩ := and_e g4
  obtain ⟨w0, w1, w2, w3, w4, w5, rfl⟩ : ∃ w0 w1 w2 w3 w4 w5 : Value, args = #[w0, w1, w2, w3, w4, w5] := by
    have hs : args.size = 6 := by simpa [Cond.value, given_1] using hcnt
    obtain ⟨L⟩ := args
    match L, hs with
    | [w0, w1, w2, w3, w4, w5], _ => exact ⟨w0, w1, w2, w3, w4, w5, rfl⟩
  have hw := fun d (hd : d ∈ tables_1) => atoms_spec (ws := Jvm.Cond.code x code maxLocals ret :: tables_1) hat d (List.mem_cons_of_mem _ hd)
  obtain ⟨i0, e0⟩ := is_v q0
  obtain rfl : w0 = (.int i0) := Option.some.inj e0
  obtain ⟨i1, e1⟩ := is_v q1
  obtain rfl : w1 = (.int i1) := Option.some.inj e1
  obtain ⟨i2, e2⟩ := is_v q2
  obtain rfl : w2 = (.int i2) := Option.some.inj e2
  obtain ⟨i3, e3⟩ := is_v q3
  obtain rfl : w3 = (.int i3) := Option.some.inj e3
  obtain ⟨i4, e4⟩ := is_v q4
  obtain rfl : w4 = (.int i4) := Option.some.inj e4
  obtain ⟨i5, e5⟩ := is_v g5
  obtain rfl : w5 = (.int i5) := Option.some.inj e5
  obtain ⟨n, o, h1, h2, h3, _, L, rfl, ⟨rfl, N⟩, hq⟩ := (oc0 l s _ hw s.heap.size s.heap i0 i1 i2 i3 i4 i5 (Nat.le_refl _)) tables_1 p e ha hc hk s m _ below hf ((Spec.applies_iff_loose hf).mp happ).1 ⟨rfl, State.Warmed39.refl s, rfl⟩ trivial
  refine ⟨n, _, h1, h2, h3, hpost _ _ _ _ _ _ ⟨Cond.after_iff.mpr rfl, Cond.after_iff.mpr (eq_i res_at (Term.int_eval (1)) rfl), trivial⟩ ⟨hq.1, hq.2.1, (hq.2.2.sift fun y hy => Or.inr (N y hy)).mono (by decide) (by decide)⟩⟩
theorem main_1_1 : Claimed_1_1 := comes_1 fun _ _ _ _ _ _ h hF => ⟨h.1, hF⟩
theorem main_1_2 : Claimed_1_2 := comes_1 fun _ _ _ _ _ _ h hF => ⟨h.2.1, hF⟩
end Jvm.Pilot.@@N@@
namespace Jvm.Pilot.@@N@@
open Jvm Jvm.ClassFile Sem Op Lib Jvm.Free Jvm.Stand Jvm.Pilot.@@N@@.Jvm.D
/-! MADE BY PROGRAM (witnessworld.py) out of the Statement's table words and the real class files: 15 classes; the members and pool entries that the words name. The judged class is class 1, her method 1. -/
namespace start1
open Jvm.ClassFile
def u (s : String) : CpInfo := .utf8 (stringToUtf16 s)
/-- a pool by its gaps: so many unusable entries, then the entry; so many at the end -/
def gap : Nat → List CpInfo → List CpInfo
  | 0, r => r
  | n + 1, r => .unusable :: gap n r
def poolList (es : List (Nat × CpInfo)) (last : Nat) : List CpInfo := es.foldr (fun e r => gap e.1 (e.2 :: r)) (gap last [])
def pool (es : List (Nat × CpInfo)) (last : Nat) : Array CpInfo := ⟨poolList es last⟩
def fileOf (pool : Array CpInfo) (this : Nat) (attrs : Array Attribute := #[]) (ms : Array MethodInfo := #[]) (fl : Nat := 33) (sup : Nat := 0) (ifs : Array Nat := #[]) (fds : Array FieldInfo := #[]) : ClassFile where
  minorVersion := 0
  majorVersion := 65
  constantPool := pool
  accessFlags := fl
  thisClass := this
  superClass := sup
  interfaces := ifs
  fields := fds
  methods := ms
  attributes := attrs
def plain (name : String) (sup : Option ClassId) : Class where
  name := name
  kind := .ordinary
  loader := none
  accessFlags := 33
  super := sup
  interfaces := #[]
  cf := none
  fields := #[]
  methods := #[]
  instanceTypes := #[]
  staticTypes := #[]
  resolved := #[]
  callSites := []
  init := .initialized
  statics := none
  mirror := none

def pool0 : Array CpInfo := pool [(5, u "<init>"), (0, u "()V"), (1, .class_ 10), (1, u "java/lang/Object")] 113

def k0c0 : Code := { maxStack := 0, maxLocals := 1, code := object_method_1_code, exceptionTable := #[], attributes := #[] }
def k0m0 : Method := { name := "<init>", desc := "()V", sig := { parameters := [], returnType := none }, accessFlags := 1, code := some k0c0 }
/-- java/lang/Object -/
def k0 : Class := { plain "java/lang/Object" none with
  accessFlags := 33
  interfaces := #[]
  cf := some (fileOf pool0 8 #[] #[{ accessFlags := 1, nameIndex := 5, descriptorIndex := 6, attributes := #[] }] 33 0 #[] #[])
  fields := #[]
  methods := #[k0m0]
  instanceTypes := #[]
  staticTypes := #[]
  resolved := Array.replicate 124 none
  statics := none }

def pool1 : Array CpInfo := pool [(2, .class_ 4), (0, .nameAndType 5 6), (0, u "java/lang/Object"), (0, u "<init>"), (0, u "()V"), (0, .class_ 8), (0, u "com/example/trailhead/trailhead/globals/ValueIds"), (0, .methodref 7 3), (2, .integer 2147483584), (0, .methodref 14 15), (0, .class_ 16), (0, .nameAndType 17 18), (0, u "java/lang/Math"), (0, u "min"), (0, u "(II)I"), (0, .methodref 7 20), (0, .nameAndType 21 22), (0, u "clear"), (0, u "(III)V"), (0, .integer 2147483647), (0, .methodref 7 25), (0, .nameAndType 26 27), (0, u "idOf"), (0, u "(I)I"), (0, .methodref 7 29), (0, .nameAndType 30 31), (0, u "size"), (0, u "()I"), (0, .integer 2147483648), (0, .class_ 34), (0, u "com/example/trailhead/trailhead/globals/ValueIdsIdOfPinLaw"), (2, u "law"), (0, u "(IIIIII)Z")] 3

def k1m0 : Method := { name := "<init>", desc := "()V", sig := { parameters := [], returnType := none }, accessFlags := 1, code := none }
def k1c1 : Code := { maxStack := 4, maxLocals := 23, code := code, exceptionTable := #[], attributes := #[] }
def k1m1 : Method := { name := "law", desc := "(IIIIII)Z", sig := { parameters := [.int, .int, .int, .int, .int, .int], returnType := some .boolean }, accessFlags := 9, code := some k1c1 }
/-- com/example/trailhead/trailhead/globals/ValueIdsIdOfPinLaw -/
def k1 : Class := { plain "com/example/trailhead/trailhead/globals/ValueIdsIdOfPinLaw" (some 0) with
  accessFlags := 49
  interfaces := #[]
  cf := some (fileOf pool1 33 #[] #[{ accessFlags := 1, nameIndex := 5, descriptorIndex := 6, attributes := #[] }, { accessFlags := 9, nameIndex := 37, descriptorIndex := 38, attributes := #[] }] 49 2 #[] #[])
  fields := #[]
  methods := #[k1m0, k1m1]
  instanceTypes := #[]
  staticTypes := #[]
  resolved := Array.replicate 42 none
  statics := none }

def pool2 : Array CpInfo := pool [(1, .methodref 2 3), (0, .class_ 4), (0, .nameAndType 5 6), (0, u "java/lang/Object"), (0, u "<init>"), (0, u "()V"), (0, .fieldref 8 9), (0, .class_ 10), (0, .nameAndType 11 12), (0, u "com/example/trailhead/trailhead/globals/ValueIds"), (0, u "keys"), (0, u "[I"), (0, .fieldref 8 14), (0, .nameAndType 15 12), (0, u "ids"), (0, .fieldref 8 17), (0, .nameAndType 18 12), (0, u "stamps"), (0, .fieldref 8 20), (0, .nameAndType 21 12), (0, u "values"), (0, .long 4), (1, .long 64), (1, .fieldref 8 27), (0, .nameAndType 28 29), (0, u "offsets"), (0, u "Z"), (0, .fieldref 8 31), (0, .nameAndType 32 33), (0, u "lo"), (0, u "I"), (0, .fieldref 8 35), (0, .nameAndType 36 33), (0, u "count"), (0, .long 2), (1, .methodref 40 41), (0, .class_ 42), (0, .nameAndType 43 44), (0, u "java/lang/Integer"), (0, u "highestOneBit"), (0, u "(I)I"), (0, .methodref 40 46), (0, .nameAndType 47 44), (0, u "numberOfLeadingZeros"), (0, .fieldref 8 49), (0, .nameAndType 50 33), (0, u "shift"), (0, .fieldref 8 52), (0, .nameAndType 53 33), (0, u "stamp"), (0, .integer 2147483647), (6, .integer 2654435769), (0, u "GOLDEN"), (3, u "clear"), (0, u "(III)V"), (1, u "idOf"), (1, u "size"), (0, u "()I")] 2

def k2c0 : Code := { maxStack := 2, maxLocals := 1, code := prog_74_method_1_code, exceptionTable := #[], attributes := #[] }
def k2m0 : Method := { name := "<init>", desc := "()V", sig := { parameters := [], returnType := none }, accessFlags := 0, code := some k2c0 }
def k2c1 : Code := { maxStack := 7, maxLocals := 7, code := prog_74_method_2_code, exceptionTable := #[], attributes := #[] }
def k2m1 : Method := { name := "clear", desc := "(III)V", sig := { parameters := [.int, .int, .int], returnType := none }, accessFlags := 0, code := some k2c1 }
def k2c2 : Code := { maxStack := 3, maxLocals := 4, code := prog_74_method_3_code, exceptionTable := #[], attributes := #[] }
def k2m2 : Method := { name := "idOf", desc := "(I)I", sig := { parameters := [.int], returnType := some .int }, accessFlags := 0, code := some k2c2 }
def k2c3 : Code := { maxStack := 1, maxLocals := 1, code := prog_74_method_5_code, exceptionTable := #[], attributes := #[] }
def k2m3 : Method := { name := "size", desc := "()I", sig := { parameters := [], returnType := some .int }, accessFlags := 0, code := some k2c3 }
/-- com/example/trailhead/trailhead/globals/ValueIds -/
def k2 : Class := { plain "com/example/trailhead/trailhead/globals/ValueIds" (some 0) with
  accessFlags := 48
  interfaces := #[]
  cf := some (fileOf pool2 8 #[] #[{ accessFlags := 0, nameIndex := 5, descriptorIndex := 6, attributes := #[] }, { accessFlags := 0, nameIndex := 66, descriptorIndex := 67, attributes := #[] }, { accessFlags := 0, nameIndex := 69, descriptorIndex := 44, attributes := #[] }, { accessFlags := 0, nameIndex := 71, descriptorIndex := 72, attributes := #[] }] 48 2 #[] #[{ accessFlags := 26, nameIndex := 62, descriptorIndex := 33, attributes := #[] }, { accessFlags := 2, nameIndex := 28, descriptorIndex := 29, attributes := #[] }, { accessFlags := 2, nameIndex := 32, descriptorIndex := 33, attributes := #[] }, { accessFlags := 2, nameIndex := 36, descriptorIndex := 33, attributes := #[] }, { accessFlags := 2, nameIndex := 11, descriptorIndex := 12, attributes := #[] }, { accessFlags := 2, nameIndex := 15, descriptorIndex := 12, attributes := #[] }, { accessFlags := 2, nameIndex := 18, descriptorIndex := 12, attributes := #[] }, { accessFlags := 2, nameIndex := 53, descriptorIndex := 33, attributes := #[] }, { accessFlags := 2, nameIndex := 50, descriptorIndex := 33, attributes := #[] }, { accessFlags := 2, nameIndex := 21, descriptorIndex := 12, attributes := #[] }])
  fields := #[{ name := "GOLDEN", type := .int, accessFlags := 26, slot := 0, constantValue := 0 }, { name := "offsets", type := .boolean, accessFlags := 2, slot := 0, constantValue := 0 }, { name := "lo", type := .int, accessFlags := 2, slot := 1, constantValue := 0 }, { name := "count", type := .int, accessFlags := 2, slot := 2, constantValue := 0 }, { name := "keys", type := (.array .int), accessFlags := 2, slot := 3, constantValue := 0 }, { name := "ids", type := (.array .int), accessFlags := 2, slot := 4, constantValue := 0 }, { name := "stamps", type := (.array .int), accessFlags := 2, slot := 5, constantValue := 0 }, { name := "stamp", type := .int, accessFlags := 2, slot := 6, constantValue := 0 }, { name := "shift", type := .int, accessFlags := 2, slot := 7, constantValue := 0 }, { name := "values", type := (.array .int), accessFlags := 2, slot := 8, constantValue := 0 }]
  methods := #[k2m0, k2m1, k2m2, k2m3]
  instanceTypes := #[.boolean, .int, .int, (.array .int), (.array .int), (.array .int), .int, .int, (.array .int)]
  staticTypes := #[.int]
  resolved := Array.replicate 75 none
  statics := none }

def pool3 : Array CpInfo := pool [(1, .class_ 2), (0, u "java/lang/Math"), (1, .class_ 6), (1, u "java/lang/Object"), (0, u "<init>"), (0, u "()V"), (89, .class_ 100), (1, u "java/lang/Math$RandomNumberGeneratorHolder"), (71, u "negativeZeroFloatBits"), (0, u "J"), (2, u "negativeZeroDoubleBits"), (24, u "min"), (43, u "$assertionsDisabled"), (0, u "Z"), (88, u "(II)I"), (2, u "twoToTheDoubleScaleDown"), (0, u "D"), (4, u "twoToTheDoubleScaleUp"), (9, u "E"), (3, u "PI"), (2, u "TAU"), (2, u "DEGREES_TO_RADIANS"), (0, u "RADIANS_TO_DEGREES")] 94

def k3m0 : Method := { name := "<init>", desc := "()V", sig := { parameters := [], returnType := none }, accessFlags := 2, code := none }
def k3c1 : Code := { maxStack := 2, maxLocals := 2, code := jdk_29_method_69_code, exceptionTable := #[], attributes := #[] }
def k3m1 : Method := { name := "min", desc := "(II)I", sig := { parameters := [.int, .int], returnType := some .int }, accessFlags := 9, code := some k3c1 }
/-- java/lang/Math -/
def k3 : Class := { plain "java/lang/Math" (some 0) with
  accessFlags := 49
  interfaces := #[]
  cf := some (fileOf pool3 1 #[.nestMembers #[98]] #[{ accessFlags := 2, nameIndex := 7, descriptorIndex := 8, attributes := #[] }, { accessFlags := 9, nameIndex := 201, descriptorIndex := 335, attributes := #[] }] 49 4 #[] #[{ accessFlags := 25, nameIndex := 354, descriptorIndex := 339, attributes := #[] }, { accessFlags := 25, nameIndex := 358, descriptorIndex := 339, attributes := #[] }, { accessFlags := 25, nameIndex := 361, descriptorIndex := 339, attributes := #[] }, { accessFlags := 26, nameIndex := 364, descriptorIndex := 339, attributes := #[] }, { accessFlags := 26, nameIndex := 365, descriptorIndex := 339, attributes := #[] }, { accessFlags := 26, nameIndex := 172, descriptorIndex := 173, attributes := #[] }, { accessFlags := 26, nameIndex := 176, descriptorIndex := 173, attributes := #[] }, { accessFlags := 8, nameIndex := 344, descriptorIndex := 339, attributes := #[] }, { accessFlags := 8, nameIndex := 338, descriptorIndex := 339, attributes := #[] }, { accessFlags := 4120, nameIndex := 245, descriptorIndex := 246, attributes := #[] }])
  fields := #[{ name := "E", type := .double, accessFlags := 25, slot := 0, constantValue := 0 }, { name := "PI", type := .double, accessFlags := 25, slot := 1, constantValue := 0 }, { name := "TAU", type := .double, accessFlags := 25, slot := 2, constantValue := 0 }, { name := "DEGREES_TO_RADIANS", type := .double, accessFlags := 26, slot := 3, constantValue := 0 }, { name := "RADIANS_TO_DEGREES", type := .double, accessFlags := 26, slot := 4, constantValue := 0 }, { name := "negativeZeroFloatBits", type := .long, accessFlags := 26, slot := 5, constantValue := 0 }, { name := "negativeZeroDoubleBits", type := .long, accessFlags := 26, slot := 6, constantValue := 0 }, { name := "twoToTheDoubleScaleUp", type := .double, accessFlags := 8, slot := 7, constantValue := 0 }, { name := "twoToTheDoubleScaleDown", type := .double, accessFlags := 8, slot := 8, constantValue := 0 }, { name := "$assertionsDisabled", type := .boolean, accessFlags := 4120, slot := 9, constantValue := 0 }]
  methods := #[k3m0, k3m1]
  instanceTypes := #[]
  staticTypes := #[.double, .double, .double, .double, .double, .long, .long, .double, .double, .boolean]
  resolved := Array.replicate 460 none
  statics := none }

def pool4 : Array CpInfo := pool [(1, .class_ 2), (0, u "java/io/Serializable"), (0, .class_ 4), (0, u "java/lang/Object")] 2

/-- java/io/Serializable -/
def k4 : Class := { plain "java/io/Serializable" (some 0) with
  accessFlags := 1537
  interfaces := #[]
  cf := some (fileOf pool4 1 #[] #[] 1537 3 #[] #[])
  fields := #[]
  methods := #[]
  instanceTypes := #[]
  staticTypes := #[]
  resolved := Array.replicate 7 none
  statics := none }

def pool5 : Array CpInfo := pool [(2, .class_ 4), (1, u "java/lang/Object"), (0, u "<init>"), (0, u "()V"), (1, .class_ 10), (1, u "java/lang/Number"), (2, .class_ 14), (0, u "java/io/Serializable"), (0, u "serialVersionUID"), (0, u "J")] 20

def k5m0 : Method := { name := "<init>", desc := "()V", sig := { parameters := [], returnType := none }, accessFlags := 1, code := none }
/-- java/lang/Number -/
def k5 : Class := { plain "java/lang/Number" (some 0) with
  accessFlags := 1057
  interfaces := #[4]
  cf := some (fileOf pool5 8 #[] #[{ accessFlags := 1, nameIndex := 5, descriptorIndex := 6, attributes := #[] }] 1057 2 #[13] #[{ accessFlags := 26, nameIndex := 15, descriptorIndex := 16, attributes := #[] }])
  fields := #[{ name := "serialVersionUID", type := .long, accessFlags := 26, slot := 0, constantValue := 0 }]
  methods := #[k5m0]
  instanceTypes := #[]
  staticTypes := #[.long]
  resolved := Array.replicate 37 none
  statics := none }

def pool6 : Array CpInfo := pool [(1, .class_ 2), (0, u "java/lang/Comparable"), (0, .class_ 4), (0, u "java/lang/Object")] 7

/-- java/lang/Comparable -/
def k6 : Class := { plain "java/lang/Comparable" (some 0) with
  accessFlags := 1537
  interfaces := #[]
  cf := some (fileOf pool6 1 #[] #[] 1537 3 #[] #[])
  fields := #[]
  methods := #[]
  instanceTypes := #[]
  staticTypes := #[]
  resolved := Array.replicate 12 none
  statics := none }

def pool7 : Array CpInfo := pool [(1, .class_ 2), (0, u "java/lang/constant/Constable"), (0, .class_ 4), (0, u "java/lang/Object")] 6

/-- java/lang/constant/Constable -/
def k7 : Class := { plain "java/lang/constant/Constable" (some 0) with
  accessFlags := 1537
  interfaces := #[]
  cf := some (fileOf pool7 1 #[] #[] 1537 3 #[] #[])
  fields := #[]
  methods := #[]
  instanceTypes := #[]
  staticTypes := #[]
  resolved := Array.replicate 11 none
  statics := none }

def pool8 : Array CpInfo := pool [(1, .class_ 2), (0, u "java/lang/constant/ConstantDesc"), (0, .class_ 4), (0, u "java/lang/Object")] 32

/-- java/lang/constant/ConstantDesc -/
def k8 : Class := { plain "java/lang/constant/ConstantDesc" (some 0) with
  accessFlags := 1537
  interfaces := #[]
  cf := some (fileOf pool8 1 #[] #[] 1537 3 #[] #[])
  fields := #[]
  methods := #[]
  instanceTypes := #[]
  staticTypes := #[]
  resolved := Array.replicate 37 none
  statics := none }

def pool9 : Array CpInfo := pool [(1, .class_ 2), (0, u "java/lang/Integer"), (16, u "digits"), (0, u "[C"), (30, .methodref 1 52), (0, .nameAndType 53 54), (0, u "numberOfLeadingZeros"), (0, u "(I)I"), (30, u "DigitOnes"), (0, u "[B"), (2, u "DigitTens"), (37, .integer 2147483648), (61, .class_ 190), (0, u "java/lang/Integer$IntegerCache"), (3, u "I"), (8, .class_ 204), (0, u "java/lang/Number"), (2, u "value"), (56, .integer 65536), (37, u "TYPE"), (0, u "Ljava/lang/Class;"), (0, .class_ 305), (0, u "java/lang/Comparable"), (0, .class_ 307), (0, u "java/lang/constant/Constable"), (0, .class_ 309), (0, u "java/lang/constant/ConstantDesc"), (0, u "MIN_VALUE"), (1, u "MAX_VALUE"), (3, u "SIZE"), (1, u "BYTES"), (1, u "serialVersionUID"), (0, u "J"), (81, u "highestOneBit")] 49

def k9c0 : Code := { maxStack := 3, maxLocals := 1, code := jdk_33_method_45_code, exceptionTable := #[], attributes := #[] }
def k9m0 : Method := { name := "highestOneBit", desc := "(I)I", sig := { parameters := [.int], returnType := some .int }, accessFlags := 9, code := some k9c0 }
def k9c1 : Code := { maxStack := 3, maxLocals := 2, code := jdk_33_method_47_code, exceptionTable := #[], attributes := #[] }
def k9m1 : Method := { name := "numberOfLeadingZeros", desc := "(I)I", sig := { parameters := [.int], returnType := some .int }, accessFlags := 9, code := some k9c1 }
/-- java/lang/Integer -/
def k9 : Class := { plain "java/lang/Integer" (some 5) with
  accessFlags := 49
  interfaces := #[6, 7, 8]
  cf := some (fileOf pool9 1 #[.nestMembers #[189]] #[{ accessFlags := 9, nameIndex := 403, descriptorIndex := 54, attributes := #[] }, { accessFlags := 9, nameIndex := 53, descriptorIndex := 54, attributes := #[] }] 49 203 #[304, 306, 308] #[{ accessFlags := 25, nameIndex := 310, descriptorIndex := 194, attributes := #[] }, { accessFlags := 25, nameIndex := 312, descriptorIndex := 194, attributes := #[] }, { accessFlags := 25, nameIndex := 302, descriptorIndex := 303, attributes := #[] }, { accessFlags := 24, nameIndex := 19, descriptorIndex := 20, attributes := #[] }, { accessFlags := 24, nameIndex := 89, descriptorIndex := 86, attributes := #[] }, { accessFlags := 24, nameIndex := 85, descriptorIndex := 86, attributes := #[] }, { accessFlags := 18, nameIndex := 207, descriptorIndex := 194, attributes := #[] }, { accessFlags := 25, nameIndex := 316, descriptorIndex := 194, attributes := #[] }, { accessFlags := 25, nameIndex := 318, descriptorIndex := 194, attributes := #[] }, { accessFlags := 26, nameIndex := 320, descriptorIndex := 321, attributes := #[] }])
  fields := #[{ name := "MIN_VALUE", type := .int, accessFlags := 25, slot := 0, constantValue := 0 }, { name := "MAX_VALUE", type := .int, accessFlags := 25, slot := 1, constantValue := 0 }, { name := "TYPE", type := (.object "java/lang/Class"), accessFlags := 25, slot := 2, constantValue := 0 }, { name := "digits", type := (.array .char), accessFlags := 24, slot := 3, constantValue := 0 }, { name := "DigitTens", type := (.array .byte), accessFlags := 24, slot := 4, constantValue := 0 }, { name := "DigitOnes", type := (.array .byte), accessFlags := 24, slot := 5, constantValue := 0 }, { name := "value", type := .int, accessFlags := 18, slot := 0, constantValue := 0 }, { name := "SIZE", type := .int, accessFlags := 25, slot := 6, constantValue := 0 }, { name := "BYTES", type := .int, accessFlags := 25, slot := 7, constantValue := 0 }, { name := "serialVersionUID", type := .long, accessFlags := 26, slot := 8, constantValue := 0 }]
  methods := #[k9m0, k9m1]
  instanceTypes := #[.int]
  staticTypes := #[.int, .int, (.object "java/lang/Class"), (.array .char), (.array .byte), (.array .byte), .int, .int, .long]
  resolved := Array.replicate 453 none
  statics := none }

def pool10 : Array CpInfo := pool [(1, u "java/lang/Cloneable"), (0, .class_ 1), (0, u "java/lang/Object"), (0, .class_ 3)] 3

/-- java/lang/Cloneable -/
def k10 : Class := { plain "java/lang/Cloneable" (some 0) with
  accessFlags := 1537
  interfaces := #[]
  cf := some (fileOf pool10 2 #[] #[] 1537 4 #[] #[])
  fields := #[]
  methods := #[]
  instanceTypes := #[]
  staticTypes := #[]
  resolved := Array.replicate 8 none
  statics := none }

/-- the primitive byte -/
def k11 : Class := { plain "byte" none with kind := .primitive 'B', accessFlags := 0x411 }
/-- [B -/
def k12 : Class := { plain "[B" (some 0) with kind := .array 11 .byte, interfaces := #[10, 4], accessFlags := 1041 }

/-- the primitive int -/
def k13 : Class := { plain "int" none with kind := .primitive 'I', accessFlags := 0x411 }
/-- [I -/
def k14 : Class := { plain "[I" (some 0) with kind := .array 13 .int, interfaces := #[10, 4], accessFlags := 1041 }

def heap : Heap := #[]
def classes : Array Class := #[k0, k1, k2, k3, k4, k5, k6, k7, k8, k9, k10, k11, k12, k13, k14]
def interned : List (Array UInt16 × Addr) := []
def slotsUsed : Nat := 0
def theMethod : MethodId := ⟨1, 1⟩
def args0 : Array Value := #[.int 5, .int 7, .int 3, .int 9, .int 2, .int 4]
def aboutOver (below : List Frame) : State where
  vm := { classes := classes, interned := interned.toArray }
  heap := heap
  slotsUsed := slotsUsed
  threads := #[{ frames := .invoking theMethod args0 :: below }]
def below0 : List Frame := [.native { method := ⟨0, 0⟩, args := #[] }]
def about1 : State := aboutOver below0
def p0 : Program := .bare "" "" ""
def e0 : Env := launch0.env 0 0 0
theorem w_frames : about1.frames = Frame.invoking theMethod args0 :: below0 := rfl
set_option maxRecDepth 65536 in
theorem w_args : argsFit about1.vm theMethod args0 = true := by decide +kernel
set_option maxRecDepth 65536 in
theorem w_heap : heapFits about1 = true := by decide +kernel
set_option maxRecDepth 65536 in
theorem w_runnable : about1.curStatus? = some .runnable := by decide +kernel
set_option maxRecDepth 65536 in
theorem w_alone : about1.alone = true := by decide +kernel
set_option maxRecDepth 65536 in
theorem w_named : about1.methodNamed? x = some theMethod := by decide +kernel
set_option maxRecDepth 65536 in
theorem w_hears : about1.hears theMethod below0 = true := by decide +kernel
set_option maxRecDepth 65536 in
theorem w_ripe : about1.ripe theMethod args0 below0 = true := by decide +kernel
theorem w_running : about1.status = .running := rfl
set_option maxRecDepth 65536 in
theorem w_room : about1.hasRoom e0.platform room_1 = true :=
  launch0.hasRoom_least _ room_1 (by decide +kernel) (by decide +kernel) (by decide +kernel) (by decide +kernel) (by decide +kernel) (by decide +kernel)
theorem allAtoms_all (ts : List Jvm.Cond) (a : Array Jvm.Value) (st : Jvm.State) : (allAtoms ts).before a st = ts.all (fun c => c.before a st) := by
  induction ts with
  | nil => rfl
  | cons c t ih =>
    show (Jvm.Cond.and c (allAtoms t)).before a st = _
    rw [Jvm.Cond.before_and, ih, List.all_cons]
def words1 : List Jvm.Cond := Jvm.Cond.code x code maxLocals ret :: tables_1
/-- a 'code' word, met by the world's own term for the bytes: nothing is compared byte by byte -/
theorem code_word {y : MethodName} {bytes : ByteArray} {mx : Nat} {rt : Option FieldType} {a : Array Value} {s : State} {m : MethodId} {meth : Method} {c : Code} (h1 : s.methodNamed? y = some m) (h2 : s.vm.method? m = some meth) (h3 : meth.code = some c) (h4 : c.code = bytes)
    (h5 : (c.maxLocals == mx && c.exceptionTable.isEmpty && decide (c.maxStack ≤ mostOperands) && decide (meth.sig.returnType = rt) && !meth.locks && decide (parseMethodDescriptor y.desc = some meth.sig)) = true) : (Jvm.Cond.code y bytes mx rt).before a s = true := by
  simp only [Bool.and_eq_true, beq_iff_eq, Bool.not_eq_true', decide_eq_true_eq] at h5
  obtain ⟨⟨⟨⟨⟨g1, g2⟩, g3⟩, g4⟩, g5⟩, g6⟩ := h5
  simp [Cond.before, Cond.holds, Cond.value, h1, h2, h3, h4, g1, g2, g3, g4, g5, g6]
def isCode : Jvm.Cond → Bool
  | .code _ _ _ _ => true
  | _ => false
theorem all_split {L : List Jvm.Cond} {P : Jvm.Cond → Bool} (h1 : L.all (fun c => isCode c || P c) = true) (h2 : ∀ c ∈ L.filter isCode, P c = true) : L.all P = true := by
  refine List.all_eq_true.mpr fun c hc => ?_
  have h := List.all_eq_true.mp h1 c hc
  rcases Bool.eq_false_or_eq_true (isCode c) with hi | hi
  · exact h2 c (List.mem_filter.mpr ⟨hc, hi⟩)
  · simpa [hi] using h
set_option maxRecDepth 65536 in
theorem w_c0 : (Jvm.Cond.code x code maxLocals ret).before args0 about1 = true := code_word (m := ⟨1, 1⟩) (meth := k1m1) (c := k1c1) (by decide +kernel) rfl rfl rfl (by decide +kernel)
set_option maxRecDepth 65536 in
theorem w_c1 : (Jvm.Cond.code ({ cls := "com/example/trailhead/trailhead/globals/ValueIds", name := "<init>", desc := "()V" } : Jvm.MethodName) prog_74_method_1_code (1 : Nat) (Option.none : Option Jvm.ClassFile.FieldType)).before args0 about1 = true := code_word (m := ⟨2, 0⟩) (meth := k2m0) (c := k2c0) (by decide +kernel) rfl rfl rfl (by decide +kernel)
set_option maxRecDepth 65536 in
theorem w_c2 : (Jvm.Cond.code ({ cls := "java/lang/Object", name := "<init>", desc := "()V" } : Jvm.MethodName) object_method_1_code (1 : Nat) (Option.none : Option Jvm.ClassFile.FieldType)).before args0 about1 = true := code_word (m := ⟨0, 0⟩) (meth := k0m0) (c := k0c0) (by decide +kernel) rfl rfl rfl (by decide +kernel)
set_option maxRecDepth 65536 in
theorem w_c3 : (Jvm.Cond.code ({ cls := "java/lang/Math", name := "min", desc := "(II)I" } : Jvm.MethodName) jdk_29_method_69_code (2 : Nat) (Option.some Jvm.ClassFile.FieldType.int)).before args0 about1 = true := code_word (m := ⟨3, 1⟩) (meth := k3m1) (c := k3c1) (by decide +kernel) rfl rfl rfl (by decide +kernel)
set_option maxRecDepth 65536 in
theorem w_c4 : (Jvm.Cond.code ({ cls := "com/example/trailhead/trailhead/globals/ValueIds", name := "clear", desc := "(III)V" } : Jvm.MethodName) prog_74_method_2_code (7 : Nat) (Option.none : Option Jvm.ClassFile.FieldType)).before args0 about1 = true := code_word (m := ⟨2, 1⟩) (meth := k2m1) (c := k2c1) (by decide +kernel) rfl rfl rfl (by decide +kernel)
set_option maxRecDepth 65536 in
theorem w_c5 : (Jvm.Cond.code ({ cls := "com/example/trailhead/trailhead/globals/ValueIds", name := "idOf", desc := "(I)I" } : Jvm.MethodName) prog_74_method_3_code (4 : Nat) (Option.some Jvm.ClassFile.FieldType.int)).before args0 about1 = true := code_word (m := ⟨2, 2⟩) (meth := k2m2) (c := k2c2) (by decide +kernel) rfl rfl rfl (by decide +kernel)
set_option maxRecDepth 65536 in
theorem w_c6 : (Jvm.Cond.code ({ cls := "com/example/trailhead/trailhead/globals/ValueIds", name := "size", desc := "()I" } : Jvm.MethodName) prog_74_method_5_code (1 : Nat) (Option.some Jvm.ClassFile.FieldType.int)).before args0 about1 = true := code_word (m := ⟨2, 3⟩) (meth := k2m3) (c := k2c3) (by decide +kernel) rfl rfl rfl (by decide +kernel)
set_option maxRecDepth 65536 in
theorem w_c7 : (Jvm.Cond.code ({ cls := "java/lang/Integer", name := "highestOneBit", desc := "(I)I" } : Jvm.MethodName) jdk_33_method_45_code (1 : Nat) (Option.some Jvm.ClassFile.FieldType.int)).before args0 about1 = true := code_word (m := ⟨9, 0⟩) (meth := k9m0) (c := k9c0) (by decide +kernel) rfl rfl rfl (by decide +kernel)
set_option maxRecDepth 65536 in
theorem w_c8 : (Jvm.Cond.code ({ cls := "java/lang/Integer", name := "numberOfLeadingZeros", desc := "(I)I" } : Jvm.MethodName) jdk_33_method_47_code (2 : Nat) (Option.some Jvm.ClassFile.FieldType.int)).before args0 about1 = true := code_word (m := ⟨9, 1⟩) (meth := k9m1) (c := k9c1) (by decide +kernel) rfl rfl rfl (by decide +kernel)
def codes1 : List Jvm.Cond := [Jvm.Cond.code x code maxLocals ret, Jvm.Cond.code ({ cls := "com/example/trailhead/trailhead/globals/ValueIds", name := "<init>", desc := "()V" } : Jvm.MethodName) prog_74_method_1_code (1 : Nat) (Option.none : Option Jvm.ClassFile.FieldType), Jvm.Cond.code ({ cls := "java/lang/Object", name := "<init>", desc := "()V" } : Jvm.MethodName) object_method_1_code (1 : Nat) (Option.none : Option Jvm.ClassFile.FieldType), Jvm.Cond.code ({ cls := "java/lang/Math", name := "min", desc := "(II)I" } : Jvm.MethodName) jdk_29_method_69_code (2 : Nat) (Option.some Jvm.ClassFile.FieldType.int), Jvm.Cond.code ({ cls := "com/example/trailhead/trailhead/globals/ValueIds", name := "clear", desc := "(III)V" } : Jvm.MethodName) prog_74_method_2_code (7 : Nat) (Option.none : Option Jvm.ClassFile.FieldType), Jvm.Cond.code ({ cls := "com/example/trailhead/trailhead/globals/ValueIds", name := "idOf", desc := "(I)I" } : Jvm.MethodName) prog_74_method_3_code (4 : Nat) (Option.some Jvm.ClassFile.FieldType.int), Jvm.Cond.code ({ cls := "com/example/trailhead/trailhead/globals/ValueIds", name := "size", desc := "()I" } : Jvm.MethodName) prog_74_method_5_code (1 : Nat) (Option.some Jvm.ClassFile.FieldType.int), Jvm.Cond.code ({ cls := "java/lang/Integer", name := "highestOneBit", desc := "(I)I" } : Jvm.MethodName) jdk_33_method_45_code (1 : Nat) (Option.some Jvm.ClassFile.FieldType.int), Jvm.Cond.code ({ cls := "java/lang/Integer", name := "numberOfLeadingZeros", desc := "(I)I" } : Jvm.MethodName) jdk_33_method_47_code (2 : Nat) (Option.some Jvm.ClassFile.FieldType.int)]
set_option maxRecDepth 65536 in
theorem codes_eq : words1.filter isCode = codes1 := rfl
theorem w_codes : ∀ c ∈ words1.filter isCode, c.before args0 about1 = true := by
  rw [codes_eq]
  intro c hc
  simp only [codes1, List.mem_cons, List.not_mem_nil, or_false] at hc
  rcases hc with rfl | rfl | rfl | rfl | rfl | rfl | rfl | rfl | rfl
  · exact w_c0
  · exact w_c1
  · exact w_c2
  · exact w_c3
  · exact w_c4
  · exact w_c5
  · exact w_c6
  · exact w_c7
  · exact w_c8
set_option maxRecDepth 65536 in
theorem w_t1 : (words1.take 24).all (fun c => isCode c || c.before args0 about1) = true := by decide +kernel
set_option maxRecDepth 65536 in
theorem w_t2 : ((words1.drop 24).take 24).all (fun c => isCode c || c.before args0 about1) = true := by decide +kernel
set_option maxRecDepth 65536 in
theorem w_t3 : ((words1.drop 24).drop 24).all (fun c => isCode c || c.before args0 about1) = true := by decide +kernel
theorem w_tables : (allAtoms (Jvm.Cond.code x code maxLocals ret :: tables_1)).before args0 about1 = true := by
  rw [allAtoms_all]
  show words1.all (fun c => c.before args0 about1) = true
  refine all_split ?_ w_codes
  rw [← List.take_append_drop 24 words1, List.all_append, w_t1, ← List.take_append_drop 24 (words1.drop 24), List.all_append, w_t2, w_t3]
  rfl
set_option maxRecDepth 65536 in
theorem w_case : (Jvm.Cond.and given_1 narrow_1).before args0 about1 = true := by decide +kernel
theorem w_applies : (headSpec (Jvm.Cond.code x code maxLocals ret :: tables_1) room_1).applies x e0.platform about1 = true :=
  (Spec.applies_iff w_frames).mpr ⟨w_running, w_runnable, w_alone, w_named, w_hears, w_ripe, w_room, w_tables⟩
theorem atStart : AtStart classFile x code maxLocals ret World_1 tables_1 room_1 Calls_1 rest_1 Pre_1 launch0 p0 e0 about1 theMethod args0 below0 :=
  ⟨lists_1, trivial, launch0.admits_env _ _ _, launch0.least_env, fairChoices_fair.cas, fairChoices_fair.clock, w_frames, w_args, w_heap, w_applies, trivial, trivial, w_case⟩
end start1
theorem witness_1 : WitnessClaimed_1 := ⟨start1.p0, start1.e0, start1.about1, start1.theMethod, start1.args0, start1.below0, start1.atStart⟩
end Jvm.Pilot.@@N@@
