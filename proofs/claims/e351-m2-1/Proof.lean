import JvmDerived
import JvmDerived.Pilot.@@N@@Statement
import JvmDerived.Pilot.@@N@@Code
set_option linter.unusedVariables false
set_option linter.unusedSimpArgs false
namespace Jvm.Pilot.@@N@@
open Jvm Jvm.ClassFile Sem Op Lib Jvm.Free Jvm.Stand Jvm.LawKit Jvm.RoadKit Bundle Jvm.Pilot.@@N@@.Jvm.D
abbrev o_K : Type := Program × Launch × Env × Room × State × MethodId × Array Value × List Frame × Method × Code × State × Nat
/-- from heap h, with k cells and n slots made so far, at pc with locals Ls and stack St, the invocation comes to its end, and Q holds of what it returns and of the heap -/
def o_Go (κ : o_K) (Q : Option Value → Heap → Prop) (h : Heap) (k n pc : Nat) (Ls : List Slot) (St : List Value) : Prop :=
  match κ with
  | (p, l, e, R, s, m, args, below, meth, c, Z, n0) =>
    ∀ (T : State) (locs : List Loc), Stand p l e R s m args below meth c T locs k n → Fr n0 locs → T.heap = h →
      ∃ (s₂ : State) (o : Outcome), Steps p.tables e below (T.setTop (mkF m pc Ls.toArray St)) s₂ ∧ s₂.status = .running ∧ Ended s₂ below o ∧
        ∃ v L, o = .returned v ∧ (Q v s₂.heap ∧ Fr n0 L) ∧ FrameEnd s o s₂ L R.cells R.slots
/-- the standing facts of one invocation of y -/
def o_Bo (κ : o_K) (l : Launch) (Z : State) (n0 : Nat) (R : Room) (y : MethodName) (bytes : ByteArray) (ml : Nat) (ret : Option FieldType) : Prop :=
  ∃ (p : Program) (e : Env) (s : State) (m : MethodId) (args : Array Value) (below : List Frame) (meth : Method) (c : Code), κ = (p, l, e, R, s, m, args, below, meth, c, Z, n0) ∧ p.tables.exec = Jvm.exec ∧ Z.Warmed39 s.vm ∧ c.code = bytes ∧ c.maxLocals = ml ∧ s.vm.findClass y.cls = some m.cls ∧ meth.sig.returnType = ret ∧ meth.locks = false ∧ meth.name = y.name
/-- the contract of y at the arguments 'as' and the heap h -/
def o_C (l : Launch) (Z : State) (n0 : Nat) (y : MethodName) (bytes : ByteArray) (ml : Nat) (ret : Option FieldType) (rm : Room) (as : List Value) (h : Heap) (Q : Option Value → Heap → Prop) : Prop :=
  ∀ ws : List Jvm.Cond, MetFree l y (head1 (Jvm.Cond.code y bytes ml ret :: ws) rm) (fun a U => a = as.toArray ∧ Z.Warmed39 U.vm ∧ U.heap = h) (fun _ _ _ _ _ => True) (fun _ U o U' => ∃ v L, o = .returned v ∧ (Q v U'.heap ∧ Fr n0 L) ∧ FrameEnd U o U' L rm.cells rm.slots)
theorem o_lt {a b : Nat} (h : a < b) : a < b := h
theorem o_le {a b : Nat} (h : a ≤ b) : a ≤ b := h
theorem o_ne {a b : Nat} (h : a ≠ b) : a ≠ b := h
section Fw
variable {κ : o_K} {l : Launch} {Z : State} {n0 : Nat} {R : Room} {y : MethodName} {bytes : ByteArray} {ml : Nat} {ret : Option FieldType} {Q : Option Value → Heap → Prop} {h : Heap} {k n pc : Nat} {Ls : List Slot} {St : List Value} {a0 : Array Value}
theorem o_body {rm : Room} {as : List Value} (hpn : plainFor y = true) (hef : argsToLocals as.toArray ml = Ls.toArray) (H : ∀ κ, o_Bo κ l Z n0 rm y bytes ml ret → o_Go κ Q h 0 0 0 Ls []) : o_C l Z n0 y bytes ml ret rm as h Q := by
  intro ws
  refine MetFree.of_bodySF hpn hisR ?_
  intro p e s m args below meth c s₁ Bd hml0 hP hK
  obtain ⟨rfl, hZ, hh⟩ := hP
  have X0 : Stand p l e rm s m as.toArray below meth c s₁ [] 0 0 := Stand.of_body Bd
  have e0 : s₁.heap = h := by rw [← hh, Bd.state]; rfl
  have hown := findClass_of_methodNamed Bd.named
  have hnm := (name_of_methodNamed Bd.named Bd.method).1
  obtain ⟨s₂, o, st, r1, r2, v, L, rfl, ⟨q, N⟩, fe⟩ := H (p, l, e, rm, s, m, as.toArray, below, meth, c, Z, n0) ⟨p, e, s, m, _, below, meth, c, rfl, Bd.exec, hZ, Bd.bytes, hml0, hown, Bd.returns, Bd.notSynchronized, hnm⟩ s₁ [] X0 (Fr.nil _) e0
  refine ⟨s₂, _, ?_, r1, r2, v, L, rfl, ⟨q, N⟩, fe⟩
  exact castTop (g' := mkF m 0 Ls.toArray []) (by unfold entryFrame; rw [hef]) st
theorem o_C.imp {rm : Room} {as : List Value} {Q' : Option Value → Heap → Prop} (C : o_C l Z n0 y bytes ml ret rm as h Q) (H : ∀ v h', Q v h' → Q' v h') : o_C l Z n0 y bytes ml ret rm as h Q' := by
  intro ws p e ha hc hk s m args below hf happ hP hK
  obtain ⟨n, o, h1, h2, h3, v, L, e1, ⟨q, N⟩, fe⟩ := C ws p e ha hc hk s m args below hf happ hP hK
  exact ⟨n, o, h1, h2, h3, v, L, e1, ⟨H _ _ q, N⟩, fe⟩
theorem o_imp {Q' : Option Value → Heap → Prop} (H : ∀ v h', Q v h' → Q' v h') (G : o_Go κ Q h k n pc Ls St) : o_Go κ Q' h k n pc Ls St := by
  obtain ⟨p, l, e, R, s, m, args, below, meth, c, Z, n0⟩ := κ
  intro T locs X N eT
  obtain ⟨s₂, o, st, r1, r2, v, L, e1, ⟨q, N⟩, fe⟩ := G T locs X N eT
  exact ⟨s₂, o, st, r1, r2, v, L, e1, ⟨H _ _ q, N⟩, fe⟩
theorem o_mono {k' n' : Nat} (hk : k ≤ k') (hn : n ≤ n') (G : o_Go κ Q h k' n' pc Ls St) : o_Go κ Q h k n pc Ls St := by
  obtain ⟨p, l, e, R, s, m, args, below, meth, c, Z, n0⟩ := κ
  intro T locs X N eT
  exact G T locs (X.more hk hn) N eT
theorem o_sim (B : o_Bo κ l Z n0 R y bytes ml ret) {pc' : Nat} {Ls' : List Slot} {St' : List Value} (f : ∀ (p : Program) (e : Env) (m : MethodId) (below : List Frame) (c : Code) (T target : State), At T m c below → p.tables.exec = Jvm.exec → c.code = bytes → Steps p.tables e below (T.setTop (mkF m pc' Ls'.toArray St')) target → Steps p.tables e below (T.setTop (mkF m pc Ls.toArray St)) target) (K : o_Go κ Q h k n pc' Ls' St') : o_Go κ Q h k n pc Ls St := by
  obtain ⟨p, e, s, m, args, below, meth, c, rfl, hx, hZ, hby, hml, hown, hret, hlk, hnm⟩ := B
  intro T locs X N eT
  obtain ⟨s₂, o, st, r⟩ := K T locs X N eT
  exact ⟨s₂, o, f p e m below c T s₂ X.here hx hby st, r⟩
theorem o_get {i : Nat} {x : Slot} (hl : Ls[i]? = some x) : Ls.toArray[i]? = some x := by simpa using hl
def o_ok1 : Slot → Bool
  | .unset => true
  | .val w => w.category == 1
  | .second => false
theorem o_ok1_spec {o : Slot} (ho : o_ok1 o = true) : o = .unset ∨ ∃ w, o = .val w ∧ w.category = 1 := by
  cases o <;> simp [o_ok1] at ho ⊢; exact ho
theorem o_store1 {i : Nat} {o : Slot} {v : Value} (hold : Ls[i]? = some o) (ho : o_ok1 o = true) (hv : v.category = 1) : storeLocals Ls.toArray i v = some (Ls.set i (.val v)).toArray := by
  rw [XS.store1 (o_get hold) (o_ok1_spec ho) hv]; simp
def o_okl : Slot → Slot → Bool
  | .second, _ => false
  | _, .val w => w.category == 1
  | _, _ => true
theorem o_storel {i : Nat} {o o' : Slot} {v : Value} (hold : Ls[i]? = some o) (hold' : Ls[i + 1]? = some o') (ho : o_okl o o' = true) (hv : v.category = 2) : storeLocals Ls.toArray i v = some ((Ls.set i (.val v)).set (i + 1) .second).toArray := by
  obtain ⟨hi, hget⟩ := List.getElem?_eq_some_iff.mp hold
  obtain ⟨hi', hget'⟩ := List.getElem?_eq_some_iff.mp hold'
  have hne : i ≠ i + 1 := by omega
  have hne' : i + 1 ≠ i := by omega
  cases o with
  | second => simp [o_okl] at ho
  | unset =>
    cases o' with
    | val w =>
      have hw : w.category = 1 := by simpa [o_okl] using ho
      simp [storeLocals, storeSelf, setAt, hi, hi', hget, hget', hv, hw, List.getElem?_set, hne, hold, hold']
    | _ => simp [storeLocals, storeSelf, setAt, hi, hi', hget, hget', hv, List.getElem?_set, hne, hold, hold']
  | val u =>
    by_cases hu : u.category = 2
    · cases o' with
      | val w =>
        have hw : w.category = 1 := by simpa [o_okl] using ho
        simp [storeLocals, storeSelf, setAt, hi, hi', hget, hget', hv, hu, hw, List.getElem?_set, hne, hne', hold, hold', List.set_comm _ _ hne', List.set_set]
      | _ => simp [storeLocals, storeSelf, setAt, hi, hi', hget, hget', hv, hu, List.getElem?_set, hne, hne', hold, hold', List.set_comm _ _ hne', List.set_set]
    · cases o' with
      | val w =>
        have hw : w.category = 1 := by simpa [o_okl] using ho
        simp [storeLocals, storeSelf, setAt, hi, hi', hget, hget', hv, hu, hw, List.getElem?_set, hne, hold, hold']
      | _ => simp [storeLocals, storeSelf, setAt, hi, hi', hget, hget', hv, hu, List.getElem?_set, hne, hold, hold']
theorem o_iloadN (B : o_Bo κ l Z n0 R y bytes ml ret) {i : Fin 4} {x : Int32} (hd : decode bytes pc = .ok (.iload_n i, 1)) (hl : Ls[i.val]? = some (.val (.int x))) (K : o_Go κ Q h k n (pc + 1) Ls (.int x :: St)) : o_Go κ Q h k n pc Ls (St) := o_sim B (fun p e m below c T target X hx hby st => XS.iloadN X hx rfl (hb hby hd) (o_get hl) st) K
theorem o_iload (B : o_Bo κ l Z n0 R y bytes ml ret) {i : Nat} {x : Int32} (hd : decode bytes pc = .ok (.iload i, 2)) (hl : Ls[i]? = some (.val (.int x))) (K : o_Go κ Q h k n (pc + 2) Ls (.int x :: St)) : o_Go κ Q h k n pc Ls (St) := o_sim B (fun p e m below c T target X hx hby st => XS.iload X hx rfl (hb hby hd) (o_get hl) st) K
theorem o_lloadN (B : o_Bo κ l Z n0 R y bytes ml ret) {i : Fin 4} {x : Int64} (hd : decode bytes pc = .ok (.lload_n i, 1)) (hl : Ls[i.val]? = some (.val (.long x))) (K : o_Go κ Q h k n (pc + 1) Ls (.long x :: St)) : o_Go κ Q h k n pc Ls (St) := o_sim B (fun p e m below c T target X hx hby st => XT.lloadN X hx rfl (hb hby hd) (o_get hl) st) K
theorem o_lload (B : o_Bo κ l Z n0 R y bytes ml ret) {i : Nat} {x : Int64} (hd : decode bytes pc = .ok (.lload i, 2)) (hl : Ls[i]? = some (.val (.long x))) (K : o_Go κ Q h k n (pc + 2) Ls (.long x :: St)) : o_Go κ Q h k n pc Ls (St) := o_sim B (fun p e m below c T target X hx hby st => XT.lload X hx rfl (hb hby hd) (o_get hl) st) K
theorem o_aloadN (B : o_Bo κ l Z n0 R y bytes ml ret) {i : Fin 4} {v : Value} (hd : decode bytes pc = .ok (.aload_n i, 1)) (hl : Ls[i.val]? = some (.val v)) (hv : v.isRef = true) (K : o_Go κ Q h k n (pc + 1) Ls (v :: St)) : o_Go κ Q h k n pc Ls (St) := o_sim B (fun p e m below c T target X hx hby st => XS.aloadN X hx rfl (hb hby hd) (o_get hl) hv st) K
theorem o_aload (B : o_Bo κ l Z n0 R y bytes ml ret) {i : Nat} {v : Value} (hd : decode bytes pc = .ok (.aload i, 2)) (hl : Ls[i]? = some (.val v)) (hv : v.isRef = true) (K : o_Go κ Q h k n (pc + 2) Ls (v :: St)) : o_Go κ Q h k n pc Ls (St) := o_sim B (fun p e m below c T target X hx hby st => XS.aload X hx rfl (hb hby hd) (o_get hl) hv st) K
theorem o_istoreN (B : o_Bo κ l Z n0 R y bytes ml ret) {i : Fin 4} {x : Int32} {o : Slot} (hd : decode bytes pc = .ok (.istore_n i, 1)) (hold : Ls[i.val]? = some o) (ho : o_ok1 o = true) (K : o_Go κ Q h k n (pc + 1) (Ls.set i.val (.val (.int x))) (St)) : o_Go κ Q h k n pc Ls (.int x :: St) := o_sim B (fun p e m below c T target X hx hby st => XS.istoreN X hx rfl (hb hby hd) rfl (o_store1 hold ho rfl) st) K
theorem o_istore (B : o_Bo κ l Z n0 R y bytes ml ret) {i : Nat} {x : Int32} {o : Slot} (hd : decode bytes pc = .ok (.istore i, 2)) (hold : Ls[i]? = some o) (ho : o_ok1 o = true) (K : o_Go κ Q h k n (pc + 2) (Ls.set i (.val (.int x))) (St)) : o_Go κ Q h k n pc Ls (.int x :: St) := o_sim B (fun p e m below c T target X hx hby st => XS.istore X hx rfl (hb hby hd) rfl (o_store1 hold ho rfl) st) K
theorem o_astoreN (B : o_Bo κ l Z n0 R y bytes ml ret) {i : Fin 4} {v : Value} {o : Slot} (hd : decode bytes pc = .ok (.astore_n i, 1)) (hv : v.isRef = true) (hold : Ls[i.val]? = some o) (ho : o_ok1 o = true) (K : o_Go κ Q h k n (pc + 1) (Ls.set i.val (.val v)) (St)) : o_Go κ Q h k n pc Ls (v :: St) := o_sim B (fun p e m below c T target X hx hby st => XS.astoreN X hx rfl (hb hby hd) rfl hv (o_store1 hold ho (by cases v <;> simp [Value.isRef] at hv <;> rfl)) st) K
theorem o_astore (B : o_Bo κ l Z n0 R y bytes ml ret) {i : Nat} {v : Value} {o : Slot} (hd : decode bytes pc = .ok (.astore i, 2)) (hv : v.isRef = true) (hold : Ls[i]? = some o) (ho : o_ok1 o = true) (K : o_Go κ Q h k n (pc + 2) (Ls.set i (.val v)) (St)) : o_Go κ Q h k n pc Ls (v :: St) := o_sim B (fun p e m below c T target X hx hby st => XS.astore X hx rfl (hb hby hd) rfl hv (o_store1 hold ho (by cases v <;> simp [Value.isRef] at hv <;> rfl)) st) K
theorem o_lstoreN (B : o_Bo κ l Z n0 R y bytes ml ret) {i : Fin 4} {x : Int64} {o o2 : Slot} (hd : decode bytes pc = .ok (.lstore_n i, 1)) (hold : Ls[i.val]? = some o) (hold2 : Ls[i.val + 1]? = some o2) (ho : o_okl o o2 = true) (K : o_Go κ Q h k n (pc + 1) ((Ls.set i.val (.val (.long x))).set (i.val + 1) .second) (St)) : o_Go κ Q h k n pc Ls (.long x :: St) := o_sim B (fun p e m below c T target X hx hby st => XT.lstoreN X hx rfl (hb hby hd) rfl (o_storel hold hold2 ho rfl) st) K
theorem o_lstore (B : o_Bo κ l Z n0 R y bytes ml ret) {i : Nat} {x : Int64} {o o2 : Slot} (hd : decode bytes pc = .ok (.lstore i, 2)) (hold : Ls[i]? = some o) (hold2 : Ls[i + 1]? = some o2) (ho : o_okl o o2 = true) (K : o_Go κ Q h k n (pc + 2) ((Ls.set i (.val (.long x))).set (i + 1) .second) (St)) : o_Go κ Q h k n pc Ls (.long x :: St) := o_sim B (fun p e m below c T target X hx hby st => XT.lstore X hx rfl (hb hby hd) rfl (o_storel hold hold2 ho rfl) st) K
theorem o_iinc (B : o_Bo κ l Z n0 R y bytes ml ret) {i : Nat} {cst : Int} {x : Int32} (v : Int32) (hd : decode bytes pc = .ok (.iinc i cst, 3)) (hv : Int32.ofInt cst = v) (hl : Ls[i]? = some (.val (.int x))) (K : o_Go κ Q h k n (pc + 3) (Ls.set i (.val (.int (x + v)))) (St)) : o_Go κ Q h k n pc Ls (St) := o_sim B (fun p e m below c T target X hx hby st => XT.iincV X hx rfl v (hb hby hd) hv (o_get hl) (o_store1 hl rfl rfl) st) K
theorem o_iconst (B : o_Bo κ l Z n0 R y bytes ml ret) {i : Int} (v : Int32) (hd : decode bytes pc = .ok (.iconst i, 1)) (hv : Int32.ofInt i = v) (K : o_Go κ Q h k n (pc + 1) Ls (.int v :: St)) : o_Go κ Q h k n pc Ls (St) := o_sim B (fun p e m below c T target X hx hby st => XT.iconstV X hx rfl v (hb hby hd) hv st) K
theorem o_bipush (B : o_Bo κ l Z n0 R y bytes ml ret) {i : Int} (v : Int32) (hd : decode bytes pc = .ok (.bipush i, 2)) (hv : (Int8.ofInt i).toInt32 = v) (K : o_Go κ Q h k n (pc + 2) Ls (.int v :: St)) : o_Go κ Q h k n pc Ls (St) := o_sim B (fun p e m below c T target X hx hby st => XT.bipushV X hx rfl v (hb hby hd) hv st) K
theorem o_sipush (B : o_Bo κ l Z n0 R y bytes ml ret) {i : Int} (v : Int32) (hd : decode bytes pc = .ok (.sipush i, 3)) (hv : (Int16.ofInt i).toInt32 = v) (K : o_Go κ Q h k n (pc + 3) Ls (.int v :: St)) : o_Go κ Q h k n pc Ls (St) := o_sim B (fun p e m below c T target X hx hby st => XT.sipushV X hx rfl v (hb hby hd) hv st) K
theorem o_lconst (B : o_Bo κ l Z n0 R y bytes ml ret) {i : Fin 2} (v : Int64) (hd : decode bytes pc = .ok (.lconst i, 1)) (hv : Int64.ofNat i = v) (K : o_Go κ Q h k n (pc + 1) Ls (.long v :: St)) : o_Go κ Q h k n pc Ls (St) := o_sim B (fun p e m below c T target X hx hby st => XT.lconstV X hx rfl v (hb hby hd) hv st) K
theorem o_aconst_null (B : o_Bo κ l Z n0 R y bytes ml ret)  (hd : decode bytes pc = .ok (.aconst_null, 1)) (K : o_Go κ Q h k n (pc + 1) Ls (.null :: St)) : o_Go κ Q h k n pc Ls (St) := o_sim B (fun p e m below c T target X hx hby st => XS.aconstNull X hx rfl (hb hby hd) st) K
theorem o_iadd (B : o_Bo κ l Z n0 R y bytes ml ret) {x y : Int32} (hd : decode bytes pc = .ok (.iadd, 1)) (K : o_Go κ Q h k n (pc + 1) Ls (.int (x + y) :: St)) : o_Go κ Q h k n pc Ls (.int y :: .int x :: St) := o_sim B (fun p e m below c T target X hx hby st => XS.iadd X hx rfl (hb hby hd) rfl st) K
theorem o_isub (B : o_Bo κ l Z n0 R y bytes ml ret) {x y : Int32} (hd : decode bytes pc = .ok (.isub, 1)) (K : o_Go κ Q h k n (pc + 1) Ls (.int (x - y) :: St)) : o_Go κ Q h k n pc Ls (.int y :: .int x :: St) := o_sim B (fun p e m below c T target X hx hby st => XS.isub X hx rfl (hb hby hd) rfl st) K
theorem o_iand (B : o_Bo κ l Z n0 R y bytes ml ret) {x y : Int32} (hd : decode bytes pc = .ok (.iand, 1)) (K : o_Go κ Q h k n (pc + 1) Ls (.int (x &&& y) :: St)) : o_Go κ Q h k n pc Ls (.int y :: .int x :: St) := o_sim B (fun p e m below c T target X hx hby st => XS.iand X hx rfl (hb hby hd) rfl st) K
theorem o_imul (B : o_Bo κ l Z n0 R y bytes ml ret) {x y : Int32} (hd : decode bytes pc = .ok (.imul, 1)) (K : o_Go κ Q h k n (pc + 1) Ls (.int (x * y) :: St)) : o_Go κ Q h k n pc Ls (.int y :: .int x :: St) := o_sim B (fun p e m below c T target X hx hby st => XS.imul X hx rfl (hb hby hd) rfl st) K
theorem o_ior (B : o_Bo κ l Z n0 R y bytes ml ret) {x y : Int32} (hd : decode bytes pc = .ok (.ior, 1)) (K : o_Go κ Q h k n (pc + 1) Ls (.int (x ||| y) :: St)) : o_Go κ Q h k n pc Ls (.int y :: .int x :: St) := o_sim B (fun p e m below c T target X hx hby st => XT.ior X hx rfl (hb hby hd) rfl st) K
theorem o_ixor (B : o_Bo κ l Z n0 R y bytes ml ret) {x y : Int32} (hd : decode bytes pc = .ok (.ixor, 1)) (K : o_Go κ Q h k n (pc + 1) Ls (.int (x ^^^ y) :: St)) : o_Go κ Q h k n pc Ls (.int y :: .int x :: St) := o_sim B (fun p e m below c T target X hx hby st => XT.ixor X hx rfl (hb hby hd) rfl st) K
theorem o_ishl (B : o_Bo κ l Z n0 R y bytes ml ret) {x y : Int32} (hd : decode bytes pc = .ok (.ishl, 1)) (K : o_Go κ Q h k n (pc + 1) Ls (.int (x <<< (y &&& 31)) :: St)) : o_Go κ Q h k n pc Ls (.int y :: .int x :: St) := o_sim B (fun p e m below c T target X hx hby st => XT.ishl X hx rfl (hb hby hd) rfl st) K
theorem o_ishr (B : o_Bo κ l Z n0 R y bytes ml ret) {x y : Int32} (hd : decode bytes pc = .ok (.ishr, 1)) (K : o_Go κ Q h k n (pc + 1) Ls (.int (x >>> (y &&& 31)) :: St)) : o_Go κ Q h k n pc Ls (.int y :: .int x :: St) := o_sim B (fun p e m below c T target X hx hby st => XT.ishr X hx rfl (hb hby hd) rfl st) K
theorem o_iushr (B : o_Bo κ l Z n0 R y bytes ml ret) {x y : Int32} (hd : decode bytes pc = .ok (.iushr, 1)) (K : o_Go κ Q h k n (pc + 1) Ls (.int (XT.ushr x y) :: St)) : o_Go κ Q h k n pc Ls (.int y :: .int x :: St) := o_sim B (fun p e m below c T target X hx hby st => XT.iushr X hx rfl (hb hby hd) rfl st) K
theorem o_idiv (B : o_Bo κ l Z n0 R y bytes ml ret) {x y : Int32} (hd : decode bytes pc = .ok (.idiv, 1)) (hy : y ≠ 0) (K : o_Go κ Q h k n (pc + 1) Ls (.int (x / y) :: St)) : o_Go κ Q h k n pc Ls (.int y :: .int x :: St) := o_sim B (fun p e m below c T target X hx hby st => XS.idiv X hx rfl (hb hby hd) rfl hy st) K
theorem o_irem (B : o_Bo κ l Z n0 R y bytes ml ret) {x y : Int32} (hd : decode bytes pc = .ok (.irem, 1)) (hy : y ≠ 0) (K : o_Go κ Q h k n (pc + 1) Ls (.int (x % y) :: St)) : o_Go κ Q h k n pc Ls (.int y :: .int x :: St) := o_sim B (fun p e m below c T target X hx hby st => XS.irem X hx rfl (hb hby hd) rfl hy (by rw [irem_eq_mod]; exact st)) K
theorem o_ineg (B : o_Bo κ l Z n0 R y bytes ml ret) {x : Int32} (hd : decode bytes pc = .ok (.ineg, 1)) (K : o_Go κ Q h k n (pc + 1) Ls (.int (-x) :: St)) : o_Go κ Q h k n pc Ls (.int x :: St) := o_sim B (fun p e m below c T target X hx hby st => XS.ineg X hx rfl (hb hby hd) rfl st) K
theorem o_ladd (B : o_Bo κ l Z n0 R y bytes ml ret) {x y : Int64} (hd : decode bytes pc = .ok (.ladd, 1)) (K : o_Go κ Q h k n (pc + 1) Ls (.long (x + y) :: St)) : o_Go κ Q h k n pc Ls (.long y :: .long x :: St) := o_sim B (fun p e m below c T target X hx hby st => XT.ladd X hx rfl (hb hby hd) rfl st) K
theorem o_lsub (B : o_Bo κ l Z n0 R y bytes ml ret) {x y : Int64} (hd : decode bytes pc = .ok (.lsub, 1)) (K : o_Go κ Q h k n (pc + 1) Ls (.long (x - y) :: St)) : o_Go κ Q h k n pc Ls (.long y :: .long x :: St) := o_sim B (fun p e m below c T target X hx hby st => XT.lsub X hx rfl (hb hby hd) rfl st) K
theorem o_lmul (B : o_Bo κ l Z n0 R y bytes ml ret) {x y : Int64} (hd : decode bytes pc = .ok (.lmul, 1)) (K : o_Go κ Q h k n (pc + 1) Ls (.long (x * y) :: St)) : o_Go κ Q h k n pc Ls (.long y :: .long x :: St) := o_sim B (fun p e m below c T target X hx hby st => XT.lmul X hx rfl (hb hby hd) rfl st) K
theorem o_land (B : o_Bo κ l Z n0 R y bytes ml ret) {x y : Int64} (hd : decode bytes pc = .ok (.land, 1)) (K : o_Go κ Q h k n (pc + 1) Ls (.long (x &&& y) :: St)) : o_Go κ Q h k n pc Ls (.long y :: .long x :: St) := o_sim B (fun p e m below c T target X hx hby st => XT.land X hx rfl (hb hby hd) rfl st) K
theorem o_lor (B : o_Bo κ l Z n0 R y bytes ml ret) {x y : Int64} (hd : decode bytes pc = .ok (.lor, 1)) (K : o_Go κ Q h k n (pc + 1) Ls (.long (x ||| y) :: St)) : o_Go κ Q h k n pc Ls (.long y :: .long x :: St) := o_sim B (fun p e m below c T target X hx hby st => XT.lor X hx rfl (hb hby hd) rfl st) K
theorem o_lxor (B : o_Bo κ l Z n0 R y bytes ml ret) {x y : Int64} (hd : decode bytes pc = .ok (.lxor, 1)) (K : o_Go κ Q h k n (pc + 1) Ls (.long (x ^^^ y) :: St)) : o_Go κ Q h k n pc Ls (.long y :: .long x :: St) := o_sim B (fun p e m below c T target X hx hby st => XT.lxor X hx rfl (hb hby hd) rfl st) K
theorem o_lshl (B : o_Bo κ l Z n0 R y bytes ml ret) {x : Int64} {y : Int32} (hd : decode bytes pc = .ok (.lshl, 1)) (K : o_Go κ Q h k n (pc + 1) Ls (.long (x <<< (y.toInt64 &&& 63)) :: St)) : o_Go κ Q h k n pc Ls (.int y :: .long x :: St) := o_sim B (fun p e m below c T target X hx hby st => XT.lshl X hx rfl (hb hby hd) rfl st) K
theorem o_lshr (B : o_Bo κ l Z n0 R y bytes ml ret) {x : Int64} {y : Int32} (hd : decode bytes pc = .ok (.lshr, 1)) (K : o_Go κ Q h k n (pc + 1) Ls (.long (x >>> (y.toInt64 &&& 63)) :: St)) : o_Go κ Q h k n pc Ls (.int y :: .long x :: St) := o_sim B (fun p e m below c T target X hx hby st => XT.lshr X hx rfl (hb hby hd) rfl st) K
theorem o_lushr (B : o_Bo κ l Z n0 R y bytes ml ret) {x : Int64} {y : Int32} (hd : decode bytes pc = .ok (.lushr, 1)) (K : o_Go κ Q h k n (pc + 1) Ls (.long (XT.ushrL x y) :: St)) : o_Go κ Q h k n pc Ls (.int y :: .long x :: St) := o_sim B (fun p e m below c T target X hx hby st => XT.lushr X hx rfl (hb hby hd) rfl st) K
theorem o_ldiv (B : o_Bo κ l Z n0 R y bytes ml ret) {x y : Int64} (hd : decode bytes pc = .ok (.ldiv, 1)) (hy : y ≠ 0) (K : o_Go κ Q h k n (pc + 1) Ls (.long (x / y) :: St)) : o_Go κ Q h k n pc Ls (.long y :: .long x :: St) := o_sim B (fun p e m below c T target X hx hby st => XT.ldiv X hx rfl (hb hby hd) rfl hy st) K
theorem o_lrem (B : o_Bo κ l Z n0 R y bytes ml ret) {x y : Int64} (hd : decode bytes pc = .ok (.lrem, 1)) (hy : y ≠ 0) (K : o_Go κ Q h k n (pc + 1) Ls (.long (x - (x / y) * y) :: St)) : o_Go κ Q h k n pc Ls (.long y :: .long x :: St) := o_sim B (fun p e m below c T target X hx hby st => XT.lrem X hx rfl (hb hby hd) rfl hy st) K
theorem o_lneg (B : o_Bo κ l Z n0 R y bytes ml ret) {x : Int64} (hd : decode bytes pc = .ok (.lneg, 1)) (K : o_Go κ Q h k n (pc + 1) Ls (.long (-x) :: St)) : o_Go κ Q h k n pc Ls (.long x :: St) := o_sim B (fun p e m below c T target X hx hby st => XT.lneg X hx rfl (hb hby hd) rfl st) K
theorem o_i2l (B : o_Bo κ l Z n0 R y bytes ml ret) {x : Int32} (hd : decode bytes pc = .ok (.i2l, 1)) (K : o_Go κ Q h k n (pc + 1) Ls (.long x.toInt64 :: St)) : o_Go κ Q h k n pc Ls (.int x :: St) := o_sim B (fun p e m below c T target X hx hby st => XT.i2l X hx rfl (hb hby hd) rfl st) K
theorem o_l2i (B : o_Bo κ l Z n0 R y bytes ml ret) {x : Int64} (hd : decode bytes pc = .ok (.l2i, 1)) (K : o_Go κ Q h k n (pc + 1) Ls (.int x.toInt32 :: St)) : o_Go κ Q h k n pc Ls (.long x :: St) := o_sim B (fun p e m below c T target X hx hby st => XT.l2i X hx rfl (hb hby hd) rfl st) K
theorem o_lcmp (B : o_Bo κ l Z n0 R y bytes ml ret) {x y : Int64} (hd : decode bytes pc = .ok (.lcmp, 1)) (K : o_Go κ Q h k n (pc + 1) Ls (.int (XT.cmpL x y) :: St)) : o_Go κ Q h k n pc Ls (.long y :: .long x :: St) := o_sim B (fun p e m below c T target X hx hby st => XT.lcmp X hx rfl (hb hby hd) rfl st) K
theorem o_dup (B : o_Bo κ l Z n0 R y bytes ml ret) {v : Value} (hd : decode bytes pc = .ok (.dup, 1)) (hv : v.category = 1) (K : o_Go κ Q h k n (pc + 1) Ls (v :: v :: St)) : o_Go κ Q h k n pc Ls (v :: St) := o_sim B (fun p e m below c T target X hx hby st => XS.dup X hx rfl (hb hby hd) rfl hv st) K
theorem o_pop (B : o_Bo κ l Z n0 R y bytes ml ret) {v : Value} (hd : decode bytes pc = .ok (.pop, 1)) (hv : v.category = 1) (K : o_Go κ Q h k n (pc + 1) Ls (St)) : o_Go κ Q h k n pc Ls (v :: St) := o_sim B (fun p e m below c T target X hx hby st => XT.pop X hx rfl (hb hby hd) rfl hv st) K
theorem o_dup_x1 (B : o_Bo κ l Z n0 R y bytes ml ret) {v w : Value} (hd : decode bytes pc = .ok (.dup_x1, 1)) (hv : v.category = 1) (hw : w.category = 1) (K : o_Go κ Q h k n (pc + 1) Ls (v :: w :: v :: St)) : o_Go κ Q h k n pc Ls (v :: w :: St) := o_sim B (fun p e m below c T target X hx hby st => XT.dupX1 X hx rfl (hb hby hd) rfl hv hw st) K
theorem o_dup2 (B : o_Bo κ l Z n0 R y bytes ml ret) {v w : Value} (hd : decode bytes pc = .ok (.dup2, 1)) (hv : v.category = 1) (hw : w.category = 1) (K : o_Go κ Q h k n (pc + 1) Ls (v :: w :: v :: w :: St)) : o_Go κ Q h k n pc Ls (v :: w :: St) := o_sim B (fun p e m below c T target X hx hby st => XT.dup2 X hx rfl (hb hby hd) rfl hv hw st) K
theorem o_dup2L (B : o_Bo κ l Z n0 R y bytes ml ret) {x : Int64} (hd : decode bytes pc = .ok (.dup2, 1)) (K : o_Go κ Q h k n (pc + 1) Ls (.long x :: .long x :: St)) : o_Go κ Q h k n pc Ls (.long x :: St) := o_sim B (fun p e m below c T target X hx hby st => XT.dup2L X hx rfl (hb hby hd) rfl st) K
theorem o_goto (B : o_Bo κ l Z n0 R y bytes ml ret) {o : Int} {pc' : Nat} (hd : decode bytes pc = .ok (.goto o, 3)) (ho : 0 ≤ (pc : Int) + o) (hp : ((pc : Int) + o).toNat = pc') (K : o_Go κ Q h k n pc' Ls St) : o_Go κ Q h k n pc Ls St := o_sim B (fun p e m below c T target X hx hby st => XS.goto X hx rfl (pc0 := pc) rfl (hb hby hd) ho hp st) K
theorem o_if_eq (B : o_Bo κ l Z n0 R y bytes ml ret) {o : Int} {pc' : Nat} {x : Int32} (hd : decode bytes pc = .ok (.ifCond .eq o, 3)) (ho : 0 ≤ (pc : Int) + o) (hp : ((pc : Int) + o).toNat = pc') (K1 : x = 0 → o_Go κ Q h k n pc' Ls St) (K2 : ¬ x = 0 → o_Go κ Q h k n (pc + 3) Ls St) : o_Go κ Q h k n pc Ls (.int x :: St) := by
  by_cases hc : x = 0
  · exact o_sim B (fun p e m below c T target X hx hby st => XS.ifYes X hx rfl (pc0 := pc) rfl (hb hby hd) rfl (XT.i0_eq_t hc) ho hp st) (K1 hc)
  · exact o_sim B (fun p e m below c T target X hx hby st => XS.ifNo X hx rfl (hb hby hd) rfl (XT.i0_eq_f hc) st) (K2 hc)
theorem o_icmp_eq (B : o_Bo κ l Z n0 R y bytes ml ret) {o : Int} {pc' : Nat} {x w : Int32} (hd : decode bytes pc = .ok (.if_icmp .eq o, 3)) (ho : 0 ≤ (pc : Int) + o) (hp : ((pc : Int) + o).toNat = pc') (K1 : x = w → o_Go κ Q h k n pc' Ls St) (K2 : ¬ x = w → o_Go κ Q h k n (pc + 3) Ls St) : o_Go κ Q h k n pc Ls (.int w :: .int x :: St) := by
  by_cases hc : x = w
  · exact o_sim B (fun p e m below c T target X hx hby st => XS.icmpYes X hx rfl (pc0 := pc) rfl (hb hby hd) rfl (XT.ii_eq_t hc) ho hp st) (K1 hc)
  · exact o_sim B (fun p e m below c T target X hx hby st => XS.icmpNo X hx rfl (hb hby hd) rfl (XT.ii_eq_f hc) st) (K2 hc)
theorem o_lif_eq (B : o_Bo κ l Z n0 R y bytes ml ret) {o : Int} {pc' : Nat} {x w : Int64} (hd : decode bytes pc = .ok (.ifCond .eq o, 3)) (ho : 0 ≤ (pc : Int) + o) (hp : ((pc : Int) + o).toNat = pc') (K1 : x = w → o_Go κ Q h k n pc' Ls St) (K2 : ¬ x = w → o_Go κ Q h k n (pc + 3) Ls St) : o_Go κ Q h k n pc Ls (.int (XT.cmpL x w) :: St) := by
  by_cases hc : x = w
  · exact o_sim B (fun p e m below c T target X hx hby st => XS.ifYes X hx rfl (pc0 := pc) rfl (hb hby hd) rfl (XT.ll_eq_t hc) ho hp st) (K1 hc)
  · exact o_sim B (fun p e m below c T target X hx hby st => XS.ifNo X hx rfl (hb hby hd) rfl (XT.ll_eq_f hc) st) (K2 hc)
theorem o_if_ne (B : o_Bo κ l Z n0 R y bytes ml ret) {o : Int} {pc' : Nat} {x : Int32} (hd : decode bytes pc = .ok (.ifCond .ne o, 3)) (ho : 0 ≤ (pc : Int) + o) (hp : ((pc : Int) + o).toNat = pc') (K1 : ¬ x = 0 → o_Go κ Q h k n pc' Ls St) (K2 : x = 0 → o_Go κ Q h k n (pc + 3) Ls St) : o_Go κ Q h k n pc Ls (.int x :: St) := by
  by_cases hc : x = 0
  · exact o_sim B (fun p e m below c T target X hx hby st => XS.ifNo X hx rfl (hb hby hd) rfl (XT.i0_ne_f hc) st) (K2 hc)
  · exact o_sim B (fun p e m below c T target X hx hby st => XS.ifYes X hx rfl (pc0 := pc) rfl (hb hby hd) rfl (XT.i0_ne_t hc) ho hp st) (K1 hc)
theorem o_icmp_ne (B : o_Bo κ l Z n0 R y bytes ml ret) {o : Int} {pc' : Nat} {x w : Int32} (hd : decode bytes pc = .ok (.if_icmp .ne o, 3)) (ho : 0 ≤ (pc : Int) + o) (hp : ((pc : Int) + o).toNat = pc') (K1 : ¬ x = w → o_Go κ Q h k n pc' Ls St) (K2 : x = w → o_Go κ Q h k n (pc + 3) Ls St) : o_Go κ Q h k n pc Ls (.int w :: .int x :: St) := by
  by_cases hc : x = w
  · exact o_sim B (fun p e m below c T target X hx hby st => XS.icmpNo X hx rfl (hb hby hd) rfl (XT.ii_ne_f hc) st) (K2 hc)
  · exact o_sim B (fun p e m below c T target X hx hby st => XS.icmpYes X hx rfl (pc0 := pc) rfl (hb hby hd) rfl (XT.ii_ne_t hc) ho hp st) (K1 hc)
theorem o_lif_ne (B : o_Bo κ l Z n0 R y bytes ml ret) {o : Int} {pc' : Nat} {x w : Int64} (hd : decode bytes pc = .ok (.ifCond .ne o, 3)) (ho : 0 ≤ (pc : Int) + o) (hp : ((pc : Int) + o).toNat = pc') (K1 : ¬ x = w → o_Go κ Q h k n pc' Ls St) (K2 : x = w → o_Go κ Q h k n (pc + 3) Ls St) : o_Go κ Q h k n pc Ls (.int (XT.cmpL x w) :: St) := by
  by_cases hc : x = w
  · exact o_sim B (fun p e m below c T target X hx hby st => XS.ifNo X hx rfl (hb hby hd) rfl (XT.ll_ne_f hc) st) (K2 hc)
  · exact o_sim B (fun p e m below c T target X hx hby st => XS.ifYes X hx rfl (pc0 := pc) rfl (hb hby hd) rfl (XT.ll_ne_t hc) ho hp st) (K1 hc)
theorem o_if_lt (B : o_Bo κ l Z n0 R y bytes ml ret) {o : Int} {pc' : Nat} {x : Int32} (hd : decode bytes pc = .ok (.ifCond .lt o, 3)) (ho : 0 ≤ (pc : Int) + o) (hp : ((pc : Int) + o).toNat = pc') (K1 : x < 0 → o_Go κ Q h k n pc' Ls St) (K2 : ¬ x < 0 → o_Go κ Q h k n (pc + 3) Ls St) : o_Go κ Q h k n pc Ls (.int x :: St) := by
  by_cases hc : x < 0
  · exact o_sim B (fun p e m below c T target X hx hby st => XS.ifYes X hx rfl (pc0 := pc) rfl (hb hby hd) rfl (XT.i0_lt_t hc) ho hp st) (K1 hc)
  · exact o_sim B (fun p e m below c T target X hx hby st => XS.ifNo X hx rfl (hb hby hd) rfl (XT.i0_lt_f hc) st) (K2 hc)
theorem o_icmp_lt (B : o_Bo κ l Z n0 R y bytes ml ret) {o : Int} {pc' : Nat} {x w : Int32} (hd : decode bytes pc = .ok (.if_icmp .lt o, 3)) (ho : 0 ≤ (pc : Int) + o) (hp : ((pc : Int) + o).toNat = pc') (K1 : x < w → o_Go κ Q h k n pc' Ls St) (K2 : ¬ x < w → o_Go κ Q h k n (pc + 3) Ls St) : o_Go κ Q h k n pc Ls (.int w :: .int x :: St) := by
  by_cases hc : x < w
  · exact o_sim B (fun p e m below c T target X hx hby st => XS.icmpYes X hx rfl (pc0 := pc) rfl (hb hby hd) rfl (XT.ii_lt_t hc) ho hp st) (K1 hc)
  · exact o_sim B (fun p e m below c T target X hx hby st => XS.icmpNo X hx rfl (hb hby hd) rfl (XT.ii_lt_f hc) st) (K2 hc)
theorem o_lif_lt (B : o_Bo κ l Z n0 R y bytes ml ret) {o : Int} {pc' : Nat} {x w : Int64} (hd : decode bytes pc = .ok (.ifCond .lt o, 3)) (ho : 0 ≤ (pc : Int) + o) (hp : ((pc : Int) + o).toNat = pc') (K1 : x < w → o_Go κ Q h k n pc' Ls St) (K2 : ¬ x < w → o_Go κ Q h k n (pc + 3) Ls St) : o_Go κ Q h k n pc Ls (.int (XT.cmpL x w) :: St) := by
  by_cases hc : x < w
  · exact o_sim B (fun p e m below c T target X hx hby st => XS.ifYes X hx rfl (pc0 := pc) rfl (hb hby hd) rfl (XT.ll_lt_t hc) ho hp st) (K1 hc)
  · exact o_sim B (fun p e m below c T target X hx hby st => XS.ifNo X hx rfl (hb hby hd) rfl (XT.ll_lt_f hc) st) (K2 hc)
theorem o_if_ge (B : o_Bo κ l Z n0 R y bytes ml ret) {o : Int} {pc' : Nat} {x : Int32} (hd : decode bytes pc = .ok (.ifCond .ge o, 3)) (ho : 0 ≤ (pc : Int) + o) (hp : ((pc : Int) + o).toNat = pc') (K1 : ¬ x < 0 → o_Go κ Q h k n pc' Ls St) (K2 : x < 0 → o_Go κ Q h k n (pc + 3) Ls St) : o_Go κ Q h k n pc Ls (.int x :: St) := by
  by_cases hc : x < 0
  · exact o_sim B (fun p e m below c T target X hx hby st => XS.ifNo X hx rfl (hb hby hd) rfl (XT.i0_ge_f hc) st) (K2 hc)
  · exact o_sim B (fun p e m below c T target X hx hby st => XS.ifYes X hx rfl (pc0 := pc) rfl (hb hby hd) rfl (XT.i0_ge_t hc) ho hp st) (K1 hc)
theorem o_icmp_ge (B : o_Bo κ l Z n0 R y bytes ml ret) {o : Int} {pc' : Nat} {x w : Int32} (hd : decode bytes pc = .ok (.if_icmp .ge o, 3)) (ho : 0 ≤ (pc : Int) + o) (hp : ((pc : Int) + o).toNat = pc') (K1 : ¬ x < w → o_Go κ Q h k n pc' Ls St) (K2 : x < w → o_Go κ Q h k n (pc + 3) Ls St) : o_Go κ Q h k n pc Ls (.int w :: .int x :: St) := by
  by_cases hc : x < w
  · exact o_sim B (fun p e m below c T target X hx hby st => XS.icmpNo X hx rfl (hb hby hd) rfl (XT.ii_ge_f hc) st) (K2 hc)
  · exact o_sim B (fun p e m below c T target X hx hby st => XS.icmpYes X hx rfl (pc0 := pc) rfl (hb hby hd) rfl (XT.ii_ge_t hc) ho hp st) (K1 hc)
theorem o_lif_ge (B : o_Bo κ l Z n0 R y bytes ml ret) {o : Int} {pc' : Nat} {x w : Int64} (hd : decode bytes pc = .ok (.ifCond .ge o, 3)) (ho : 0 ≤ (pc : Int) + o) (hp : ((pc : Int) + o).toNat = pc') (K1 : ¬ x < w → o_Go κ Q h k n pc' Ls St) (K2 : x < w → o_Go κ Q h k n (pc + 3) Ls St) : o_Go κ Q h k n pc Ls (.int (XT.cmpL x w) :: St) := by
  by_cases hc : x < w
  · exact o_sim B (fun p e m below c T target X hx hby st => XS.ifNo X hx rfl (hb hby hd) rfl (XT.ll_ge_f hc) st) (K2 hc)
  · exact o_sim B (fun p e m below c T target X hx hby st => XS.ifYes X hx rfl (pc0 := pc) rfl (hb hby hd) rfl (XT.ll_ge_t hc) ho hp st) (K1 hc)
theorem o_if_gt (B : o_Bo κ l Z n0 R y bytes ml ret) {o : Int} {pc' : Nat} {x : Int32} (hd : decode bytes pc = .ok (.ifCond .gt o, 3)) (ho : 0 ≤ (pc : Int) + o) (hp : ((pc : Int) + o).toNat = pc') (K1 : 0 < x → o_Go κ Q h k n pc' Ls St) (K2 : ¬ 0 < x → o_Go κ Q h k n (pc + 3) Ls St) : o_Go κ Q h k n pc Ls (.int x :: St) := by
  by_cases hc : 0 < x
  · exact o_sim B (fun p e m below c T target X hx hby st => XS.ifYes X hx rfl (pc0 := pc) rfl (hb hby hd) rfl (XT.i0_gt_t hc) ho hp st) (K1 hc)
  · exact o_sim B (fun p e m below c T target X hx hby st => XS.ifNo X hx rfl (hb hby hd) rfl (XT.i0_gt_f hc) st) (K2 hc)
theorem o_icmp_gt (B : o_Bo κ l Z n0 R y bytes ml ret) {o : Int} {pc' : Nat} {x w : Int32} (hd : decode bytes pc = .ok (.if_icmp .gt o, 3)) (ho : 0 ≤ (pc : Int) + o) (hp : ((pc : Int) + o).toNat = pc') (K1 : w < x → o_Go κ Q h k n pc' Ls St) (K2 : ¬ w < x → o_Go κ Q h k n (pc + 3) Ls St) : o_Go κ Q h k n pc Ls (.int w :: .int x :: St) := by
  by_cases hc : w < x
  · exact o_sim B (fun p e m below c T target X hx hby st => XS.icmpYes X hx rfl (pc0 := pc) rfl (hb hby hd) rfl (XT.ii_gt_t hc) ho hp st) (K1 hc)
  · exact o_sim B (fun p e m below c T target X hx hby st => XS.icmpNo X hx rfl (hb hby hd) rfl (XT.ii_gt_f hc) st) (K2 hc)
theorem o_lif_gt (B : o_Bo κ l Z n0 R y bytes ml ret) {o : Int} {pc' : Nat} {x w : Int64} (hd : decode bytes pc = .ok (.ifCond .gt o, 3)) (ho : 0 ≤ (pc : Int) + o) (hp : ((pc : Int) + o).toNat = pc') (K1 : w < x → o_Go κ Q h k n pc' Ls St) (K2 : ¬ w < x → o_Go κ Q h k n (pc + 3) Ls St) : o_Go κ Q h k n pc Ls (.int (XT.cmpL x w) :: St) := by
  by_cases hc : w < x
  · exact o_sim B (fun p e m below c T target X hx hby st => XS.ifYes X hx rfl (pc0 := pc) rfl (hb hby hd) rfl (XT.ll_gt_t hc) ho hp st) (K1 hc)
  · exact o_sim B (fun p e m below c T target X hx hby st => XS.ifNo X hx rfl (hb hby hd) rfl (XT.ll_gt_f hc) st) (K2 hc)
theorem o_if_le (B : o_Bo κ l Z n0 R y bytes ml ret) {o : Int} {pc' : Nat} {x : Int32} (hd : decode bytes pc = .ok (.ifCond .le o, 3)) (ho : 0 ≤ (pc : Int) + o) (hp : ((pc : Int) + o).toNat = pc') (K1 : ¬ 0 < x → o_Go κ Q h k n pc' Ls St) (K2 : 0 < x → o_Go κ Q h k n (pc + 3) Ls St) : o_Go κ Q h k n pc Ls (.int x :: St) := by
  by_cases hc : 0 < x
  · exact o_sim B (fun p e m below c T target X hx hby st => XS.ifNo X hx rfl (hb hby hd) rfl (XT.i0_le_f hc) st) (K2 hc)
  · exact o_sim B (fun p e m below c T target X hx hby st => XS.ifYes X hx rfl (pc0 := pc) rfl (hb hby hd) rfl (XT.i0_le_t hc) ho hp st) (K1 hc)
theorem o_icmp_le (B : o_Bo κ l Z n0 R y bytes ml ret) {o : Int} {pc' : Nat} {x w : Int32} (hd : decode bytes pc = .ok (.if_icmp .le o, 3)) (ho : 0 ≤ (pc : Int) + o) (hp : ((pc : Int) + o).toNat = pc') (K1 : ¬ w < x → o_Go κ Q h k n pc' Ls St) (K2 : w < x → o_Go κ Q h k n (pc + 3) Ls St) : o_Go κ Q h k n pc Ls (.int w :: .int x :: St) := by
  by_cases hc : w < x
  · exact o_sim B (fun p e m below c T target X hx hby st => XS.icmpNo X hx rfl (hb hby hd) rfl (XT.ii_le_f hc) st) (K2 hc)
  · exact o_sim B (fun p e m below c T target X hx hby st => XS.icmpYes X hx rfl (pc0 := pc) rfl (hb hby hd) rfl (XT.ii_le_t hc) ho hp st) (K1 hc)
theorem o_lif_le (B : o_Bo κ l Z n0 R y bytes ml ret) {o : Int} {pc' : Nat} {x w : Int64} (hd : decode bytes pc = .ok (.ifCond .le o, 3)) (ho : 0 ≤ (pc : Int) + o) (hp : ((pc : Int) + o).toNat = pc') (K1 : ¬ w < x → o_Go κ Q h k n pc' Ls St) (K2 : w < x → o_Go κ Q h k n (pc + 3) Ls St) : o_Go κ Q h k n pc Ls (.int (XT.cmpL x w) :: St) := by
  by_cases hc : w < x
  · exact o_sim B (fun p e m below c T target X hx hby st => XS.ifNo X hx rfl (hb hby hd) rfl (XT.ll_le_f hc) st) (K2 hc)
  · exact o_sim B (fun p e m below c T target X hx hby st => XS.ifYes X hx rfl (pc0 := pc) rfl (hb hby hd) rfl (XT.ll_le_t hc) ho hp st) (K1 hc)
theorem o_ifnull_N (B : o_Bo κ l Z n0 R y bytes ml ret) {o : Int} {pc' : Nat} (hd : decode bytes pc = .ok (.ifnull o, 3)) (ho : 0 ≤ (pc : Int) + o) (hp : ((pc : Int) + o).toNat = pc') (K : o_Go κ Q h k n pc' Ls St) : o_Go κ Q h k n pc Ls (.null :: St) := o_sim B (fun p e m below c T target X hx hby st => XS.ifnullYes X hx rfl (pc0 := pc) rfl (hb hby hd) rfl ho hp st) K
theorem o_ifnull_R (B : o_Bo κ l Z n0 R y bytes ml ret) {o : Int} {b : Addr} (hd : decode bytes pc = .ok (.ifnull o, 3)) (K : o_Go κ Q h k n (pc + 3) Ls St) : o_Go κ Q h k n pc Ls (.ref b :: St) := o_sim B (fun p e m below c T target X hx hby st => XS.ifnullNo X hx rfl (hb hby hd) rfl st) K
theorem o_ifnonnull_R (B : o_Bo κ l Z n0 R y bytes ml ret) {o : Int} {pc' : Nat} {b : Addr} (hd : decode bytes pc = .ok (.ifnonnull o, 3)) (ho : 0 ≤ (pc : Int) + o) (hp : ((pc : Int) + o).toNat = pc') (K : o_Go κ Q h k n pc' Ls St) : o_Go κ Q h k n pc Ls (.ref b :: St) := o_sim B (fun p e m below c T target X hx hby st => XT.ifnonnullYes X hx rfl (pc0 := pc) rfl (hb hby hd) rfl ho hp st) K
theorem o_ifnonnull_N (B : o_Bo κ l Z n0 R y bytes ml ret) {o : Int} (hd : decode bytes pc = .ok (.ifnonnull o, 3)) (K : o_Go κ Q h k n (pc + 3) Ls St) : o_Go κ Q h k n pc Ls (.null :: St) := o_sim B (fun p e m below c T target X hx hby st => XT.ifnonnullNo X hx rfl (hb hby hd) rfl st) K
theorem o_acmp_eq (B : o_Bo κ l Z n0 R y bytes ml ret) {o : Int} {pc' : Nat} {v w : Value} (hv : v.isRef = true) (hw : w.isRef = true) (hd : decode bytes pc = .ok (.if_acmp .eq o, 3)) (ho : 0 ≤ (pc : Int) + o) (hp : ((pc : Int) + o).toNat = pc') (K1 : v = w → o_Go κ Q h k n pc' Ls St) (K2 : ¬ v = w → o_Go κ Q h k n (pc + 3) Ls St) : o_Go κ Q h k n pc Ls (w :: v :: St) := by
  by_cases hc : v = w
  · exact o_sim B (fun p e m below c T target X hx hby st => XT.acmpYes X hx rfl (pc0 := pc) rfl (hb hby hd) rfl hv hw (by simp [XT.acmp, hc]) ho hp st) (K1 hc)
  · exact o_sim B (fun p e m below c T target X hx hby st => XT.acmpNo X hx rfl (hb hby hd) rfl hv hw (by simp [XT.acmp, hc]) st) (K2 hc)
theorem o_acmp_ne (B : o_Bo κ l Z n0 R y bytes ml ret) {o : Int} {pc' : Nat} {v w : Value} (hv : v.isRef = true) (hw : w.isRef = true) (hd : decode bytes pc = .ok (.if_acmp .ne o, 3)) (ho : 0 ≤ (pc : Int) + o) (hp : ((pc : Int) + o).toNat = pc') (K1 : ¬ v = w → o_Go κ Q h k n pc' Ls St) (K2 : v = w → o_Go κ Q h k n (pc + 3) Ls St) : o_Go κ Q h k n pc Ls (w :: v :: St) := by
  by_cases hc : v = w
  · exact o_sim B (fun p e m below c T target X hx hby st => XT.acmpNo X hx rfl (hb hby hd) rfl hv hw (by simp [XT.acmp, hc]) st) (K2 hc)
  · exact o_sim B (fun p e m below c T target X hx hby st => XT.acmpYes X hx rfl (pc0 := pc) rfl (hb hby hd) rfl hv hw (by simp [XT.acmp, hc]) ho hp st) (K1 hc)
theorem o_ldc (B : o_Bo κ l Z n0 R y bytes ml ret) {idx : Nat} {x : Int32} (hd : decode bytes pc = .ok (.ldc idx, 2)) (w : (Cond.constant y.cls idx x).before a0 Z = true) (K : o_Go κ Q h k n (pc + 2) Ls (.int x :: St)) : o_Go κ Q h k n pc Ls St := by
  obtain ⟨p, e, s, m, args, below, meth, c, rfl, hx, hZ, hby, hml, hown, hret, hlk, hnm⟩ := B
  intro T locs X N eT
  obtain ⟨s₂, o, st, r⟩ := K T locs X N eT
  exact ⟨s₂, o, Stand.ldcI X hx hown (mv hZ w) rfl (hb hby hd) st, r⟩
theorem o_ldc_w (B : o_Bo κ l Z n0 R y bytes ml ret) {idx : Nat} {x : Int32} (hd : decode bytes pc = .ok (.ldc_w idx, 3)) (w : (Cond.constant y.cls idx x).before a0 Z = true) (K : o_Go κ Q h k n (pc + 3) Ls (.int x :: St)) : o_Go κ Q h k n pc Ls St := by
  obtain ⟨p, e, s, m, args, below, meth, c, rfl, hx, hZ, hby, hml, hown, hret, hlk, hnm⟩ := B
  intro T locs X N eT
  obtain ⟨s₂, o, st, r⟩ := K T locs X N eT
  exact ⟨s₂, o, Stand.ldcWI X hx hown (mv hZ w) rfl (hb hby hd) st, r⟩
theorem o_ldc2_w (B : o_Bo κ l Z n0 R y bytes ml ret) {idx : Nat} {x : Int64} (hd : decode bytes pc = .ok (.ldc2_w idx, 3)) (w : (Cond.constantLong y.cls idx x).before a0 Z = true) (K : o_Go κ Q h k n (pc + 3) Ls (.long x :: St)) : o_Go κ Q h k n pc Ls St := by
  obtain ⟨p, e, s, m, args, below, meth, c, rfl, hx, hZ, hby, hml, hown, hret, hlk, hnm⟩ := B
  intro T locs X N eT
  obtain ⟨s₂, o, st, r⟩ := K T locs X N eT
  exact ⟨s₂, o, Stand.ldc2J X hx hown (mv hZ w) rfl (hb hby hd) st, r⟩
theorem o_out (B : o_Bo κ l Z n0 R y bytes ml ret) {v : Option Value} (hv : ret = none → v = none) (hk : k ≤ R.cells) (hn : n ≤ R.slots) (q : Q v h)
    (f : ∀ (p : Program) (e : Env) (s : State) (m : MethodId) (args : Array Value) (below : List Frame) (meth : Method) (c : Code) (T : State) (locs : List Loc), Stand p l e R s m args below meth c T locs k n → p.tables.exec = Jvm.exec → c.code = bytes → meth.sig.returnType = ret → ∀ fs : List Frame, (∀ (f : JFrame) (acts : List Action), f.method = m → f.locked = none → f.entered = [] → (doReturn e (T.setTop f) acts v).1 = T.setFrames fs) → Steps p.tables e below (T.setTop (mkF m pc Ls.toArray St)) (T.setFrames fs)) : o_Go κ Q h k n pc Ls St := by
  obtain ⟨p, e, s, m, args, below, meth, c, rfl, hx, hZ, hby, hml, hown, hret, hlk, hnm⟩ := B
  intro T locs X N eT
  obtain ⟨fs, hr, hrun, hended, hW, hsame⟩ := X.leave (v := v) (fun hh => hv (hret.symm.trans hh)) hlk
  refine ⟨_, _, f p e s m args below meth c T locs X hx hby hret fs hr, hrun, hended, _, _, rfl, ⟨?_, N⟩, ⟨_, rfl⟩, hW, hsame.mono hk hn⟩
  have e1 : (T.setFrames fs).heap = h := eT
  rw [e1]; exact q
theorem o_ireturn (B : o_Bo κ l Z n0 R y bytes ml (some .int)) {x : Int32} (hd : decode bytes pc = .ok (.ireturn, 1)) (hk : k ≤ R.cells) (hn : n ≤ R.slots) (q : Q (some (.int x)) h) : o_Go κ Q h k n pc Ls (.int x :: St) :=
  o_out B (fun hh => by cases hh) hk hn q fun p e s m args below meth c T locs X hx hby hret fs hr => retOut X hx hret rfl (Or.inl ⟨rfl, Or.inl rfl, _, rfl⟩) (hb hby hd) hr
theorem o_zreturn (B : o_Bo κ l Z n0 R y bytes ml (some .boolean)) {x : Int32} (hd : decode bytes pc = .ok (.ireturn, 1)) (hk : k ≤ R.cells) (hn : n ≤ R.slots) (q : Q (some (.int (nar .boolean x))) h) : o_Go κ Q h k n pc Ls (.int x :: St) :=
  o_out B (fun hh => by cases hh) hk hn q fun p e s m args below meth c T locs X hx hby hret fs hr => retN X hx hret (by simp) (hb hby hd) hr
theorem o_lreturn (B : o_Bo κ l Z n0 R y bytes ml (some .long)) {x : Int64} (hd : decode bytes pc = .ok (.lreturn, 1)) (hk : k ≤ R.cells) (hn : n ≤ R.slots) (q : Q (some (.long x)) h) : o_Go κ Q h k n pc Ls (.long x :: St) :=
  o_out B (fun hh => by cases hh) hk hn q fun p e s m args below meth c T locs X hx hby hret fs hr => retOut X hx hret rfl (Or.inr (Or.inl ⟨rfl, rfl, _, rfl⟩)) (hb hby hd) hr
theorem o_areturn {t : FieldType} (B : o_Bo κ l Z n0 R y bytes ml (some t)) {v : Value} (ht : t.isReference = true) (hn' : narrow t v = v) (hv : v.isRef = true) (hd : decode bytes pc = .ok (.areturn, 1)) (hk : k ≤ R.cells) (hn : n ≤ R.slots) (q : Q (some v) h) : o_Go κ Q h k n pc Ls (v :: St) :=
  o_out B (fun hh => by cases hh) hk hn q fun p e s m args below meth c T locs X hx hby hret fs hr => retOut X hx hret hn' (Or.inr (Or.inr (Or.inr (Or.inr ⟨rfl, ht, hv⟩)))) (hb hby hd) hr
theorem o_return (B : o_Bo κ l Z n0 R y bytes ml none) (hd : decode bytes pc = .ok (.return_, 1)) (hk : k ≤ R.cells) (hn : n ≤ R.slots) (q : Q none h) : o_Go κ Q h k n pc Ls [] :=
  o_out B (fun _ => rfl) hk hn q fun p e s m args below meth c T locs X hx hby hret fs hr => X.returnOut hx hret (hb hby hd) hr
theorem o_getF (B : o_Bo κ l Z n0 R y bytes ml ret) {O nm d : String} {idx : Nat} {a : Addr} {v : Value} (hd : decode bytes pc = .ok (.getfield idx, 3)) (w : (Cond.fieldLink y.cls idx O nm d).before a0 Z = true) (F : Fld Z h a O nm d v) (K : o_Go κ Q h k n (pc + 3) Ls (v :: St)) : o_Go κ Q h k n pc Ls (.ref a :: St) := by
  obtain ⟨p, e, s, m, args, below, meth, c, rfl, hx, hZ, hby, hml, hown, hret, hlk, hnm⟩ := B
  intro T locs X N eT
  obtain ⟨T', X', e', st'⟩ := getF X hx hZ hown (host := "") (Or.inl w) Via.refl eT F (g := mkF m pc Ls.toArray (.ref a :: St)) rfl rfl (hb hby hd)
  obtain ⟨s₂, o, st, r⟩ := K T' locs X' N e'
  exact ⟨s₂, o, st' _ st, r⟩
theorem o_putF (B : o_Bo κ l Z n0 R y bytes ml ret) {O nm d C : String} {idx kk : Nat} {a : Addr} {v old : Value} {ty : FieldType} (hd : decode bytes pc = .ok (.putfield idx, 3)) (w : (Cond.fieldLink y.cls idx O nm d).before a0 Z = true) (F : Fld Z h a O nm d old) (E : Exa Z h a C) (L : (Cond.lays C O nm d).before a0 Z = true ∨ ((Cond.laysFinal C O nm d).before a0 Z = true ∧ y.cls = O ∧ y.name = "<init>")) (wi : (Cond.instantiable C kk).before a0 Z = true)
    (hty : parseFieldDescriptor d = some ty) (hn : narrow ty v = v) (hf : fits ty v = true) (ge : n0 ≤ a) (K : ∀ h', Wr h h' a (Jvm.RoadKit.slotOf Z O nm d) v → o_Go κ Q h' k n (pc + 3) Ls St) : o_Go κ Q h k n pc Ls (v :: .ref a :: St) := by
  obtain ⟨p, e, s, m, args, below, meth, c, rfl, hx, hZ, hby, hml, hown, hret, hlk, hnm⟩ := B
  intro T locs X N eT
  have L' : (Cond.lays C O nm d).before a0 Z = true ∨ ((Cond.laysFinal C O nm d).before a0 Z = true ∧ y.cls = O ∧ meth.name = "<init>") := L.imp id fun q => ⟨q.1, q.2.1, hnm.trans q.2.2⟩
  obtain ⟨T', h', X', e', W, st'⟩ := putF X hx hZ hown (host := "") (Or.inl w) Via.refl eT F E L' wi hty hn hf (g := mkF m pc Ls.toArray (v :: .ref a :: St)) rfl rfl (hb hby hd)
  obtain ⟨s₂, o, st, r⟩ := K h' W T' _ X' (Fr.snoc X' N ge) e'
  exact ⟨s₂, o, st' _ st, r⟩
theorem o_getS (B : o_Bo κ l Z n0 R y bytes ml ret) {O nm d : String} {idx : Nat} {v : Value} (hd : decode bytes pc = .ok (.getstatic idx, 3)) (w : (Cond.fieldLink y.cls idx O nm d).before a0 Z = true) (F : Sta Z h O nm d v) (K : o_Go κ Q h k n (pc + 3) Ls (v :: St)) : o_Go κ Q h k n pc Ls St := by
  obtain ⟨p, e, s, m, args, below, meth, c, rfl, hx, hZ, hby, hml, hown, hret, hlk, hnm⟩ := B
  intro T locs X N eT
  obtain ⟨T', X', e', st'⟩ := getS (host := "") X hx hZ hown w Via.refl eT F (g := mkF m pc Ls.toArray St) rfl (hb hby hd)
  obtain ⟨s₂, o, st, r⟩ := K T' locs X' N e'
  exact ⟨s₂, o, st' _ st, r⟩
theorem o_new (B : o_Bo κ l Z n0 R y bytes ml ret) {C : String} {idx nn : Nat} (hd : decode bytes pc = .ok (.new idx, 3)) (w : (Cond.classLink y.cls idx C).before a0 Z = true) (wi : (Cond.instantiable C nn).before a0 Z = true) (wz : (Cond.initialized C).before a0 Z = true) (hc : k + 1 ≤ R.cells) (hl : n + nn ≤ R.slots)
    (K : ∀ h', Ext h h' → Exa Z h' h.size C → (∀ {O nm d : String} {ty : FieldType}, Laid Z a0 C O nm d → parseFieldDescriptor d = some ty → Fld Z h' h.size O nm d (defaultValue ty)) → o_Go κ Q h' (k + 1) (n + nn) (pc + 3) Ls (.ref h.size :: St)) : o_Go κ Q h k n pc Ls St := by
  obtain ⟨p, e, s, m, args, below, meth, c, rfl, hx, hZ, hby, hml, hown, hret, hlk, hnm⟩ := B
  intro T locs X N eT
  obtain ⟨T', h', X', e', E, A, D, -, st'⟩ := newO X hx hZ hown w wi wz eT (g := mkF m pc Ls.toArray St) rfl (hb hby hd) hc hl
  obtain ⟨s₂, o, st, r⟩ := K h' E A (fun L q => D L q) T' _ X' N e'
  exact ⟨s₂, o, st' _ st, r⟩
theorem o_initO (B : o_Bo κ l Z n0 R y bytes ml ret) {idx W : Nat} {a : Addr} (hd : decode bytes pc = .ok (.invokespecial idx, 3)) (w1 : (Cond.methodLink y.cls idx Lib.objectInit).before a0 Z = true) (w2 : (Cond.instanceMethod Lib.objectInit).before a0 Z = true) (w3 : (Cond.code Lib.objectInit ⟨#[0xb1]⟩ 1 none).before a0 Z = true)
    (hf : 1 ≤ R.frames) (hW : (St.map fun v => v.category).sum ≤ W) (hl : W + 12 ≤ R.locals) (hLs : Ls.length = ml) (K : o_Go κ Q h k n (pc + 3) Ls St) : o_Go κ Q h k n pc Ls (.ref a :: St) := by
  obtain ⟨p, e, s, m, args, below, meth, c, rfl, hx, hZ, hby, hml, hown, hret, hlk, hnm⟩ := B
  intro T locs X N eT
  obtain ⟨T', X', e', st'⟩ := initO X hx hZ hown w1 w2 w3 eT (g := mkF m pc Ls.toArray (.ref a :: St)) rfl (by rw [hml, ← hLs]; simp) rfl (hb hby hd) hf (W := W) (by simpa using hW) hl
  obtain ⟨s₂, o, st, r⟩ := K T' _ X' N e'
  exact ⟨s₂, o, st' _ st, r⟩
/-- an array of the component type ty that holds the list vs -/
def o_AR (Z : State) (h : Heap) (a : Addr) (ty : FieldType) (vs : List Value) : Prop := ∃ c : Cell, Arr Z h a c ty ∧ c.slots = vs.toArray ∧ vs.length < 2 ^ 31
abbrev o_IA (Z : State) (h : Heap) (a : Addr) (L : List Int32) : Prop := o_AR Z h a .int (L.map Value.int)
abbrev o_LA (Z : State) (h : Heap) (a : Addr) (L : List Int64) : Prop := o_AR Z h a .long (L.map Value.long)
abbrev o_ZA (Z : State) (h : Heap) (a : Addr) (L : List Int32) : Prop := o_AR Z h a .boolean (L.map Value.int)
theorem o_AR.lt {h : Heap} {a : Addr} {ty : FieldType} {vs : List Value} (A : o_AR Z h a ty vs) : a < h.size := by obtain ⟨c, A, -⟩ := A; exact A.lt
theorem o_AR.ext {h h' : Heap} {a : Addr} {ty : FieldType} {vs : List Value} (A : o_AR Z h a ty vs) (E : Ext h h') : o_AR Z h' a ty vs := by obtain ⟨c, A, r⟩ := A; exact ⟨c, A.ext E, r⟩
theorem o_AR.other {h h' : Heap} {a b : Addr} {sl : Nat} {v : Value} {ty : FieldType} {vs : List Value} (A : o_AR Z h a ty vs) (W : Wr h h' b sl v) (q : a ≠ b) : o_AR Z h' a ty vs := by obtain ⟨c, A, r⟩ := A; exact ⟨c, A.other W q, r⟩
theorem o_AR.keep {h h' : Heap} {a : Addr} {ws : List Addr} {ty : FieldType} {vs : List Value} (A : o_AR Z h a ty vs) (K : Keep h h' ws) (q : a ∉ ws) : o_AR Z h' a ty vs := by obtain ⟨c, A, r⟩ := A; exact ⟨c, ⟨K.2.1 a c A.1 q, A.2⟩, r⟩
theorem o_AR.same {h h' : Heap} {a : Addr} {i : Nat} {v : Value} {ty : FieldType} {vs : List Value} (A : o_AR Z h a ty vs) (W : Wr h h' a i v) : o_AR Z h' a ty (vs.set i v) := by
  obtain ⟨c, A, e, q⟩ := A
  exact ⟨_, A.same W, by simp [Cell.setSlot, e], by simpa using q⟩
theorem o_IA.same {h h' : Heap} {a : Addr} {i : Nat} {x : Int32} {L : List Int32} (A : o_IA Z h a L) (W : Wr h h' a i (.int x)) : o_IA Z h' a (L.set i x) := by
  have := o_AR.same A W; rwa [← List.map_set] at this
theorem o_LA.same {h h' : Heap} {a : Addr} {i : Nat} {x : Int64} {L : List Int64} (A : o_LA Z h a L) (W : Wr h h' a i (.long x)) : o_LA Z h' a (L.set i x) := by
  have := o_AR.same A W; rwa [← List.map_set] at this
theorem o_ZA.same {h h' : Heap} {a : Addr} {i : Nat} {x : Int32} {L : List Int32} (A : o_ZA Z h a L) (W : Wr h h' a i (.int x)) : o_ZA Z h' a (L.set i x) := by
  have := o_AR.same A W; rwa [← List.map_set] at this
theorem o_IA.len {h : Heap} {a : Addr} {L : List Int32} (A : o_IA Z h a L) : L.length < 2 ^ 31 := by obtain ⟨c, A, e, q⟩ := A; simpa using q
theorem o_LA.len {h : Heap} {a : Addr} {L : List Int64} (A : o_LA Z h a L) : L.length < 2 ^ 31 := by obtain ⟨c, A, e, q⟩ := A; simpa using q
theorem o_nat {i N : Nat} (hi : i < N) (hN : N < 2 ^ 31) : (Int32.ofNat i).toNatClampNeg = i ∧ ¬ (Int32.ofNat i < 0) := by
  have e : (Int32.ofNat i).toInt = i := Int32.toInt_ofNat_of_lt (by omega)
  refine ⟨by simp only [Int32.toNatClampNeg, e]; rfl, ?_⟩
  rw [Int32.lt_iff_toInt_lt, e]; show ¬ (i : Int) < 0; omega
theorem o_in {c : Cell} {vs : List Value} {i : Nat} {j : Int32} (es : c.slots = vs.toArray) (q : vs.length < 2 ^ 31) (hj : j = Int32.ofNat i) (hi : i < vs.length) : ¬ (j < 0 ∨ c.slots.size ≤ j.toNatClampNeg) ∧ j.toNatClampNeg = i := by
  subst hj
  obtain ⟨h1, h2⟩ := o_nat hi q
  refine ⟨?_, h1⟩
  rintro (g | g)
  · exact h2 g
  · rw [h1, es] at g; simp at g; omega
theorem o_iaload (B : o_Bo κ l Z n0 R y bytes ml ret) {a : Addr} {vs : List Value} {j : Int32} {v : Value} (i : Nat) (hd : decode bytes pc = .ok (.iaload, 1)) (A : o_AR Z h a .int vs) (hj : j = Int32.ofNat i) (hv : vs[i]? = some v) (K : o_Go κ Q h k n (pc + 1) Ls (v :: St)) : o_Go κ Q h k n pc Ls (.int j :: .ref a :: St) := by
  obtain ⟨p, e, s, m, args, below, meth, c, rfl, hx, hZ, hby, hml, hown, hret, hlk, hnm⟩ := B
  intro T locs X N eT
  obtain ⟨cl, A, es, q⟩ := A
  obtain ⟨hi, hget⟩ := List.getElem?_eq_some_iff.mp hv
  obtain ⟨h1, h2⟩ := o_in es q hj hi
  obtain ⟨s₂, o, st, r⟩ := K T _ X N eT
  exact ⟨s₂, o, X.iaload hx (by rw [eT]; exact A.1) (State.isArrayOf_alike hZ.alike A.2.1) A.2.2 h1 (by rw [h2, es]; simpa using hv) (g := mkF m pc Ls.toArray (.int j :: .ref a :: St)) rfl rfl (hb hby hd) _ st, r⟩
theorem o_laload (B : o_Bo κ l Z n0 R y bytes ml ret) {a : Addr} {vs : List Value} {j : Int32} {v : Value} (i : Nat) (hd : decode bytes pc = .ok (.laload, 1)) (A : o_AR Z h a .long vs) (hj : j = Int32.ofNat i) (hv : vs[i]? = some v) (K : o_Go κ Q h k n (pc + 1) Ls (v :: St)) : o_Go κ Q h k n pc Ls (.int j :: .ref a :: St) := by
  obtain ⟨p, e, s, m, args, below, meth, c, rfl, hx, hZ, hby, hml, hown, hret, hlk, hnm⟩ := B
  intro T locs X N eT
  obtain ⟨cl, A, es, q⟩ := A
  obtain ⟨hi, hget⟩ := List.getElem?_eq_some_iff.mp hv
  obtain ⟨h1, h2⟩ := o_in es q hj hi
  obtain ⟨s₂, o, st, r⟩ := K T _ X N eT
  exact ⟨s₂, o, X.laload hx (by rw [eT]; exact A.1) (State.isArrayOf_alike hZ.alike A.2.1) A.2.2 h1 (by rw [h2, es]; simpa using hv) (g := mkF m pc Ls.toArray (.int j :: .ref a :: St)) rfl rfl (hb hby hd) _ st, r⟩
theorem o_baload (B : o_Bo κ l Z n0 R y bytes ml ret) {a : Addr} {vs : List Value} {j : Int32} {v : Value} (i : Nat) (hd : decode bytes pc = .ok (.baload, 1)) (A : o_AR Z h a .boolean vs) (hj : j = Int32.ofNat i) (hv : vs[i]? = some v) (K : o_Go κ Q h k n (pc + 1) Ls (v :: St)) : o_Go κ Q h k n pc Ls (.int j :: .ref a :: St) := by
  obtain ⟨p, e, s, m, args, below, meth, c, rfl, hx, hZ, hby, hml, hown, hret, hlk, hnm⟩ := B
  intro T locs X N eT
  obtain ⟨cl, A, es, q⟩ := A
  obtain ⟨hi, hget⟩ := List.getElem?_eq_some_iff.mp hv
  obtain ⟨h1, h2⟩ := o_in es q hj hi
  obtain ⟨s₂, o, st, r⟩ := K T _ X N eT
  exact ⟨s₂, o, X.baloadBooleans hx (by rw [eT]; exact A.1) (State.isArrayOf_alike hZ.alike A.2.1) A.2.2 h1 (by rw [h2, es]; simpa using hv) (g := mkF m pc Ls.toArray (.int j :: .ref a :: St)) rfl rfl (hb hby hd) _ st, r⟩
theorem o_aaload (B : o_Bo κ l Z n0 R y bytes ml ret) {ty : FieldType} {a : Addr} {vs : List Value} {j : Int32} {v : Value} (i : Nat) (hty : ty.isReference = true) (hd : decode bytes pc = .ok (.aaload, 1)) (A : o_AR Z h a ty vs) (hj : j = Int32.ofNat i) (hv : vs[i]? = some v) (K : o_Go κ Q h k n (pc + 1) Ls (v :: St)) : o_Go κ Q h k n pc Ls (.int j :: .ref a :: St) := by
  obtain ⟨p, e, s, m, args, below, meth, c, rfl, hx, hZ, hby, hml, hown, hret, hlk, hnm⟩ := B
  intro T locs X N eT
  obtain ⟨cl, A, es, q⟩ := A
  obtain ⟨hi, hget⟩ := List.getElem?_eq_some_iff.mp hv
  obtain ⟨h1, h2⟩ := o_in es q hj hi
  obtain ⟨s₂, o, st, r⟩ := K T _ X N eT
  exact ⟨s₂, o, X.aaload hx (by rw [eT]; exact A.1) (State.isArrayOf_alike hZ.alike A.2.1) hty A.2.2 h1 (by rw [h2, es]; simpa using hv) (g := mkF m pc Ls.toArray (.int j :: .ref a :: St)) rfl rfl (hb hby hd) _ st, r⟩
theorem o_arraylength (B : o_Bo κ l Z n0 R y bytes ml ret) {ty : FieldType} {a : Addr} {vs : List Value} (hd : decode bytes pc = .ok (.arraylength, 1)) (A : o_AR Z h a ty vs) (K : o_Go κ Q h k n (pc + 1) Ls (.int (Int32.ofNat vs.length) :: St)) : o_Go κ Q h k n pc Ls (.ref a :: St) := by
  obtain ⟨p, e, s, m, args, below, meth, c, rfl, hx, hZ, hby, hml, hown, hret, hlk, hnm⟩ := B
  intro T locs X N eT
  obtain ⟨cl, A, es, q⟩ := A
  obtain ⟨s₂, o, st, r⟩ := K T _ X N eT
  have ez : cl.slots.size.toInt32 = Int32.ofNat vs.length := by rw [es]; simp
  exact ⟨s₂, o, X.arraylength hx (by rw [eT]; exact A.1) (State.isArrayOf_alike hZ.alike A.2.1) (g := mkF m pc Ls.toArray (.ref a :: St)) rfl rfl (hb hby hd) _ (by rw [ez]; exact st), r⟩
theorem o_iastore (B : o_Bo κ l Z n0 R y bytes ml ret) {a : Addr} {vs : List Value} {j : Int32} {x : Int32} (i : Nat) (hd : decode bytes pc = .ok (.iastore, 1)) (A : o_AR Z h a .int vs) (hj : j = Int32.ofNat i) (hi : i < vs.length) (ge : n0 ≤ a) (K : ∀ h', Wr h h' a i (.int x) → o_Go κ Q h' k n (pc + 1) Ls St) : o_Go κ Q h k n pc Ls (.int x :: .int j :: .ref a :: St) := by
  obtain ⟨p, e, s, m, args, below, meth, c, rfl, hx, hZ, hby, hml, hown, hret, hlk, hnm⟩ := B
  intro T locs X N eT
  obtain ⟨cl, A, es, q⟩ := A
  obtain ⟨h1, h2⟩ := o_in es q hj hi
  obtain ⟨T', h', X', e', W, st'⟩ := stI X hx hZ eT A h1 (g := mkF m pc Ls.toArray (.int x :: .int j :: .ref a :: St)) rfl rfl (hb hby hd)
  have W' := W
  rw [h2] at W'
  obtain ⟨s₂, o, st, r⟩ := K h' W' T' _ X' (Fr.snoc X' N ge) e'
  exact ⟨s₂, o, st' _ st, r⟩
theorem o_lastore (B : o_Bo κ l Z n0 R y bytes ml ret) {a : Addr} {vs : List Value} {j : Int32} {x : Int64} (i : Nat) (hd : decode bytes pc = .ok (.lastore, 1)) (A : o_AR Z h a .long vs) (hj : j = Int32.ofNat i) (hi : i < vs.length) (ge : n0 ≤ a) (K : ∀ h', Wr h h' a i (.long x) → o_Go κ Q h' k n (pc + 1) Ls St) : o_Go κ Q h k n pc Ls (.long x :: .int j :: .ref a :: St) := by
  obtain ⟨p, e, s, m, args, below, meth, c, rfl, hx, hZ, hby, hml, hown, hret, hlk, hnm⟩ := B
  intro T locs X N eT
  obtain ⟨cl, A, es, q⟩ := A
  obtain ⟨h1, h2⟩ := o_in es q hj hi
  obtain ⟨T', h', X', e', W, st'⟩ := stJ X hx hZ eT A h1 (g := mkF m pc Ls.toArray (.long x :: .int j :: .ref a :: St)) rfl rfl (hb hby hd)
  have W' := W
  rw [h2] at W'
  obtain ⟨s₂, o, st, r⟩ := K h' W' T' _ X' (Fr.snoc X' N ge) e'
  exact ⟨s₂, o, st' _ st, r⟩
theorem o_bastore (B : o_Bo κ l Z n0 R y bytes ml ret) {a : Addr} {vs : List Value} {j : Int32} {x : Int32} (i : Nat) (hd : decode bytes pc = .ok (.bastore, 1)) (A : o_AR Z h a .boolean vs) (hj : j = Int32.ofNat i) (hi : i < vs.length) (ge : n0 ≤ a) (K : ∀ h', Wr h h' a i (.int (nar .boolean x)) → o_Go κ Q h' k n (pc + 1) Ls St) : o_Go κ Q h k n pc Ls (.int x :: .int j :: .ref a :: St) := by
  obtain ⟨p, e, s, m, args, below, meth, c, rfl, hx, hZ, hby, hml, hown, hret, hlk, hnm⟩ := B
  intro T locs X N eT
  obtain ⟨cl, A, es, q⟩ := A
  obtain ⟨h1, h2⟩ := o_in es q hj hi
  obtain ⟨T', h', X', e', W, st'⟩ := stZ X hx hZ eT A h1 (g := mkF m pc Ls.toArray (.int x :: .int j :: .ref a :: St)) rfl rfl (hb hby hd)
  have W' := W
  rw [h2] at W'
  obtain ⟨s₂, o, st, r⟩ := K h' W' T' _ X' (Fr.snoc X' N ge) e'
  exact ⟨s₂, o, st' _ st, r⟩
theorem o_newarray (B : o_Bo κ l Z n0 R y bytes ml ret) {aty : ArrayType} {cnt : Int32} (cN cap : Nat) (hd : decode bytes pc = .ok (.newarray aty, 2)) (w : (Cond.arrayClass (newarray.typeOf aty)).before a0 Z = true) (hcnt : cnt = Int32.ofNat cN) (hcap : cN ≤ cap) (hbig : cap * 8 ≤ 536870912) (hc : k + 1 ≤ R.cells) (hl : n + cap ≤ R.slots)
    (K : ∀ h', Ext h h' → h.size < h'.size → o_AR Z h' h.size (newarray.typeOf aty) (List.replicate cN (defaultValue (newarray.typeOf aty))) → o_Go κ Q h' (k + 1) (n + cap) (pc + 2) Ls (.ref h.size :: St)) : o_Go κ Q h k n pc Ls (.int cnt :: St) := by
  obtain ⟨p, e, s, m, args, below, meth, c, rfl, hx, hZ, hby, hml, hown, hret, hlk, hnm⟩ := B
  intro T locs X N eT
  obtain ⟨h1, h2⟩ := o_nat (i := cN) (N := cN + 1) (by omega) (by omega)
  obtain ⟨T', h', cA, X', e', E, A, st'⟩ := newP X hx hZ w eT (g := mkF m pc Ls.toArray (.int cnt :: St)) rfl (hb hby hd) rfl (by rw [hcnt]; exact h2) (cap := cap) (by rw [hcnt, h1]; exact hcap) hbig hc hl
  obtain ⟨s₂, o, st, r⟩ := K h' E A.lt ⟨_, A, by simp [newA, hcnt, h1], by simp; omega⟩ T' _ X' N e'
  exact ⟨s₂, o, st' _ st, r⟩
theorem o_iadd_c (B : o_Bo κ l Z n0 R y bytes ml ret) {x y : Int32} (z : Int32) (hd : decode bytes pc = .ok (.iadd, 1)) (hz : x + y = z) (K : o_Go κ Q h k n (pc + 1) Ls (.int z :: St)) : o_Go κ Q h k n pc Ls (.int y :: .int x :: St) := o_iadd B hd (hz.symm ▸ K)
theorem o_isub_c (B : o_Bo κ l Z n0 R y bytes ml ret) {x y : Int32} (z : Int32) (hd : decode bytes pc = .ok (.isub, 1)) (hz : x - y = z) (K : o_Go κ Q h k n (pc + 1) Ls (.int z :: St)) : o_Go κ Q h k n pc Ls (.int y :: .int x :: St) := o_isub B hd (hz.symm ▸ K)
theorem o_iand_c (B : o_Bo κ l Z n0 R y bytes ml ret) {x y : Int32} (z : Int32) (hd : decode bytes pc = .ok (.iand, 1)) (hz : x &&& y = z) (K : o_Go κ Q h k n (pc + 1) Ls (.int z :: St)) : o_Go κ Q h k n pc Ls (.int y :: .int x :: St) := o_iand B hd (hz.symm ▸ K)
theorem o_imul_c (B : o_Bo κ l Z n0 R y bytes ml ret) {x y : Int32} (z : Int32) (hd : decode bytes pc = .ok (.imul, 1)) (hz : x * y = z) (K : o_Go κ Q h k n (pc + 1) Ls (.int z :: St)) : o_Go κ Q h k n pc Ls (.int y :: .int x :: St) := o_imul B hd (hz.symm ▸ K)
theorem o_ior_c (B : o_Bo κ l Z n0 R y bytes ml ret) {x y : Int32} (z : Int32) (hd : decode bytes pc = .ok (.ior, 1)) (hz : x ||| y = z) (K : o_Go κ Q h k n (pc + 1) Ls (.int z :: St)) : o_Go κ Q h k n pc Ls (.int y :: .int x :: St) := o_ior B hd (hz.symm ▸ K)
theorem o_ixor_c (B : o_Bo κ l Z n0 R y bytes ml ret) {x y : Int32} (z : Int32) (hd : decode bytes pc = .ok (.ixor, 1)) (hz : x ^^^ y = z) (K : o_Go κ Q h k n (pc + 1) Ls (.int z :: St)) : o_Go κ Q h k n pc Ls (.int y :: .int x :: St) := o_ixor B hd (hz.symm ▸ K)
theorem o_ishl_c (B : o_Bo κ l Z n0 R y bytes ml ret) {x y : Int32} (z : Int32) (hd : decode bytes pc = .ok (.ishl, 1)) (hz : x <<< (y &&& 31) = z) (K : o_Go κ Q h k n (pc + 1) Ls (.int z :: St)) : o_Go κ Q h k n pc Ls (.int y :: .int x :: St) := o_ishl B hd (hz.symm ▸ K)
theorem o_ishr_c (B : o_Bo κ l Z n0 R y bytes ml ret) {x y : Int32} (z : Int32) (hd : decode bytes pc = .ok (.ishr, 1)) (hz : x >>> (y &&& 31) = z) (K : o_Go κ Q h k n (pc + 1) Ls (.int z :: St)) : o_Go κ Q h k n pc Ls (.int y :: .int x :: St) := o_ishr B hd (hz.symm ▸ K)
theorem o_iushr_c (B : o_Bo κ l Z n0 R y bytes ml ret) {x y : Int32} (z : Int32) (hd : decode bytes pc = .ok (.iushr, 1)) (hz : XT.ushr x y = z) (K : o_Go κ Q h k n (pc + 1) Ls (.int z :: St)) : o_Go κ Q h k n pc Ls (.int y :: .int x :: St) := o_iushr B hd (hz.symm ▸ K)
theorem o_idiv_c (B : o_Bo κ l Z n0 R y bytes ml ret) {x y : Int32} (z : Int32) (hd : decode bytes pc = .ok (.idiv, 1)) (hy : y ≠ 0) (hz : x / y = z) (K : o_Go κ Q h k n (pc + 1) Ls (.int z :: St)) : o_Go κ Q h k n pc Ls (.int y :: .int x :: St) := o_idiv B hd hy (hz.symm ▸ K)
theorem o_irem_c (B : o_Bo κ l Z n0 R y bytes ml ret) {x y : Int32} (z : Int32) (hd : decode bytes pc = .ok (.irem, 1)) (hy : y ≠ 0) (hz : x % y = z) (K : o_Go κ Q h k n (pc + 1) Ls (.int z :: St)) : o_Go κ Q h k n pc Ls (.int y :: .int x :: St) := o_irem B hd hy (hz.symm ▸ K)
theorem o_arraylen (B : o_Bo κ l Z n0 R y bytes ml ret) {ty : FieldType} {a : Addr} {vs : List Value} (z : Int32) (hd : decode bytes pc = .ok (.arraylength, 1)) (A : o_AR Z h a ty vs) (hz : Int32.ofNat vs.length = z) (K : o_Go κ Q h k n (pc + 1) Ls (.int z :: St)) : o_Go κ Q h k n pc Ls (.ref a :: St) := o_arraylength B hd A (hz.symm ▸ K)
theorem o_callS (B : o_Bo κ l Z n0 R y bytes ml ret) {yc : MethodName} {bc : ByteArray} {mc : Nat} {rc : Option FieldType} {rm : Room} {as rest : List Value} {Qc : Option Value → Heap → Prop} {idx : Nat} (W : Nat) (hd : decode bytes pc = .ok (.invokestatic idx, 3))
    (w1 : (Cond.methodLink y.cls idx yc).before a0 Z = true) (w2 : (Cond.static yc).before a0 Z = true) (w3 : (Cond.initialized yc.cls).before a0 Z = true) (w4 : (Cond.code yc bc mc rc).before a0 Z = true) (hy : yc.cls ≠ "java/lang/invoke/MethodHandle" ∧ yc.cls ≠ "java/lang/invoke/VarHandle") {ps : List FieldType} {r0 : Option FieldType} (pd : parseMethodDescriptor yc.desc = some ⟨ps, r0⟩) (hlen : as.length = ps.length)
    (hW : (rest.map fun v => v.category).sum ≤ W) (hf : rm.frames + 1 ≤ R.frames) (hl : W + (mc + 11) + rm.locals ≤ R.locals) (hc : k + rm.cells ≤ R.cells) (hs : n + rm.slots ≤ R.slots) (hLs : Ls.length = ml)
    (C : o_C l Z n0 yc bc mc rc rm as h Qc) (K : ∀ v h', Qc v h' → o_Go κ Q h' (k + rm.cells) (n + rm.slots) (pc + 3) Ls (v.toList ++ rest)) : o_Go κ Q h k n pc Ls (as.reverse ++ rest) := by
  obtain ⟨p, e, s, m, args, below, meth, c, rfl, hx, hZ, hby, hml, hown, hret, hlk, hnm⟩ := B
  intro T locs X N eT
  obtain ⟨v, vm1, ⟨T', L', k', n'⟩, -, X', ⟨Lc, hQ, l', y', z'⟩, st'⟩ := Jvm.LawKit.callS X hx (y := yc) hown (mvT hZ w1) (mvT hZ w2) (mvT hZ w3) (mvT hZ w4) hy (backOf (W := W) (Q := fun v h L => Qc v h ∧ Fr n0 L) (C []) hZ w4 w3 hf hl) (g := mkF m pc Ls.toArray (as.reverse ++ rest)) rfl (by rw [hml, ← hLs]; simp) (argsL := as) (rest := rest) (lenOf pd hlen) rfl (by simpa using hW) (hb hby hd) (fun _ _ => ⟨rfl, eT, hc, hs⟩)
  dsimp only [Pt.U, Pt.locs, Pt.cells, Pt.slots] at X' l' y' z' st' hQ
  subst l' y' z'
  obtain ⟨hq, Nc⟩ := hQ
  obtain ⟨s₂, o, st, r⟩ := K v T'.heap hq T' _ X' (Fr.app N Nc) rfl
  exact ⟨s₂, o, st' _ st, r⟩
theorem o_callN (B : o_Bo κ l Z n0 R y bytes ml ret) {yc : MethodName} {bc : ByteArray} {mc : Nat} {rm : Room} {as rest : List Value} {a : Addr} {Qc : Option Value → Heap → Prop} {idx : Nat} (W : Nat) (hd : decode bytes pc = .ok (.invokespecial idx, 3)) (hin : yc.name = "<init>")
    (w1 : (Cond.methodLink y.cls idx yc).before a0 Z = true) (w2 : (Cond.instanceMethod yc).before a0 Z = true) (w3 : (Cond.initialized yc.cls).before a0 Z = true) (w4 : (Cond.code yc bc mc none).before a0 Z = true) (hy : yc.cls ≠ "java/lang/invoke/MethodHandle" ∧ yc.cls ≠ "java/lang/invoke/VarHandle") {ps : List FieldType} {r0 : Option FieldType} (pd : parseMethodDescriptor yc.desc = some ⟨ps, r0⟩) (hlen : as.length = ps.length)
    (hW : (rest.map fun v => v.category).sum ≤ W) (hf : rm.frames + 1 ≤ R.frames) (hl : W + (mc + 11) + rm.locals ≤ R.locals) (hc : k + rm.cells ≤ R.cells) (hs : n + rm.slots ≤ R.slots) (hLs : Ls.length = ml)
    (C : o_C l Z n0 yc bc mc none rm (.ref a :: as) h Qc) (K : ∀ v h', Qc v h' → o_Go κ Q h' (k + rm.cells) (n + rm.slots) (pc + 3) Ls (v.toList ++ rest)) : o_Go κ Q h k n pc Ls (as.reverse ++ .ref a :: rest) := by
  obtain ⟨p, e, s, m, args, below, meth, c, rfl, hx, hZ, hby, hml, hown, hret, hlk, hnm⟩ := B
  intro T locs X N eT
  obtain ⟨v, vm1, ⟨T', L', k', n'⟩, -, X', ⟨Lc, hQ, l', y', z'⟩, st'⟩ := X.specialBack hx (y := yc) hin hown (mvT hZ w1) (mvT hZ w2) (mvT hZ w4) hy (backOf (W := W) (Q := fun v h L => Qc v h ∧ Fr n0 L) (C []) hZ w4 w3 hf hl) (g := mkF m pc Ls.toArray (as.reverse ++ .ref a :: rest)) rfl (by rw [hml, ← hLs]; simp) (Steps.refl _) (a := a) (argsL := as) (rest := rest) (lenOf pd hlen) rfl (by simpa using hW) (hb hby hd) (fun _ _ => ⟨rfl, eT, hc, hs⟩)
  dsimp only [Pt.U, Pt.locs, Pt.cells, Pt.slots] at X' l' y' z' st' hQ
  subst l' y' z'
  obtain ⟨hq, Nc⟩ := hQ
  obtain ⟨s₂, o, st, r⟩ := K v T'.heap hq T' _ X' (Fr.app N Nc) rfl
  exact ⟨s₂, o, st'.trans st, r⟩
theorem o_callV (B : o_Bo κ l Z n0 R y bytes ml ret) {yc : MethodName} {Cn : String} {bc : ByteArray} {mc : Nat} {rc : Option FieldType} {rm : Room} {as rest : List Value} {a : Addr} {Qc : Option Value → Heap → Prop} {idx : Nat} (W : Nat) (hd : decode bytes pc = .ok (.invokevirtual idx, 3))
    (w1 : (Cond.methodLink y.cls idx yc).before a0 Z = true) (w2 : (Cond.declares yc).before a0 Z = true) (w5 : (Cond.selects Cn yc yc).before a0 Z = true) (w6 : (Cond.instanceMethod yc).before a0 Z = true) (w3 : (Cond.initialized yc.cls).before a0 Z = true) (w4 : (Cond.code yc bc mc rc).before a0 Z = true) (hy : yc.cls ≠ "java/lang/invoke/MethodHandle" ∧ yc.cls ≠ "java/lang/invoke/VarHandle") {ps : List FieldType} {r0 : Option FieldType} (pd : parseMethodDescriptor yc.desc = some ⟨ps, r0⟩) (hlen : as.length = ps.length)
    (hW : (rest.map fun v => v.category).sum ≤ W) (hf : rm.frames + 1 ≤ R.frames) (hl : W + (mc + 11) + rm.locals ≤ R.locals) (hc : k + rm.cells ≤ R.cells) (hs : n + rm.slots ≤ R.slots) (hLs : Ls.length = ml) (E : Exa Z h a Cn)
    (C : o_C l Z n0 yc bc mc rc rm (.ref a :: as) h Qc) (K : ∀ v h', Qc v h' → o_Go κ Q h' (k + rm.cells) (n + rm.slots) (pc + 3) Ls (v.toList ++ rest)) : o_Go κ Q h k n pc Ls (as.reverse ++ .ref a :: rest) := by
  obtain ⟨p, e, s, m, args, below, meth, c, rfl, hx, hZ, hby, hml, hown, hret, hlk, hnm⟩ := B
  intro T locs X N eT
  obtain ⟨cq, kq, qa, qb, qc⟩ := isOf hZ eT E
  obtain ⟨v, vm1, ⟨T', L', k', n'⟩, -, X', ⟨Lc, hQ, l', y', z'⟩, st'⟩ := X.virtualBack hx (y := yc) (z := yc) hown (mvT hZ w1) (mvT hZ w2) (notFace_of_selects (args := #[]) (mvT hZ w5)) (mvT hZ w5) (mvT hZ w6) hy (backOf (W := W) (Q := fun v h L => Qc v h ∧ Fr n0 L) (C []) hZ w4 w3 hf hl) qa qc (g := mkF m pc Ls.toArray (as.reverse ++ .ref a :: rest)) rfl (by rw [hml, ← hLs]; simp) (Steps.refl _) (argsL := as) (rest := rest) (lenOf pd hlen) rfl (by simpa using hW) (hb hby hd) (fun _ _ => ⟨rfl, eT, hc, hs⟩)
  dsimp only [Pt.U, Pt.locs, Pt.cells, Pt.slots] at X' l' y' z' st' hQ
  subst l' y' z'
  obtain ⟨hq, Nc⟩ := hQ
  obtain ⟨s₂, o, st, r⟩ := K v T'.heap hq T' _ X' (Fr.app N Nc) rfl
  exact ⟨s₂, o, st'.trans st, r⟩
theorem o_callS0 (B : o_Bo κ l Z n0 R y bytes ml ret) {yc : MethodName} {bc : ByteArray} {mc : Nat} {rc : Option FieldType} {rm : Room} {rest : List Value} {Qc : Option Value → Heap → Prop} {idx : Nat} (W : Nat) (hd : decode bytes pc = .ok (.invokestatic idx, 3)) (w1 : (Cond.methodLink y.cls idx yc).before a0 Z = true) (w2 : (Cond.static yc).before a0 Z = true) (w3 : (Cond.initialized yc.cls).before a0 Z = true) (w4 : (Cond.code yc bc mc rc).before a0 Z = true) (hy : yc.cls ≠ "java/lang/invoke/MethodHandle" ∧ yc.cls ≠ "java/lang/invoke/VarHandle") {ps : List FieldType} {r0 : Option FieldType} (pd : parseMethodDescriptor yc.desc = some ⟨ps, r0⟩) (hlen : 0 = ps.length) (hW : (rest.map fun v => v.category).sum ≤ W) (hf : rm.frames + 1 ≤ R.frames) (hl : W + (mc + 11) + rm.locals ≤ R.locals) (hc : k + rm.cells ≤ R.cells) (hs : n + rm.slots ≤ R.slots) (hLs : Ls.length = ml) (C : o_C l Z n0 yc bc mc rc rm [] h Qc) (K : ∀ v h', Qc v h' → o_Go κ Q h' (k + rm.cells) (n + rm.slots) (pc + 3) Ls (v.toList ++ rest)) : o_Go κ Q h k n pc Ls (rest) := o_callS B W hd w1 w2 w3 w4 hy pd (as := []) hlen hW hf hl hc hs hLs C K
theorem o_callN0 (B : o_Bo κ l Z n0 R y bytes ml ret) {yc : MethodName} {bc : ByteArray} {mc : Nat} {rm : Room} {rest : List Value} {a : Addr} {Qc : Option Value → Heap → Prop} {idx : Nat} (W : Nat) (hd : decode bytes pc = .ok (.invokespecial idx, 3)) (hin : yc.name = "<init>") (w1 : (Cond.methodLink y.cls idx yc).before a0 Z = true) (w2 : (Cond.instanceMethod yc).before a0 Z = true) (w3 : (Cond.initialized yc.cls).before a0 Z = true) (w4 : (Cond.code yc bc mc none).before a0 Z = true) (hy : yc.cls ≠ "java/lang/invoke/MethodHandle" ∧ yc.cls ≠ "java/lang/invoke/VarHandle") {ps : List FieldType} {r0 : Option FieldType} (pd : parseMethodDescriptor yc.desc = some ⟨ps, r0⟩) (hlen : 0 = ps.length) (hW : (rest.map fun v => v.category).sum ≤ W) (hf : rm.frames + 1 ≤ R.frames) (hl : W + (mc + 11) + rm.locals ≤ R.locals) (hc : k + rm.cells ≤ R.cells) (hs : n + rm.slots ≤ R.slots) (hLs : Ls.length = ml) (C : o_C l Z n0 yc bc mc none rm (.ref a :: []) h Qc) (K : ∀ v h', Qc v h' → o_Go κ Q h' (k + rm.cells) (n + rm.slots) (pc + 3) Ls (v.toList ++ rest)) : o_Go κ Q h k n pc Ls (.ref a :: rest) := o_callN B W hd hin w1 w2 w3 w4 hy pd (as := []) hlen hW hf hl hc hs hLs C K
theorem o_callV0 (B : o_Bo κ l Z n0 R y bytes ml ret) {yc : MethodName} {Cn : String} {bc : ByteArray} {mc : Nat} {rc : Option FieldType} {rm : Room} {rest : List Value} {a : Addr} {Qc : Option Value → Heap → Prop} {idx : Nat} (W : Nat) (hd : decode bytes pc = .ok (.invokevirtual idx, 3)) (w1 : (Cond.methodLink y.cls idx yc).before a0 Z = true) (w2 : (Cond.declares yc).before a0 Z = true) (w5 : (Cond.selects Cn yc yc).before a0 Z = true) (w6 : (Cond.instanceMethod yc).before a0 Z = true) (w3 : (Cond.initialized yc.cls).before a0 Z = true) (w4 : (Cond.code yc bc mc rc).before a0 Z = true) (hy : yc.cls ≠ "java/lang/invoke/MethodHandle" ∧ yc.cls ≠ "java/lang/invoke/VarHandle") {ps : List FieldType} {r0 : Option FieldType} (pd : parseMethodDescriptor yc.desc = some ⟨ps, r0⟩) (hlen : 0 = ps.length) (hW : (rest.map fun v => v.category).sum ≤ W) (hf : rm.frames + 1 ≤ R.frames) (hl : W + (mc + 11) + rm.locals ≤ R.locals) (hc : k + rm.cells ≤ R.cells) (hs : n + rm.slots ≤ R.slots) (hLs : Ls.length = ml) (E : Exa Z h a Cn) (C : o_C l Z n0 yc bc mc rc rm (.ref a :: []) h Qc) (K : ∀ v h', Qc v h' → o_Go κ Q h' (k + rm.cells) (n + rm.slots) (pc + 3) Ls (v.toList ++ rest)) : o_Go κ Q h k n pc Ls (.ref a :: rest) := o_callV B W hd w1 w2 w5 w6 w3 w4 hy pd (as := []) hlen hW hf hl hc hs hLs E C K
theorem o_callS1 (B : o_Bo κ l Z n0 R y bytes ml ret) {yc : MethodName} {bc : ByteArray} {mc : Nat} {rc : Option FieldType} {rm : Room} {v0 : Value} {rest : List Value} {Qc : Option Value → Heap → Prop} {idx : Nat} (W : Nat) (hd : decode bytes pc = .ok (.invokestatic idx, 3)) (w1 : (Cond.methodLink y.cls idx yc).before a0 Z = true) (w2 : (Cond.static yc).before a0 Z = true) (w3 : (Cond.initialized yc.cls).before a0 Z = true) (w4 : (Cond.code yc bc mc rc).before a0 Z = true) (hy : yc.cls ≠ "java/lang/invoke/MethodHandle" ∧ yc.cls ≠ "java/lang/invoke/VarHandle") {ps : List FieldType} {r0 : Option FieldType} (pd : parseMethodDescriptor yc.desc = some ⟨ps, r0⟩) (hlen : 1 = ps.length) (hW : (rest.map fun v => v.category).sum ≤ W) (hf : rm.frames + 1 ≤ R.frames) (hl : W + (mc + 11) + rm.locals ≤ R.locals) (hc : k + rm.cells ≤ R.cells) (hs : n + rm.slots ≤ R.slots) (hLs : Ls.length = ml) (C : o_C l Z n0 yc bc mc rc rm [v0] h Qc) (K : ∀ v h', Qc v h' → o_Go κ Q h' (k + rm.cells) (n + rm.slots) (pc + 3) Ls (v.toList ++ rest)) : o_Go κ Q h k n pc Ls (v0 :: rest) := o_callS B W hd w1 w2 w3 w4 hy pd (as := [v0]) hlen hW hf hl hc hs hLs C K
theorem o_callN1 (B : o_Bo κ l Z n0 R y bytes ml ret) {yc : MethodName} {bc : ByteArray} {mc : Nat} {rm : Room} {v0 : Value} {rest : List Value} {a : Addr} {Qc : Option Value → Heap → Prop} {idx : Nat} (W : Nat) (hd : decode bytes pc = .ok (.invokespecial idx, 3)) (hin : yc.name = "<init>") (w1 : (Cond.methodLink y.cls idx yc).before a0 Z = true) (w2 : (Cond.instanceMethod yc).before a0 Z = true) (w3 : (Cond.initialized yc.cls).before a0 Z = true) (w4 : (Cond.code yc bc mc none).before a0 Z = true) (hy : yc.cls ≠ "java/lang/invoke/MethodHandle" ∧ yc.cls ≠ "java/lang/invoke/VarHandle") {ps : List FieldType} {r0 : Option FieldType} (pd : parseMethodDescriptor yc.desc = some ⟨ps, r0⟩) (hlen : 1 = ps.length) (hW : (rest.map fun v => v.category).sum ≤ W) (hf : rm.frames + 1 ≤ R.frames) (hl : W + (mc + 11) + rm.locals ≤ R.locals) (hc : k + rm.cells ≤ R.cells) (hs : n + rm.slots ≤ R.slots) (hLs : Ls.length = ml) (C : o_C l Z n0 yc bc mc none rm (.ref a :: [v0]) h Qc) (K : ∀ v h', Qc v h' → o_Go κ Q h' (k + rm.cells) (n + rm.slots) (pc + 3) Ls (v.toList ++ rest)) : o_Go κ Q h k n pc Ls (v0 :: .ref a :: rest) := o_callN B W hd hin w1 w2 w3 w4 hy pd (as := [v0]) hlen hW hf hl hc hs hLs C K
theorem o_callV1 (B : o_Bo κ l Z n0 R y bytes ml ret) {yc : MethodName} {Cn : String} {bc : ByteArray} {mc : Nat} {rc : Option FieldType} {rm : Room} {v0 : Value} {rest : List Value} {a : Addr} {Qc : Option Value → Heap → Prop} {idx : Nat} (W : Nat) (hd : decode bytes pc = .ok (.invokevirtual idx, 3)) (w1 : (Cond.methodLink y.cls idx yc).before a0 Z = true) (w2 : (Cond.declares yc).before a0 Z = true) (w5 : (Cond.selects Cn yc yc).before a0 Z = true) (w6 : (Cond.instanceMethod yc).before a0 Z = true) (w3 : (Cond.initialized yc.cls).before a0 Z = true) (w4 : (Cond.code yc bc mc rc).before a0 Z = true) (hy : yc.cls ≠ "java/lang/invoke/MethodHandle" ∧ yc.cls ≠ "java/lang/invoke/VarHandle") {ps : List FieldType} {r0 : Option FieldType} (pd : parseMethodDescriptor yc.desc = some ⟨ps, r0⟩) (hlen : 1 = ps.length) (hW : (rest.map fun v => v.category).sum ≤ W) (hf : rm.frames + 1 ≤ R.frames) (hl : W + (mc + 11) + rm.locals ≤ R.locals) (hc : k + rm.cells ≤ R.cells) (hs : n + rm.slots ≤ R.slots) (hLs : Ls.length = ml) (E : Exa Z h a Cn) (C : o_C l Z n0 yc bc mc rc rm (.ref a :: [v0]) h Qc) (K : ∀ v h', Qc v h' → o_Go κ Q h' (k + rm.cells) (n + rm.slots) (pc + 3) Ls (v.toList ++ rest)) : o_Go κ Q h k n pc Ls (v0 :: .ref a :: rest) := o_callV B W hd w1 w2 w5 w6 w3 w4 hy pd (as := [v0]) hlen hW hf hl hc hs hLs E C K
theorem o_callS2 (B : o_Bo κ l Z n0 R y bytes ml ret) {yc : MethodName} {bc : ByteArray} {mc : Nat} {rc : Option FieldType} {rm : Room} {v0 v1 : Value} {rest : List Value} {Qc : Option Value → Heap → Prop} {idx : Nat} (W : Nat) (hd : decode bytes pc = .ok (.invokestatic idx, 3)) (w1 : (Cond.methodLink y.cls idx yc).before a0 Z = true) (w2 : (Cond.static yc).before a0 Z = true) (w3 : (Cond.initialized yc.cls).before a0 Z = true) (w4 : (Cond.code yc bc mc rc).before a0 Z = true) (hy : yc.cls ≠ "java/lang/invoke/MethodHandle" ∧ yc.cls ≠ "java/lang/invoke/VarHandle") {ps : List FieldType} {r0 : Option FieldType} (pd : parseMethodDescriptor yc.desc = some ⟨ps, r0⟩) (hlen : 2 = ps.length) (hW : (rest.map fun v => v.category).sum ≤ W) (hf : rm.frames + 1 ≤ R.frames) (hl : W + (mc + 11) + rm.locals ≤ R.locals) (hc : k + rm.cells ≤ R.cells) (hs : n + rm.slots ≤ R.slots) (hLs : Ls.length = ml) (C : o_C l Z n0 yc bc mc rc rm [v0, v1] h Qc) (K : ∀ v h', Qc v h' → o_Go κ Q h' (k + rm.cells) (n + rm.slots) (pc + 3) Ls (v.toList ++ rest)) : o_Go κ Q h k n pc Ls (v1 :: v0 :: rest) := o_callS B W hd w1 w2 w3 w4 hy pd (as := [v0, v1]) hlen hW hf hl hc hs hLs C K
theorem o_callN2 (B : o_Bo κ l Z n0 R y bytes ml ret) {yc : MethodName} {bc : ByteArray} {mc : Nat} {rm : Room} {v0 v1 : Value} {rest : List Value} {a : Addr} {Qc : Option Value → Heap → Prop} {idx : Nat} (W : Nat) (hd : decode bytes pc = .ok (.invokespecial idx, 3)) (hin : yc.name = "<init>") (w1 : (Cond.methodLink y.cls idx yc).before a0 Z = true) (w2 : (Cond.instanceMethod yc).before a0 Z = true) (w3 : (Cond.initialized yc.cls).before a0 Z = true) (w4 : (Cond.code yc bc mc none).before a0 Z = true) (hy : yc.cls ≠ "java/lang/invoke/MethodHandle" ∧ yc.cls ≠ "java/lang/invoke/VarHandle") {ps : List FieldType} {r0 : Option FieldType} (pd : parseMethodDescriptor yc.desc = some ⟨ps, r0⟩) (hlen : 2 = ps.length) (hW : (rest.map fun v => v.category).sum ≤ W) (hf : rm.frames + 1 ≤ R.frames) (hl : W + (mc + 11) + rm.locals ≤ R.locals) (hc : k + rm.cells ≤ R.cells) (hs : n + rm.slots ≤ R.slots) (hLs : Ls.length = ml) (C : o_C l Z n0 yc bc mc none rm (.ref a :: [v0, v1]) h Qc) (K : ∀ v h', Qc v h' → o_Go κ Q h' (k + rm.cells) (n + rm.slots) (pc + 3) Ls (v.toList ++ rest)) : o_Go κ Q h k n pc Ls (v1 :: v0 :: .ref a :: rest) := o_callN B W hd hin w1 w2 w3 w4 hy pd (as := [v0, v1]) hlen hW hf hl hc hs hLs C K
theorem o_callV2 (B : o_Bo κ l Z n0 R y bytes ml ret) {yc : MethodName} {Cn : String} {bc : ByteArray} {mc : Nat} {rc : Option FieldType} {rm : Room} {v0 v1 : Value} {rest : List Value} {a : Addr} {Qc : Option Value → Heap → Prop} {idx : Nat} (W : Nat) (hd : decode bytes pc = .ok (.invokevirtual idx, 3)) (w1 : (Cond.methodLink y.cls idx yc).before a0 Z = true) (w2 : (Cond.declares yc).before a0 Z = true) (w5 : (Cond.selects Cn yc yc).before a0 Z = true) (w6 : (Cond.instanceMethod yc).before a0 Z = true) (w3 : (Cond.initialized yc.cls).before a0 Z = true) (w4 : (Cond.code yc bc mc rc).before a0 Z = true) (hy : yc.cls ≠ "java/lang/invoke/MethodHandle" ∧ yc.cls ≠ "java/lang/invoke/VarHandle") {ps : List FieldType} {r0 : Option FieldType} (pd : parseMethodDescriptor yc.desc = some ⟨ps, r0⟩) (hlen : 2 = ps.length) (hW : (rest.map fun v => v.category).sum ≤ W) (hf : rm.frames + 1 ≤ R.frames) (hl : W + (mc + 11) + rm.locals ≤ R.locals) (hc : k + rm.cells ≤ R.cells) (hs : n + rm.slots ≤ R.slots) (hLs : Ls.length = ml) (E : Exa Z h a Cn) (C : o_C l Z n0 yc bc mc rc rm (.ref a :: [v0, v1]) h Qc) (K : ∀ v h', Qc v h' → o_Go κ Q h' (k + rm.cells) (n + rm.slots) (pc + 3) Ls (v.toList ++ rest)) : o_Go κ Q h k n pc Ls (v1 :: v0 :: .ref a :: rest) := o_callV B W hd w1 w2 w5 w6 w3 w4 hy pd (as := [v0, v1]) hlen hW hf hl hc hs hLs E C K
theorem o_callS3 (B : o_Bo κ l Z n0 R y bytes ml ret) {yc : MethodName} {bc : ByteArray} {mc : Nat} {rc : Option FieldType} {rm : Room} {v0 v1 v2 : Value} {rest : List Value} {Qc : Option Value → Heap → Prop} {idx : Nat} (W : Nat) (hd : decode bytes pc = .ok (.invokestatic idx, 3)) (w1 : (Cond.methodLink y.cls idx yc).before a0 Z = true) (w2 : (Cond.static yc).before a0 Z = true) (w3 : (Cond.initialized yc.cls).before a0 Z = true) (w4 : (Cond.code yc bc mc rc).before a0 Z = true) (hy : yc.cls ≠ "java/lang/invoke/MethodHandle" ∧ yc.cls ≠ "java/lang/invoke/VarHandle") {ps : List FieldType} {r0 : Option FieldType} (pd : parseMethodDescriptor yc.desc = some ⟨ps, r0⟩) (hlen : 3 = ps.length) (hW : (rest.map fun v => v.category).sum ≤ W) (hf : rm.frames + 1 ≤ R.frames) (hl : W + (mc + 11) + rm.locals ≤ R.locals) (hc : k + rm.cells ≤ R.cells) (hs : n + rm.slots ≤ R.slots) (hLs : Ls.length = ml) (C : o_C l Z n0 yc bc mc rc rm [v0, v1, v2] h Qc) (K : ∀ v h', Qc v h' → o_Go κ Q h' (k + rm.cells) (n + rm.slots) (pc + 3) Ls (v.toList ++ rest)) : o_Go κ Q h k n pc Ls (v2 :: v1 :: v0 :: rest) := o_callS B W hd w1 w2 w3 w4 hy pd (as := [v0, v1, v2]) hlen hW hf hl hc hs hLs C K
theorem o_callN3 (B : o_Bo κ l Z n0 R y bytes ml ret) {yc : MethodName} {bc : ByteArray} {mc : Nat} {rm : Room} {v0 v1 v2 : Value} {rest : List Value} {a : Addr} {Qc : Option Value → Heap → Prop} {idx : Nat} (W : Nat) (hd : decode bytes pc = .ok (.invokespecial idx, 3)) (hin : yc.name = "<init>") (w1 : (Cond.methodLink y.cls idx yc).before a0 Z = true) (w2 : (Cond.instanceMethod yc).before a0 Z = true) (w3 : (Cond.initialized yc.cls).before a0 Z = true) (w4 : (Cond.code yc bc mc none).before a0 Z = true) (hy : yc.cls ≠ "java/lang/invoke/MethodHandle" ∧ yc.cls ≠ "java/lang/invoke/VarHandle") {ps : List FieldType} {r0 : Option FieldType} (pd : parseMethodDescriptor yc.desc = some ⟨ps, r0⟩) (hlen : 3 = ps.length) (hW : (rest.map fun v => v.category).sum ≤ W) (hf : rm.frames + 1 ≤ R.frames) (hl : W + (mc + 11) + rm.locals ≤ R.locals) (hc : k + rm.cells ≤ R.cells) (hs : n + rm.slots ≤ R.slots) (hLs : Ls.length = ml) (C : o_C l Z n0 yc bc mc none rm (.ref a :: [v0, v1, v2]) h Qc) (K : ∀ v h', Qc v h' → o_Go κ Q h' (k + rm.cells) (n + rm.slots) (pc + 3) Ls (v.toList ++ rest)) : o_Go κ Q h k n pc Ls (v2 :: v1 :: v0 :: .ref a :: rest) := o_callN B W hd hin w1 w2 w3 w4 hy pd (as := [v0, v1, v2]) hlen hW hf hl hc hs hLs C K
theorem o_callV3 (B : o_Bo κ l Z n0 R y bytes ml ret) {yc : MethodName} {Cn : String} {bc : ByteArray} {mc : Nat} {rc : Option FieldType} {rm : Room} {v0 v1 v2 : Value} {rest : List Value} {a : Addr} {Qc : Option Value → Heap → Prop} {idx : Nat} (W : Nat) (hd : decode bytes pc = .ok (.invokevirtual idx, 3)) (w1 : (Cond.methodLink y.cls idx yc).before a0 Z = true) (w2 : (Cond.declares yc).before a0 Z = true) (w5 : (Cond.selects Cn yc yc).before a0 Z = true) (w6 : (Cond.instanceMethod yc).before a0 Z = true) (w3 : (Cond.initialized yc.cls).before a0 Z = true) (w4 : (Cond.code yc bc mc rc).before a0 Z = true) (hy : yc.cls ≠ "java/lang/invoke/MethodHandle" ∧ yc.cls ≠ "java/lang/invoke/VarHandle") {ps : List FieldType} {r0 : Option FieldType} (pd : parseMethodDescriptor yc.desc = some ⟨ps, r0⟩) (hlen : 3 = ps.length) (hW : (rest.map fun v => v.category).sum ≤ W) (hf : rm.frames + 1 ≤ R.frames) (hl : W + (mc + 11) + rm.locals ≤ R.locals) (hc : k + rm.cells ≤ R.cells) (hs : n + rm.slots ≤ R.slots) (hLs : Ls.length = ml) (E : Exa Z h a Cn) (C : o_C l Z n0 yc bc mc rc rm (.ref a :: [v0, v1, v2]) h Qc) (K : ∀ v h', Qc v h' → o_Go κ Q h' (k + rm.cells) (n + rm.slots) (pc + 3) Ls (v.toList ++ rest)) : o_Go κ Q h k n pc Ls (v2 :: v1 :: v0 :: .ref a :: rest) := o_callV B W hd w1 w2 w5 w6 w3 w4 hy pd (as := [v0, v1, v2]) hlen hW hf hl hc hs hLs E C K
theorem o_callS4 (B : o_Bo κ l Z n0 R y bytes ml ret) {yc : MethodName} {bc : ByteArray} {mc : Nat} {rc : Option FieldType} {rm : Room} {v0 v1 v2 v3 : Value} {rest : List Value} {Qc : Option Value → Heap → Prop} {idx : Nat} (W : Nat) (hd : decode bytes pc = .ok (.invokestatic idx, 3)) (w1 : (Cond.methodLink y.cls idx yc).before a0 Z = true) (w2 : (Cond.static yc).before a0 Z = true) (w3 : (Cond.initialized yc.cls).before a0 Z = true) (w4 : (Cond.code yc bc mc rc).before a0 Z = true) (hy : yc.cls ≠ "java/lang/invoke/MethodHandle" ∧ yc.cls ≠ "java/lang/invoke/VarHandle") {ps : List FieldType} {r0 : Option FieldType} (pd : parseMethodDescriptor yc.desc = some ⟨ps, r0⟩) (hlen : 4 = ps.length) (hW : (rest.map fun v => v.category).sum ≤ W) (hf : rm.frames + 1 ≤ R.frames) (hl : W + (mc + 11) + rm.locals ≤ R.locals) (hc : k + rm.cells ≤ R.cells) (hs : n + rm.slots ≤ R.slots) (hLs : Ls.length = ml) (C : o_C l Z n0 yc bc mc rc rm [v0, v1, v2, v3] h Qc) (K : ∀ v h', Qc v h' → o_Go κ Q h' (k + rm.cells) (n + rm.slots) (pc + 3) Ls (v.toList ++ rest)) : o_Go κ Q h k n pc Ls (v3 :: v2 :: v1 :: v0 :: rest) := o_callS B W hd w1 w2 w3 w4 hy pd (as := [v0, v1, v2, v3]) hlen hW hf hl hc hs hLs C K
theorem o_callN4 (B : o_Bo κ l Z n0 R y bytes ml ret) {yc : MethodName} {bc : ByteArray} {mc : Nat} {rm : Room} {v0 v1 v2 v3 : Value} {rest : List Value} {a : Addr} {Qc : Option Value → Heap → Prop} {idx : Nat} (W : Nat) (hd : decode bytes pc = .ok (.invokespecial idx, 3)) (hin : yc.name = "<init>") (w1 : (Cond.methodLink y.cls idx yc).before a0 Z = true) (w2 : (Cond.instanceMethod yc).before a0 Z = true) (w3 : (Cond.initialized yc.cls).before a0 Z = true) (w4 : (Cond.code yc bc mc none).before a0 Z = true) (hy : yc.cls ≠ "java/lang/invoke/MethodHandle" ∧ yc.cls ≠ "java/lang/invoke/VarHandle") {ps : List FieldType} {r0 : Option FieldType} (pd : parseMethodDescriptor yc.desc = some ⟨ps, r0⟩) (hlen : 4 = ps.length) (hW : (rest.map fun v => v.category).sum ≤ W) (hf : rm.frames + 1 ≤ R.frames) (hl : W + (mc + 11) + rm.locals ≤ R.locals) (hc : k + rm.cells ≤ R.cells) (hs : n + rm.slots ≤ R.slots) (hLs : Ls.length = ml) (C : o_C l Z n0 yc bc mc none rm (.ref a :: [v0, v1, v2, v3]) h Qc) (K : ∀ v h', Qc v h' → o_Go κ Q h' (k + rm.cells) (n + rm.slots) (pc + 3) Ls (v.toList ++ rest)) : o_Go κ Q h k n pc Ls (v3 :: v2 :: v1 :: v0 :: .ref a :: rest) := o_callN B W hd hin w1 w2 w3 w4 hy pd (as := [v0, v1, v2, v3]) hlen hW hf hl hc hs hLs C K
theorem o_callV4 (B : o_Bo κ l Z n0 R y bytes ml ret) {yc : MethodName} {Cn : String} {bc : ByteArray} {mc : Nat} {rc : Option FieldType} {rm : Room} {v0 v1 v2 v3 : Value} {rest : List Value} {a : Addr} {Qc : Option Value → Heap → Prop} {idx : Nat} (W : Nat) (hd : decode bytes pc = .ok (.invokevirtual idx, 3)) (w1 : (Cond.methodLink y.cls idx yc).before a0 Z = true) (w2 : (Cond.declares yc).before a0 Z = true) (w5 : (Cond.selects Cn yc yc).before a0 Z = true) (w6 : (Cond.instanceMethod yc).before a0 Z = true) (w3 : (Cond.initialized yc.cls).before a0 Z = true) (w4 : (Cond.code yc bc mc rc).before a0 Z = true) (hy : yc.cls ≠ "java/lang/invoke/MethodHandle" ∧ yc.cls ≠ "java/lang/invoke/VarHandle") {ps : List FieldType} {r0 : Option FieldType} (pd : parseMethodDescriptor yc.desc = some ⟨ps, r0⟩) (hlen : 4 = ps.length) (hW : (rest.map fun v => v.category).sum ≤ W) (hf : rm.frames + 1 ≤ R.frames) (hl : W + (mc + 11) + rm.locals ≤ R.locals) (hc : k + rm.cells ≤ R.cells) (hs : n + rm.slots ≤ R.slots) (hLs : Ls.length = ml) (E : Exa Z h a Cn) (C : o_C l Z n0 yc bc mc rc rm (.ref a :: [v0, v1, v2, v3]) h Qc) (K : ∀ v h', Qc v h' → o_Go κ Q h' (k + rm.cells) (n + rm.slots) (pc + 3) Ls (v.toList ++ rest)) : o_Go κ Q h k n pc Ls (v3 :: v2 :: v1 :: v0 :: .ref a :: rest) := o_callV B W hd w1 w2 w5 w6 w3 w4 hy pd (as := [v0, v1, v2, v3]) hlen hW hf hl hc hs hLs E C K
theorem o_callS5 (B : o_Bo κ l Z n0 R y bytes ml ret) {yc : MethodName} {bc : ByteArray} {mc : Nat} {rc : Option FieldType} {rm : Room} {v0 v1 v2 v3 v4 : Value} {rest : List Value} {Qc : Option Value → Heap → Prop} {idx : Nat} (W : Nat) (hd : decode bytes pc = .ok (.invokestatic idx, 3)) (w1 : (Cond.methodLink y.cls idx yc).before a0 Z = true) (w2 : (Cond.static yc).before a0 Z = true) (w3 : (Cond.initialized yc.cls).before a0 Z = true) (w4 : (Cond.code yc bc mc rc).before a0 Z = true) (hy : yc.cls ≠ "java/lang/invoke/MethodHandle" ∧ yc.cls ≠ "java/lang/invoke/VarHandle") {ps : List FieldType} {r0 : Option FieldType} (pd : parseMethodDescriptor yc.desc = some ⟨ps, r0⟩) (hlen : 5 = ps.length) (hW : (rest.map fun v => v.category).sum ≤ W) (hf : rm.frames + 1 ≤ R.frames) (hl : W + (mc + 11) + rm.locals ≤ R.locals) (hc : k + rm.cells ≤ R.cells) (hs : n + rm.slots ≤ R.slots) (hLs : Ls.length = ml) (C : o_C l Z n0 yc bc mc rc rm [v0, v1, v2, v3, v4] h Qc) (K : ∀ v h', Qc v h' → o_Go κ Q h' (k + rm.cells) (n + rm.slots) (pc + 3) Ls (v.toList ++ rest)) : o_Go κ Q h k n pc Ls (v4 :: v3 :: v2 :: v1 :: v0 :: rest) := o_callS B W hd w1 w2 w3 w4 hy pd (as := [v0, v1, v2, v3, v4]) hlen hW hf hl hc hs hLs C K
theorem o_callN5 (B : o_Bo κ l Z n0 R y bytes ml ret) {yc : MethodName} {bc : ByteArray} {mc : Nat} {rm : Room} {v0 v1 v2 v3 v4 : Value} {rest : List Value} {a : Addr} {Qc : Option Value → Heap → Prop} {idx : Nat} (W : Nat) (hd : decode bytes pc = .ok (.invokespecial idx, 3)) (hin : yc.name = "<init>") (w1 : (Cond.methodLink y.cls idx yc).before a0 Z = true) (w2 : (Cond.instanceMethod yc).before a0 Z = true) (w3 : (Cond.initialized yc.cls).before a0 Z = true) (w4 : (Cond.code yc bc mc none).before a0 Z = true) (hy : yc.cls ≠ "java/lang/invoke/MethodHandle" ∧ yc.cls ≠ "java/lang/invoke/VarHandle") {ps : List FieldType} {r0 : Option FieldType} (pd : parseMethodDescriptor yc.desc = some ⟨ps, r0⟩) (hlen : 5 = ps.length) (hW : (rest.map fun v => v.category).sum ≤ W) (hf : rm.frames + 1 ≤ R.frames) (hl : W + (mc + 11) + rm.locals ≤ R.locals) (hc : k + rm.cells ≤ R.cells) (hs : n + rm.slots ≤ R.slots) (hLs : Ls.length = ml) (C : o_C l Z n0 yc bc mc none rm (.ref a :: [v0, v1, v2, v3, v4]) h Qc) (K : ∀ v h', Qc v h' → o_Go κ Q h' (k + rm.cells) (n + rm.slots) (pc + 3) Ls (v.toList ++ rest)) : o_Go κ Q h k n pc Ls (v4 :: v3 :: v2 :: v1 :: v0 :: .ref a :: rest) := o_callN B W hd hin w1 w2 w3 w4 hy pd (as := [v0, v1, v2, v3, v4]) hlen hW hf hl hc hs hLs C K
theorem o_callV5 (B : o_Bo κ l Z n0 R y bytes ml ret) {yc : MethodName} {Cn : String} {bc : ByteArray} {mc : Nat} {rc : Option FieldType} {rm : Room} {v0 v1 v2 v3 v4 : Value} {rest : List Value} {a : Addr} {Qc : Option Value → Heap → Prop} {idx : Nat} (W : Nat) (hd : decode bytes pc = .ok (.invokevirtual idx, 3)) (w1 : (Cond.methodLink y.cls idx yc).before a0 Z = true) (w2 : (Cond.declares yc).before a0 Z = true) (w5 : (Cond.selects Cn yc yc).before a0 Z = true) (w6 : (Cond.instanceMethod yc).before a0 Z = true) (w3 : (Cond.initialized yc.cls).before a0 Z = true) (w4 : (Cond.code yc bc mc rc).before a0 Z = true) (hy : yc.cls ≠ "java/lang/invoke/MethodHandle" ∧ yc.cls ≠ "java/lang/invoke/VarHandle") {ps : List FieldType} {r0 : Option FieldType} (pd : parseMethodDescriptor yc.desc = some ⟨ps, r0⟩) (hlen : 5 = ps.length) (hW : (rest.map fun v => v.category).sum ≤ W) (hf : rm.frames + 1 ≤ R.frames) (hl : W + (mc + 11) + rm.locals ≤ R.locals) (hc : k + rm.cells ≤ R.cells) (hs : n + rm.slots ≤ R.slots) (hLs : Ls.length = ml) (E : Exa Z h a Cn) (C : o_C l Z n0 yc bc mc rc rm (.ref a :: [v0, v1, v2, v3, v4]) h Qc) (K : ∀ v h', Qc v h' → o_Go κ Q h' (k + rm.cells) (n + rm.slots) (pc + 3) Ls (v.toList ++ rest)) : o_Go κ Q h k n pc Ls (v4 :: v3 :: v2 :: v1 :: v0 :: .ref a :: rest) := o_callV B W hd w1 w2 w5 w6 w3 w4 hy pd (as := [v0, v1, v2, v3, v4]) hlen hW hf hl hc hs hLs E C K
theorem o_callS6 (B : o_Bo κ l Z n0 R y bytes ml ret) {yc : MethodName} {bc : ByteArray} {mc : Nat} {rc : Option FieldType} {rm : Room} {v0 v1 v2 v3 v4 v5 : Value} {rest : List Value} {Qc : Option Value → Heap → Prop} {idx : Nat} (W : Nat) (hd : decode bytes pc = .ok (.invokestatic idx, 3)) (w1 : (Cond.methodLink y.cls idx yc).before a0 Z = true) (w2 : (Cond.static yc).before a0 Z = true) (w3 : (Cond.initialized yc.cls).before a0 Z = true) (w4 : (Cond.code yc bc mc rc).before a0 Z = true) (hy : yc.cls ≠ "java/lang/invoke/MethodHandle" ∧ yc.cls ≠ "java/lang/invoke/VarHandle") {ps : List FieldType} {r0 : Option FieldType} (pd : parseMethodDescriptor yc.desc = some ⟨ps, r0⟩) (hlen : 6 = ps.length) (hW : (rest.map fun v => v.category).sum ≤ W) (hf : rm.frames + 1 ≤ R.frames) (hl : W + (mc + 11) + rm.locals ≤ R.locals) (hc : k + rm.cells ≤ R.cells) (hs : n + rm.slots ≤ R.slots) (hLs : Ls.length = ml) (C : o_C l Z n0 yc bc mc rc rm [v0, v1, v2, v3, v4, v5] h Qc) (K : ∀ v h', Qc v h' → o_Go κ Q h' (k + rm.cells) (n + rm.slots) (pc + 3) Ls (v.toList ++ rest)) : o_Go κ Q h k n pc Ls (v5 :: v4 :: v3 :: v2 :: v1 :: v0 :: rest) := o_callS B W hd w1 w2 w3 w4 hy pd (as := [v0, v1, v2, v3, v4, v5]) hlen hW hf hl hc hs hLs C K
theorem o_callN6 (B : o_Bo κ l Z n0 R y bytes ml ret) {yc : MethodName} {bc : ByteArray} {mc : Nat} {rm : Room} {v0 v1 v2 v3 v4 v5 : Value} {rest : List Value} {a : Addr} {Qc : Option Value → Heap → Prop} {idx : Nat} (W : Nat) (hd : decode bytes pc = .ok (.invokespecial idx, 3)) (hin : yc.name = "<init>") (w1 : (Cond.methodLink y.cls idx yc).before a0 Z = true) (w2 : (Cond.instanceMethod yc).before a0 Z = true) (w3 : (Cond.initialized yc.cls).before a0 Z = true) (w4 : (Cond.code yc bc mc none).before a0 Z = true) (hy : yc.cls ≠ "java/lang/invoke/MethodHandle" ∧ yc.cls ≠ "java/lang/invoke/VarHandle") {ps : List FieldType} {r0 : Option FieldType} (pd : parseMethodDescriptor yc.desc = some ⟨ps, r0⟩) (hlen : 6 = ps.length) (hW : (rest.map fun v => v.category).sum ≤ W) (hf : rm.frames + 1 ≤ R.frames) (hl : W + (mc + 11) + rm.locals ≤ R.locals) (hc : k + rm.cells ≤ R.cells) (hs : n + rm.slots ≤ R.slots) (hLs : Ls.length = ml) (C : o_C l Z n0 yc bc mc none rm (.ref a :: [v0, v1, v2, v3, v4, v5]) h Qc) (K : ∀ v h', Qc v h' → o_Go κ Q h' (k + rm.cells) (n + rm.slots) (pc + 3) Ls (v.toList ++ rest)) : o_Go κ Q h k n pc Ls (v5 :: v4 :: v3 :: v2 :: v1 :: v0 :: .ref a :: rest) := o_callN B W hd hin w1 w2 w3 w4 hy pd (as := [v0, v1, v2, v3, v4, v5]) hlen hW hf hl hc hs hLs C K
theorem o_callV6 (B : o_Bo κ l Z n0 R y bytes ml ret) {yc : MethodName} {Cn : String} {bc : ByteArray} {mc : Nat} {rc : Option FieldType} {rm : Room} {v0 v1 v2 v3 v4 v5 : Value} {rest : List Value} {a : Addr} {Qc : Option Value → Heap → Prop} {idx : Nat} (W : Nat) (hd : decode bytes pc = .ok (.invokevirtual idx, 3)) (w1 : (Cond.methodLink y.cls idx yc).before a0 Z = true) (w2 : (Cond.declares yc).before a0 Z = true) (w5 : (Cond.selects Cn yc yc).before a0 Z = true) (w6 : (Cond.instanceMethod yc).before a0 Z = true) (w3 : (Cond.initialized yc.cls).before a0 Z = true) (w4 : (Cond.code yc bc mc rc).before a0 Z = true) (hy : yc.cls ≠ "java/lang/invoke/MethodHandle" ∧ yc.cls ≠ "java/lang/invoke/VarHandle") {ps : List FieldType} {r0 : Option FieldType} (pd : parseMethodDescriptor yc.desc = some ⟨ps, r0⟩) (hlen : 6 = ps.length) (hW : (rest.map fun v => v.category).sum ≤ W) (hf : rm.frames + 1 ≤ R.frames) (hl : W + (mc + 11) + rm.locals ≤ R.locals) (hc : k + rm.cells ≤ R.cells) (hs : n + rm.slots ≤ R.slots) (hLs : Ls.length = ml) (E : Exa Z h a Cn) (C : o_C l Z n0 yc bc mc rc rm (.ref a :: [v0, v1, v2, v3, v4, v5]) h Qc) (K : ∀ v h', Qc v h' → o_Go κ Q h' (k + rm.cells) (n + rm.slots) (pc + 3) Ls (v.toList ++ rest)) : o_Go κ Q h k n pc Ls (v5 :: v4 :: v3 :: v2 :: v1 :: v0 :: .ref a :: rest) := o_callV B W hd w1 w2 w5 w6 w3 w4 hy pd (as := [v0, v1, v2, v3, v4, v5]) hlen hW hf hl hc hs hLs E C K
theorem o_callS7 (B : o_Bo κ l Z n0 R y bytes ml ret) {yc : MethodName} {bc : ByteArray} {mc : Nat} {rc : Option FieldType} {rm : Room} {v0 v1 v2 v3 v4 v5 v6 : Value} {rest : List Value} {Qc : Option Value → Heap → Prop} {idx : Nat} (W : Nat) (hd : decode bytes pc = .ok (.invokestatic idx, 3)) (w1 : (Cond.methodLink y.cls idx yc).before a0 Z = true) (w2 : (Cond.static yc).before a0 Z = true) (w3 : (Cond.initialized yc.cls).before a0 Z = true) (w4 : (Cond.code yc bc mc rc).before a0 Z = true) (hy : yc.cls ≠ "java/lang/invoke/MethodHandle" ∧ yc.cls ≠ "java/lang/invoke/VarHandle") {ps : List FieldType} {r0 : Option FieldType} (pd : parseMethodDescriptor yc.desc = some ⟨ps, r0⟩) (hlen : 7 = ps.length) (hW : (rest.map fun v => v.category).sum ≤ W) (hf : rm.frames + 1 ≤ R.frames) (hl : W + (mc + 11) + rm.locals ≤ R.locals) (hc : k + rm.cells ≤ R.cells) (hs : n + rm.slots ≤ R.slots) (hLs : Ls.length = ml) (C : o_C l Z n0 yc bc mc rc rm [v0, v1, v2, v3, v4, v5, v6] h Qc) (K : ∀ v h', Qc v h' → o_Go κ Q h' (k + rm.cells) (n + rm.slots) (pc + 3) Ls (v.toList ++ rest)) : o_Go κ Q h k n pc Ls (v6 :: v5 :: v4 :: v3 :: v2 :: v1 :: v0 :: rest) := o_callS B W hd w1 w2 w3 w4 hy pd (as := [v0, v1, v2, v3, v4, v5, v6]) hlen hW hf hl hc hs hLs C K
theorem o_callN7 (B : o_Bo κ l Z n0 R y bytes ml ret) {yc : MethodName} {bc : ByteArray} {mc : Nat} {rm : Room} {v0 v1 v2 v3 v4 v5 v6 : Value} {rest : List Value} {a : Addr} {Qc : Option Value → Heap → Prop} {idx : Nat} (W : Nat) (hd : decode bytes pc = .ok (.invokespecial idx, 3)) (hin : yc.name = "<init>") (w1 : (Cond.methodLink y.cls idx yc).before a0 Z = true) (w2 : (Cond.instanceMethod yc).before a0 Z = true) (w3 : (Cond.initialized yc.cls).before a0 Z = true) (w4 : (Cond.code yc bc mc none).before a0 Z = true) (hy : yc.cls ≠ "java/lang/invoke/MethodHandle" ∧ yc.cls ≠ "java/lang/invoke/VarHandle") {ps : List FieldType} {r0 : Option FieldType} (pd : parseMethodDescriptor yc.desc = some ⟨ps, r0⟩) (hlen : 7 = ps.length) (hW : (rest.map fun v => v.category).sum ≤ W) (hf : rm.frames + 1 ≤ R.frames) (hl : W + (mc + 11) + rm.locals ≤ R.locals) (hc : k + rm.cells ≤ R.cells) (hs : n + rm.slots ≤ R.slots) (hLs : Ls.length = ml) (C : o_C l Z n0 yc bc mc none rm (.ref a :: [v0, v1, v2, v3, v4, v5, v6]) h Qc) (K : ∀ v h', Qc v h' → o_Go κ Q h' (k + rm.cells) (n + rm.slots) (pc + 3) Ls (v.toList ++ rest)) : o_Go κ Q h k n pc Ls (v6 :: v5 :: v4 :: v3 :: v2 :: v1 :: v0 :: .ref a :: rest) := o_callN B W hd hin w1 w2 w3 w4 hy pd (as := [v0, v1, v2, v3, v4, v5, v6]) hlen hW hf hl hc hs hLs C K
theorem o_callV7 (B : o_Bo κ l Z n0 R y bytes ml ret) {yc : MethodName} {Cn : String} {bc : ByteArray} {mc : Nat} {rc : Option FieldType} {rm : Room} {v0 v1 v2 v3 v4 v5 v6 : Value} {rest : List Value} {a : Addr} {Qc : Option Value → Heap → Prop} {idx : Nat} (W : Nat) (hd : decode bytes pc = .ok (.invokevirtual idx, 3)) (w1 : (Cond.methodLink y.cls idx yc).before a0 Z = true) (w2 : (Cond.declares yc).before a0 Z = true) (w5 : (Cond.selects Cn yc yc).before a0 Z = true) (w6 : (Cond.instanceMethod yc).before a0 Z = true) (w3 : (Cond.initialized yc.cls).before a0 Z = true) (w4 : (Cond.code yc bc mc rc).before a0 Z = true) (hy : yc.cls ≠ "java/lang/invoke/MethodHandle" ∧ yc.cls ≠ "java/lang/invoke/VarHandle") {ps : List FieldType} {r0 : Option FieldType} (pd : parseMethodDescriptor yc.desc = some ⟨ps, r0⟩) (hlen : 7 = ps.length) (hW : (rest.map fun v => v.category).sum ≤ W) (hf : rm.frames + 1 ≤ R.frames) (hl : W + (mc + 11) + rm.locals ≤ R.locals) (hc : k + rm.cells ≤ R.cells) (hs : n + rm.slots ≤ R.slots) (hLs : Ls.length = ml) (E : Exa Z h a Cn) (C : o_C l Z n0 yc bc mc rc rm (.ref a :: [v0, v1, v2, v3, v4, v5, v6]) h Qc) (K : ∀ v h', Qc v h' → o_Go κ Q h' (k + rm.cells) (n + rm.slots) (pc + 3) Ls (v.toList ++ rest)) : o_Go κ Q h k n pc Ls (v6 :: v5 :: v4 :: v3 :: v2 :: v1 :: v0 :: .ref a :: rest) := o_callV B W hd w1 w2 w5 w6 w3 w4 hy pd (as := [v0, v1, v2, v3, v4, v5, v6]) hlen hW hf hl hc hs hLs E C K
end Fw
section Pats
variable {κ : o_K} {l : Launch} {Z : State} {n0 : Nat} {R : Room} {y : MethodName} {bytes : ByteArray} {ml : Nat} {ret : Option FieldType} {Q : Option Value → Heap → Prop} {h : Heap} {k n pc : Nat} {St : List Value}
theorem o_astore_13_8 (B : o_Bo κ l Z n0 R y bytes ml ret) {s0 s1 s2 s3 s4 s5 s6 s7 s8 s9 s10 s11 s12 : Slot} {v : Value} (hd : decode bytes pc = .ok (.astore 8, 2)) (hv : v.isRef = true) (ho : o_ok1 s8 = true) (K : o_Go κ Q h k n (pc + 2) [s0, s1, s2, s3, s4, s5, s6, s7, .val v, s9, s10, s11, s12] St) : o_Go κ Q h k n pc [s0, s1, s2, s3, s4, s5, s6, s7, s8, s9, s10, s11, s12] (v :: St) := o_astore B hd hv rfl ho K
theorem o_istoreN_5_3 (B : o_Bo κ l Z n0 R y bytes ml ret) {s0 s1 s2 s3 s4 : Slot} {x : Int32} (hd : decode bytes pc = .ok (.istore_n 3, 1)) (ho : o_ok1 s3 = true) (K : o_Go κ Q h k n (pc + 1) [s0, s1, s2, .val (.int x), s4] St) : o_Go κ Q h k n pc [s0, s1, s2, s3, s4] (.int x :: St) := o_istoreN B hd rfl ho K
theorem o_istore_5_4 (B : o_Bo κ l Z n0 R y bytes ml ret) {s0 s1 s2 s3 s4 : Slot} {x : Int32} (hd : decode bytes pc = .ok (.istore 4, 2)) (ho : o_ok1 s4 = true) (K : o_Go κ Q h k n (pc + 2) [s0, s1, s2, s3, .val (.int x)] St) : o_Go κ Q h k n pc [s0, s1, s2, s3, s4] (.int x :: St) := o_istore B hd rfl ho K
theorem o_istore_8_7 (B : o_Bo κ l Z n0 R y bytes ml ret) {s0 s1 s2 s3 s4 s5 s6 s7 : Slot} {x : Int32} (hd : decode bytes pc = .ok (.istore 7, 2)) (ho : o_ok1 s7 = true) (K : o_Go κ Q h k n (pc + 2) [s0, s1, s2, s3, s4, s5, s6, .val (.int x)] St) : o_Go κ Q h k n pc [s0, s1, s2, s3, s4, s5, s6, s7] (.int x :: St) := o_istore B hd rfl ho K
theorem o_istore_13_7 (B : o_Bo κ l Z n0 R y bytes ml ret) {s0 s1 s2 s3 s4 s5 s6 s7 s8 s9 s10 s11 s12 : Slot} {x : Int32} (hd : decode bytes pc = .ok (.istore 7, 2)) (ho : o_ok1 s7 = true) (K : o_Go κ Q h k n (pc + 2) [s0, s1, s2, s3, s4, s5, s6, .val (.int x), s8, s9, s10, s11, s12] St) : o_Go κ Q h k n pc [s0, s1, s2, s3, s4, s5, s6, s7, s8, s9, s10, s11, s12] (.int x :: St) := o_istore B hd rfl ho K
theorem o_istore_13_9 (B : o_Bo κ l Z n0 R y bytes ml ret) {s0 s1 s2 s3 s4 s5 s6 s7 s8 s9 s10 s11 s12 : Slot} {x : Int32} (hd : decode bytes pc = .ok (.istore 9, 2)) (ho : o_ok1 s9 = true) (K : o_Go κ Q h k n (pc + 2) [s0, s1, s2, s3, s4, s5, s6, s7, s8, .val (.int x), s10, s11, s12] St) : o_Go κ Q h k n pc [s0, s1, s2, s3, s4, s5, s6, s7, s8, s9, s10, s11, s12] (.int x :: St) := o_istore B hd rfl ho K
theorem o_istore_13_10 (B : o_Bo κ l Z n0 R y bytes ml ret) {s0 s1 s2 s3 s4 s5 s6 s7 s8 s9 s10 s11 s12 : Slot} {x : Int32} (hd : decode bytes pc = .ok (.istore 10, 2)) (ho : o_ok1 s10 = true) (K : o_Go κ Q h k n (pc + 2) [s0, s1, s2, s3, s4, s5, s6, s7, s8, s9, .val (.int x), s11, s12] St) : o_Go κ Q h k n pc [s0, s1, s2, s3, s4, s5, s6, s7, s8, s9, s10, s11, s12] (.int x :: St) := o_istore B hd rfl ho K
theorem o_istore_13_11 (B : o_Bo κ l Z n0 R y bytes ml ret) {s0 s1 s2 s3 s4 s5 s6 s7 s8 s9 s10 s11 s12 : Slot} {x : Int32} (hd : decode bytes pc = .ok (.istore 11, 2)) (ho : o_ok1 s11 = true) (K : o_Go κ Q h k n (pc + 2) [s0, s1, s2, s3, s4, s5, s6, s7, s8, s9, s10, .val (.int x), s12] St) : o_Go κ Q h k n pc [s0, s1, s2, s3, s4, s5, s6, s7, s8, s9, s10, s11, s12] (.int x :: St) := o_istore B hd rfl ho K
theorem o_istore_13_12 (B : o_Bo κ l Z n0 R y bytes ml ret) {s0 s1 s2 s3 s4 s5 s6 s7 s8 s9 s10 s11 s12 : Slot} {x : Int32} (hd : decode bytes pc = .ok (.istore 12, 2)) (ho : o_ok1 s12 = true) (K : o_Go κ Q h k n (pc + 2) [s0, s1, s2, s3, s4, s5, s6, s7, s8, s9, s10, s11, .val (.int x)] St) : o_Go κ Q h k n pc [s0, s1, s2, s3, s4, s5, s6, s7, s8, s9, s10, s11, s12] (.int x :: St) := o_istore B hd rfl ho K
end Pats
theorem own_i32n (a : Nat) (h : a < 2 ^ 32) : (Int32.ofNat a).toBitVec.toNat = a := by
  show (BitVec.ofNat 32 a).toNat = a
  rw [BitVec.toNat_ofNat]; exact Nat.mod_eq_of_lt h
theorem own_i64n (a : Nat) (h : a < 2 ^ 64) : (Int64.ofNat a).toBitVec.toNat = a := by
  show (BitVec.ofNat 64 a).toNat = a
  rw [BitVec.toNat_ofNat]; exact Nat.mod_eq_of_lt h
theorem own_pow {j : Nat} (hj : j ≤ 30) : 2 ^ j ≤ 2 ^ 30 ∧ 0 < 2 ^ j := ⟨Nat.pow_le_pow_right (by decide) hj, Nat.two_pow_pos j⟩
theorem own_and (x : Int32) {j : Nat} (hj : j ≤ 30) : x &&& Int32.ofNat (2 ^ j - 1) = Int32.ofNat (x.toBitVec.toNat % 2 ^ j) := by
  obtain ⟨p1, p2⟩ := own_pow hj
  have m := Nat.mod_lt x.toBitVec.toNat p2
  apply Int32.toBitVec_inj.mp; apply BitVec.eq_of_toNat_eq
  rw [Int32.toBitVec_and, BitVec.toNat_and, own_i32n _ (by omega), own_i32n _ (by omega), Nat.and_two_pow_sub_one_eq_mod]
theorem own_andL (x : Int64) {j : Nat} (hj : j ≤ 30) : x &&& Int64.ofNat (2 ^ j - 1) = Int64.ofNat (x.toBitVec.toNat % 2 ^ j) := by
  obtain ⟨p1, p2⟩ := own_pow hj
  have m := Nat.mod_lt x.toBitVec.toNat p2
  apply Int64.toBitVec_inj.mp; apply BitVec.eq_of_toNat_eq
  rw [Int64.toBitVec_and, BitVec.toNat_and, own_i64n _ (by omega), own_i64n _ (by omega), Nat.and_two_pow_sub_one_eq_mod]
theorem own_sub1 {j : Nat} (hj : j ≤ 30) : Int32.ofNat (2 ^ j) - 1 = Int32.ofNat (2 ^ j - 1) := by
  obtain ⟨p1, p2⟩ := own_pow hj
  have e : 2 ^ j = (2 ^ j - 1) + 1 := by omega
  have e2 : Int32.ofNat (2 ^ j) = Int32.ofNat (2 ^ j - 1) + 1 := by
    rw [show (1 : Int32) = Int32.ofNat 1 from rfl, ← Int32.ofNat_add, ← e]
  rw [e2, Int32.add_sub_cancel]
theorem own_toInt {a : Nat} (h : a < 2 ^ 31) : (Int32.ofNat a).toInt = a := Int32.toInt_ofNat_of_lt h
theorem own_one (x : Nat) : Int32.ofNat x + 1 = Int32.ofNat (x + 1) := (Int32.ofNat_add x 1).symm
theorem own_step {x j : Nat} (hj : j ≤ 30) (hx : x < 2 ^ j) : (Int32.ofNat x + 1) &&& Int32.ofNat (2 ^ j - 1) = Int32.ofNat ((x + 1) % 2 ^ j) := by
  obtain ⟨p1, p2⟩ := own_pow hj
  rw [own_one, own_and _ hj, own_i32n _ (by omega)]
theorem own_wide {a : Nat} (h : a < 2 ^ 31) : (Int32.ofNat a).toInt64 = Int64.ofNat a := by
  apply Int64.toInt_inj.mp
  rw [Int32.toInt_toInt64, own_toInt h, Int64.toInt_ofNat_of_lt (by omega)]
theorem own_narrow {a : Nat} (h : a < 2 ^ 31) : (Int64.ofNat a).toInt32 = Int32.ofNat a := by
  apply Int32.toBitVec_inj.mp; apply BitVec.eq_of_toNat_eq
  show ((Int64.ofNat a).toBitVec.signExtend 32).toNat = _
  rw [BitVec.signExtend_eq_setWidth_of_le _ (by decide), BitVec.toNat_setWidth, own_i64n _ (by omega), own_i32n _ (by omega)]
  exact Nat.mod_eq_of_lt (by omega)
theorem own_s1 (key : Int64) {j : Nat} (hj : j ≤ 30) : (key &&& (Int32.ofNat (2 ^ j - 1)).toInt64).toInt32 = Int32.ofNat (key.toBitVec.toNat % 2 ^ j) := by
  obtain ⟨p1, p2⟩ := own_pow hj
  have m := Nat.mod_lt key.toBitVec.toNat p2
  rw [own_wide (by omega), own_andL _ hj, own_narrow (by omega)]
theorem own_s2 (key : Int64) {j : Nat} (hj : j ≤ 30) : key.toInt32 &&& Int32.ofNat (2 ^ j - 1) = Int32.ofNat (key.toBitVec.toNat % 2 ^ j) := by
  rw [own_and _ hj]
  have e : key.toInt32.toBitVec.toNat = key.toBitVec.toNat % 2 ^ 32 := by
    show (key.toBitVec.signExtend 32).toNat = _
    rw [BitVec.signExtend_eq_setWidth_of_le _ (by decide), BitVec.toNat_setWidth]
  rw [e, Nat.mod_mod_of_dvd _ (Nat.pow_dvd_pow 2 (by omega : j ≤ 32))]
theorem own_rem {a b : Nat} (ha : a < 2 ^ 31) (hb : b < 2 ^ 31) : Int32.ofNat a % Int32.ofNat b = Int32.ofNat (a % b) := by
  have hm : a % b ≤ a := Nat.mod_le a b
  apply Int32.toInt_inj.mp
  rw [Int32.toInt_mod, own_toInt ha, own_toInt hb, own_toInt (by omega)]
  exact (Int.ofNat_tmod a b).symm
theorem own_ne0 {a : Nat} (h0 : 0 < a) (ha : a < 2 ^ 31) : Int32.ofNat a ≠ 0 := fun q => by
  have := congrArg Int32.toInt q
  rw [own_toInt ha] at this
  have z : (0 : Int32).toInt = 0 := rfl
  omega
theorem own_nn {a : Nat} (ha : a < 2 ^ 31) : ¬ Int32.ofNat a < 0 := by
  rw [Int32.lt_iff_toInt_lt, own_toInt ha]
  have z : (0 : Int32).toInt = 0 := rfl
  omega
theorem own_ltn {a b : Nat} (ha : a < 2 ^ 31) (hb : b < 2 ^ 31) : Int32.ofNat a < Int32.ofNat b ↔ a < b := by
  rw [Int32.lt_iff_toInt_lt, own_toInt ha, own_toInt hb]; omega
theorem own_inj {a b : Nat} (ha : a < 2 ^ 31) (hb : b < 2 ^ 31) : Int32.ofNat a = Int32.ofNat b ↔ a = b := by
  rw [← Int32.toInt_inj, own_toInt ha, own_toInt hb]; omega
theorem own_least {p : Nat → Prop} (hd : ∀ d, p d ∨ ¬ p d) : ∀ n, (∃ d, d < n ∧ p d) → ∃ d0, d0 < n ∧ p d0 ∧ ∀ d, d < d0 → ¬ p d
  | 0, ⟨d, h, _⟩ => absurd h (Nat.not_lt_zero d)
  | n + 1, ⟨d, h, q⟩ => by
    by_cases e : ∃ d, d < n ∧ p d
    · obtain ⟨d0, h1, h2, h3⟩ := own_least hd n e
      exact ⟨d0, by omega, h2, h3⟩
    · have hdn : d = n := by
        have : ¬ d < n := fun x => e ⟨d, x, q⟩
        omega
      subst hdn
      exact ⟨d, by omega, q, fun x hx px => e ⟨x, hx, px⟩⟩
/-- entry i of T is free or holds the key -/
def own_H (T : List Int64) (key : Int64) (i : Nat) : Prop := ∃ x, T[i]? = some x ∧ (x = 0 ∨ x = key)
theorem own_H.dec (T : List Int64) (key : Int64) (i : Nat) : own_H T key i ∨ ¬ own_H T key i := Classical.em _
theorem own_at {T : List Int64} {i n : Nat} (hT : T.length = n) (hi : i < n) : ∃ x, T[i]? = some x ∧ (T.map Value.long)[i]? = some (.long x) := by
  subst hT
  exact ⟨T[i], List.getElem?_eq_getElem hi, by rw [List.getElem?_map, List.getElem?_eq_getElem hi]; rfl⟩
def own_W (S n d0 d : Nat) : Int32 := if d ≤ d0 then -1 else Int32.ofNat ((S + d0) % n)
theorem own_W0 (S n d0 : Nat) : own_W S n d0 0 = -1 := by simp [own_W]
theorem own_c (x : Int32) : x &&& 3 = 0 ∨ x &&& 3 = 1 ∨ x &&& 3 = 2 ∨ x &&& 3 = 3 := by
  have e := own_and x (j := 2) (by decide)
  have m := Nat.mod_lt x.toBitVec.toNat (show 0 < 2 ^ 2 by decide)
  have e' : x &&& 3 = Int32.ofNat (x.toBitVec.toNat % 2 ^ 2) := e
  have h4 : ∀ q : Nat, q < 2 ^ 2 → q = 0 ∨ q = 1 ∨ q = 2 ∨ q = 3 := by omega
  rw [e']
  rcases h4 _ m with q | q | q | q <;> rw [q] <;> simp
theorem pn0 : plainFor Jvm.Pilot.@@N@@.x = true := by first | exact plainFor_of_name (by first | (simp [x, plainName, overriddenIn]; done) | decide +kernel) | decide +kernel
theorem d1_0 : decode method_3_code 0 = .ok (.iload_n 0, 1) := by decide +kernel
theorem d1_1 : decode method_3_code 1 = .ok (.ifCond .ne 5, 3) := by decide +kernel
theorem d1_4 : decode method_3_code 4 = .ok (.lconst 0, 1) := by decide +kernel
theorem d1_5 : decode method_3_code 5 = .ok (.lreturn, 1) := by decide +kernel
theorem d1_6 : decode method_3_code 6 = .ok (.iload_n 0, 1) := by decide +kernel
theorem d1_7 : decode method_3_code 7 = .ok (.iconst 1, 1) := by decide +kernel
theorem d1_8 : decode method_3_code 8 = .ok (.if_icmp .ne 5, 3) := by decide +kernel
theorem d1_11 : decode method_3_code 11 = .ok (.lload_n 1, 1) := by decide +kernel
theorem d1_12 : decode method_3_code 12 = .ok (.lreturn, 1) := by decide +kernel
theorem d1_13 : decode method_3_code 13 = .ok (.iload_n 0, 1) := by decide +kernel
theorem d1_14 : decode method_3_code 14 = .ok (.iconst 2, 1) := by decide +kernel
theorem d1_15 : decode method_3_code 15 = .ok (.if_icmp .ne 5, 3) := by decide +kernel
theorem d1_18 : decode method_3_code 18 = .ok (.lload_n 3, 1) := by decide +kernel
theorem d1_19 : decode method_3_code 19 = .ok (.lreturn, 1) := by decide +kernel
theorem d1_20 : decode method_3_code 20 = .ok (.lload 5, 2) := by decide +kernel
theorem d1_22 : decode method_3_code 22 = .ok (.lreturn, 1) := by decide +kernel
abbrev oy1 : MethodName := ⟨"com/example/one_verdict/oneverdict/check/FingerprintSetSlotPinLaw", "pick", "(IJJJ)J"⟩
theorem pn1 : plainFor oy1 = true := by first | exact plainFor_of_name (by first | (simp [plainName, overriddenIn]; done) | decide +kernel) | decide +kernel
theorem pd1 : parseMethodDescriptor oy1.desc = some ⟨[.int, .long, .long, .long], some .long⟩ := by decide +kernel
theorem d2_0 : decode method_4_code 0 = .ok (.lload_n 0, 1) := by decide +kernel
theorem d2_1 : decode method_4_code 1 = .ok (.lconst 0, 1) := by decide +kernel
theorem d2_2 : decode method_4_code 2 = .ok (.lcmp, 1) := by decide +kernel
theorem d2_3 : decode method_4_code 3 = .ok (.ifCond .eq 9, 3) := by decide +kernel
theorem d2_6 : decode method_4_code 6 = .ok (.lload_n 0, 1) := by decide +kernel
theorem d2_7 : decode method_4_code 7 = .ok (.lload_n 2, 1) := by decide +kernel
theorem d2_8 : decode method_4_code 8 = .ok (.lcmp, 1) := by decide +kernel
theorem d2_9 : decode method_4_code 9 = .ok (.ifCond .ne 7, 3) := by decide +kernel
theorem d2_12 : decode method_4_code 12 = .ok (.iconst 1, 1) := by decide +kernel
theorem d2_13 : decode method_4_code 13 = .ok (.goto 4, 3) := by decide +kernel
theorem d2_16 : decode method_4_code 16 = .ok (.iconst 0, 1) := by decide +kernel
theorem d2_17 : decode method_4_code 17 = .ok (.ireturn, 1) := by decide +kernel
abbrev oy2 : MethodName := ⟨"com/example/one_verdict/oneverdict/check/FingerprintSetSlotPinLaw", "hit", "(JJ)Z"⟩
theorem pn2 : plainFor oy2 = true := by first | exact plainFor_of_name (by first | (simp [plainName, overriddenIn]; done) | decide +kernel) | decide +kernel
theorem pd2 : parseMethodDescriptor oy2.desc = some ⟨[.long, .long], some .boolean⟩ := by decide +kernel
theorem d3_0 : decode method_5_code 0 = .ok (.iload 6, 2) := by decide +kernel
theorem d3_2 : decode method_5_code 2 = .ok (.ifCond .ge 8, 3) := by decide +kernel
theorem d3_5 : decode method_5_code 5 = .ok (.iload_n 3, 1) := by decide +kernel
theorem d3_6 : decode method_5_code 6 = .ok (.iload_n 1, 1) := by decide +kernel
theorem d3_7 : decode method_5_code 7 = .ok (.if_icmp .lt 6, 3) := by decide +kernel
theorem d3_10 : decode method_5_code 10 = .ok (.iload 6, 2) := by decide +kernel
theorem d3_12 : decode method_5_code 12 = .ok (.ireturn, 1) := by decide +kernel
theorem d3_13 : decode method_5_code 13 = .ok (.iload_n 2, 1) := by decide +kernel
theorem d3_14 : decode method_5_code 14 = .ok (.iload_n 3, 1) := by decide +kernel
theorem d3_15 : decode method_5_code 15 = .ok (.iadd, 1) := by decide +kernel
theorem d3_16 : decode method_5_code 16 = .ok (.iload_n 1, 1) := by decide +kernel
theorem d3_17 : decode method_5_code 17 = .ok (.irem, 1) := by decide +kernel
theorem d3_18 : decode method_5_code 18 = .ok (.istore 7, 2) := by decide +kernel
theorem d3_20 : decode method_5_code 20 = .ok (.aload_n 0, 1) := by decide +kernel
theorem d3_21 : decode method_5_code 21 = .ok (.iload 7, 2) := by decide +kernel
theorem d3_23 : decode method_5_code 23 = .ok (.laload, 1) := by decide +kernel
theorem d3_24 : decode method_5_code 24 = .ok (.lload 4, 2) := by decide +kernel
theorem d3_26 : decode method_5_code 26 = .ok (.invokestatic 13, 3) := by decide +kernel
theorem d3_29 : decode method_5_code 29 = .ok (.ifCond .eq 8, 3) := by decide +kernel
theorem d3_32 : decode method_5_code 32 = .ok (.iload 7, 2) := by decide +kernel
theorem d3_34 : decode method_5_code 34 = .ok (.goto 4, 3) := by decide +kernel
theorem d3_37 : decode method_5_code 37 = .ok (.iconst (-1), 1) := by decide +kernel
theorem d3_38 : decode method_5_code 38 = .ok (.ireturn, 1) := by decide +kernel
abbrev oy3 : MethodName := ⟨"com/example/one_verdict/oneverdict/check/FingerprintSetSlotPinLaw", "probe", "([JIIIJI)I"⟩
theorem pn3 : plainFor oy3 = true := by first | exact plainFor_of_name (by first | (simp [plainName, overriddenIn]; done) | decide +kernel) | decide +kernel
theorem pd3 : parseMethodDescriptor oy3.desc = some ⟨[(.array .long), .int, .int, .int, .long, .int], some .int⟩ := by decide +kernel
theorem d4_0 : decode prog_6_method_10_code 0 = .ok (.aload_n 0, 1) := by decide +kernel
theorem d4_1 : decode prog_6_method_10_code 1 = .ok (.arraylength, 1) := by decide +kernel
theorem d4_2 : decode prog_6_method_10_code 2 = .ok (.iconst 1, 1) := by decide +kernel
theorem d4_3 : decode prog_6_method_10_code 3 = .ok (.isub, 1) := by decide +kernel
theorem d4_4 : decode prog_6_method_10_code 4 = .ok (.istore_n 3, 1) := by decide +kernel
theorem d4_5 : decode prog_6_method_10_code 5 = .ok (.lload_n 1, 1) := by decide +kernel
theorem d4_6 : decode prog_6_method_10_code 6 = .ok (.l2i, 1) := by decide +kernel
theorem d4_7 : decode prog_6_method_10_code 7 = .ok (.iload_n 3, 1) := by decide +kernel
theorem d4_8 : decode prog_6_method_10_code 8 = .ok (.iand, 1) := by decide +kernel
theorem d4_9 : decode prog_6_method_10_code 9 = .ok (.istore 4, 2) := by decide +kernel
theorem d4_11 : decode prog_6_method_10_code 11 = .ok (.aload_n 0, 1) := by decide +kernel
theorem d4_12 : decode prog_6_method_10_code 12 = .ok (.iload 4, 2) := by decide +kernel
theorem d4_14 : decode prog_6_method_10_code 14 = .ok (.laload, 1) := by decide +kernel
theorem d4_15 : decode prog_6_method_10_code 15 = .ok (.lconst 0, 1) := by decide +kernel
theorem d4_16 : decode prog_6_method_10_code 16 = .ok (.lcmp, 1) := by decide +kernel
theorem d4_17 : decode prog_6_method_10_code 17 = .ok (.ifCond .eq 23, 3) := by decide +kernel
theorem d4_20 : decode prog_6_method_10_code 20 = .ok (.aload_n 0, 1) := by decide +kernel
theorem d4_21 : decode prog_6_method_10_code 21 = .ok (.iload 4, 2) := by decide +kernel
theorem d4_23 : decode prog_6_method_10_code 23 = .ok (.laload, 1) := by decide +kernel
theorem d4_24 : decode prog_6_method_10_code 24 = .ok (.lload_n 1, 1) := by decide +kernel
theorem d4_25 : decode prog_6_method_10_code 25 = .ok (.lcmp, 1) := by decide +kernel
theorem d4_26 : decode prog_6_method_10_code 26 = .ok (.ifCond .eq 14, 3) := by decide +kernel
theorem d4_29 : decode prog_6_method_10_code 29 = .ok (.iload 4, 2) := by decide +kernel
theorem d4_31 : decode prog_6_method_10_code 31 = .ok (.iconst 1, 1) := by decide +kernel
theorem d4_32 : decode prog_6_method_10_code 32 = .ok (.iadd, 1) := by decide +kernel
theorem d4_33 : decode prog_6_method_10_code 33 = .ok (.iload_n 3, 1) := by decide +kernel
theorem d4_34 : decode prog_6_method_10_code 34 = .ok (.iand, 1) := by decide +kernel
theorem d4_35 : decode prog_6_method_10_code 35 = .ok (.istore 4, 2) := by decide +kernel
theorem d4_37 : decode prog_6_method_10_code 37 = .ok (.goto (-26), 3) := by decide +kernel
theorem d4_40 : decode prog_6_method_10_code 40 = .ok (.iload 4, 2) := by decide +kernel
theorem d4_42 : decode prog_6_method_10_code 42 = .ok (.ireturn, 1) := by decide +kernel
abbrev oy4 : MethodName := ⟨"com/example/one_verdict/oneverdict/check/FingerprintSet", "slot", "([JJ)I"⟩
theorem pn4 : plainFor oy4 = true := by first | exact plainFor_of_name (by first | (simp [plainName, overriddenIn]; done) | decide +kernel) | decide +kernel
theorem pd4 : parseMethodDescriptor oy4.desc = some ⟨[(.array .long), .long], some .int⟩ := by decide +kernel
abbrev orm1 : Room := { frames := 0, cells := 0, slots := 0, locals := 0 }
abbrev orm2 : Room := { frames := 0, cells := 0, slots := 0, locals := 0 }
abbrev orm3 : Room := { frames := 1, cells := 0, slots := 0, locals := 15 }
abbrev orm4 : Room := { frames := 0, cells := 0, slots := 0, locals := 0 }
set_option maxRecDepth 65536 in
set_option maxHeartbeats 40000000 in
theorem oc1 (l : Launch) (Z : State) (a0 : Array Value) (hw : ∀ d ∈ tables_1, d.before a0 Z = true) (n0 : Nat) (h : Heap) (c : Int32) (key a b : Int64) : o_C l Z n0 oy1 method_3_code 7 (some .long) orm1 [(.int c), (.long key), (.long a), (.long b)] h (fun v h' => (∃ x : Int64, v = some (.long x)) ∧ h' = h) := by
  refine o_body (Ls := [.val (.int c), .val (.long key), .second, .val (.long a), .second, .val (.long b), .second]) pn1 (by first | (simp [argsToLocals, Value.category]; done) | rfl) (fun κ B => ?_)
  refine o_iloadN (pc := 0) B d1_0 rfl ?_
  refine o_if_ne (pc := 1) (pc' := 6) B d1_1 (by decide) (by decide) (fun hc1 => ?_) (fun hc1 => ?_)
  · refine o_iloadN (pc := 6) B d1_6 rfl ?_
    refine o_iconst (pc := 7) B (1 : Int32) d1_7 (by decide) ?_
    refine o_icmp_ne (pc := 8) (pc' := 13) B d1_8 (by decide) (by decide) (fun hc8 => ?_) (fun hc8 => ?_)
    · refine o_iloadN (pc := 13) B d1_13 rfl ?_
      refine o_iconst (pc := 14) B (2 : Int32) d1_14 (by decide) ?_
      refine o_icmp_ne (pc := 15) (pc' := 20) B d1_15 (by decide) (by decide) (fun hc15 => ?_) (fun hc15 => ?_)
      · refine o_lload (pc := 20) B d1_20 rfl ?_
        exact o_lreturn (pc := 22) B d1_22 (by decide) (by decide) (⟨⟨_, rfl⟩, rfl⟩)
      refine o_lloadN (pc := 18) B d1_18 rfl ?_
      exact o_lreturn (pc := 19) B d1_19 (by decide) (by decide) (⟨⟨_, rfl⟩, rfl⟩)
    refine o_lloadN (pc := 11) B d1_11 rfl ?_
    exact o_lreturn (pc := 12) B d1_12 (by decide) (by decide) (⟨⟨_, rfl⟩, rfl⟩)
  refine o_lconst (pc := 4) B (0 : Int64) d1_4 (by decide) ?_
  exact o_lreturn (pc := 5) B d1_5 (by decide) (by decide) (⟨⟨_, rfl⟩, rfl⟩)
set_option maxRecDepth 65536 in
set_option maxHeartbeats 40000000 in
theorem oc2a (l : Launch) (Z : State) (a0 : Array Value) (hw : ∀ d ∈ tables_1, d.before a0 Z = true) (n0 : Nat) (h : Heap) (x key : Int64) (hx : x = 0 ∨ x = key) : o_C l Z n0 oy2 method_4_code 4 (some .boolean) orm2 [(.long x), (.long key)] h (fun v h' => v = some (.int 1) ∧ h' = h) := by
  refine o_body (Ls := [.val (.long x), .second, .val (.long key), .second]) pn2 (by first | (simp [argsToLocals, Value.category]; done) | rfl) (fun κ B => ?_)
  refine o_lloadN (pc := 0) B d2_0 rfl ?_
  refine o_lconst (pc := 1) B (0 : Int64) d2_1 (by decide) ?_
  refine o_lcmp (pc := 2) B d2_2 ?_
  refine o_lif_eq (pc := 3) (pc' := 12) B d2_3 (by decide) (by decide) (fun hc3 => ?_) (fun hc3 => ?_)
  · refine o_iconst (pc := 12) B (1 : Int32) d2_12 (by decide) ?_
    refine o_goto (pc := 13) (pc' := 17) B d2_13 (by decide) (by decide) ?_
    exact o_zreturn (pc := 17) B d2_17 (by decide) (by decide) (⟨rfl, rfl⟩)
  refine o_lloadN (pc := 6) B d2_6 rfl ?_
  refine o_lloadN (pc := 7) B d2_7 rfl ?_
  refine o_lcmp (pc := 8) B d2_8 ?_
  refine o_lif_ne (pc := 9) (pc' := 16) B d2_9 (by decide) (by decide) (fun hc9 => False.elim (hx.elim hc3 hc9)) (fun hc9 => ?_)
  refine o_iconst (pc := 12) B (1 : Int32) d2_12 (by decide) ?_
  refine o_goto (pc := 13) (pc' := 17) B d2_13 (by decide) (by decide) ?_
  exact o_zreturn (pc := 17) B d2_17 (by decide) (by decide) (⟨rfl, rfl⟩)
set_option maxRecDepth 65536 in
set_option maxHeartbeats 40000000 in
theorem oc2b (l : Launch) (Z : State) (a0 : Array Value) (hw : ∀ d ∈ tables_1, d.before a0 Z = true) (n0 : Nat) (h : Heap) (x key : Int64) (hx : ¬ (x = 0 ∨ x = key)) : o_C l Z n0 oy2 method_4_code 4 (some .boolean) orm2 [(.long x), (.long key)] h (fun v h' => v = some (.int 0) ∧ h' = h) := by
  refine o_body (Ls := [.val (.long x), .second, .val (.long key), .second]) pn2 (by first | (simp [argsToLocals, Value.category]; done) | rfl) (fun κ B => ?_)
  refine o_lloadN (pc := 0) B d2_0 rfl ?_
  refine o_lconst (pc := 1) B (0 : Int64) d2_1 (by decide) ?_
  refine o_lcmp (pc := 2) B d2_2 ?_
  refine o_lif_eq (pc := 3) (pc' := 12) B d2_3 (by decide) (by decide) (fun hc3 => False.elim (hx (Or.inl hc3))) (fun hc3 => ?_)
  refine o_lloadN (pc := 6) B d2_6 rfl ?_
  refine o_lloadN (pc := 7) B d2_7 rfl ?_
  refine o_lcmp (pc := 8) B d2_8 ?_
  refine o_lif_ne (pc := 9) (pc' := 16) B d2_9 (by decide) (by decide) (fun hc9 => ?_) (fun hc9 => False.elim (hx (Or.inr hc9)))
  refine o_iconst (pc := 16) B (0 : Int32) d2_16 (by decide) ?_
  exact o_zreturn (pc := 17) B d2_17 (by decide) (by decide) (⟨rfl, rfl⟩)
set_option maxRecDepth 65536 in
set_option maxHeartbeats 40000000 in
theorem oc3 (l : Launch) (Z : State) (a0 : Array Value) (hw : ∀ d ∈ tables_1, d.before a0 Z = true) (n0 : Nat) (h : Heap) (t : Addr) (T : List Int64) (key : Int64) (j S d0 d : Nat) (A : o_LA Z h t T) (hj : j ≤ 3) (hT : T.length = 2 ^ j) (hS : S < 2 ^ j) (hd0 : d0 < 2 ^ j) (hH : own_H T key ((S + d0) % 2 ^ j)) (hN : ∀ d, d < d0 → ¬ own_H T key ((S + d) % 2 ^ j)) (hd : d < 8) : o_C l Z n0 oy3 method_5_code 8 (some .int) orm3 [(.ref t), (.int (Int32.ofNat (2 ^ j))), (.int (Int32.ofNat S)), (.int (Int32.ofNat d)), (.long key), (.int (own_W S (2 ^ j) d0 d))] h (fun v h' => v = some (.int (own_W S (2 ^ j) d0 (d + 1))) ∧ h' = h) := by
  refine o_body (Ls := [.val (.ref t), .val (.int (Int32.ofNat (2 ^ j))), .val (.int (Int32.ofNat S)), .val (.int (Int32.ofNat d)), .val (.long key), .second, .val (.int (own_W S (2 ^ j) d0 d)), .unset]) pn3 (by first | (simp [argsToLocals, Value.category]; done) | rfl) (fun κ B => ?_)
  have pj : 2 ^ j ≤ 2 ^ 3 := Nat.pow_le_pow_right (by decide) hj
  have pp : 0 < 2 ^ j := Nat.two_pow_pos j
  have hm : (S + d) % 2 ^ j < 2 ^ j := Nat.mod_lt _ pp
  have hm0 : (S + d0) % 2 ^ j < 2 ^ j := Nat.mod_lt _ pp
  by_cases q : d ≤ d0
  · have e1 : own_W S (2 ^ j) d0 d = -1 := by simp [own_W, q]
    rw [e1]
    refine o_iload (pc := 0) B d3_0 rfl ?_
    refine o_if_ge (pc := 2) (pc' := 10) B d3_2 (by decide) (by decide) (fun hc2 => False.elim (by revert hc2; decide)) (fun hc2 => ?_)
    refine o_iloadN (pc := 5) B d3_5 rfl ?_
    refine o_iloadN (pc := 6) B d3_6 rfl ?_
    refine o_icmp_lt (pc := 7) (pc' := 13) B d3_7 (by decide) (by decide) (fun hc7 => ?_) (fun hc7 => False.elim ((hc7 ((own_ltn (by omega) (by omega)).mpr (by omega)))))
    refine o_iloadN (pc := 13) B d3_13 rfl ?_
    refine o_iloadN (pc := 14) B d3_14 rfl ?_
    refine o_iadd (pc := 15) B d3_15 ?_
    refine o_iloadN (pc := 16) B d3_16 rfl ?_
    rw [← Int32.ofNat_add]
    refine o_irem (pc := 17) B d3_17 (own_ne0 pp (by omega)) ?_
    rw [own_rem (by omega) (by omega)]
    obtain ⟨x, x1, x2⟩ := own_at hT hm
    refine o_istore_8_7 (pc := 18) B d3_18 rfl ?_
    refine o_aloadN (pc := 20) B d3_20 rfl rfl ?_
    refine o_iload (pc := 21) B d3_21 rfl ?_
    refine o_laload (pc := 23) B ((S + d) % 2 ^ j) d3_23 (A) (rfl) (x2) ?_
    refine o_lload (pc := 24) B d3_24 rfl ?_
    by_cases hx : x = 0 ∨ x = key
    · have ed : d = d0 := by
        by_cases z : d < d0
        · exact absurd ⟨x, x1, hx⟩ (hN d z)
        · omega
      refine o_callS2 (pc := 26) B 0 d3_26 (hw _ (List.mem_of_getElem? (i := 5) rfl)) (hw _ (List.mem_of_getElem? (i := 6) rfl)) (hw _ (List.mem_of_getElem? (i := 3) rfl)) (hw _ (List.mem_of_getElem? (i := 7) rfl)) (by decide) pd2 rfl (by first | exact Nat.zero_le _ | exact Nat.le_of_ble_eq_true rfl | simp [Value.category]) (by decide) (by decide) (by decide) (by decide) rfl (oc2a l Z a0 hw n0 _ x key hx) ?_
      rintro v h' ⟨rfl, rfl⟩
      refine o_if_eq (pc := 29) (pc' := 37) B d3_29 (by decide) (by decide) (fun hc29 => False.elim (by revert hc29; decide)) (fun hc29 => ?_)
      refine o_iload (pc := 32) B d3_32 rfl ?_
      refine o_goto (pc := 34) (pc' := 38) B d3_34 (by decide) (by decide) ?_
      exact o_ireturn (pc := 38) B d3_38 (by decide) (by decide) (⟨(by rw [ed]; unfold own_W; rw [if_neg (by omega : ¬ d0 + 1 ≤ d0)]), rfl⟩)
    · have ed : d ≠ d0 := fun z => by
        subst z
        obtain ⟨y, y1, y2⟩ := hH
        rw [x1] at y1; cases y1
        exact hx y2
      refine o_callS2 (pc := 26) B 0 d3_26 (hw _ (List.mem_of_getElem? (i := 5) rfl)) (hw _ (List.mem_of_getElem? (i := 6) rfl)) (hw _ (List.mem_of_getElem? (i := 3) rfl)) (hw _ (List.mem_of_getElem? (i := 7) rfl)) (by decide) pd2 rfl (by first | exact Nat.zero_le _ | exact Nat.le_of_ble_eq_true rfl | simp [Value.category]) (by decide) (by decide) (by decide) (by decide) rfl (oc2b l Z a0 hw n0 _ x key hx) ?_
      rintro v h' ⟨rfl, rfl⟩
      refine o_if_eq (pc := 29) (pc' := 37) B d3_29 (by decide) (by decide) (fun hc29 => ?_) (fun hc29 => False.elim (by revert hc29; decide))
      refine o_iconst (pc := 37) B (-1 : Int32) d3_37 (by decide) ?_
      exact o_ireturn (pc := 38) B d3_38 (by decide) (by decide) (⟨(by have q9 : d + 1 ≤ d0 := (by omega); simp [own_W, q9]), rfl⟩)
  · have e1 : own_W S (2 ^ j) d0 d = Int32.ofNat ((S + d0) % 2 ^ j) := by simp [own_W, q]
    have e2 : own_W S (2 ^ j) d0 (d + 1) = Int32.ofNat ((S + d0) % 2 ^ j) := by
      have : ¬ d + 1 ≤ d0 := by omega
      simp [own_W, this]
    rw [e1, e2]
    refine o_iload (pc := 0) B d3_0 rfl ?_
    refine o_if_ge (pc := 2) (pc' := 10) B d3_2 (by decide) (by decide) (fun hc2 => ?_) (fun hc2 => False.elim ((own_nn (by omega) hc2)))
    refine o_iload (pc := 10) B d3_10 rfl ?_
    exact o_ireturn (pc := 12) B d3_12 (by decide) (by decide) (⟨rfl, rfl⟩)
set_option maxRecDepth 65536 in
set_option maxHeartbeats 40000000 in
theorem own_sl (l : Launch) (Z : State) (n0 : Nat) (h : Heap) (κ : o_K) (B : o_Bo κ l Z n0 orm4 oy4 prog_6_method_10_code 5 (some .int)) (t : Addr) (T : List Int64) (key : Int64) (j S d0 : Nat) (A : o_LA Z h t T) (hj : j ≤ 5) (hT : T.length = 2 ^ j) (hH : own_H T key ((S + d0) % 2 ^ j)) (hN : ∀ d, d < d0 → ¬ own_H T key ((S + d) % 2 ^ j)) :
    ∀ m d, d + m = d0 → o_Go κ (fun v h' => v = some (.int (Int32.ofNat ((S + d0) % 2 ^ j))) ∧ h' = h) h 0 0 11 [.val (.ref t), .val (.long key), .second, .val (.int (Int32.ofNat (2 ^ j - 1))), .val (.int (Int32.ofNat ((S + d) % 2 ^ j)))] [] := by
  have pj : 2 ^ j ≤ 2 ^ 5 := Nat.pow_le_pow_right (by decide) hj
  have pp : 0 < 2 ^ j := Nat.two_pow_pos j
  intro m
  induction m with
  | zero =>
    intro d hd
    have ed : d = d0 := by omega
    subst ed
    obtain ⟨x, x1, x2⟩ := hH
    have x3 : (T.map Value.long)[(S + d) % 2 ^ j]? = some (.long x) := by rw [List.getElem?_map, x1]; rfl
    refine o_aloadN (pc := 11) B d4_11 rfl rfl ?_
    refine o_iload (pc := 12) B d4_12 rfl ?_
    refine o_laload (pc := 14) B ((S + d) % 2 ^ j) d4_14 (A) (rfl) (x3) ?_
    refine o_lconst (pc := 15) B (0 : Int64) d4_15 (by decide) ?_
    refine o_lcmp (pc := 16) B d4_16 ?_
    refine o_lif_eq (pc := 17) (pc' := 40) B d4_17 (by decide) (by decide) (fun hc17 => ?_) (fun hc17 => ?_)
    · refine o_iload (pc := 40) B d4_40 rfl ?_
      exact o_ireturn (pc := 42) B d4_42 (by decide) (by decide) (⟨rfl, rfl⟩)
    refine o_aloadN (pc := 20) B d4_20 rfl rfl ?_
    refine o_iload (pc := 21) B d4_21 rfl ?_
    refine o_laload (pc := 23) B ((S + d) % 2 ^ j) d4_23 (A) (rfl) (x3) ?_
    refine o_lloadN (pc := 24) B d4_24 rfl ?_
    refine o_lcmp (pc := 25) B d4_25 ?_
    refine o_lif_eq (pc := 26) (pc' := 40) B d4_26 (by decide) (by decide) (fun hc26 => ?_) (fun hc26 => False.elim (x2.elim hc17 hc26))
    refine o_iload (pc := 40) B d4_40 rfl ?_
    exact o_ireturn (pc := 42) B d4_42 (by decide) (by decide) (⟨rfl, rfl⟩)
  | succ m ih =>
    intro d hd
    have hm : (S + d) % 2 ^ j < 2 ^ j := Nat.mod_lt _ pp
    obtain ⟨x, x1, x3⟩ := own_at hT hm
    have nx := hN d (by omega)
    refine o_aloadN (pc := 11) B d4_11 rfl rfl ?_
    refine o_iload (pc := 12) B d4_12 rfl ?_
    refine o_laload (pc := 14) B ((S + d) % 2 ^ j) d4_14 (A) (rfl) (x3) ?_
    refine o_lconst (pc := 15) B (0 : Int64) d4_15 (by decide) ?_
    refine o_lcmp (pc := 16) B d4_16 ?_
    refine o_lif_eq (pc := 17) (pc' := 40) B d4_17 (by decide) (by decide) (fun hc17 => False.elim (nx ⟨x, x1, Or.inl hc17⟩)) (fun hc17 => ?_)
    refine o_aloadN (pc := 20) B d4_20 rfl rfl ?_
    refine o_iload (pc := 21) B d4_21 rfl ?_
    refine o_laload (pc := 23) B ((S + d) % 2 ^ j) d4_23 (A) (rfl) (x3) ?_
    refine o_lloadN (pc := 24) B d4_24 rfl ?_
    refine o_lcmp (pc := 25) B d4_25 ?_
    refine o_lif_eq (pc := 26) (pc' := 40) B d4_26 (by decide) (by decide) (fun hc26 => False.elim (nx ⟨x, x1, Or.inr hc26⟩)) (fun hc26 => ?_)
    refine o_iload (pc := 29) B d4_29 rfl ?_
    refine o_iconst (pc := 31) B (1 : Int32) d4_31 (by decide) ?_
    refine o_iadd (pc := 32) B d4_32 ?_
    refine o_iloadN (pc := 33) B d4_33 rfl ?_
    refine o_iand (pc := 34) B d4_34 ?_
    rw [own_step (by omega) hm, Nat.mod_add_mod, Nat.add_assoc]
    refine o_istore_5_4 (pc := 35) B d4_35 rfl ?_
    refine o_goto (pc := 37) (pc' := 11) B d4_37 (by decide) (by decide) ?_
    exact ih (d + 1) (by omega)
set_option maxRecDepth 65536 in
set_option maxHeartbeats 40000000 in
theorem oc4 (l : Launch) (Z : State) (a0 : Array Value) (hw : ∀ d ∈ tables_1, d.before a0 Z = true) (n0 : Nat) (h : Heap) (t : Addr) (T : List Int64) (key : Int64) (j d0 : Nat) (A : o_LA Z h t T) (hj : j ≤ 5) (hT : T.length = 2 ^ j) (hH : own_H T key ((key.toBitVec.toNat % 2 ^ j + d0) % 2 ^ j)) (hN : ∀ d, d < d0 → ¬ own_H T key ((key.toBitVec.toNat % 2 ^ j + d) % 2 ^ j)) : o_C l Z n0 oy4 prog_6_method_10_code 5 (some .int) orm4 [(.ref t), (.long key)] h (fun v h' => v = some (.int (Int32.ofNat ((key.toBitVec.toNat % 2 ^ j + d0) % 2 ^ j))) ∧ h' = h) := by
  refine o_body (Ls := [.val (.ref t), .val (.long key), .second, .unset, .unset]) pn4 (by first | (simp [argsToLocals, Value.category]; done) | rfl) (fun κ B => ?_)
  refine o_aloadN (pc := 0) B d4_0 rfl rfl ?_
  refine o_arraylen (pc := 1) B (Int32.ofNat (2 ^ j)) d4_1 (A) (by rw [List.length_map, hT]) ?_
  refine o_iconst (pc := 2) B (1 : Int32) d4_2 (by decide) ?_
  refine o_isub (pc := 3) B d4_3 ?_
  rw [own_sub1 (by omega)]
  refine o_istoreN_5_3 (pc := 4) B d4_4 rfl ?_
  refine o_lloadN (pc := 5) B d4_5 rfl ?_
  refine o_l2i (pc := 6) B d4_6 ?_
  refine o_iloadN (pc := 7) B d4_7 rfl ?_
  refine o_iand (pc := 8) B d4_8 ?_
  rw [own_s2 key (by omega)]
  refine o_istore_5_4 (pc := 9) B d4_9 rfl ?_
  have e := own_sl l Z n0 h κ B t T key j (key.toBitVec.toNat % 2 ^ j) d0 A hj hT hH hN d0 0 (by omega)
  rw [Nat.add_zero, Nat.mod_mod] at e
  exact e
set_option maxRecDepth 65536 in
set_option maxHeartbeats 40000000 in
theorem own_tail2 (l : Launch) (Z : State) (a0 : Array Value) (hw : ∀ d ∈ tables_1, d.before a0 Z = true) (n0 : Nat) (h : Heap) (κ : o_K) (B : o_Bo κ l Z n0 room_1 x code maxLocals ret) (key a b : Int64) (mode f : Int32) (t : Addr) (T : List Int64) (j F : Nat) (hj : j ≤ 3) (A : o_LA Z h t T) (hT : T.length = 2 ^ j) (hF : F < 2 ^ j) (hH : own_H T key F) :
    o_Go κ (fun v h' => v = some (.int 1)) h 1 8 251 [.val (.long key), .second, .val (.long a), .second, .val (.long b), .second, .val (.int mode), .val (.int (Int32.ofNat (2 ^ j))), .val (.ref t), .val (.int f), .unset, .unset, .unset] [] := by
  have pj : 2 ^ j ≤ 2 ^ 3 := Nat.pow_le_pow_right (by decide) hj
  have pp : 0 < 2 ^ j := Nat.two_pow_pos j
  obtain ⟨S, eS⟩ : ∃ S, S = key.toBitVec.toNat % 2 ^ j := ⟨_, rfl⟩
  have hS : S < 2 ^ j := by rw [eS]; exact Nat.mod_lt _ pp
  obtain ⟨d0, h1, h2, h3⟩ := own_least (p := fun d => own_H T key ((S + d) % 2 ^ j)) (fun d => own_H.dec _ _ _) (2 ^ j) ⟨(F + 2 ^ j - S) % 2 ^ j, Nat.mod_lt _ pp, by
    show own_H T key ((S + (F + 2 ^ j - S) % 2 ^ j) % 2 ^ j)
    rw [Nat.add_mod_mod, show S + (F + 2 ^ j - S) = F + 2 ^ j by omega, Nat.add_mod_right, Nat.mod_eq_of_lt hF]
    exact hH⟩
  refine o_lloadN (pc := 251) B at_251 rfl ?_
  refine o_iload (pc := 252) B at_252 rfl ?_
  refine o_iconst (pc := 254) B (1 : Int32) at_254 (by decide) ?_
  refine o_isub (pc := 255) B at_255 ?_
  rw [own_sub1 (by omega)]
  refine o_i2l (pc := 256) B at_256 ?_
  refine o_land (pc := 257) B at_257 ?_
  refine o_l2i (pc := 258) B at_258 ?_
  rw [own_s1 key (by omega), ← eS]
  refine o_istore_13_10 (pc := 259) B at_259 rfl ?_
  refine o_iconst (pc := 261) B (-1 : Int32) at_261 (by decide) ?_
  refine o_istore_13_11 (pc := 262) B at_262 rfl ?_
  rw [← own_W0 S (2 ^ j) d0]
  refine o_aload (pc := 264) B at_264 rfl rfl ?_
  refine o_iload (pc := 266) B at_266 rfl ?_
  refine o_iload (pc := 268) B at_268 rfl ?_
  refine o_iconst (pc := 270) B (0 : Int32) at_270 (by decide) ?_
  refine o_lloadN (pc := 271) B at_271 rfl ?_
  refine o_iload (pc := 272) B at_272 rfl ?_
  refine o_callS6 (pc := 274) B 0 at_274 (hw _ (List.mem_of_getElem? (i := 8) rfl)) (hw _ (List.mem_of_getElem? (i := 9) rfl)) (hw _ (List.mem_of_getElem? (i := 3) rfl)) (hw _ (List.mem_of_getElem? (i := 10) rfl)) (by decide) pd3 rfl (by first | exact Nat.zero_le _ | exact Nat.le_of_ble_eq_true rfl | simp [Value.category]) (by decide) (by decide) (by decide) (by decide) rfl (oc3 l Z a0 hw n0 _ t T key j S d0 0 A hj hT hS h1 h2 h3 (by decide)) ?_
  rintro v h' ⟨rfl, rfl⟩
  refine o_istore_13_11 (pc := 277) B at_277 rfl ?_
  refine o_aload (pc := 279) B at_279 rfl rfl ?_
  refine o_iload (pc := 281) B at_281 rfl ?_
  refine o_iload (pc := 283) B at_283 rfl ?_
  refine o_iconst (pc := 285) B (1 : Int32) at_285 (by decide) ?_
  refine o_lloadN (pc := 286) B at_286 rfl ?_
  refine o_iload (pc := 287) B at_287 rfl ?_
  refine o_callS6 (pc := 289) B 0 at_289 (hw _ (List.mem_of_getElem? (i := 8) rfl)) (hw _ (List.mem_of_getElem? (i := 9) rfl)) (hw _ (List.mem_of_getElem? (i := 3) rfl)) (hw _ (List.mem_of_getElem? (i := 10) rfl)) (by decide) pd3 rfl (by first | exact Nat.zero_le _ | exact Nat.le_of_ble_eq_true rfl | simp [Value.category]) (by decide) (by decide) (by decide) (by decide) rfl (oc3 l Z a0 hw n0 _ t T key j S d0 1 A hj hT hS h1 h2 h3 (by decide)) ?_
  rintro v h' ⟨rfl, rfl⟩
  refine o_istore_13_11 (pc := 292) B at_292 rfl ?_
  refine o_aload (pc := 294) B at_294 rfl rfl ?_
  refine o_iload (pc := 296) B at_296 rfl ?_
  refine o_iload (pc := 298) B at_298 rfl ?_
  refine o_iconst (pc := 300) B (2 : Int32) at_300 (by decide) ?_
  refine o_lloadN (pc := 301) B at_301 rfl ?_
  refine o_iload (pc := 302) B at_302 rfl ?_
  refine o_callS6 (pc := 304) B 0 at_304 (hw _ (List.mem_of_getElem? (i := 8) rfl)) (hw _ (List.mem_of_getElem? (i := 9) rfl)) (hw _ (List.mem_of_getElem? (i := 3) rfl)) (hw _ (List.mem_of_getElem? (i := 10) rfl)) (by decide) pd3 rfl (by first | exact Nat.zero_le _ | exact Nat.le_of_ble_eq_true rfl | simp [Value.category]) (by decide) (by decide) (by decide) (by decide) rfl (oc3 l Z a0 hw n0 _ t T key j S d0 2 A hj hT hS h1 h2 h3 (by decide)) ?_
  rintro v h' ⟨rfl, rfl⟩
  refine o_istore_13_11 (pc := 307) B at_307 rfl ?_
  refine o_aload (pc := 309) B at_309 rfl rfl ?_
  refine o_iload (pc := 311) B at_311 rfl ?_
  refine o_iload (pc := 313) B at_313 rfl ?_
  refine o_iconst (pc := 315) B (3 : Int32) at_315 (by decide) ?_
  refine o_lloadN (pc := 316) B at_316 rfl ?_
  refine o_iload (pc := 317) B at_317 rfl ?_
  refine o_callS6 (pc := 319) B 0 at_319 (hw _ (List.mem_of_getElem? (i := 8) rfl)) (hw _ (List.mem_of_getElem? (i := 9) rfl)) (hw _ (List.mem_of_getElem? (i := 3) rfl)) (hw _ (List.mem_of_getElem? (i := 10) rfl)) (by decide) pd3 rfl (by first | exact Nat.zero_le _ | exact Nat.le_of_ble_eq_true rfl | simp [Value.category]) (by decide) (by decide) (by decide) (by decide) rfl (oc3 l Z a0 hw n0 _ t T key j S d0 3 A hj hT hS h1 h2 h3 (by decide)) ?_
  rintro v h' ⟨rfl, rfl⟩
  refine o_istore_13_11 (pc := 322) B at_322 rfl ?_
  refine o_aload (pc := 324) B at_324 rfl rfl ?_
  refine o_iload (pc := 326) B at_326 rfl ?_
  refine o_iload (pc := 328) B at_328 rfl ?_
  refine o_iconst (pc := 330) B (4 : Int32) at_330 (by decide) ?_
  refine o_lloadN (pc := 331) B at_331 rfl ?_
  refine o_iload (pc := 332) B at_332 rfl ?_
  refine o_callS6 (pc := 334) B 0 at_334 (hw _ (List.mem_of_getElem? (i := 8) rfl)) (hw _ (List.mem_of_getElem? (i := 9) rfl)) (hw _ (List.mem_of_getElem? (i := 3) rfl)) (hw _ (List.mem_of_getElem? (i := 10) rfl)) (by decide) pd3 rfl (by first | exact Nat.zero_le _ | exact Nat.le_of_ble_eq_true rfl | simp [Value.category]) (by decide) (by decide) (by decide) (by decide) rfl (oc3 l Z a0 hw n0 _ t T key j S d0 4 A hj hT hS h1 h2 h3 (by decide)) ?_
  rintro v h' ⟨rfl, rfl⟩
  refine o_istore_13_11 (pc := 337) B at_337 rfl ?_
  refine o_aload (pc := 339) B at_339 rfl rfl ?_
  refine o_iload (pc := 341) B at_341 rfl ?_
  refine o_iload (pc := 343) B at_343 rfl ?_
  refine o_iconst (pc := 345) B (5 : Int32) at_345 (by decide) ?_
  refine o_lloadN (pc := 346) B at_346 rfl ?_
  refine o_iload (pc := 347) B at_347 rfl ?_
  refine o_callS6 (pc := 349) B 0 at_349 (hw _ (List.mem_of_getElem? (i := 8) rfl)) (hw _ (List.mem_of_getElem? (i := 9) rfl)) (hw _ (List.mem_of_getElem? (i := 3) rfl)) (hw _ (List.mem_of_getElem? (i := 10) rfl)) (by decide) pd3 rfl (by first | exact Nat.zero_le _ | exact Nat.le_of_ble_eq_true rfl | simp [Value.category]) (by decide) (by decide) (by decide) (by decide) rfl (oc3 l Z a0 hw n0 _ t T key j S d0 5 A hj hT hS h1 h2 h3 (by decide)) ?_
  rintro v h' ⟨rfl, rfl⟩
  refine o_istore_13_11 (pc := 352) B at_352 rfl ?_
  refine o_aload (pc := 354) B at_354 rfl rfl ?_
  refine o_iload (pc := 356) B at_356 rfl ?_
  refine o_iload (pc := 358) B at_358 rfl ?_
  refine o_bipush (pc := 360) B (6 : Int32) at_360 (by decide) ?_
  refine o_lloadN (pc := 362) B at_362 rfl ?_
  refine o_iload (pc := 363) B at_363 rfl ?_
  refine o_callS6 (pc := 365) B 0 at_365 (hw _ (List.mem_of_getElem? (i := 8) rfl)) (hw _ (List.mem_of_getElem? (i := 9) rfl)) (hw _ (List.mem_of_getElem? (i := 3) rfl)) (hw _ (List.mem_of_getElem? (i := 10) rfl)) (by decide) pd3 rfl (by first | exact Nat.zero_le _ | exact Nat.le_of_ble_eq_true rfl | simp [Value.category]) (by decide) (by decide) (by decide) (by decide) rfl (oc3 l Z a0 hw n0 _ t T key j S d0 6 A hj hT hS h1 h2 h3 (by decide)) ?_
  rintro v h' ⟨rfl, rfl⟩
  refine o_istore_13_11 (pc := 368) B at_368 rfl ?_
  refine o_aload (pc := 370) B at_370 rfl rfl ?_
  refine o_iload (pc := 372) B at_372 rfl ?_
  refine o_iload (pc := 374) B at_374 rfl ?_
  refine o_bipush (pc := 376) B (7 : Int32) at_376 (by decide) ?_
  refine o_lloadN (pc := 378) B at_378 rfl ?_
  refine o_iload (pc := 379) B at_379 rfl ?_
  refine o_callS6 (pc := 381) B 0 at_381 (hw _ (List.mem_of_getElem? (i := 8) rfl)) (hw _ (List.mem_of_getElem? (i := 9) rfl)) (hw _ (List.mem_of_getElem? (i := 3) rfl)) (hw _ (List.mem_of_getElem? (i := 10) rfl)) (by decide) pd3 rfl (by first | exact Nat.zero_le _ | exact Nat.le_of_ble_eq_true rfl | simp [Value.category]) (by decide) (by decide) (by decide) (by decide) rfl (oc3 l Z a0 hw n0 _ t T key j S d0 7 A hj hT hS h1 h2 h3 (by decide)) ?_
  rintro v h' ⟨rfl, rfl⟩
  refine o_istore_13_11 (pc := 384) B at_384 rfl ?_
  refine o_aload (pc := 386) B at_386 rfl rfl ?_
  refine o_lloadN (pc := 388) B at_388 rfl ?_
  refine o_callS2 (pc := 389) B 0 at_389 (hw _ (List.mem_of_getElem? (i := 11) rfl)) (hw _ (List.mem_of_getElem? (i := 12) rfl)) (hw _ (List.mem_of_getElem? (i := 13) rfl)) (hw _ (List.mem_of_getElem? (i := 14) rfl)) (by decide) pd4 rfl (by first | exact Nat.zero_le _ | exact Nat.le_of_ble_eq_true rfl | simp [Value.category]) (by decide) (by decide) (by decide) (by decide) rfl (oc4 l Z a0 hw n0 _ t T key j d0 A (by omega) hT (eS ▸ h2) (eS ▸ h3)) ?_
  rintro v h' ⟨rfl, rfl⟩
  have e8 : own_W S (2 ^ j) d0 (7 + 1) = Int32.ofNat ((S + d0) % 2 ^ j) := by
    have : ¬ 7 + 1 ≤ d0 := by omega
    simp only [own_W, this, if_false]
  have hm : (S + d0) % 2 ^ j < 2 ^ j := Nat.mod_lt _ pp
  rw [← eS, e8]
  refine o_istore_13_12 (pc := 392) B at_392 rfl ?_
  refine o_iload (pc := 394) B at_394 rfl ?_
  refine o_if_lt (pc := 396) (pc' := 410) B at_396 (by decide) (by decide) (fun hc396 => False.elim ((own_nn (by omega) hc396))) (fun hc396 => ?_)
  refine o_iload (pc := 399) B at_399 rfl ?_
  refine o_iload (pc := 401) B at_401 rfl ?_
  refine o_icmp_ne (pc := 403) (pc' := 410) B at_403 (by decide) (by decide) (fun hc403 => False.elim ((hc403 rfl))) (fun hc403 => ?_)
  refine o_iconst (pc := 406) B (1 : Int32) at_406 (by decide) ?_
  refine o_goto (pc := 407) (pc' := 411) B at_407 (by decide) (by decide) ?_
  exact o_zreturn (pc := 411) B at_411 (by decide) (by decide) (rfl)
set_option maxRecDepth 65536 in
set_option maxHeartbeats 40000000 in
theorem own_tail (l : Launch) (Z : State) (a0 : Array Value) (hw : ∀ d ∈ tables_1, d.before a0 Z = true) (n0 : Nat) (h : Heap) (κ : o_K) (B : o_Bo κ l Z n0 room_1 x code maxLocals ret) (key a b : Int64) (mode : Int32) (t : Addr) (gt : n0 ≤ t) (T : List Int64) (j : Nat) (hj : j ≤ 3) (A : o_LA Z h t T) (hT : T.length = 2 ^ j) :
    o_Go κ (fun v h' => v = some (.int 1)) h 1 8 207 [.val (.long key), .second, .val (.long a), .second, .val (.long b), .second, .val (.int mode), .val (.int (Int32.ofNat (2 ^ j))), .val (.ref t), .unset, .unset, .unset, .unset] [] := by
  have pj : 2 ^ j ≤ 2 ^ 3 := Nat.pow_le_pow_right (by decide) hj
  have pp : 0 < 2 ^ j := Nat.two_pow_pos j
  refine o_iload (pc := 207) B at_207 rfl ?_
  refine o_bipush (pc := 209) B (16 : Int32) at_209 (by decide) ?_
  refine o_iushr (pc := 211) B at_211 ?_
  refine o_iload (pc := 212) B at_212 rfl ?_
  refine o_iconst (pc := 214) B (1 : Int32) at_214 (by decide) ?_
  refine o_isub (pc := 215) B at_215 ?_
  rw [own_sub1 (by omega)]
  refine o_iand (pc := 216) B at_216 ?_
  rw [own_and _ (by omega)]
  obtain ⟨F, eF⟩ : ∃ F, F = (XT.ushr mode 16).toBitVec.toNat % 2 ^ j := ⟨_, rfl⟩
  have hF : F < 2 ^ j := by rw [eF]; exact Nat.mod_lt _ pp
  rw [← eF]
  obtain ⟨x, x1, x2⟩ := own_at hT hF
  refine o_istore_13_9 (pc := 217) B at_217 rfl ?_
  refine o_aload (pc := 219) B at_219 rfl rfl ?_
  refine o_iload (pc := 221) B at_221 rfl ?_
  refine o_laload (pc := 223) B (F) at_223 (A) (rfl) (x2) ?_
  refine o_lloadN (pc := 224) B at_224 rfl ?_
  by_cases hx : x = 0 ∨ x = key
  · refine o_callS2 (pc := 225) B 0 at_225 (hw _ (List.mem_of_getElem? (i := 5) rfl)) (hw _ (List.mem_of_getElem? (i := 6) rfl)) (hw _ (List.mem_of_getElem? (i := 3) rfl)) (hw _ (List.mem_of_getElem? (i := 7) rfl)) (by decide) pd2 rfl (by first | exact Nat.zero_le _ | exact Nat.le_of_ble_eq_true rfl | simp [Value.category]) (by decide) (by decide) (by decide) (by decide) rfl (oc2a l Z a0 hw n0 _ x key hx) ?_
    rintro v h' ⟨rfl, rfl⟩
    refine o_if_ne (pc := 228) (pc' := 251) B at_228 (by decide) (by decide) (fun hc228 => ?_) (fun hc228 => False.elim (by revert hc228; decide))
    exact own_tail2 l Z a0 hw n0 _ κ B key a b mode _ t T j F hj A hT hF ⟨x, x1, hx⟩
  refine o_callS2 (pc := 225) B 0 at_225 (hw _ (List.mem_of_getElem? (i := 5) rfl)) (hw _ (List.mem_of_getElem? (i := 6) rfl)) (hw _ (List.mem_of_getElem? (i := 3) rfl)) (hw _ (List.mem_of_getElem? (i := 7) rfl)) (by decide) pd2 rfl (by first | exact Nat.zero_le _ | exact Nat.le_of_ble_eq_true rfl | simp [Value.category]) (by decide) (by decide) (by decide) (by decide) rfl (oc2b l Z a0 hw n0 _ x key hx) ?_
  rintro v h' ⟨rfl, rfl⟩
  refine o_if_ne (pc := 228) (pc' := 251) B at_228 (by decide) (by decide) (fun hc228 => False.elim (by revert hc228; decide)) (fun hc228 => ?_)
  refine o_aload (pc := 231) B at_231 rfl rfl ?_
  refine o_iload (pc := 233) B at_233 rfl ?_
  refine o_iload (pc := 235) B at_235 rfl ?_
  refine o_bipush (pc := 237) B (20 : Int32) at_237 (by decide) ?_
  refine o_iushr (pc := 239) B at_239 ?_
  refine o_iconst (pc := 240) B (1 : Int32) at_240 (by decide) ?_
  refine o_iand (pc := 241) B at_241 ?_
  have fin : ∀ (h1 : Heap) (y : Int64), (y = 0 ∨ y = key) → Wr h' h1 t F (.long y) → o_Go κ (fun v h' => v = some (.int 1)) h1 1 8 251 [.val (.long key), .second, .val (.long a), .second, .val (.long b), .second, .val (.int mode), .val (.int (Int32.ofNat (2 ^ j))), .val (.ref t), .val (.int (Int32.ofNat F)), .unset, .unset, .unset] [] := fun h1 y hy W1 =>
    own_tail2 l Z a0 hw n0 _ κ B key a b mode _ t (T.set F y) j F hj (o_LA.same A W1) (by rw [List.length_set]; exact hT) hF ⟨y, by rw [List.getElem?_set_self (by omega)], hy⟩
  refine o_if_ne (pc := 242) (pc' := 249) B at_242 (by decide) (by decide) (fun hc242 => ?_) (fun hc242 => ?_)
  · refine o_lloadN (pc := 249) B at_249 rfl ?_
    refine o_lastore (pc := 250) B (F) at_250 (A) (rfl) (by rw [List.length_map, hT]; exact hF) (gt) ?_
    intro h1 W1
    exact fin h1 key (Or.inr rfl) W1
  refine o_lconst (pc := 245) B (0 : Int64) at_245 (by decide) ?_
  refine o_goto (pc := 246) (pc' := 250) B at_246 (by decide) (by decide) ?_
  refine o_lastore (pc := 250) B (F) at_250 (A) (rfl) (by rw [List.length_map, hT]; exact hF) (gt) ?_
  intro h1 W1
  exact fin h1 0 (Or.inl rfl) W1
set_option maxRecDepth 65536 in
set_option maxHeartbeats 40000000 in
theorem oc0 (l : Launch) (Z : State) (a0 : Array Value) (hw : ∀ d ∈ tables_1, d.before a0 Z = true) (n0 : Nat) (h : Heap) (key a b : Int64) (mode : Int32) (Z0 : n0 ≤ h.size) : o_C l Z n0 Jvm.Pilot.@@N@@.x code maxLocals ret room_1 [(.long key), (.long a), (.long b), (.int mode)] h (fun v h' => v = some (.int 1)) := by
  refine o_body (Ls := [.val (.long key), .second, .val (.long a), .second, .val (.long b), .second, .val (.int mode), .unset, .unset, .unset, .unset, .unset, .unset]) pn0 (by first | (simp [argsToLocals, Value.category, maxLocals]; done) | rfl) (fun κ B => ?_)
  refine o_iconst (pc := 0) B (1 : Int32) at_0 (by decide) ?_
  refine o_iload (pc := 1) B at_1 rfl ?_
  refine o_bipush (pc := 3) B (18 : Int32) at_3 (by decide) ?_
  refine o_iushr (pc := 5) B at_5 ?_
  refine o_iconst (pc := 6) B (3 : Int32) at_6 (by decide) ?_
  refine o_iand (pc := 7) B at_7 ?_
  obtain ⟨t, gt, et⟩ : ∃ t, n0 ≤ t ∧ t = h.size := ⟨_, Z0, rfl⟩
  rcases own_c (XT.ushr mode 18) with e | e | e | e
  · rw [e]
    refine o_ishl_c (pc := 8) B (1 : Int32) at_8 (by decide) ?_
    refine o_istore_13_7 (pc := 9) B at_9 rfl ?_
    refine o_iload (pc := 11) B at_11 rfl ?_
    refine o_newarray (pc := 13) B (1) (8) at_13 (hw _ (List.mem_of_getElem? (i := 0) rfl)) (by decide) (by first | decide | omega) (by first | decide | omega) (by decide) (by decide) ?_
    intro h1 E1 lt1 A1
    rw [← et] at A1 ⊢
    have B1 : o_LA Z h1 t [0] := A1
    refine o_astore_13_8 (pc := 15) B at_15 rfl rfl ?_
    refine o_iload (pc := 17) B at_17 rfl ?_
    refine o_if_le (pc := 19) (pc' := 37) B at_19 (by decide) (by decide) (fun hc19 => False.elim (by revert hc19; decide)) (fun hc19 => ?_)
    refine o_aload (pc := 22) B at_22 rfl rfl ?_
    refine o_iconst (pc := 24) B (0 : Int32) at_24 (by decide) ?_
    refine o_iload (pc := 25) B at_25 rfl ?_
    refine o_iconst (pc := 27) B (3 : Int32) at_27 (by decide) ?_
    refine o_iand (pc := 28) B at_28 ?_
    refine o_lloadN (pc := 29) B at_29 rfl ?_
    refine o_lloadN (pc := 30) B at_30 rfl ?_
    refine o_lload (pc := 31) B at_31 rfl ?_
    refine o_callS4 (pc := 33) B 2 at_33 (hw _ (List.mem_of_getElem? (i := 1) rfl)) (hw _ (List.mem_of_getElem? (i := 2) rfl)) (hw _ (List.mem_of_getElem? (i := 3) rfl)) (hw _ (List.mem_of_getElem? (i := 4) rfl)) (by decide) pd1 rfl (by first | exact Nat.zero_le _ | exact Nat.le_of_ble_eq_true rfl | simp [Value.category]) (by decide) (by decide) (by decide) (by decide) rfl (oc1 l Z a0 hw n0 _ _ key a b) ?_
    rintro v h' ⟨⟨t0, rfl⟩, rfl⟩
    refine o_lastore (pc := 36) B (0) at_36 (B1) (by decide) (by show 0 < 1; decide) (gt) ?_
    intro h2 W2
    have B2 : o_LA Z h2 t [t0] := o_LA.same B1 W2
    refine o_iload (pc := 37) B at_37 rfl ?_
    refine o_iconst (pc := 39) B (1 : Int32) at_39 (by decide) ?_
    refine o_icmp_le (pc := 40) (pc' := 60) B at_40 (by decide) (by decide) (fun hc40 => ?_) (fun hc40 => False.elim (by revert hc40; decide))
    refine o_iload (pc := 60) B at_60 rfl ?_
    refine o_iconst (pc := 62) B (2 : Int32) at_62 (by decide) ?_
    refine o_icmp_le (pc := 63) (pc' := 83) B at_63 (by decide) (by decide) (fun hc63 => ?_) (fun hc63 => False.elim (by revert hc63; decide))
    refine o_iload (pc := 83) B at_83 rfl ?_
    refine o_iconst (pc := 85) B (3 : Int32) at_85 (by decide) ?_
    refine o_icmp_le (pc := 86) (pc' := 107) B at_86 (by decide) (by decide) (fun hc86 => ?_) (fun hc86 => False.elim (by revert hc86; decide))
    refine o_iload (pc := 107) B at_107 rfl ?_
    refine o_iconst (pc := 109) B (4 : Int32) at_109 (by decide) ?_
    refine o_icmp_le (pc := 110) (pc' := 131) B at_110 (by decide) (by decide) (fun hc110 => ?_) (fun hc110 => False.elim (by revert hc110; decide))
    refine o_iload (pc := 131) B at_131 rfl ?_
    refine o_iconst (pc := 133) B (5 : Int32) at_133 (by decide) ?_
    refine o_icmp_le (pc := 134) (pc' := 155) B at_134 (by decide) (by decide) (fun hc134 => ?_) (fun hc134 => False.elim (by revert hc134; decide))
    refine o_iload (pc := 155) B at_155 rfl ?_
    refine o_bipush (pc := 157) B (6 : Int32) at_157 (by decide) ?_
    refine o_icmp_le (pc := 159) (pc' := 181) B at_159 (by decide) (by decide) (fun hc159 => ?_) (fun hc159 => False.elim (by revert hc159; decide))
    refine o_iload (pc := 181) B at_181 rfl ?_
    refine o_bipush (pc := 183) B (7 : Int32) at_183 (by decide) ?_
    refine o_icmp_le (pc := 185) (pc' := 207) B at_185 (by decide) (by decide) (fun hc185 => ?_) (fun hc185 => False.elim (by revert hc185; decide))
    exact own_tail l Z a0 hw n0 _ κ B key a b mode t gt [t0] 0 (by decide) B2 rfl
  · rw [e]
    refine o_ishl_c (pc := 8) B (2 : Int32) at_8 (by decide) ?_
    refine o_istore_13_7 (pc := 9) B at_9 rfl ?_
    refine o_iload (pc := 11) B at_11 rfl ?_
    refine o_newarray (pc := 13) B (2) (8) at_13 (hw _ (List.mem_of_getElem? (i := 0) rfl)) (by decide) (by first | decide | omega) (by first | decide | omega) (by decide) (by decide) ?_
    intro h1 E1 lt1 A1
    rw [← et] at A1 ⊢
    have B1 : o_LA Z h1 t [0, 0] := A1
    refine o_astore_13_8 (pc := 15) B at_15 rfl rfl ?_
    refine o_iload (pc := 17) B at_17 rfl ?_
    refine o_if_le (pc := 19) (pc' := 37) B at_19 (by decide) (by decide) (fun hc19 => False.elim (by revert hc19; decide)) (fun hc19 => ?_)
    refine o_aload (pc := 22) B at_22 rfl rfl ?_
    refine o_iconst (pc := 24) B (0 : Int32) at_24 (by decide) ?_
    refine o_iload (pc := 25) B at_25 rfl ?_
    refine o_iconst (pc := 27) B (3 : Int32) at_27 (by decide) ?_
    refine o_iand (pc := 28) B at_28 ?_
    refine o_lloadN (pc := 29) B at_29 rfl ?_
    refine o_lloadN (pc := 30) B at_30 rfl ?_
    refine o_lload (pc := 31) B at_31 rfl ?_
    refine o_callS4 (pc := 33) B 2 at_33 (hw _ (List.mem_of_getElem? (i := 1) rfl)) (hw _ (List.mem_of_getElem? (i := 2) rfl)) (hw _ (List.mem_of_getElem? (i := 3) rfl)) (hw _ (List.mem_of_getElem? (i := 4) rfl)) (by decide) pd1 rfl (by first | exact Nat.zero_le _ | exact Nat.le_of_ble_eq_true rfl | simp [Value.category]) (by decide) (by decide) (by decide) (by decide) rfl (oc1 l Z a0 hw n0 _ _ key a b) ?_
    rintro v h' ⟨⟨t0, rfl⟩, rfl⟩
    refine o_lastore (pc := 36) B (0) at_36 (B1) (by decide) (by show 0 < 2; decide) (gt) ?_
    intro h2 W2
    have B2 : o_LA Z h2 t [t0, 0] := o_LA.same B1 W2
    refine o_iload (pc := 37) B at_37 rfl ?_
    refine o_iconst (pc := 39) B (1 : Int32) at_39 (by decide) ?_
    refine o_icmp_le (pc := 40) (pc' := 60) B at_40 (by decide) (by decide) (fun hc40 => False.elim (by revert hc40; decide)) (fun hc40 => ?_)
    refine o_aload (pc := 43) B at_43 rfl rfl ?_
    refine o_iconst (pc := 45) B (1 : Int32) at_45 (by decide) ?_
    refine o_iload (pc := 46) B at_46 rfl ?_
    refine o_iconst (pc := 48) B (2 : Int32) at_48 (by decide) ?_
    refine o_iushr (pc := 49) B at_49 ?_
    refine o_iconst (pc := 50) B (3 : Int32) at_50 (by decide) ?_
    refine o_iand (pc := 51) B at_51 ?_
    refine o_lloadN (pc := 52) B at_52 rfl ?_
    refine o_lloadN (pc := 53) B at_53 rfl ?_
    refine o_lload (pc := 54) B at_54 rfl ?_
    refine o_callS4 (pc := 56) B 2 at_56 (hw _ (List.mem_of_getElem? (i := 1) rfl)) (hw _ (List.mem_of_getElem? (i := 2) rfl)) (hw _ (List.mem_of_getElem? (i := 3) rfl)) (hw _ (List.mem_of_getElem? (i := 4) rfl)) (by decide) pd1 rfl (by first | exact Nat.zero_le _ | exact Nat.le_of_ble_eq_true rfl | simp [Value.category]) (by decide) (by decide) (by decide) (by decide) rfl (oc1 l Z a0 hw n0 _ _ key a b) ?_
    rintro v h' ⟨⟨t1, rfl⟩, rfl⟩
    refine o_lastore (pc := 59) B (1) at_59 (B2) (by decide) (by show 1 < 2; decide) (gt) ?_
    intro h3 W3
    have B3 : o_LA Z h3 t [t0, t1] := o_LA.same B2 W3
    refine o_iload (pc := 60) B at_60 rfl ?_
    refine o_iconst (pc := 62) B (2 : Int32) at_62 (by decide) ?_
    refine o_icmp_le (pc := 63) (pc' := 83) B at_63 (by decide) (by decide) (fun hc63 => ?_) (fun hc63 => False.elim (by revert hc63; decide))
    refine o_iload (pc := 83) B at_83 rfl ?_
    refine o_iconst (pc := 85) B (3 : Int32) at_85 (by decide) ?_
    refine o_icmp_le (pc := 86) (pc' := 107) B at_86 (by decide) (by decide) (fun hc86 => ?_) (fun hc86 => False.elim (by revert hc86; decide))
    refine o_iload (pc := 107) B at_107 rfl ?_
    refine o_iconst (pc := 109) B (4 : Int32) at_109 (by decide) ?_
    refine o_icmp_le (pc := 110) (pc' := 131) B at_110 (by decide) (by decide) (fun hc110 => ?_) (fun hc110 => False.elim (by revert hc110; decide))
    refine o_iload (pc := 131) B at_131 rfl ?_
    refine o_iconst (pc := 133) B (5 : Int32) at_133 (by decide) ?_
    refine o_icmp_le (pc := 134) (pc' := 155) B at_134 (by decide) (by decide) (fun hc134 => ?_) (fun hc134 => False.elim (by revert hc134; decide))
    refine o_iload (pc := 155) B at_155 rfl ?_
    refine o_bipush (pc := 157) B (6 : Int32) at_157 (by decide) ?_
    refine o_icmp_le (pc := 159) (pc' := 181) B at_159 (by decide) (by decide) (fun hc159 => ?_) (fun hc159 => False.elim (by revert hc159; decide))
    refine o_iload (pc := 181) B at_181 rfl ?_
    refine o_bipush (pc := 183) B (7 : Int32) at_183 (by decide) ?_
    refine o_icmp_le (pc := 185) (pc' := 207) B at_185 (by decide) (by decide) (fun hc185 => ?_) (fun hc185 => False.elim (by revert hc185; decide))
    exact own_tail l Z a0 hw n0 _ κ B key a b mode t gt [t0, t1] 1 (by decide) B3 rfl
  · rw [e]
    refine o_ishl_c (pc := 8) B (4 : Int32) at_8 (by decide) ?_
    refine o_istore_13_7 (pc := 9) B at_9 rfl ?_
    refine o_iload (pc := 11) B at_11 rfl ?_
    refine o_newarray (pc := 13) B (4) (8) at_13 (hw _ (List.mem_of_getElem? (i := 0) rfl)) (by decide) (by first | decide | omega) (by first | decide | omega) (by decide) (by decide) ?_
    intro h1 E1 lt1 A1
    rw [← et] at A1 ⊢
    have B1 : o_LA Z h1 t [0, 0, 0, 0] := A1
    refine o_astore_13_8 (pc := 15) B at_15 rfl rfl ?_
    refine o_iload (pc := 17) B at_17 rfl ?_
    refine o_if_le (pc := 19) (pc' := 37) B at_19 (by decide) (by decide) (fun hc19 => False.elim (by revert hc19; decide)) (fun hc19 => ?_)
    refine o_aload (pc := 22) B at_22 rfl rfl ?_
    refine o_iconst (pc := 24) B (0 : Int32) at_24 (by decide) ?_
    refine o_iload (pc := 25) B at_25 rfl ?_
    refine o_iconst (pc := 27) B (3 : Int32) at_27 (by decide) ?_
    refine o_iand (pc := 28) B at_28 ?_
    refine o_lloadN (pc := 29) B at_29 rfl ?_
    refine o_lloadN (pc := 30) B at_30 rfl ?_
    refine o_lload (pc := 31) B at_31 rfl ?_
    refine o_callS4 (pc := 33) B 2 at_33 (hw _ (List.mem_of_getElem? (i := 1) rfl)) (hw _ (List.mem_of_getElem? (i := 2) rfl)) (hw _ (List.mem_of_getElem? (i := 3) rfl)) (hw _ (List.mem_of_getElem? (i := 4) rfl)) (by decide) pd1 rfl (by first | exact Nat.zero_le _ | exact Nat.le_of_ble_eq_true rfl | simp [Value.category]) (by decide) (by decide) (by decide) (by decide) rfl (oc1 l Z a0 hw n0 _ _ key a b) ?_
    rintro v h' ⟨⟨t0, rfl⟩, rfl⟩
    refine o_lastore (pc := 36) B (0) at_36 (B1) (by decide) (by show 0 < 4; decide) (gt) ?_
    intro h2 W2
    have B2 : o_LA Z h2 t [t0, 0, 0, 0] := o_LA.same B1 W2
    refine o_iload (pc := 37) B at_37 rfl ?_
    refine o_iconst (pc := 39) B (1 : Int32) at_39 (by decide) ?_
    refine o_icmp_le (pc := 40) (pc' := 60) B at_40 (by decide) (by decide) (fun hc40 => False.elim (by revert hc40; decide)) (fun hc40 => ?_)
    refine o_aload (pc := 43) B at_43 rfl rfl ?_
    refine o_iconst (pc := 45) B (1 : Int32) at_45 (by decide) ?_
    refine o_iload (pc := 46) B at_46 rfl ?_
    refine o_iconst (pc := 48) B (2 : Int32) at_48 (by decide) ?_
    refine o_iushr (pc := 49) B at_49 ?_
    refine o_iconst (pc := 50) B (3 : Int32) at_50 (by decide) ?_
    refine o_iand (pc := 51) B at_51 ?_
    refine o_lloadN (pc := 52) B at_52 rfl ?_
    refine o_lloadN (pc := 53) B at_53 rfl ?_
    refine o_lload (pc := 54) B at_54 rfl ?_
    refine o_callS4 (pc := 56) B 2 at_56 (hw _ (List.mem_of_getElem? (i := 1) rfl)) (hw _ (List.mem_of_getElem? (i := 2) rfl)) (hw _ (List.mem_of_getElem? (i := 3) rfl)) (hw _ (List.mem_of_getElem? (i := 4) rfl)) (by decide) pd1 rfl (by first | exact Nat.zero_le _ | exact Nat.le_of_ble_eq_true rfl | simp [Value.category]) (by decide) (by decide) (by decide) (by decide) rfl (oc1 l Z a0 hw n0 _ _ key a b) ?_
    rintro v h' ⟨⟨t1, rfl⟩, rfl⟩
    refine o_lastore (pc := 59) B (1) at_59 (B2) (by decide) (by show 1 < 4; decide) (gt) ?_
    intro h3 W3
    have B3 : o_LA Z h3 t [t0, t1, 0, 0] := o_LA.same B2 W3
    refine o_iload (pc := 60) B at_60 rfl ?_
    refine o_iconst (pc := 62) B (2 : Int32) at_62 (by decide) ?_
    refine o_icmp_le (pc := 63) (pc' := 83) B at_63 (by decide) (by decide) (fun hc63 => False.elim (by revert hc63; decide)) (fun hc63 => ?_)
    refine o_aload (pc := 66) B at_66 rfl rfl ?_
    refine o_iconst (pc := 68) B (2 : Int32) at_68 (by decide) ?_
    refine o_iload (pc := 69) B at_69 rfl ?_
    refine o_iconst (pc := 71) B (4 : Int32) at_71 (by decide) ?_
    refine o_iushr (pc := 72) B at_72 ?_
    refine o_iconst (pc := 73) B (3 : Int32) at_73 (by decide) ?_
    refine o_iand (pc := 74) B at_74 ?_
    refine o_lloadN (pc := 75) B at_75 rfl ?_
    refine o_lloadN (pc := 76) B at_76 rfl ?_
    refine o_lload (pc := 77) B at_77 rfl ?_
    refine o_callS4 (pc := 79) B 2 at_79 (hw _ (List.mem_of_getElem? (i := 1) rfl)) (hw _ (List.mem_of_getElem? (i := 2) rfl)) (hw _ (List.mem_of_getElem? (i := 3) rfl)) (hw _ (List.mem_of_getElem? (i := 4) rfl)) (by decide) pd1 rfl (by first | exact Nat.zero_le _ | exact Nat.le_of_ble_eq_true rfl | simp [Value.category]) (by decide) (by decide) (by decide) (by decide) rfl (oc1 l Z a0 hw n0 _ _ key a b) ?_
    rintro v h' ⟨⟨t2, rfl⟩, rfl⟩
    refine o_lastore (pc := 82) B (2) at_82 (B3) (by decide) (by show 2 < 4; decide) (gt) ?_
    intro h4 W4
    have B4 : o_LA Z h4 t [t0, t1, t2, 0] := o_LA.same B3 W4
    refine o_iload (pc := 83) B at_83 rfl ?_
    refine o_iconst (pc := 85) B (3 : Int32) at_85 (by decide) ?_
    refine o_icmp_le (pc := 86) (pc' := 107) B at_86 (by decide) (by decide) (fun hc86 => False.elim (by revert hc86; decide)) (fun hc86 => ?_)
    refine o_aload (pc := 89) B at_89 rfl rfl ?_
    refine o_iconst (pc := 91) B (3 : Int32) at_91 (by decide) ?_
    refine o_iload (pc := 92) B at_92 rfl ?_
    refine o_bipush (pc := 94) B (6 : Int32) at_94 (by decide) ?_
    refine o_iushr (pc := 96) B at_96 ?_
    refine o_iconst (pc := 97) B (3 : Int32) at_97 (by decide) ?_
    refine o_iand (pc := 98) B at_98 ?_
    refine o_lloadN (pc := 99) B at_99 rfl ?_
    refine o_lloadN (pc := 100) B at_100 rfl ?_
    refine o_lload (pc := 101) B at_101 rfl ?_
    refine o_callS4 (pc := 103) B 2 at_103 (hw _ (List.mem_of_getElem? (i := 1) rfl)) (hw _ (List.mem_of_getElem? (i := 2) rfl)) (hw _ (List.mem_of_getElem? (i := 3) rfl)) (hw _ (List.mem_of_getElem? (i := 4) rfl)) (by decide) pd1 rfl (by first | exact Nat.zero_le _ | exact Nat.le_of_ble_eq_true rfl | simp [Value.category]) (by decide) (by decide) (by decide) (by decide) rfl (oc1 l Z a0 hw n0 _ _ key a b) ?_
    rintro v h' ⟨⟨t3, rfl⟩, rfl⟩
    refine o_lastore (pc := 106) B (3) at_106 (B4) (by decide) (by show 3 < 4; decide) (gt) ?_
    intro h5 W5
    have B5 : o_LA Z h5 t [t0, t1, t2, t3] := o_LA.same B4 W5
    refine o_iload (pc := 107) B at_107 rfl ?_
    refine o_iconst (pc := 109) B (4 : Int32) at_109 (by decide) ?_
    refine o_icmp_le (pc := 110) (pc' := 131) B at_110 (by decide) (by decide) (fun hc110 => ?_) (fun hc110 => False.elim (by revert hc110; decide))
    refine o_iload (pc := 131) B at_131 rfl ?_
    refine o_iconst (pc := 133) B (5 : Int32) at_133 (by decide) ?_
    refine o_icmp_le (pc := 134) (pc' := 155) B at_134 (by decide) (by decide) (fun hc134 => ?_) (fun hc134 => False.elim (by revert hc134; decide))
    refine o_iload (pc := 155) B at_155 rfl ?_
    refine o_bipush (pc := 157) B (6 : Int32) at_157 (by decide) ?_
    refine o_icmp_le (pc := 159) (pc' := 181) B at_159 (by decide) (by decide) (fun hc159 => ?_) (fun hc159 => False.elim (by revert hc159; decide))
    refine o_iload (pc := 181) B at_181 rfl ?_
    refine o_bipush (pc := 183) B (7 : Int32) at_183 (by decide) ?_
    refine o_icmp_le (pc := 185) (pc' := 207) B at_185 (by decide) (by decide) (fun hc185 => ?_) (fun hc185 => False.elim (by revert hc185; decide))
    exact own_tail l Z a0 hw n0 _ κ B key a b mode t gt [t0, t1, t2, t3] 2 (by decide) B5 rfl
  · rw [e]
    refine o_ishl_c (pc := 8) B (8 : Int32) at_8 (by decide) ?_
    refine o_istore_13_7 (pc := 9) B at_9 rfl ?_
    refine o_iload (pc := 11) B at_11 rfl ?_
    refine o_newarray (pc := 13) B (8) (8) at_13 (hw _ (List.mem_of_getElem? (i := 0) rfl)) (by decide) (by first | decide | omega) (by first | decide | omega) (by decide) (by decide) ?_
    intro h1 E1 lt1 A1
    rw [← et] at A1 ⊢
    have B1 : o_LA Z h1 t [0, 0, 0, 0, 0, 0, 0, 0] := A1
    refine o_astore_13_8 (pc := 15) B at_15 rfl rfl ?_
    refine o_iload (pc := 17) B at_17 rfl ?_
    refine o_if_le (pc := 19) (pc' := 37) B at_19 (by decide) (by decide) (fun hc19 => False.elim (by revert hc19; decide)) (fun hc19 => ?_)
    refine o_aload (pc := 22) B at_22 rfl rfl ?_
    refine o_iconst (pc := 24) B (0 : Int32) at_24 (by decide) ?_
    refine o_iload (pc := 25) B at_25 rfl ?_
    refine o_iconst (pc := 27) B (3 : Int32) at_27 (by decide) ?_
    refine o_iand (pc := 28) B at_28 ?_
    refine o_lloadN (pc := 29) B at_29 rfl ?_
    refine o_lloadN (pc := 30) B at_30 rfl ?_
    refine o_lload (pc := 31) B at_31 rfl ?_
    refine o_callS4 (pc := 33) B 2 at_33 (hw _ (List.mem_of_getElem? (i := 1) rfl)) (hw _ (List.mem_of_getElem? (i := 2) rfl)) (hw _ (List.mem_of_getElem? (i := 3) rfl)) (hw _ (List.mem_of_getElem? (i := 4) rfl)) (by decide) pd1 rfl (by first | exact Nat.zero_le _ | exact Nat.le_of_ble_eq_true rfl | simp [Value.category]) (by decide) (by decide) (by decide) (by decide) rfl (oc1 l Z a0 hw n0 _ _ key a b) ?_
    rintro v h' ⟨⟨t0, rfl⟩, rfl⟩
    refine o_lastore (pc := 36) B (0) at_36 (B1) (by decide) (by show 0 < 8; decide) (gt) ?_
    intro h2 W2
    have B2 : o_LA Z h2 t [t0, 0, 0, 0, 0, 0, 0, 0] := o_LA.same B1 W2
    refine o_iload (pc := 37) B at_37 rfl ?_
    refine o_iconst (pc := 39) B (1 : Int32) at_39 (by decide) ?_
    refine o_icmp_le (pc := 40) (pc' := 60) B at_40 (by decide) (by decide) (fun hc40 => False.elim (by revert hc40; decide)) (fun hc40 => ?_)
    refine o_aload (pc := 43) B at_43 rfl rfl ?_
    refine o_iconst (pc := 45) B (1 : Int32) at_45 (by decide) ?_
    refine o_iload (pc := 46) B at_46 rfl ?_
    refine o_iconst (pc := 48) B (2 : Int32) at_48 (by decide) ?_
    refine o_iushr (pc := 49) B at_49 ?_
    refine o_iconst (pc := 50) B (3 : Int32) at_50 (by decide) ?_
    refine o_iand (pc := 51) B at_51 ?_
    refine o_lloadN (pc := 52) B at_52 rfl ?_
    refine o_lloadN (pc := 53) B at_53 rfl ?_
    refine o_lload (pc := 54) B at_54 rfl ?_
    refine o_callS4 (pc := 56) B 2 at_56 (hw _ (List.mem_of_getElem? (i := 1) rfl)) (hw _ (List.mem_of_getElem? (i := 2) rfl)) (hw _ (List.mem_of_getElem? (i := 3) rfl)) (hw _ (List.mem_of_getElem? (i := 4) rfl)) (by decide) pd1 rfl (by first | exact Nat.zero_le _ | exact Nat.le_of_ble_eq_true rfl | simp [Value.category]) (by decide) (by decide) (by decide) (by decide) rfl (oc1 l Z a0 hw n0 _ _ key a b) ?_
    rintro v h' ⟨⟨t1, rfl⟩, rfl⟩
    refine o_lastore (pc := 59) B (1) at_59 (B2) (by decide) (by show 1 < 8; decide) (gt) ?_
    intro h3 W3
    have B3 : o_LA Z h3 t [t0, t1, 0, 0, 0, 0, 0, 0] := o_LA.same B2 W3
    refine o_iload (pc := 60) B at_60 rfl ?_
    refine o_iconst (pc := 62) B (2 : Int32) at_62 (by decide) ?_
    refine o_icmp_le (pc := 63) (pc' := 83) B at_63 (by decide) (by decide) (fun hc63 => False.elim (by revert hc63; decide)) (fun hc63 => ?_)
    refine o_aload (pc := 66) B at_66 rfl rfl ?_
    refine o_iconst (pc := 68) B (2 : Int32) at_68 (by decide) ?_
    refine o_iload (pc := 69) B at_69 rfl ?_
    refine o_iconst (pc := 71) B (4 : Int32) at_71 (by decide) ?_
    refine o_iushr (pc := 72) B at_72 ?_
    refine o_iconst (pc := 73) B (3 : Int32) at_73 (by decide) ?_
    refine o_iand (pc := 74) B at_74 ?_
    refine o_lloadN (pc := 75) B at_75 rfl ?_
    refine o_lloadN (pc := 76) B at_76 rfl ?_
    refine o_lload (pc := 77) B at_77 rfl ?_
    refine o_callS4 (pc := 79) B 2 at_79 (hw _ (List.mem_of_getElem? (i := 1) rfl)) (hw _ (List.mem_of_getElem? (i := 2) rfl)) (hw _ (List.mem_of_getElem? (i := 3) rfl)) (hw _ (List.mem_of_getElem? (i := 4) rfl)) (by decide) pd1 rfl (by first | exact Nat.zero_le _ | exact Nat.le_of_ble_eq_true rfl | simp [Value.category]) (by decide) (by decide) (by decide) (by decide) rfl (oc1 l Z a0 hw n0 _ _ key a b) ?_
    rintro v h' ⟨⟨t2, rfl⟩, rfl⟩
    refine o_lastore (pc := 82) B (2) at_82 (B3) (by decide) (by show 2 < 8; decide) (gt) ?_
    intro h4 W4
    have B4 : o_LA Z h4 t [t0, t1, t2, 0, 0, 0, 0, 0] := o_LA.same B3 W4
    refine o_iload (pc := 83) B at_83 rfl ?_
    refine o_iconst (pc := 85) B (3 : Int32) at_85 (by decide) ?_
    refine o_icmp_le (pc := 86) (pc' := 107) B at_86 (by decide) (by decide) (fun hc86 => False.elim (by revert hc86; decide)) (fun hc86 => ?_)
    refine o_aload (pc := 89) B at_89 rfl rfl ?_
    refine o_iconst (pc := 91) B (3 : Int32) at_91 (by decide) ?_
    refine o_iload (pc := 92) B at_92 rfl ?_
    refine o_bipush (pc := 94) B (6 : Int32) at_94 (by decide) ?_
    refine o_iushr (pc := 96) B at_96 ?_
    refine o_iconst (pc := 97) B (3 : Int32) at_97 (by decide) ?_
    refine o_iand (pc := 98) B at_98 ?_
    refine o_lloadN (pc := 99) B at_99 rfl ?_
    refine o_lloadN (pc := 100) B at_100 rfl ?_
    refine o_lload (pc := 101) B at_101 rfl ?_
    refine o_callS4 (pc := 103) B 2 at_103 (hw _ (List.mem_of_getElem? (i := 1) rfl)) (hw _ (List.mem_of_getElem? (i := 2) rfl)) (hw _ (List.mem_of_getElem? (i := 3) rfl)) (hw _ (List.mem_of_getElem? (i := 4) rfl)) (by decide) pd1 rfl (by first | exact Nat.zero_le _ | exact Nat.le_of_ble_eq_true rfl | simp [Value.category]) (by decide) (by decide) (by decide) (by decide) rfl (oc1 l Z a0 hw n0 _ _ key a b) ?_
    rintro v h' ⟨⟨t3, rfl⟩, rfl⟩
    refine o_lastore (pc := 106) B (3) at_106 (B4) (by decide) (by show 3 < 8; decide) (gt) ?_
    intro h5 W5
    have B5 : o_LA Z h5 t [t0, t1, t2, t3, 0, 0, 0, 0] := o_LA.same B4 W5
    refine o_iload (pc := 107) B at_107 rfl ?_
    refine o_iconst (pc := 109) B (4 : Int32) at_109 (by decide) ?_
    refine o_icmp_le (pc := 110) (pc' := 131) B at_110 (by decide) (by decide) (fun hc110 => False.elim (by revert hc110; decide)) (fun hc110 => ?_)
    refine o_aload (pc := 113) B at_113 rfl rfl ?_
    refine o_iconst (pc := 115) B (4 : Int32) at_115 (by decide) ?_
    refine o_iload (pc := 116) B at_116 rfl ?_
    refine o_bipush (pc := 118) B (8 : Int32) at_118 (by decide) ?_
    refine o_iushr (pc := 120) B at_120 ?_
    refine o_iconst (pc := 121) B (3 : Int32) at_121 (by decide) ?_
    refine o_iand (pc := 122) B at_122 ?_
    refine o_lloadN (pc := 123) B at_123 rfl ?_
    refine o_lloadN (pc := 124) B at_124 rfl ?_
    refine o_lload (pc := 125) B at_125 rfl ?_
    refine o_callS4 (pc := 127) B 2 at_127 (hw _ (List.mem_of_getElem? (i := 1) rfl)) (hw _ (List.mem_of_getElem? (i := 2) rfl)) (hw _ (List.mem_of_getElem? (i := 3) rfl)) (hw _ (List.mem_of_getElem? (i := 4) rfl)) (by decide) pd1 rfl (by first | exact Nat.zero_le _ | exact Nat.le_of_ble_eq_true rfl | simp [Value.category]) (by decide) (by decide) (by decide) (by decide) rfl (oc1 l Z a0 hw n0 _ _ key a b) ?_
    rintro v h' ⟨⟨t4, rfl⟩, rfl⟩
    refine o_lastore (pc := 130) B (4) at_130 (B5) (by decide) (by show 4 < 8; decide) (gt) ?_
    intro h6 W6
    have B6 : o_LA Z h6 t [t0, t1, t2, t3, t4, 0, 0, 0] := o_LA.same B5 W6
    refine o_iload (pc := 131) B at_131 rfl ?_
    refine o_iconst (pc := 133) B (5 : Int32) at_133 (by decide) ?_
    refine o_icmp_le (pc := 134) (pc' := 155) B at_134 (by decide) (by decide) (fun hc134 => False.elim (by revert hc134; decide)) (fun hc134 => ?_)
    refine o_aload (pc := 137) B at_137 rfl rfl ?_
    refine o_iconst (pc := 139) B (5 : Int32) at_139 (by decide) ?_
    refine o_iload (pc := 140) B at_140 rfl ?_
    refine o_bipush (pc := 142) B (10 : Int32) at_142 (by decide) ?_
    refine o_iushr (pc := 144) B at_144 ?_
    refine o_iconst (pc := 145) B (3 : Int32) at_145 (by decide) ?_
    refine o_iand (pc := 146) B at_146 ?_
    refine o_lloadN (pc := 147) B at_147 rfl ?_
    refine o_lloadN (pc := 148) B at_148 rfl ?_
    refine o_lload (pc := 149) B at_149 rfl ?_
    refine o_callS4 (pc := 151) B 2 at_151 (hw _ (List.mem_of_getElem? (i := 1) rfl)) (hw _ (List.mem_of_getElem? (i := 2) rfl)) (hw _ (List.mem_of_getElem? (i := 3) rfl)) (hw _ (List.mem_of_getElem? (i := 4) rfl)) (by decide) pd1 rfl (by first | exact Nat.zero_le _ | exact Nat.le_of_ble_eq_true rfl | simp [Value.category]) (by decide) (by decide) (by decide) (by decide) rfl (oc1 l Z a0 hw n0 _ _ key a b) ?_
    rintro v h' ⟨⟨t5, rfl⟩, rfl⟩
    refine o_lastore (pc := 154) B (5) at_154 (B6) (by decide) (by show 5 < 8; decide) (gt) ?_
    intro h7 W7
    have B7 : o_LA Z h7 t [t0, t1, t2, t3, t4, t5, 0, 0] := o_LA.same B6 W7
    refine o_iload (pc := 155) B at_155 rfl ?_
    refine o_bipush (pc := 157) B (6 : Int32) at_157 (by decide) ?_
    refine o_icmp_le (pc := 159) (pc' := 181) B at_159 (by decide) (by decide) (fun hc159 => False.elim (by revert hc159; decide)) (fun hc159 => ?_)
    refine o_aload (pc := 162) B at_162 rfl rfl ?_
    refine o_bipush (pc := 164) B (6 : Int32) at_164 (by decide) ?_
    refine o_iload (pc := 166) B at_166 rfl ?_
    refine o_bipush (pc := 168) B (12 : Int32) at_168 (by decide) ?_
    refine o_iushr (pc := 170) B at_170 ?_
    refine o_iconst (pc := 171) B (3 : Int32) at_171 (by decide) ?_
    refine o_iand (pc := 172) B at_172 ?_
    refine o_lloadN (pc := 173) B at_173 rfl ?_
    refine o_lloadN (pc := 174) B at_174 rfl ?_
    refine o_lload (pc := 175) B at_175 rfl ?_
    refine o_callS4 (pc := 177) B 2 at_177 (hw _ (List.mem_of_getElem? (i := 1) rfl)) (hw _ (List.mem_of_getElem? (i := 2) rfl)) (hw _ (List.mem_of_getElem? (i := 3) rfl)) (hw _ (List.mem_of_getElem? (i := 4) rfl)) (by decide) pd1 rfl (by first | exact Nat.zero_le _ | exact Nat.le_of_ble_eq_true rfl | simp [Value.category]) (by decide) (by decide) (by decide) (by decide) rfl (oc1 l Z a0 hw n0 _ _ key a b) ?_
    rintro v h' ⟨⟨t6, rfl⟩, rfl⟩
    refine o_lastore (pc := 180) B (6) at_180 (B7) (by decide) (by show 6 < 8; decide) (gt) ?_
    intro h8 W8
    have B8 : o_LA Z h8 t [t0, t1, t2, t3, t4, t5, t6, 0] := o_LA.same B7 W8
    refine o_iload (pc := 181) B at_181 rfl ?_
    refine o_bipush (pc := 183) B (7 : Int32) at_183 (by decide) ?_
    refine o_icmp_le (pc := 185) (pc' := 207) B at_185 (by decide) (by decide) (fun hc185 => False.elim (by revert hc185; decide)) (fun hc185 => ?_)
    refine o_aload (pc := 188) B at_188 rfl rfl ?_
    refine o_bipush (pc := 190) B (7 : Int32) at_190 (by decide) ?_
    refine o_iload (pc := 192) B at_192 rfl ?_
    refine o_bipush (pc := 194) B (14 : Int32) at_194 (by decide) ?_
    refine o_iushr (pc := 196) B at_196 ?_
    refine o_iconst (pc := 197) B (3 : Int32) at_197 (by decide) ?_
    refine o_iand (pc := 198) B at_198 ?_
    refine o_lloadN (pc := 199) B at_199 rfl ?_
    refine o_lloadN (pc := 200) B at_200 rfl ?_
    refine o_lload (pc := 201) B at_201 rfl ?_
    refine o_callS4 (pc := 203) B 2 at_203 (hw _ (List.mem_of_getElem? (i := 1) rfl)) (hw _ (List.mem_of_getElem? (i := 2) rfl)) (hw _ (List.mem_of_getElem? (i := 3) rfl)) (hw _ (List.mem_of_getElem? (i := 4) rfl)) (by decide) pd1 rfl (by first | exact Nat.zero_le _ | exact Nat.le_of_ble_eq_true rfl | simp [Value.category]) (by decide) (by decide) (by decide) (by decide) rfl (oc1 l Z a0 hw n0 _ _ key a b) ?_
    rintro v h' ⟨⟨t7, rfl⟩, rfl⟩
    refine o_lastore (pc := 206) B (7) at_206 (B8) (by decide) (by show 7 < 8; decide) (gt) ?_
    intro h9 W9
    have B9 : o_LA Z h9 t [t0, t1, t2, t3, t4, t5, t6, t7] := o_LA.same B8 W9
    exact own_tail l Z a0 hw n0 _ κ B key a b mode t gt [t0, t1, t2, t3, t4, t5, t6, t7] 3 (by decide) B9 rfl
set_option maxRecDepth 65536 in
set_option maxHeartbeats 40000000 in
theorem comes_1 {Post : Tables → Env → Array Value → State → Outcome → State → Prop} (hpost : ∀ tb e args s v u, (limb_1_1.after args s (.returned v) u = true ∧ limb_1_2.after args s (.returned v) u = true ∧ True) → FrameEnd s (.returned v) u (Jvm.fieldLocs frame_1_writes args s ++ Jvm.arrayLocs frame_1_arrays args s ++ Jvm.staticLocs frame_1_statics s) 16 128 → Post tb e args s (.returned v) u) :
    ArmFor flags0 classFile x code maxLocals ret World_1 tables_1 room_1 Calls_1 rest_1 Pre_1 Post := by
  intro l hfl _ _ p e ha hc hk s m args below hf hA hF happ hP
  obtain ⟨hcalls, hrest, hpre⟩ := hP
  obtain ⟨-, -, -, hnamed, -, -, -, hat⟩ := (Spec.applies_iff hf).mp happ
  obtain ⟨hg, hn⟩ := and_e (Cond.before_iff.mp (show (Jvm.Cond.and given_1 narrow_1).before args s = true from hpre))
  obtain ⟨hcnt, g0⟩ := and_e hg
  obtain ⟨q0, g1⟩ := and_e g0
  obtain ⟨q1, g2⟩ := and_e g1
  obtain ⟨q2, g3⟩ := and_e g2
  obtain ⟨w0, w1, w2, w3, rfl⟩ : ∃ w0 w1 w2 w3 : Value, args = #[w0, w1, w2, w3] := by
    have hs : args.size = 4 := by simpa [Cond.value, given_1] using hcnt
    obtain ⟨L⟩ := args
    match L, hs with
    | [w0, w1, w2, w3], _ => exact ⟨w0, w1, w2, w3, rfl⟩
  have hw := fun d (hd : d ∈ tables_1) => atoms_spec (ws := Jvm.Cond.code x code maxLocals ret :: tables_1) hat d (List.mem_cons_of_mem _ hd)
  obtain ⟨i0, e0⟩ := isL_v q0
  obtain rfl : w0 = (.long i0) := Option.some.inj e0
  obtain ⟨i1, e1⟩ := isL_v q1
  obtain rfl : w1 = (.long i1) := Option.some.inj e1
  obtain ⟨i2, e2⟩ := isL_v q2
  obtain rfl : w2 = (.long i2) := Option.some.inj e2
  obtain ⟨i3, e3⟩ := is_v g3
  obtain rfl : w3 = (.int i3) := Option.some.inj e3
  obtain ⟨n, o, h1, h2, h3, _, L, rfl, ⟨rfl, N⟩, hq⟩ := (oc0 l s _ hw s.heap.size s.heap i0 i1 i2 i3 (Nat.le_refl _)) tables_1 p e ha hc hk s m _ below hf ((Spec.applies_iff_loose hf).mp happ).1 ⟨rfl, State.Warmed39.refl s, rfl⟩ trivial
  refine ⟨n, _, h1, h2, h3, hpost _ _ _ _ _ _ ⟨Cond.after_iff.mpr rfl, Cond.after_iff.mpr (eq_i res_at (Term.int_eval (1)) rfl), trivial⟩ ⟨hq.1, hq.2.1, (hq.2.2.sift fun y hy => Or.inr (N y hy)).mono (by decide) (by decide)⟩⟩
theorem main_1_1 : Claimed_1_1 := comes_1 fun _ _ _ _ _ _ h hF => ⟨h.1, hF⟩
theorem main_1_2 : Claimed_1_2 := comes_1 fun _ _ _ _ _ _ h hF => ⟨h.2.1, hF⟩
end Jvm.Pilot.@@N@@
namespace Jvm.Pilot.@@N@@
open Jvm Jvm.ClassFile Sem Op Lib Jvm.Free Jvm.Stand Jvm.Pilot.@@N@@.Jvm.D
/-! MADE BY PROGRAM (witnessworld.py) out of the Statement's table words and the real class files: 13 classes; the members and pool entries that the words name. The judged class is class 1, her method 1. -/
namespace start1
open Jvm.ClassFile
def u (s : String) : CpInfo := .utf8 (stringToUtf16 s)
/-- a pool by its gaps: so many unusable entries, then the entry; so many at the end -/
def gap : Nat → List CpInfo → List CpInfo
  | 0, r => r
  | n + 1, r => .unusable :: gap n r
def poolList (es : List (Nat × CpInfo)) (last : Nat) : List CpInfo := es.foldr (fun e r => gap e.1 (e.2 :: r)) (gap last [])
def pool (es : List (Nat × CpInfo)) (last : Nat) : Array CpInfo := ⟨poolList es last⟩
def fileOf (pool : Array CpInfo) (this : Nat) (attrs : Array Attribute := #[]) (ms : Array MethodInfo := #[]) (fl : Nat := 33) (sup : Nat := 0) (ifs : Array Nat := #[]) (fds : Array FieldInfo := #[]) : ClassFile where
  minorVersion := 0
  majorVersion := 65
  constantPool := pool
  accessFlags := fl
  thisClass := this
  superClass := sup
  interfaces := ifs
  fields := fds
  methods := ms
  attributes := attrs
def plain (name : String) (sup : Option ClassId) : Class where
  name := name
  kind := .ordinary
  loader := none
  accessFlags := 33
  super := sup
  interfaces := #[]
  cf := none
  fields := #[]
  methods := #[]
  instanceTypes := #[]
  staticTypes := #[]
  resolved := #[]
  callSites := []
  init := .initialized
  statics := none
  mirror := none

def pool0 : Array CpInfo := pool [(5, u "<init>"), (0, u "()V"), (1, .class_ 10), (1, u "java/lang/Object")] 113

def k0m0 : Method := { name := "<init>", desc := "()V", sig := { parameters := [], returnType := none }, accessFlags := 1, code := none }
/-- java/lang/Object -/
def k0 : Class := { plain "java/lang/Object" none with
  accessFlags := 33
  interfaces := #[]
  cf := some (fileOf pool0 8 #[] #[{ accessFlags := 1, nameIndex := 5, descriptorIndex := 6, attributes := #[] }] 33 0 #[] #[])
  fields := #[]
  methods := #[k0m0]
  instanceTypes := #[]
  staticTypes := #[]
  resolved := Array.replicate 124 none
  statics := none }

def pool1 : Array CpInfo := pool [(2, .class_ 4), (1, u "java/lang/Object"), (0, u "<init>"), (0, u "()V"), (0, .methodref 8 9), (0, .class_ 10), (0, .nameAndType 11 12), (0, u "com/example/one_verdict/oneverdict/check/FingerprintSetSlotPinLaw"), (0, u "pick"), (0, u "(IJJJ)J"), (0, .methodref 8 14), (0, .nameAndType 15 16), (0, u "hit"), (0, u "(JJ)Z"), (0, .methodref 8 18), (0, .nameAndType 19 20), (0, u "probe"), (0, u "([JIIIJI)I"), (0, .methodref 22 23), (0, .class_ 24), (0, .nameAndType 25 26), (0, u "com/example/one_verdict/oneverdict/check/FingerprintSet"), (0, u "slot"), (0, u "([JJ)I"), (2, u "law"), (0, u "(JJJI)Z")] 5

def k1m0 : Method := { name := "<init>", desc := "()V", sig := { parameters := [], returnType := none }, accessFlags := 1, code := none }
def k1c1 : Code := { maxStack := 9, maxLocals := 13, code := code, exceptionTable := #[], attributes := #[] }
def k1m1 : Method := { name := "law", desc := "(JJJI)Z", sig := { parameters := [.long, .long, .long, .int], returnType := some .boolean }, accessFlags := 9, code := some k1c1 }
def k1c2 : Code := { maxStack := 2, maxLocals := 7, code := method_3_code, exceptionTable := #[], attributes := #[] }
def k1m2 : Method := { name := "pick", desc := "(IJJJ)J", sig := { parameters := [.int, .long, .long, .long], returnType := some .long }, accessFlags := 10, code := some k1c2 }
def k1c3 : Code := { maxStack := 4, maxLocals := 4, code := method_4_code, exceptionTable := #[], attributes := #[] }
def k1m3 : Method := { name := "hit", desc := "(JJ)Z", sig := { parameters := [.long, .long], returnType := some .boolean }, accessFlags := 10, code := some k1c3 }
def k1c4 : Code := { maxStack := 4, maxLocals := 8, code := method_5_code, exceptionTable := #[], attributes := #[] }
def k1m4 : Method := { name := "probe", desc := "([JIIIJI)I", sig := { parameters := [(.array .long), .int, .int, .int, .long, .int], returnType := some .int }, accessFlags := 10, code := some k1c4 }
/-- com/example/one_verdict/oneverdict/check/FingerprintSetSlotPinLaw -/
def k1 : Class := { plain "com/example/one_verdict/oneverdict/check/FingerprintSetSlotPinLaw" (some 0) with
  accessFlags := 49
  interfaces := #[]
  cf := some (fileOf pool1 8 #[] #[{ accessFlags := 1, nameIndex := 5, descriptorIndex := 6, attributes := #[] }, { accessFlags := 9, nameIndex := 29, descriptorIndex := 30, attributes := #[] }, { accessFlags := 10, nameIndex := 11, descriptorIndex := 12, attributes := #[] }, { accessFlags := 10, nameIndex := 15, descriptorIndex := 16, attributes := #[] }, { accessFlags := 10, nameIndex := 19, descriptorIndex := 20, attributes := #[] }] 49 2 #[] #[])
  fields := #[]
  methods := #[k1m0, k1m1, k1m2, k1m3, k1m4]
  instanceTypes := #[]
  staticTypes := #[]
  resolved := Array.replicate 36 none
  statics := none }

def pool2 : Array CpInfo := pool [(1, .class_ 2), (0, u "java/lang/AutoCloseable"), (0, .class_ 4), (0, u "java/lang/Object")] 7

/-- java/lang/AutoCloseable -/
def k2 : Class := { plain "java/lang/AutoCloseable" (some 0) with
  accessFlags := 1537
  interfaces := #[]
  cf := some (fileOf pool2 1 #[] #[] 1537 3 #[] #[])
  fields := #[]
  methods := #[]
  instanceTypes := #[]
  staticTypes := #[]
  resolved := Array.replicate 12 none
  statics := none }

def pool3 : Array CpInfo := pool [(1, .class_ 2), (0, u "java/io/Closeable"), (0, .class_ 4), (0, u "java/lang/Object"), (0, .class_ 6), (0, u "java/lang/AutoCloseable")] 7

/-- java/io/Closeable -/
def k3 : Class := { plain "java/io/Closeable" (some 0) with
  accessFlags := 1537
  interfaces := #[2]
  cf := some (fileOf pool3 1 #[] #[] 1537 3 #[5] #[])
  fields := #[]
  methods := #[]
  instanceTypes := #[]
  staticTypes := #[]
  resolved := Array.replicate 14 none
  statics := none }

def pool4 : Array CpInfo := pool [(2, .class_ 4), (1, u "java/lang/Object"), (3, .class_ 10), (1, u "com/example/one_verdict/oneverdict/check/FingerprintSet"), (0, u "segmentBits"), (0, u "I"), (1, u "[J"), (2, u "tables"), (0, u "[[J"), (2, u "counts"), (0, u "[I"), (2, u "blockStarts"), (22, u "mostSegmentBits"), (10, u "slot"), (0, u "([JJ)I"), (2, u "inFile"), (0, u "J"), (20, .class_ 87), (1, u "com/example/one_verdict/oneverdict/check/FingerprintSet$FileLookup"), (13, u "file"), (0, u "Lcom/example/one_verdict/oneverdict/check/ScratchFile;"), (21, .class_ 125), (0, u "com/example/one_verdict/oneverdict/check/FingerprintSet$SortedKeys"), (3, .class_ 130), (0, u "com/example/one_verdict/oneverdict/check/FingerprintSet$KeysInFile"), (42, .class_ 174), (0, u "java/io/Closeable"), (0, u "ZERO"), (1, u "FEWEST_SLOTS"), (1, u "MOST_SLOTS"), (0, u "MOST_SEGMENT_BITS"), (1, u "BLOCK")] 23

def k4c0 : Code := { maxStack := 4, maxLocals := 5, code := prog_6_method_10_code, exceptionTable := #[], attributes := #[] }
def k4m0 : Method := { name := "slot", desc := "([JJ)I", sig := { parameters := [(.array .long), .long], returnType := some .int }, accessFlags := 8, code := some k4c0 }
/-- com/example/one_verdict/oneverdict/check/FingerprintSet -/
def k4 : Class := { plain "com/example/one_verdict/oneverdict/check/FingerprintSet" (some 0) with
  accessFlags := 32
  interfaces := #[3]
  cf := some (fileOf pool4 8 #[.nestMembers #[124, 129, 85]] #[{ accessFlags := 8, nameIndex := 59, descriptorIndex := 60, attributes := #[] }] 32 2 #[173] #[{ accessFlags := 26, nameIndex := 175, descriptorIndex := 64, attributes := #[] }, { accessFlags := 24, nameIndex := 177, descriptorIndex := 12, attributes := #[] }, { accessFlags := 24, nameIndex := 179, descriptorIndex := 12, attributes := #[] }, { accessFlags := 26, nameIndex := 180, descriptorIndex := 12, attributes := #[] }, { accessFlags := 26, nameIndex := 182, descriptorIndex := 12, attributes := #[] }, { accessFlags := 18, nameIndex := 48, descriptorIndex := 12, attributes := #[] }, { accessFlags := 2, nameIndex := 11, descriptorIndex := 12, attributes := #[] }, { accessFlags := 2, nameIndex := 17, descriptorIndex := 18, attributes := #[] }, { accessFlags := 2, nameIndex := 21, descriptorIndex := 22, attributes := #[] }, { accessFlags := 2, nameIndex := 101, descriptorIndex := 102, attributes := #[] }, { accessFlags := 2, nameIndex := 63, descriptorIndex := 64, attributes := #[] }, { accessFlags := 2, nameIndex := 25, descriptorIndex := 14, attributes := #[] }])
  fields := #[{ name := "ZERO", type := .long, accessFlags := 26, slot := 0, constantValue := 0 }, { name := "FEWEST_SLOTS", type := .int, accessFlags := 24, slot := 1, constantValue := 0 }, { name := "MOST_SLOTS", type := .int, accessFlags := 24, slot := 2, constantValue := 0 }, { name := "MOST_SEGMENT_BITS", type := .int, accessFlags := 26, slot := 3, constantValue := 0 }, { name := "BLOCK", type := .int, accessFlags := 26, slot := 4, constantValue := 0 }, { name := "mostSegmentBits", type := .int, accessFlags := 18, slot := 0, constantValue := 0 }, { name := "segmentBits", type := .int, accessFlags := 2, slot := 1, constantValue := 0 }, { name := "tables", type := (.array (.array .long)), accessFlags := 2, slot := 2, constantValue := 0 }, { name := "counts", type := (.array .int), accessFlags := 2, slot := 3, constantValue := 0 }, { name := "file", type := (.object "com/example/one_verdict/oneverdict/check/ScratchFile"), accessFlags := 2, slot := 4, constantValue := 0 }, { name := "inFile", type := .long, accessFlags := 2, slot := 5, constantValue := 0 }, { name := "blockStarts", type := (.array .long), accessFlags := 2, slot := 6, constantValue := 0 }]
  methods := #[k4m0]
  instanceTypes := #[.int, .int, (.array (.array .long)), (.array .int), (.object "com/example/one_verdict/oneverdict/check/ScratchFile"), .long, (.array .long)]
  staticTypes := #[.long, .int, .int, .int, .int]
  resolved := Array.replicate 206 none
  statics := none }

def pool5 : Array CpInfo := pool [(1, u "java/lang/Cloneable"), (0, .class_ 1), (0, u "java/lang/Object"), (0, .class_ 3)] 3

/-- java/lang/Cloneable -/
def k5 : Class := { plain "java/lang/Cloneable" (some 0) with
  accessFlags := 1537
  interfaces := #[]
  cf := some (fileOf pool5 2 #[] #[] 1537 4 #[] #[])
  fields := #[]
  methods := #[]
  instanceTypes := #[]
  staticTypes := #[]
  resolved := Array.replicate 8 none
  statics := none }

def pool6 : Array CpInfo := pool [(1, u "java/io/Serializable"), (0, .class_ 1), (0, u "java/lang/Object"), (0, .class_ 3)] 3

/-- java/io/Serializable -/
def k6 : Class := { plain "java/io/Serializable" (some 0) with
  accessFlags := 1537
  interfaces := #[]
  cf := some (fileOf pool6 2 #[] #[] 1537 4 #[] #[])
  fields := #[]
  methods := #[]
  instanceTypes := #[]
  staticTypes := #[]
  resolved := Array.replicate 8 none
  statics := none }

/-- the primitive byte -/
def k7 : Class := { plain "byte" none with kind := .primitive 'B', accessFlags := 0x411 }
/-- [B -/
def k8 : Class := { plain "[B" (some 0) with kind := .array 7 .byte, interfaces := #[5, 6], accessFlags := 1041 }

/-- the primitive int -/
def k9 : Class := { plain "int" none with kind := .primitive 'I', accessFlags := 0x411 }
/-- [I -/
def k10 : Class := { plain "[I" (some 0) with kind := .array 9 .int, interfaces := #[5, 6], accessFlags := 1041 }

/-- the primitive long -/
def k11 : Class := { plain "long" none with kind := .primitive 'J', accessFlags := 0x411 }
/-- [J -/
def k12 : Class := { plain "[J" (some 0) with kind := .array 11 .long, interfaces := #[5, 6], accessFlags := 1041 }

def heap : Heap := #[]
def classes : Array Class := #[k0, k1, k2, k3, k4, k5, k6, k7, k8, k9, k10, k11, k12]
def interned : List (Array UInt16 × Addr) := []
def slotsUsed : Nat := 0
def theMethod : MethodId := ⟨1, 1⟩
def args0 : Array Value := #[.long 5, .long 7, .long 3, .int 9]
def aboutOver (below : List Frame) : State where
  vm := { classes := classes, interned := interned.toArray }
  heap := heap
  slotsUsed := slotsUsed
  threads := #[{ frames := .invoking theMethod args0 :: below }]
def below0 : List Frame := [.native { method := ⟨0, 0⟩, args := #[] }]
def about1 : State := aboutOver below0
def p0 : Program := .bare "" "" ""
def e0 : Env := launch0.env 0 0 0
theorem w_frames : about1.frames = Frame.invoking theMethod args0 :: below0 := rfl
set_option maxRecDepth 65536 in
theorem w_args : argsFit about1.vm theMethod args0 = true := by decide +kernel
set_option maxRecDepth 65536 in
theorem w_heap : heapFits about1 = true := by decide +kernel
set_option maxRecDepth 65536 in
theorem w_runnable : about1.curStatus? = some .runnable := by decide +kernel
set_option maxRecDepth 65536 in
theorem w_alone : about1.alone = true := by decide +kernel
set_option maxRecDepth 65536 in
theorem w_named : about1.methodNamed? x = some theMethod := by decide +kernel
set_option maxRecDepth 65536 in
theorem w_hears : about1.hears theMethod below0 = true := by decide +kernel
set_option maxRecDepth 65536 in
theorem w_ripe : about1.ripe theMethod args0 below0 = true := by decide +kernel
theorem w_running : about1.status = .running := rfl
set_option maxRecDepth 65536 in
theorem w_room : about1.hasRoom e0.platform room_1 = true :=
  launch0.hasRoom_least _ room_1 (by decide +kernel) (by decide +kernel) (by decide +kernel) (by decide +kernel) (by decide +kernel) (by decide +kernel)
theorem allAtoms_all (ts : List Jvm.Cond) (a : Array Jvm.Value) (st : Jvm.State) : (allAtoms ts).before a st = ts.all (fun c => c.before a st) := by
  induction ts with
  | nil => rfl
  | cons c t ih =>
    show (Jvm.Cond.and c (allAtoms t)).before a st = _
    rw [Jvm.Cond.before_and, ih, List.all_cons]
def words1 : List Jvm.Cond := Jvm.Cond.code x code maxLocals ret :: tables_1
/-- a 'code' word, met by the world's own term for the bytes: nothing is compared byte by byte -/
theorem code_word {y : MethodName} {bytes : ByteArray} {mx : Nat} {rt : Option FieldType} {a : Array Value} {s : State} {m : MethodId} {meth : Method} {c : Code} (h1 : s.methodNamed? y = some m) (h2 : s.vm.method? m = some meth) (h3 : meth.code = some c) (h4 : c.code = bytes)
    (h5 : (c.maxLocals == mx && c.exceptionTable.isEmpty && decide (c.maxStack ≤ mostOperands) && decide (meth.sig.returnType = rt) && !meth.locks && decide (parseMethodDescriptor y.desc = some meth.sig)) = true) : (Jvm.Cond.code y bytes mx rt).before a s = true := by
  simp only [Bool.and_eq_true, beq_iff_eq, Bool.not_eq_true', decide_eq_true_eq] at h5
  obtain ⟨⟨⟨⟨⟨g1, g2⟩, g3⟩, g4⟩, g5⟩, g6⟩ := h5
  simp [Cond.before, Cond.holds, Cond.value, h1, h2, h3, h4, g1, g2, g3, g4, g5, g6]
def isCode : Jvm.Cond → Bool
  | .code _ _ _ _ => true
  | _ => false
theorem all_split {L : List Jvm.Cond} {P : Jvm.Cond → Bool} (h1 : L.all (fun c => isCode c || P c) = true) (h2 : ∀ c ∈ L.filter isCode, P c = true) : L.all P = true := by
  refine List.all_eq_true.mpr fun c hc => ?_
  have h := List.all_eq_true.mp h1 c hc
  rcases Bool.eq_false_or_eq_true (isCode c) with hi | hi
  · exact h2 c (List.mem_filter.mpr ⟨hc, hi⟩)
  · simpa [hi] using h
set_option maxRecDepth 65536 in
theorem w_c0 : (Jvm.Cond.code x code maxLocals ret).before args0 about1 = true := code_word (m := ⟨1, 1⟩) (meth := k1m1) (c := k1c1) (by decide +kernel) rfl rfl rfl (by decide +kernel)
set_option maxRecDepth 65536 in
theorem w_c1 : (Jvm.Cond.code ({ cls := "com/example/one_verdict/oneverdict/check/FingerprintSetSlotPinLaw", name := "pick", desc := "(IJJJ)J" } : Jvm.MethodName) method_3_code (7 : Nat) (Option.some Jvm.ClassFile.FieldType.long)).before args0 about1 = true := code_word (m := ⟨1, 2⟩) (meth := k1m2) (c := k1c2) (by decide +kernel) rfl rfl rfl (by decide +kernel)
set_option maxRecDepth 65536 in
theorem w_c2 : (Jvm.Cond.code ({ cls := "com/example/one_verdict/oneverdict/check/FingerprintSetSlotPinLaw", name := "hit", desc := "(JJ)Z" } : Jvm.MethodName) method_4_code (4 : Nat) (Option.some Jvm.ClassFile.FieldType.boolean)).before args0 about1 = true := code_word (m := ⟨1, 3⟩) (meth := k1m3) (c := k1c3) (by decide +kernel) rfl rfl rfl (by decide +kernel)
set_option maxRecDepth 65536 in
theorem w_c3 : (Jvm.Cond.code ({ cls := "com/example/one_verdict/oneverdict/check/FingerprintSetSlotPinLaw", name := "probe", desc := "([JIIIJI)I" } : Jvm.MethodName) method_5_code (8 : Nat) (Option.some Jvm.ClassFile.FieldType.int)).before args0 about1 = true := code_word (m := ⟨1, 4⟩) (meth := k1m4) (c := k1c4) (by decide +kernel) rfl rfl rfl (by decide +kernel)
set_option maxRecDepth 65536 in
theorem w_c4 : (Jvm.Cond.code ({ cls := "com/example/one_verdict/oneverdict/check/FingerprintSet", name := "slot", desc := "([JJ)I" } : Jvm.MethodName) prog_6_method_10_code (5 : Nat) (Option.some Jvm.ClassFile.FieldType.int)).before args0 about1 = true := code_word (m := ⟨4, 0⟩) (meth := k4m0) (c := k4c0) (by decide +kernel) rfl rfl rfl (by decide +kernel)
def codes1 : List Jvm.Cond := [Jvm.Cond.code x code maxLocals ret, Jvm.Cond.code ({ cls := "com/example/one_verdict/oneverdict/check/FingerprintSetSlotPinLaw", name := "pick", desc := "(IJJJ)J" } : Jvm.MethodName) method_3_code (7 : Nat) (Option.some Jvm.ClassFile.FieldType.long), Jvm.Cond.code ({ cls := "com/example/one_verdict/oneverdict/check/FingerprintSetSlotPinLaw", name := "hit", desc := "(JJ)Z" } : Jvm.MethodName) method_4_code (4 : Nat) (Option.some Jvm.ClassFile.FieldType.boolean), Jvm.Cond.code ({ cls := "com/example/one_verdict/oneverdict/check/FingerprintSetSlotPinLaw", name := "probe", desc := "([JIIIJI)I" } : Jvm.MethodName) method_5_code (8 : Nat) (Option.some Jvm.ClassFile.FieldType.int), Jvm.Cond.code ({ cls := "com/example/one_verdict/oneverdict/check/FingerprintSet", name := "slot", desc := "([JJ)I" } : Jvm.MethodName) prog_6_method_10_code (5 : Nat) (Option.some Jvm.ClassFile.FieldType.int)]
set_option maxRecDepth 65536 in
theorem codes_eq : words1.filter isCode = codes1 := rfl
theorem w_codes : ∀ c ∈ words1.filter isCode, c.before args0 about1 = true := by
  rw [codes_eq]
  intro c hc
  simp only [codes1, List.mem_cons, List.not_mem_nil, or_false] at hc
  rcases hc with rfl | rfl | rfl | rfl | rfl
  · exact w_c0
  · exact w_c1
  · exact w_c2
  · exact w_c3
  · exact w_c4
set_option maxRecDepth 65536 in
theorem w_t1 : words1.all (fun c => isCode c || c.before args0 about1) = true := by decide +kernel
theorem w_tables : (allAtoms (Jvm.Cond.code x code maxLocals ret :: tables_1)).before args0 about1 = true := by
  rw [allAtoms_all]
  show words1.all (fun c => c.before args0 about1) = true
  refine all_split ?_ w_codes
  rw [w_t1]
set_option maxRecDepth 65536 in
theorem w_case : (Jvm.Cond.and given_1 narrow_1).before args0 about1 = true := by decide +kernel
theorem w_applies : (headSpec (Jvm.Cond.code x code maxLocals ret :: tables_1) room_1).applies x e0.platform about1 = true :=
  (Spec.applies_iff w_frames).mpr ⟨w_running, w_runnable, w_alone, w_named, w_hears, w_ripe, w_room, w_tables⟩
theorem atStart : AtStart classFile x code maxLocals ret World_1 tables_1 room_1 Calls_1 rest_1 Pre_1 launch0 p0 e0 about1 theMethod args0 below0 :=
  ⟨lists_1, trivial, launch0.admits_env _ _ _, launch0.least_env, fairChoices_fair.cas, fairChoices_fair.clock, w_frames, w_args, w_heap, w_applies, trivial, trivial, w_case⟩
end start1
theorem witness_1 : WitnessClaimed_1 := ⟨start1.p0, start1.e0, start1.about1, start1.theMethod, start1.args0, start1.below0, start1.atStart⟩
end Jvm.Pilot.@@N@@
