import JvmDerived
import JvmDerived.Pilot.@@N@@Statement
import JvmDerived.Pilot.@@N@@Code
set_option linter.unusedVariables false
set_option linter.unusedSimpArgs false
namespace Jvm.Pilot.@@N@@
open Jvm Jvm.ClassFile Sem Op Lib Jvm.Free Jvm.Stand Jvm.LawKit Jvm.RoadKit Bundle Jvm.Pilot.@@N@@.Jvm.D
abbrev o_K : Type := Program × Launch × Env × Room × State × MethodId × Array Value × List Frame × Method × Code × State × Nat
/-- from heap h, with k cells and n slots made so far, at pc with locals Ls and stack St, the invocation comes to its end, and Q holds of what it returns and of the heap -/
def o_Go (κ : o_K) (Q : Option Value → Heap → Prop) (h : Heap) (k n pc : Nat) (Ls : List Slot) (St : List Value) : Prop :=
  match κ with
  | (p, l, e, R, s, m, args, below, meth, c, Z, n0) =>
    ∀ (T : State) (locs : List Loc) (vm0 : Vm) (k0 : Nat), Stand p l e R (s.setVm vm0) m args below meth c T locs k n → s.Since vm0 k0 → k0 ≤ h.size → Z.Warmed39 vm0 → Fr n0 locs → T.heap = h →
      ∃ (s₂ : State) (o : Outcome), Steps p.tables e below (T.setTop (mkF m pc Ls.toArray St)) s₂ ∧ s₂.status = .running ∧ Ended s₂ below o ∧
        ∃ v L, o = .returned v ∧ (Q v s₂.heap ∧ Fr n0 L) ∧ ReturnedEndW s o s₂ L R.cells R.slots
/-- the standing facts of one invocation of y -/
def o_Bo (κ : o_K) (l : Launch) (Z : State) (n0 : Nat) (R : Room) (y : MethodName) (bytes : ByteArray) (ml : Nat) (ret : Option FieldType) : Prop :=
  ∃ (p : Program) (e : Env) (s : State) (m : MethodId) (args : Array Value) (below : List Frame) (meth : Method) (c : Code), κ = (p, l, e, R, s, m, args, below, meth, c, Z, n0) ∧ p.tables.exec = Jvm.exec ∧ Z.Warmed39 s.vm ∧ c.code = bytes ∧ c.maxLocals = ml ∧ s.vm.findClass y.cls = some m.cls ∧ meth.sig.returnType = ret ∧ meth.locks = false ∧ meth.name = y.name
/-- the contract of y at the arguments 'as' and the heap h -/
def o_C (l : Launch) (Z : State) (n0 : Nat) (y : MethodName) (bytes : ByteArray) (ml : Nat) (ret : Option FieldType) (rm : Room) (as : List Value) (h : Heap) (Q : Option Value → Heap → Prop) : Prop :=
  ∀ ws : List Jvm.Cond, MetFree l y (head1 (Jvm.Cond.code y bytes ml ret :: ws) rm) (fun a U => a = as.toArray ∧ Z.Warmed39 U.vm ∧ U.heap = h) (fun _ _ _ _ _ => True) (fun _ U o U' => ∃ v L, o = .returned v ∧ (Q v U'.heap ∧ Fr n0 L) ∧ ReturnedEndW U o U' L rm.cells rm.slots)
theorem o_lt {a b : Nat} (h : a < b) : a < b := h
theorem o_le {a b : Nat} (h : a ≤ b) : a ≤ b := h
theorem o_ne {a b : Nat} (h : a ≠ b) : a ≠ b := h
theorem o_eq {a b : Nat} (h : a = b) : a = b := h
section Fw
variable {κ : o_K} {l : Launch} {Z : State} {n0 : Nat} {R : Room} {y : MethodName} {bytes : ByteArray} {ml : Nat} {ret : Option FieldType} {Q : Option Value → Heap → Prop} {h : Heap} {k n pc : Nat} {Ls : List Slot} {St : List Value} {a0 : Array Value}
theorem o_body {rm : Room} {as : List Value} (hpn : plainFor y = true) (hef : argsToLocals as.toArray ml = Ls.toArray) (H : ∀ κ, o_Bo κ l Z n0 rm y bytes ml ret → o_Go κ Q h 0 0 0 Ls []) : o_C l Z n0 y bytes ml ret rm as h Q := by
  intro ws
  refine MetFree.of_bodySF hpn hisR ?_
  intro p e s m args below meth c s₁ Bd hml0 hP hK
  obtain ⟨rfl, hZ, hh⟩ := hP
  have X0 : Stand p l e rm s m as.toArray below meth c s₁ [] 0 0 := Stand.of_body Bd
  have e0 : s₁.heap = h := by rw [← hh, Bd.state]; rfl
  have hown := findClass_of_methodNamed Bd.named
  have hnm := (name_of_methodNamed Bd.named Bd.method).1
  obtain ⟨s₂, o, st, r1, r2, v, L, rfl, ⟨q, N⟩, fe⟩ := H (p, l, e, rm, s, m, as.toArray, below, meth, c, Z, n0) ⟨p, e, s, m, _, below, meth, c, rfl, Bd.exec, hZ, Bd.bytes, hml0, hown, Bd.returns, Bd.notSynchronized, hnm⟩ s₁ [] s.vm 0 (show Stand p l e rm (s.setVm s.vm) m as.toArray below meth c s₁ [] 0 0 from X0) (State.WarmedH.since (by have q := X0.warmed; rw [Bd.state] at q; exact q) 0) (Nat.zero_le _) hZ (Fr.nil _) e0
  refine ⟨s₂, _, ?_, r1, r2, v, L, rfl, ⟨q, N⟩, fe⟩
  exact castTop (g' := mkF m 0 Ls.toArray []) (by unfold entryFrame; rw [hef]) st
theorem o_C.imp {rm : Room} {as : List Value} {Q' : Option Value → Heap → Prop} (C : o_C l Z n0 y bytes ml ret rm as h Q) (H : ∀ v h', Q v h' → Q' v h') : o_C l Z n0 y bytes ml ret rm as h Q' := by
  intro ws p e ha hc hk s m args below hf happ hP hK
  obtain ⟨n, o, h1, h2, h3, v, L, e1, ⟨q, N⟩, fe⟩ := C ws p e ha hc hk s m args below hf happ hP hK
  exact ⟨n, o, h1, h2, h3, v, L, e1, ⟨H _ _ q, N⟩, fe⟩
theorem o_imp {Q' : Option Value → Heap → Prop} (H : ∀ v h', Q v h' → Q' v h') (G : o_Go κ Q h k n pc Ls St) : o_Go κ Q' h k n pc Ls St := by
  obtain ⟨p, l, e, R, s, m, args, below, meth, c, Z, n0⟩ := κ
  intro T locs vm0 k0 X S0 hk hZ0 N eT
  obtain ⟨s₂, o, st, r1, r2, v, L, e1, ⟨q, N⟩, fe⟩ := G T locs vm0 k0 X S0 hk hZ0 N eT
  exact ⟨s₂, o, st, r1, r2, v, L, e1, ⟨H _ _ q, N⟩, fe⟩
theorem o_mono {k' n' : Nat} (hk : k ≤ k') (hn : n ≤ n') (G : o_Go κ Q h k' n' pc Ls St) : o_Go κ Q h k n pc Ls St := by
  obtain ⟨p, l, e, R, s, m, args, below, meth, c, Z, n0⟩ := κ
  intro T locs vm0 k0 X S0 hk0 hZ0 N eT
  exact G T locs vm0 k0 (X.more hk hn) S0 hk0 hZ0 N eT
theorem o_sim (B : o_Bo κ l Z n0 R y bytes ml ret) {pc' : Nat} {Ls' : List Slot} {St' : List Value} (f : ∀ (p : Program) (e : Env) (m : MethodId) (below : List Frame) (c : Code) (T target : State), At T m c below → p.tables.exec = Jvm.exec → c.code = bytes → Steps p.tables e below (T.setTop (mkF m pc' Ls'.toArray St')) target → Steps p.tables e below (T.setTop (mkF m pc Ls.toArray St)) target) (K : o_Go κ Q h k n pc' Ls' St') : o_Go κ Q h k n pc Ls St := by
  obtain ⟨p, e, s, m, args, below, meth, c, rfl, hx, hZ, hby, hml, hown, hret, hlk, hnm⟩ := B
  intro T locs vm0 k0 X S0 hk0 hZ0 N eT
  have hown : (s.setVm vm0).vm.findClass y.cls = some m.cls := by rw [show (s.setVm vm0).vm = vm0 from rfl, hZ0.alike.findClass, ← hZ.alike.findClass]; exact hown
  have hZ : Z.Warmed39 (s.setVm vm0).vm := hZ0
  obtain ⟨s₂, o, st, r⟩ := K T locs vm0 k0 X S0 hk0 hZ0 N eT
  exact ⟨s₂, o, f p e m below c T s₂ X.here hx hby st, r⟩
theorem o_get {i : Nat} {x : Slot} (hl : Ls[i]? = some x) : Ls.toArray[i]? = some x := by simpa using hl
def o_ok1 : Slot → Bool
  | .unset => true
  | .val w => w.category == 1
  | .second => false
theorem o_ok1_spec {o : Slot} (ho : o_ok1 o = true) : o = .unset ∨ ∃ w, o = .val w ∧ w.category = 1 := by
  cases o <;> simp [o_ok1] at ho ⊢; exact ho
theorem o_store1 {i : Nat} {o : Slot} {v : Value} (hold : Ls[i]? = some o) (ho : o_ok1 o = true) (hv : v.category = 1) : storeLocals Ls.toArray i v = some (Ls.set i (.val v)).toArray := by
  rw [XS.store1 (o_get hold) (o_ok1_spec ho) hv]; simp
def o_okl : Slot → Slot → Bool
  | .second, _ => false
  | _, .val w => w.category == 1
  | _, _ => true
theorem o_storel {i : Nat} {o o' : Slot} {v : Value} (hold : Ls[i]? = some o) (hold' : Ls[i + 1]? = some o') (ho : o_okl o o' = true) (hv : v.category = 2) : storeLocals Ls.toArray i v = some ((Ls.set i (.val v)).set (i + 1) .second).toArray := by
  obtain ⟨hi, hget⟩ := List.getElem?_eq_some_iff.mp hold
  obtain ⟨hi', hget'⟩ := List.getElem?_eq_some_iff.mp hold'
  have hne : i ≠ i + 1 := by omega
  have hne' : i + 1 ≠ i := by omega
  cases o with
  | second => simp [o_okl] at ho
  | unset =>
    cases o' with
    | val w =>
      have hw : w.category = 1 := by simpa [o_okl] using ho
      simp [storeLocals, storeSelf, setAt, hi, hi', hget, hget', hv, hw, List.getElem?_set, hne, hold, hold']
    | _ => simp [storeLocals, storeSelf, setAt, hi, hi', hget, hget', hv, List.getElem?_set, hne, hold, hold']
  | val u =>
    by_cases hu : u.category = 2
    · cases o' with
      | val w =>
        have hw : w.category = 1 := by simpa [o_okl] using ho
        simp [storeLocals, storeSelf, setAt, hi, hi', hget, hget', hv, hu, hw, List.getElem?_set, hne, hne', hold, hold', List.set_comm _ _ hne', List.set_set]
      | _ => simp [storeLocals, storeSelf, setAt, hi, hi', hget, hget', hv, hu, List.getElem?_set, hne, hne', hold, hold', List.set_comm _ _ hne', List.set_set]
    · cases o' with
      | val w =>
        have hw : w.category = 1 := by simpa [o_okl] using ho
        simp [storeLocals, storeSelf, setAt, hi, hi', hget, hget', hv, hu, hw, List.getElem?_set, hne, hold, hold']
      | _ => simp [storeLocals, storeSelf, setAt, hi, hi', hget, hget', hv, hu, List.getElem?_set, hne, hold, hold']
theorem o_iloadN (B : o_Bo κ l Z n0 R y bytes ml ret) {i : Fin 4} {x : Int32} (hd : decode bytes pc = .ok (.iload_n i, 1)) (hl : Ls[i.val]? = some (.val (.int x))) (K : o_Go κ Q h k n (pc + 1) Ls (.int x :: St)) : o_Go κ Q h k n pc Ls (St) := o_sim B (fun p e m below c T target X hx hby st => XS.iloadN X hx rfl (hb hby hd) (o_get hl) st) K
theorem o_iload (B : o_Bo κ l Z n0 R y bytes ml ret) {i : Nat} {x : Int32} (hd : decode bytes pc = .ok (.iload i, 2)) (hl : Ls[i]? = some (.val (.int x))) (K : o_Go κ Q h k n (pc + 2) Ls (.int x :: St)) : o_Go κ Q h k n pc Ls (St) := o_sim B (fun p e m below c T target X hx hby st => XS.iload X hx rfl (hb hby hd) (o_get hl) st) K
theorem o_lloadN (B : o_Bo κ l Z n0 R y bytes ml ret) {i : Fin 4} {x : Int64} (hd : decode bytes pc = .ok (.lload_n i, 1)) (hl : Ls[i.val]? = some (.val (.long x))) (K : o_Go κ Q h k n (pc + 1) Ls (.long x :: St)) : o_Go κ Q h k n pc Ls (St) := o_sim B (fun p e m below c T target X hx hby st => XT.lloadN X hx rfl (hb hby hd) (o_get hl) st) K
theorem o_lload (B : o_Bo κ l Z n0 R y bytes ml ret) {i : Nat} {x : Int64} (hd : decode bytes pc = .ok (.lload i, 2)) (hl : Ls[i]? = some (.val (.long x))) (K : o_Go κ Q h k n (pc + 2) Ls (.long x :: St)) : o_Go κ Q h k n pc Ls (St) := o_sim B (fun p e m below c T target X hx hby st => XT.lload X hx rfl (hb hby hd) (o_get hl) st) K
theorem o_aloadN (B : o_Bo κ l Z n0 R y bytes ml ret) {i : Fin 4} {v : Value} (hd : decode bytes pc = .ok (.aload_n i, 1)) (hl : Ls[i.val]? = some (.val v)) (hv : v.isRef = true) (K : o_Go κ Q h k n (pc + 1) Ls (v :: St)) : o_Go κ Q h k n pc Ls (St) := o_sim B (fun p e m below c T target X hx hby st => XS.aloadN X hx rfl (hb hby hd) (o_get hl) hv st) K
theorem o_aload (B : o_Bo κ l Z n0 R y bytes ml ret) {i : Nat} {v : Value} (hd : decode bytes pc = .ok (.aload i, 2)) (hl : Ls[i]? = some (.val v)) (hv : v.isRef = true) (K : o_Go κ Q h k n (pc + 2) Ls (v :: St)) : o_Go κ Q h k n pc Ls (St) := o_sim B (fun p e m below c T target X hx hby st => XS.aload X hx rfl (hb hby hd) (o_get hl) hv st) K
theorem o_istoreN (B : o_Bo κ l Z n0 R y bytes ml ret) {i : Fin 4} {x : Int32} {o : Slot} (hd : decode bytes pc = .ok (.istore_n i, 1)) (hold : Ls[i.val]? = some o) (ho : o_ok1 o = true) (K : o_Go κ Q h k n (pc + 1) (Ls.set i.val (.val (.int x))) (St)) : o_Go κ Q h k n pc Ls (.int x :: St) := o_sim B (fun p e m below c T target X hx hby st => XS.istoreN X hx rfl (hb hby hd) rfl (o_store1 hold ho rfl) st) K
theorem o_istore (B : o_Bo κ l Z n0 R y bytes ml ret) {i : Nat} {x : Int32} {o : Slot} (hd : decode bytes pc = .ok (.istore i, 2)) (hold : Ls[i]? = some o) (ho : o_ok1 o = true) (K : o_Go κ Q h k n (pc + 2) (Ls.set i (.val (.int x))) (St)) : o_Go κ Q h k n pc Ls (.int x :: St) := o_sim B (fun p e m below c T target X hx hby st => XS.istore X hx rfl (hb hby hd) rfl (o_store1 hold ho rfl) st) K
theorem o_astoreN (B : o_Bo κ l Z n0 R y bytes ml ret) {i : Fin 4} {v : Value} {o : Slot} (hd : decode bytes pc = .ok (.astore_n i, 1)) (hv : v.isRef = true) (hold : Ls[i.val]? = some o) (ho : o_ok1 o = true) (K : o_Go κ Q h k n (pc + 1) (Ls.set i.val (.val v)) (St)) : o_Go κ Q h k n pc Ls (v :: St) := o_sim B (fun p e m below c T target X hx hby st => XS.astoreN X hx rfl (hb hby hd) rfl hv (o_store1 hold ho (by cases v <;> simp [Value.isRef] at hv <;> rfl)) st) K
theorem o_astore (B : o_Bo κ l Z n0 R y bytes ml ret) {i : Nat} {v : Value} {o : Slot} (hd : decode bytes pc = .ok (.astore i, 2)) (hv : v.isRef = true) (hold : Ls[i]? = some o) (ho : o_ok1 o = true) (K : o_Go κ Q h k n (pc + 2) (Ls.set i (.val v)) (St)) : o_Go κ Q h k n pc Ls (v :: St) := o_sim B (fun p e m below c T target X hx hby st => XS.astore X hx rfl (hb hby hd) rfl hv (o_store1 hold ho (by cases v <;> simp [Value.isRef] at hv <;> rfl)) st) K
theorem o_lstoreN (B : o_Bo κ l Z n0 R y bytes ml ret) {i : Fin 4} {x : Int64} {o o2 : Slot} (hd : decode bytes pc = .ok (.lstore_n i, 1)) (hold : Ls[i.val]? = some o) (hold2 : Ls[i.val + 1]? = some o2) (ho : o_okl o o2 = true) (K : o_Go κ Q h k n (pc + 1) ((Ls.set i.val (.val (.long x))).set (i.val + 1) .second) (St)) : o_Go κ Q h k n pc Ls (.long x :: St) := o_sim B (fun p e m below c T target X hx hby st => XT.lstoreN X hx rfl (hb hby hd) rfl (o_storel hold hold2 ho rfl) st) K
theorem o_lstore (B : o_Bo κ l Z n0 R y bytes ml ret) {i : Nat} {x : Int64} {o o2 : Slot} (hd : decode bytes pc = .ok (.lstore i, 2)) (hold : Ls[i]? = some o) (hold2 : Ls[i + 1]? = some o2) (ho : o_okl o o2 = true) (K : o_Go κ Q h k n (pc + 2) ((Ls.set i (.val (.long x))).set (i + 1) .second) (St)) : o_Go κ Q h k n pc Ls (.long x :: St) := o_sim B (fun p e m below c T target X hx hby st => XT.lstore X hx rfl (hb hby hd) rfl (o_storel hold hold2 ho rfl) st) K
theorem o_iinc (B : o_Bo κ l Z n0 R y bytes ml ret) {i : Nat} {cst : Int} {x : Int32} (v : Int32) (hd : decode bytes pc = .ok (.iinc i cst, 3)) (hv : Int32.ofInt cst = v) (hl : Ls[i]? = some (.val (.int x))) (K : o_Go κ Q h k n (pc + 3) (Ls.set i (.val (.int (x + v)))) (St)) : o_Go κ Q h k n pc Ls (St) := o_sim B (fun p e m below c T target X hx hby st => XT.iincV X hx rfl v (hb hby hd) hv (o_get hl) (o_store1 hl rfl rfl) st) K
theorem o_iconst (B : o_Bo κ l Z n0 R y bytes ml ret) {i : Int} (v : Int32) (hd : decode bytes pc = .ok (.iconst i, 1)) (hv : Int32.ofInt i = v) (K : o_Go κ Q h k n (pc + 1) Ls (.int v :: St)) : o_Go κ Q h k n pc Ls (St) := o_sim B (fun p e m below c T target X hx hby st => XT.iconstV X hx rfl v (hb hby hd) hv st) K
theorem o_bipush (B : o_Bo κ l Z n0 R y bytes ml ret) {i : Int} (v : Int32) (hd : decode bytes pc = .ok (.bipush i, 2)) (hv : (Int8.ofInt i).toInt32 = v) (K : o_Go κ Q h k n (pc + 2) Ls (.int v :: St)) : o_Go κ Q h k n pc Ls (St) := o_sim B (fun p e m below c T target X hx hby st => XT.bipushV X hx rfl v (hb hby hd) hv st) K
theorem o_sipush (B : o_Bo κ l Z n0 R y bytes ml ret) {i : Int} (v : Int32) (hd : decode bytes pc = .ok (.sipush i, 3)) (hv : (Int16.ofInt i).toInt32 = v) (K : o_Go κ Q h k n (pc + 3) Ls (.int v :: St)) : o_Go κ Q h k n pc Ls (St) := o_sim B (fun p e m below c T target X hx hby st => XT.sipushV X hx rfl v (hb hby hd) hv st) K
theorem o_lconst (B : o_Bo κ l Z n0 R y bytes ml ret) {i : Fin 2} (v : Int64) (hd : decode bytes pc = .ok (.lconst i, 1)) (hv : Int64.ofNat i = v) (K : o_Go κ Q h k n (pc + 1) Ls (.long v :: St)) : o_Go κ Q h k n pc Ls (St) := o_sim B (fun p e m below c T target X hx hby st => XT.lconstV X hx rfl v (hb hby hd) hv st) K
theorem o_aconst_null (B : o_Bo κ l Z n0 R y bytes ml ret)  (hd : decode bytes pc = .ok (.aconst_null, 1)) (K : o_Go κ Q h k n (pc + 1) Ls (.null :: St)) : o_Go κ Q h k n pc Ls (St) := o_sim B (fun p e m below c T target X hx hby st => XS.aconstNull X hx rfl (hb hby hd) st) K
theorem o_iadd (B : o_Bo κ l Z n0 R y bytes ml ret) {x y : Int32} (hd : decode bytes pc = .ok (.iadd, 1)) (K : o_Go κ Q h k n (pc + 1) Ls (.int (x + y) :: St)) : o_Go κ Q h k n pc Ls (.int y :: .int x :: St) := o_sim B (fun p e m below c T target X hx hby st => XS.iadd X hx rfl (hb hby hd) rfl st) K
theorem o_isub (B : o_Bo κ l Z n0 R y bytes ml ret) {x y : Int32} (hd : decode bytes pc = .ok (.isub, 1)) (K : o_Go κ Q h k n (pc + 1) Ls (.int (x - y) :: St)) : o_Go κ Q h k n pc Ls (.int y :: .int x :: St) := o_sim B (fun p e m below c T target X hx hby st => XS.isub X hx rfl (hb hby hd) rfl st) K
theorem o_iand (B : o_Bo κ l Z n0 R y bytes ml ret) {x y : Int32} (hd : decode bytes pc = .ok (.iand, 1)) (K : o_Go κ Q h k n (pc + 1) Ls (.int (x &&& y) :: St)) : o_Go κ Q h k n pc Ls (.int y :: .int x :: St) := o_sim B (fun p e m below c T target X hx hby st => XS.iand X hx rfl (hb hby hd) rfl st) K
theorem o_imul (B : o_Bo κ l Z n0 R y bytes ml ret) {x y : Int32} (hd : decode bytes pc = .ok (.imul, 1)) (K : o_Go κ Q h k n (pc + 1) Ls (.int (x * y) :: St)) : o_Go κ Q h k n pc Ls (.int y :: .int x :: St) := o_sim B (fun p e m below c T target X hx hby st => XS.imul X hx rfl (hb hby hd) rfl st) K
theorem o_ior (B : o_Bo κ l Z n0 R y bytes ml ret) {x y : Int32} (hd : decode bytes pc = .ok (.ior, 1)) (K : o_Go κ Q h k n (pc + 1) Ls (.int (x ||| y) :: St)) : o_Go κ Q h k n pc Ls (.int y :: .int x :: St) := o_sim B (fun p e m below c T target X hx hby st => XT.ior X hx rfl (hb hby hd) rfl st) K
theorem o_ixor (B : o_Bo κ l Z n0 R y bytes ml ret) {x y : Int32} (hd : decode bytes pc = .ok (.ixor, 1)) (K : o_Go κ Q h k n (pc + 1) Ls (.int (x ^^^ y) :: St)) : o_Go κ Q h k n pc Ls (.int y :: .int x :: St) := o_sim B (fun p e m below c T target X hx hby st => XT.ixor X hx rfl (hb hby hd) rfl st) K
theorem o_ishl (B : o_Bo κ l Z n0 R y bytes ml ret) {x y : Int32} (hd : decode bytes pc = .ok (.ishl, 1)) (K : o_Go κ Q h k n (pc + 1) Ls (.int (x <<< (y &&& 31)) :: St)) : o_Go κ Q h k n pc Ls (.int y :: .int x :: St) := o_sim B (fun p e m below c T target X hx hby st => XT.ishl X hx rfl (hb hby hd) rfl st) K
theorem o_ishr (B : o_Bo κ l Z n0 R y bytes ml ret) {x y : Int32} (hd : decode bytes pc = .ok (.ishr, 1)) (K : o_Go κ Q h k n (pc + 1) Ls (.int (x >>> (y &&& 31)) :: St)) : o_Go κ Q h k n pc Ls (.int y :: .int x :: St) := o_sim B (fun p e m below c T target X hx hby st => XT.ishr X hx rfl (hb hby hd) rfl st) K
theorem o_iushr (B : o_Bo κ l Z n0 R y bytes ml ret) {x y : Int32} (hd : decode bytes pc = .ok (.iushr, 1)) (K : o_Go κ Q h k n (pc + 1) Ls (.int (XT.ushr x y) :: St)) : o_Go κ Q h k n pc Ls (.int y :: .int x :: St) := o_sim B (fun p e m below c T target X hx hby st => XT.iushr X hx rfl (hb hby hd) rfl st) K
theorem o_idiv (B : o_Bo κ l Z n0 R y bytes ml ret) {x y : Int32} (hd : decode bytes pc = .ok (.idiv, 1)) (hy : y ≠ 0) (K : o_Go κ Q h k n (pc + 1) Ls (.int (x / y) :: St)) : o_Go κ Q h k n pc Ls (.int y :: .int x :: St) := o_sim B (fun p e m below c T target X hx hby st => XS.idiv X hx rfl (hb hby hd) rfl hy st) K
theorem o_irem (B : o_Bo κ l Z n0 R y bytes ml ret) {x y : Int32} (hd : decode bytes pc = .ok (.irem, 1)) (hy : y ≠ 0) (K : o_Go κ Q h k n (pc + 1) Ls (.int (x % y) :: St)) : o_Go κ Q h k n pc Ls (.int y :: .int x :: St) := o_sim B (fun p e m below c T target X hx hby st => XS.irem X hx rfl (hb hby hd) rfl hy (by rw [irem_eq_mod]; exact st)) K
theorem o_ineg (B : o_Bo κ l Z n0 R y bytes ml ret) {x : Int32} (hd : decode bytes pc = .ok (.ineg, 1)) (K : o_Go κ Q h k n (pc + 1) Ls (.int (-x) :: St)) : o_Go κ Q h k n pc Ls (.int x :: St) := o_sim B (fun p e m below c T target X hx hby st => XS.ineg X hx rfl (hb hby hd) rfl st) K
theorem o_ladd (B : o_Bo κ l Z n0 R y bytes ml ret) {x y : Int64} (hd : decode bytes pc = .ok (.ladd, 1)) (K : o_Go κ Q h k n (pc + 1) Ls (.long (x + y) :: St)) : o_Go κ Q h k n pc Ls (.long y :: .long x :: St) := o_sim B (fun p e m below c T target X hx hby st => XT.ladd X hx rfl (hb hby hd) rfl st) K
theorem o_lsub (B : o_Bo κ l Z n0 R y bytes ml ret) {x y : Int64} (hd : decode bytes pc = .ok (.lsub, 1)) (K : o_Go κ Q h k n (pc + 1) Ls (.long (x - y) :: St)) : o_Go κ Q h k n pc Ls (.long y :: .long x :: St) := o_sim B (fun p e m below c T target X hx hby st => XT.lsub X hx rfl (hb hby hd) rfl st) K
theorem o_lmul (B : o_Bo κ l Z n0 R y bytes ml ret) {x y : Int64} (hd : decode bytes pc = .ok (.lmul, 1)) (K : o_Go κ Q h k n (pc + 1) Ls (.long (x * y) :: St)) : o_Go κ Q h k n pc Ls (.long y :: .long x :: St) := o_sim B (fun p e m below c T target X hx hby st => XT.lmul X hx rfl (hb hby hd) rfl st) K
theorem o_land (B : o_Bo κ l Z n0 R y bytes ml ret) {x y : Int64} (hd : decode bytes pc = .ok (.land, 1)) (K : o_Go κ Q h k n (pc + 1) Ls (.long (x &&& y) :: St)) : o_Go κ Q h k n pc Ls (.long y :: .long x :: St) := o_sim B (fun p e m below c T target X hx hby st => XT.land X hx rfl (hb hby hd) rfl st) K
theorem o_lor (B : o_Bo κ l Z n0 R y bytes ml ret) {x y : Int64} (hd : decode bytes pc = .ok (.lor, 1)) (K : o_Go κ Q h k n (pc + 1) Ls (.long (x ||| y) :: St)) : o_Go κ Q h k n pc Ls (.long y :: .long x :: St) := o_sim B (fun p e m below c T target X hx hby st => XT.lor X hx rfl (hb hby hd) rfl st) K
theorem o_lxor (B : o_Bo κ l Z n0 R y bytes ml ret) {x y : Int64} (hd : decode bytes pc = .ok (.lxor, 1)) (K : o_Go κ Q h k n (pc + 1) Ls (.long (x ^^^ y) :: St)) : o_Go κ Q h k n pc Ls (.long y :: .long x :: St) := o_sim B (fun p e m below c T target X hx hby st => XT.lxor X hx rfl (hb hby hd) rfl st) K
theorem o_lshl (B : o_Bo κ l Z n0 R y bytes ml ret) {x : Int64} {y : Int32} (hd : decode bytes pc = .ok (.lshl, 1)) (K : o_Go κ Q h k n (pc + 1) Ls (.long (x <<< (y.toInt64 &&& 63)) :: St)) : o_Go κ Q h k n pc Ls (.int y :: .long x :: St) := o_sim B (fun p e m below c T target X hx hby st => XT.lshl X hx rfl (hb hby hd) rfl st) K
theorem o_lshr (B : o_Bo κ l Z n0 R y bytes ml ret) {x : Int64} {y : Int32} (hd : decode bytes pc = .ok (.lshr, 1)) (K : o_Go κ Q h k n (pc + 1) Ls (.long (x >>> (y.toInt64 &&& 63)) :: St)) : o_Go κ Q h k n pc Ls (.int y :: .long x :: St) := o_sim B (fun p e m below c T target X hx hby st => XT.lshr X hx rfl (hb hby hd) rfl st) K
theorem o_lushr (B : o_Bo κ l Z n0 R y bytes ml ret) {x : Int64} {y : Int32} (hd : decode bytes pc = .ok (.lushr, 1)) (K : o_Go κ Q h k n (pc + 1) Ls (.long (XT.ushrL x y) :: St)) : o_Go κ Q h k n pc Ls (.int y :: .long x :: St) := o_sim B (fun p e m below c T target X hx hby st => XT.lushr X hx rfl (hb hby hd) rfl st) K
theorem o_ldiv (B : o_Bo κ l Z n0 R y bytes ml ret) {x y : Int64} (hd : decode bytes pc = .ok (.ldiv, 1)) (hy : y ≠ 0) (K : o_Go κ Q h k n (pc + 1) Ls (.long (x / y) :: St)) : o_Go κ Q h k n pc Ls (.long y :: .long x :: St) := o_sim B (fun p e m below c T target X hx hby st => XT.ldiv X hx rfl (hb hby hd) rfl hy st) K
theorem o_lrem (B : o_Bo κ l Z n0 R y bytes ml ret) {x y : Int64} (hd : decode bytes pc = .ok (.lrem, 1)) (hy : y ≠ 0) (K : o_Go κ Q h k n (pc + 1) Ls (.long (x - (x / y) * y) :: St)) : o_Go κ Q h k n pc Ls (.long y :: .long x :: St) := o_sim B (fun p e m below c T target X hx hby st => XT.lrem X hx rfl (hb hby hd) rfl hy st) K
theorem o_lneg (B : o_Bo κ l Z n0 R y bytes ml ret) {x : Int64} (hd : decode bytes pc = .ok (.lneg, 1)) (K : o_Go κ Q h k n (pc + 1) Ls (.long (-x) :: St)) : o_Go κ Q h k n pc Ls (.long x :: St) := o_sim B (fun p e m below c T target X hx hby st => XT.lneg X hx rfl (hb hby hd) rfl st) K
theorem o_i2l (B : o_Bo κ l Z n0 R y bytes ml ret) {x : Int32} (hd : decode bytes pc = .ok (.i2l, 1)) (K : o_Go κ Q h k n (pc + 1) Ls (.long x.toInt64 :: St)) : o_Go κ Q h k n pc Ls (.int x :: St) := o_sim B (fun p e m below c T target X hx hby st => XT.i2l X hx rfl (hb hby hd) rfl st) K
theorem o_l2i (B : o_Bo κ l Z n0 R y bytes ml ret) {x : Int64} (hd : decode bytes pc = .ok (.l2i, 1)) (K : o_Go κ Q h k n (pc + 1) Ls (.int x.toInt32 :: St)) : o_Go κ Q h k n pc Ls (.long x :: St) := o_sim B (fun p e m below c T target X hx hby st => XT.l2i X hx rfl (hb hby hd) rfl st) K
theorem o_lcmp (B : o_Bo κ l Z n0 R y bytes ml ret) {x y : Int64} (hd : decode bytes pc = .ok (.lcmp, 1)) (K : o_Go κ Q h k n (pc + 1) Ls (.int (XT.cmpL x y) :: St)) : o_Go κ Q h k n pc Ls (.long y :: .long x :: St) := o_sim B (fun p e m below c T target X hx hby st => XT.lcmp X hx rfl (hb hby hd) rfl st) K
theorem o_dup (B : o_Bo κ l Z n0 R y bytes ml ret) {v : Value} (hd : decode bytes pc = .ok (.dup, 1)) (hv : v.category = 1) (K : o_Go κ Q h k n (pc + 1) Ls (v :: v :: St)) : o_Go κ Q h k n pc Ls (v :: St) := o_sim B (fun p e m below c T target X hx hby st => XS.dup X hx rfl (hb hby hd) rfl hv st) K
theorem o_pop (B : o_Bo κ l Z n0 R y bytes ml ret) {v : Value} (hd : decode bytes pc = .ok (.pop, 1)) (hv : v.category = 1) (K : o_Go κ Q h k n (pc + 1) Ls (St)) : o_Go κ Q h k n pc Ls (v :: St) := o_sim B (fun p e m below c T target X hx hby st => XT.pop X hx rfl (hb hby hd) rfl hv st) K
theorem o_dup_x1 (B : o_Bo κ l Z n0 R y bytes ml ret) {v w : Value} (hd : decode bytes pc = .ok (.dup_x1, 1)) (hv : v.category = 1) (hw : w.category = 1) (K : o_Go κ Q h k n (pc + 1) Ls (v :: w :: v :: St)) : o_Go κ Q h k n pc Ls (v :: w :: St) := o_sim B (fun p e m below c T target X hx hby st => XT.dupX1 X hx rfl (hb hby hd) rfl hv hw st) K
theorem o_dup2 (B : o_Bo κ l Z n0 R y bytes ml ret) {v w : Value} (hd : decode bytes pc = .ok (.dup2, 1)) (hv : v.category = 1) (hw : w.category = 1) (K : o_Go κ Q h k n (pc + 1) Ls (v :: w :: v :: w :: St)) : o_Go κ Q h k n pc Ls (v :: w :: St) := o_sim B (fun p e m below c T target X hx hby st => XT.dup2 X hx rfl (hb hby hd) rfl hv hw st) K
theorem o_dup2L (B : o_Bo κ l Z n0 R y bytes ml ret) {x : Int64} (hd : decode bytes pc = .ok (.dup2, 1)) (K : o_Go κ Q h k n (pc + 1) Ls (.long x :: .long x :: St)) : o_Go κ Q h k n pc Ls (.long x :: St) := o_sim B (fun p e m below c T target X hx hby st => XT.dup2L X hx rfl (hb hby hd) rfl st) K
theorem o_goto (B : o_Bo κ l Z n0 R y bytes ml ret) {o : Int} {pc' : Nat} (hd : decode bytes pc = .ok (.goto o, 3)) (ho : 0 ≤ (pc : Int) + o) (hp : ((pc : Int) + o).toNat = pc') (K : o_Go κ Q h k n pc' Ls St) : o_Go κ Q h k n pc Ls St := o_sim B (fun p e m below c T target X hx hby st => XS.goto X hx rfl (pc0 := pc) rfl (hb hby hd) ho hp st) K
theorem o_if_eq (B : o_Bo κ l Z n0 R y bytes ml ret) {o : Int} {pc' : Nat} {x : Int32} (hd : decode bytes pc = .ok (.ifCond .eq o, 3)) (ho : 0 ≤ (pc : Int) + o) (hp : ((pc : Int) + o).toNat = pc') (K1 : x = 0 → o_Go κ Q h k n pc' Ls St) (K2 : ¬ x = 0 → o_Go κ Q h k n (pc + 3) Ls St) : o_Go κ Q h k n pc Ls (.int x :: St) := by
  by_cases hc : x = 0
  · exact o_sim B (fun p e m below c T target X hx hby st => XS.ifYes X hx rfl (pc0 := pc) rfl (hb hby hd) rfl (XT.i0_eq_t hc) ho hp st) (K1 hc)
  · exact o_sim B (fun p e m below c T target X hx hby st => XS.ifNo X hx rfl (hb hby hd) rfl (XT.i0_eq_f hc) st) (K2 hc)
theorem o_icmp_eq (B : o_Bo κ l Z n0 R y bytes ml ret) {o : Int} {pc' : Nat} {x w : Int32} (hd : decode bytes pc = .ok (.if_icmp .eq o, 3)) (ho : 0 ≤ (pc : Int) + o) (hp : ((pc : Int) + o).toNat = pc') (K1 : x = w → o_Go κ Q h k n pc' Ls St) (K2 : ¬ x = w → o_Go κ Q h k n (pc + 3) Ls St) : o_Go κ Q h k n pc Ls (.int w :: .int x :: St) := by
  by_cases hc : x = w
  · exact o_sim B (fun p e m below c T target X hx hby st => XS.icmpYes X hx rfl (pc0 := pc) rfl (hb hby hd) rfl (XT.ii_eq_t hc) ho hp st) (K1 hc)
  · exact o_sim B (fun p e m below c T target X hx hby st => XS.icmpNo X hx rfl (hb hby hd) rfl (XT.ii_eq_f hc) st) (K2 hc)
theorem o_lif_eq (B : o_Bo κ l Z n0 R y bytes ml ret) {o : Int} {pc' : Nat} {x w : Int64} (hd : decode bytes pc = .ok (.ifCond .eq o, 3)) (ho : 0 ≤ (pc : Int) + o) (hp : ((pc : Int) + o).toNat = pc') (K1 : x = w → o_Go κ Q h k n pc' Ls St) (K2 : ¬ x = w → o_Go κ Q h k n (pc + 3) Ls St) : o_Go κ Q h k n pc Ls (.int (XT.cmpL x w) :: St) := by
  by_cases hc : x = w
  · exact o_sim B (fun p e m below c T target X hx hby st => XS.ifYes X hx rfl (pc0 := pc) rfl (hb hby hd) rfl (XT.ll_eq_t hc) ho hp st) (K1 hc)
  · exact o_sim B (fun p e m below c T target X hx hby st => XS.ifNo X hx rfl (hb hby hd) rfl (XT.ll_eq_f hc) st) (K2 hc)
theorem o_if_ne (B : o_Bo κ l Z n0 R y bytes ml ret) {o : Int} {pc' : Nat} {x : Int32} (hd : decode bytes pc = .ok (.ifCond .ne o, 3)) (ho : 0 ≤ (pc : Int) + o) (hp : ((pc : Int) + o).toNat = pc') (K1 : ¬ x = 0 → o_Go κ Q h k n pc' Ls St) (K2 : x = 0 → o_Go κ Q h k n (pc + 3) Ls St) : o_Go κ Q h k n pc Ls (.int x :: St) := by
  by_cases hc : x = 0
  · exact o_sim B (fun p e m below c T target X hx hby st => XS.ifNo X hx rfl (hb hby hd) rfl (XT.i0_ne_f hc) st) (K2 hc)
  · exact o_sim B (fun p e m below c T target X hx hby st => XS.ifYes X hx rfl (pc0 := pc) rfl (hb hby hd) rfl (XT.i0_ne_t hc) ho hp st) (K1 hc)
theorem o_icmp_ne (B : o_Bo κ l Z n0 R y bytes ml ret) {o : Int} {pc' : Nat} {x w : Int32} (hd : decode bytes pc = .ok (.if_icmp .ne o, 3)) (ho : 0 ≤ (pc : Int) + o) (hp : ((pc : Int) + o).toNat = pc') (K1 : ¬ x = w → o_Go κ Q h k n pc' Ls St) (K2 : x = w → o_Go κ Q h k n (pc + 3) Ls St) : o_Go κ Q h k n pc Ls (.int w :: .int x :: St) := by
  by_cases hc : x = w
  · exact o_sim B (fun p e m below c T target X hx hby st => XS.icmpNo X hx rfl (hb hby hd) rfl (XT.ii_ne_f hc) st) (K2 hc)
  · exact o_sim B (fun p e m below c T target X hx hby st => XS.icmpYes X hx rfl (pc0 := pc) rfl (hb hby hd) rfl (XT.ii_ne_t hc) ho hp st) (K1 hc)
theorem o_lif_ne (B : o_Bo κ l Z n0 R y bytes ml ret) {o : Int} {pc' : Nat} {x w : Int64} (hd : decode bytes pc = .ok (.ifCond .ne o, 3)) (ho : 0 ≤ (pc : Int) + o) (hp : ((pc : Int) + o).toNat = pc') (K1 : ¬ x = w → o_Go κ Q h k n pc' Ls St) (K2 : x = w → o_Go κ Q h k n (pc + 3) Ls St) : o_Go κ Q h k n pc Ls (.int (XT.cmpL x w) :: St) := by
  by_cases hc : x = w
  · exact o_sim B (fun p e m below c T target X hx hby st => XS.ifNo X hx rfl (hb hby hd) rfl (XT.ll_ne_f hc) st) (K2 hc)
  · exact o_sim B (fun p e m below c T target X hx hby st => XS.ifYes X hx rfl (pc0 := pc) rfl (hb hby hd) rfl (XT.ll_ne_t hc) ho hp st) (K1 hc)
theorem o_if_lt (B : o_Bo κ l Z n0 R y bytes ml ret) {o : Int} {pc' : Nat} {x : Int32} (hd : decode bytes pc = .ok (.ifCond .lt o, 3)) (ho : 0 ≤ (pc : Int) + o) (hp : ((pc : Int) + o).toNat = pc') (K1 : x < 0 → o_Go κ Q h k n pc' Ls St) (K2 : ¬ x < 0 → o_Go κ Q h k n (pc + 3) Ls St) : o_Go κ Q h k n pc Ls (.int x :: St) := by
  by_cases hc : x < 0
  · exact o_sim B (fun p e m below c T target X hx hby st => XS.ifYes X hx rfl (pc0 := pc) rfl (hb hby hd) rfl (XT.i0_lt_t hc) ho hp st) (K1 hc)
  · exact o_sim B (fun p e m below c T target X hx hby st => XS.ifNo X hx rfl (hb hby hd) rfl (XT.i0_lt_f hc) st) (K2 hc)
theorem o_icmp_lt (B : o_Bo κ l Z n0 R y bytes ml ret) {o : Int} {pc' : Nat} {x w : Int32} (hd : decode bytes pc = .ok (.if_icmp .lt o, 3)) (ho : 0 ≤ (pc : Int) + o) (hp : ((pc : Int) + o).toNat = pc') (K1 : x < w → o_Go κ Q h k n pc' Ls St) (K2 : ¬ x < w → o_Go κ Q h k n (pc + 3) Ls St) : o_Go κ Q h k n pc Ls (.int w :: .int x :: St) := by
  by_cases hc : x < w
  · exact o_sim B (fun p e m below c T target X hx hby st => XS.icmpYes X hx rfl (pc0 := pc) rfl (hb hby hd) rfl (XT.ii_lt_t hc) ho hp st) (K1 hc)
  · exact o_sim B (fun p e m below c T target X hx hby st => XS.icmpNo X hx rfl (hb hby hd) rfl (XT.ii_lt_f hc) st) (K2 hc)
theorem o_lif_lt (B : o_Bo κ l Z n0 R y bytes ml ret) {o : Int} {pc' : Nat} {x w : Int64} (hd : decode bytes pc = .ok (.ifCond .lt o, 3)) (ho : 0 ≤ (pc : Int) + o) (hp : ((pc : Int) + o).toNat = pc') (K1 : x < w → o_Go κ Q h k n pc' Ls St) (K2 : ¬ x < w → o_Go κ Q h k n (pc + 3) Ls St) : o_Go κ Q h k n pc Ls (.int (XT.cmpL x w) :: St) := by
  by_cases hc : x < w
  · exact o_sim B (fun p e m below c T target X hx hby st => XS.ifYes X hx rfl (pc0 := pc) rfl (hb hby hd) rfl (XT.ll_lt_t hc) ho hp st) (K1 hc)
  · exact o_sim B (fun p e m below c T target X hx hby st => XS.ifNo X hx rfl (hb hby hd) rfl (XT.ll_lt_f hc) st) (K2 hc)
theorem o_if_ge (B : o_Bo κ l Z n0 R y bytes ml ret) {o : Int} {pc' : Nat} {x : Int32} (hd : decode bytes pc = .ok (.ifCond .ge o, 3)) (ho : 0 ≤ (pc : Int) + o) (hp : ((pc : Int) + o).toNat = pc') (K1 : ¬ x < 0 → o_Go κ Q h k n pc' Ls St) (K2 : x < 0 → o_Go κ Q h k n (pc + 3) Ls St) : o_Go κ Q h k n pc Ls (.int x :: St) := by
  by_cases hc : x < 0
  · exact o_sim B (fun p e m below c T target X hx hby st => XS.ifNo X hx rfl (hb hby hd) rfl (XT.i0_ge_f hc) st) (K2 hc)
  · exact o_sim B (fun p e m below c T target X hx hby st => XS.ifYes X hx rfl (pc0 := pc) rfl (hb hby hd) rfl (XT.i0_ge_t hc) ho hp st) (K1 hc)
theorem o_icmp_ge (B : o_Bo κ l Z n0 R y bytes ml ret) {o : Int} {pc' : Nat} {x w : Int32} (hd : decode bytes pc = .ok (.if_icmp .ge o, 3)) (ho : 0 ≤ (pc : Int) + o) (hp : ((pc : Int) + o).toNat = pc') (K1 : ¬ x < w → o_Go κ Q h k n pc' Ls St) (K2 : x < w → o_Go κ Q h k n (pc + 3) Ls St) : o_Go κ Q h k n pc Ls (.int w :: .int x :: St) := by
  by_cases hc : x < w
  · exact o_sim B (fun p e m below c T target X hx hby st => XS.icmpNo X hx rfl (hb hby hd) rfl (XT.ii_ge_f hc) st) (K2 hc)
  · exact o_sim B (fun p e m below c T target X hx hby st => XS.icmpYes X hx rfl (pc0 := pc) rfl (hb hby hd) rfl (XT.ii_ge_t hc) ho hp st) (K1 hc)
theorem o_lif_ge (B : o_Bo κ l Z n0 R y bytes ml ret) {o : Int} {pc' : Nat} {x w : Int64} (hd : decode bytes pc = .ok (.ifCond .ge o, 3)) (ho : 0 ≤ (pc : Int) + o) (hp : ((pc : Int) + o).toNat = pc') (K1 : ¬ x < w → o_Go κ Q h k n pc' Ls St) (K2 : x < w → o_Go κ Q h k n (pc + 3) Ls St) : o_Go κ Q h k n pc Ls (.int (XT.cmpL x w) :: St) := by
  by_cases hc : x < w
  · exact o_sim B (fun p e m below c T target X hx hby st => XS.ifNo X hx rfl (hb hby hd) rfl (XT.ll_ge_f hc) st) (K2 hc)
  · exact o_sim B (fun p e m below c T target X hx hby st => XS.ifYes X hx rfl (pc0 := pc) rfl (hb hby hd) rfl (XT.ll_ge_t hc) ho hp st) (K1 hc)
theorem o_if_gt (B : o_Bo κ l Z n0 R y bytes ml ret) {o : Int} {pc' : Nat} {x : Int32} (hd : decode bytes pc = .ok (.ifCond .gt o, 3)) (ho : 0 ≤ (pc : Int) + o) (hp : ((pc : Int) + o).toNat = pc') (K1 : 0 < x → o_Go κ Q h k n pc' Ls St) (K2 : ¬ 0 < x → o_Go κ Q h k n (pc + 3) Ls St) : o_Go κ Q h k n pc Ls (.int x :: St) := by
  by_cases hc : 0 < x
  · exact o_sim B (fun p e m below c T target X hx hby st => XS.ifYes X hx rfl (pc0 := pc) rfl (hb hby hd) rfl (XT.i0_gt_t hc) ho hp st) (K1 hc)
  · exact o_sim B (fun p e m below c T target X hx hby st => XS.ifNo X hx rfl (hb hby hd) rfl (XT.i0_gt_f hc) st) (K2 hc)
theorem o_icmp_gt (B : o_Bo κ l Z n0 R y bytes ml ret) {o : Int} {pc' : Nat} {x w : Int32} (hd : decode bytes pc = .ok (.if_icmp .gt o, 3)) (ho : 0 ≤ (pc : Int) + o) (hp : ((pc : Int) + o).toNat = pc') (K1 : w < x → o_Go κ Q h k n pc' Ls St) (K2 : ¬ w < x → o_Go κ Q h k n (pc + 3) Ls St) : o_Go κ Q h k n pc Ls (.int w :: .int x :: St) := by
  by_cases hc : w < x
  · exact o_sim B (fun p e m below c T target X hx hby st => XS.icmpYes X hx rfl (pc0 := pc) rfl (hb hby hd) rfl (XT.ii_gt_t hc) ho hp st) (K1 hc)
  · exact o_sim B (fun p e m below c T target X hx hby st => XS.icmpNo X hx rfl (hb hby hd) rfl (XT.ii_gt_f hc) st) (K2 hc)
theorem o_lif_gt (B : o_Bo κ l Z n0 R y bytes ml ret) {o : Int} {pc' : Nat} {x w : Int64} (hd : decode bytes pc = .ok (.ifCond .gt o, 3)) (ho : 0 ≤ (pc : Int) + o) (hp : ((pc : Int) + o).toNat = pc') (K1 : w < x → o_Go κ Q h k n pc' Ls St) (K2 : ¬ w < x → o_Go κ Q h k n (pc + 3) Ls St) : o_Go κ Q h k n pc Ls (.int (XT.cmpL x w) :: St) := by
  by_cases hc : w < x
  · exact o_sim B (fun p e m below c T target X hx hby st => XS.ifYes X hx rfl (pc0 := pc) rfl (hb hby hd) rfl (XT.ll_gt_t hc) ho hp st) (K1 hc)
  · exact o_sim B (fun p e m below c T target X hx hby st => XS.ifNo X hx rfl (hb hby hd) rfl (XT.ll_gt_f hc) st) (K2 hc)
theorem o_if_le (B : o_Bo κ l Z n0 R y bytes ml ret) {o : Int} {pc' : Nat} {x : Int32} (hd : decode bytes pc = .ok (.ifCond .le o, 3)) (ho : 0 ≤ (pc : Int) + o) (hp : ((pc : Int) + o).toNat = pc') (K1 : ¬ 0 < x → o_Go κ Q h k n pc' Ls St) (K2 : 0 < x → o_Go κ Q h k n (pc + 3) Ls St) : o_Go κ Q h k n pc Ls (.int x :: St) := by
  by_cases hc : 0 < x
  · exact o_sim B (fun p e m below c T target X hx hby st => XS.ifNo X hx rfl (hb hby hd) rfl (XT.i0_le_f hc) st) (K2 hc)
  · exact o_sim B (fun p e m below c T target X hx hby st => XS.ifYes X hx rfl (pc0 := pc) rfl (hb hby hd) rfl (XT.i0_le_t hc) ho hp st) (K1 hc)
theorem o_icmp_le (B : o_Bo κ l Z n0 R y bytes ml ret) {o : Int} {pc' : Nat} {x w : Int32} (hd : decode bytes pc = .ok (.if_icmp .le o, 3)) (ho : 0 ≤ (pc : Int) + o) (hp : ((pc : Int) + o).toNat = pc') (K1 : ¬ w < x → o_Go κ Q h k n pc' Ls St) (K2 : w < x → o_Go κ Q h k n (pc + 3) Ls St) : o_Go κ Q h k n pc Ls (.int w :: .int x :: St) := by
  by_cases hc : w < x
  · exact o_sim B (fun p e m below c T target X hx hby st => XS.icmpNo X hx rfl (hb hby hd) rfl (XT.ii_le_f hc) st) (K2 hc)
  · exact o_sim B (fun p e m below c T target X hx hby st => XS.icmpYes X hx rfl (pc0 := pc) rfl (hb hby hd) rfl (XT.ii_le_t hc) ho hp st) (K1 hc)
theorem o_lif_le (B : o_Bo κ l Z n0 R y bytes ml ret) {o : Int} {pc' : Nat} {x w : Int64} (hd : decode bytes pc = .ok (.ifCond .le o, 3)) (ho : 0 ≤ (pc : Int) + o) (hp : ((pc : Int) + o).toNat = pc') (K1 : ¬ w < x → o_Go κ Q h k n pc' Ls St) (K2 : w < x → o_Go κ Q h k n (pc + 3) Ls St) : o_Go κ Q h k n pc Ls (.int (XT.cmpL x w) :: St) := by
  by_cases hc : w < x
  · exact o_sim B (fun p e m below c T target X hx hby st => XS.ifNo X hx rfl (hb hby hd) rfl (XT.ll_le_f hc) st) (K2 hc)
  · exact o_sim B (fun p e m below c T target X hx hby st => XS.ifYes X hx rfl (pc0 := pc) rfl (hb hby hd) rfl (XT.ll_le_t hc) ho hp st) (K1 hc)
theorem o_ifnull_N (B : o_Bo κ l Z n0 R y bytes ml ret) {o : Int} {pc' : Nat} (hd : decode bytes pc = .ok (.ifnull o, 3)) (ho : 0 ≤ (pc : Int) + o) (hp : ((pc : Int) + o).toNat = pc') (K : o_Go κ Q h k n pc' Ls St) : o_Go κ Q h k n pc Ls (.null :: St) := o_sim B (fun p e m below c T target X hx hby st => XS.ifnullYes X hx rfl (pc0 := pc) rfl (hb hby hd) rfl ho hp st) K
theorem o_ifnull_R (B : o_Bo κ l Z n0 R y bytes ml ret) {o : Int} {b : Addr} (hd : decode bytes pc = .ok (.ifnull o, 3)) (K : o_Go κ Q h k n (pc + 3) Ls St) : o_Go κ Q h k n pc Ls (.ref b :: St) := o_sim B (fun p e m below c T target X hx hby st => XS.ifnullNo X hx rfl (hb hby hd) rfl st) K
theorem o_ifnonnull_R (B : o_Bo κ l Z n0 R y bytes ml ret) {o : Int} {pc' : Nat} {b : Addr} (hd : decode bytes pc = .ok (.ifnonnull o, 3)) (ho : 0 ≤ (pc : Int) + o) (hp : ((pc : Int) + o).toNat = pc') (K : o_Go κ Q h k n pc' Ls St) : o_Go κ Q h k n pc Ls (.ref b :: St) := o_sim B (fun p e m below c T target X hx hby st => XT.ifnonnullYes X hx rfl (pc0 := pc) rfl (hb hby hd) rfl ho hp st) K
theorem o_ifnonnull_N (B : o_Bo κ l Z n0 R y bytes ml ret) {o : Int} (hd : decode bytes pc = .ok (.ifnonnull o, 3)) (K : o_Go κ Q h k n (pc + 3) Ls St) : o_Go κ Q h k n pc Ls (.null :: St) := o_sim B (fun p e m below c T target X hx hby st => XT.ifnonnullNo X hx rfl (hb hby hd) rfl st) K
theorem o_acmp_eq (B : o_Bo κ l Z n0 R y bytes ml ret) {o : Int} {pc' : Nat} {v w : Value} (hv : v.isRef = true) (hw : w.isRef = true) (hd : decode bytes pc = .ok (.if_acmp .eq o, 3)) (ho : 0 ≤ (pc : Int) + o) (hp : ((pc : Int) + o).toNat = pc') (K1 : v = w → o_Go κ Q h k n pc' Ls St) (K2 : ¬ v = w → o_Go κ Q h k n (pc + 3) Ls St) : o_Go κ Q h k n pc Ls (w :: v :: St) := by
  by_cases hc : v = w
  · exact o_sim B (fun p e m below c T target X hx hby st => XT.acmpYes X hx rfl (pc0 := pc) rfl (hb hby hd) rfl hv hw (by simp [XT.acmp, hc]) ho hp st) (K1 hc)
  · exact o_sim B (fun p e m below c T target X hx hby st => XT.acmpNo X hx rfl (hb hby hd) rfl hv hw (by simp [XT.acmp, hc]) st) (K2 hc)
theorem o_acmp_ne (B : o_Bo κ l Z n0 R y bytes ml ret) {o : Int} {pc' : Nat} {v w : Value} (hv : v.isRef = true) (hw : w.isRef = true) (hd : decode bytes pc = .ok (.if_acmp .ne o, 3)) (ho : 0 ≤ (pc : Int) + o) (hp : ((pc : Int) + o).toNat = pc') (K1 : ¬ v = w → o_Go κ Q h k n pc' Ls St) (K2 : v = w → o_Go κ Q h k n (pc + 3) Ls St) : o_Go κ Q h k n pc Ls (w :: v :: St) := by
  by_cases hc : v = w
  · exact o_sim B (fun p e m below c T target X hx hby st => XT.acmpNo X hx rfl (hb hby hd) rfl hv hw (by simp [XT.acmp, hc]) st) (K2 hc)
  · exact o_sim B (fun p e m below c T target X hx hby st => XT.acmpYes X hx rfl (pc0 := pc) rfl (hb hby hd) rfl hv hw (by simp [XT.acmp, hc]) ho hp st) (K1 hc)
theorem o_ldc (B : o_Bo κ l Z n0 R y bytes ml ret) {idx : Nat} {x : Int32} (hd : decode bytes pc = .ok (.ldc idx, 2)) (w : (Cond.constant y.cls idx x).before a0 Z = true) (K : o_Go κ Q h k n (pc + 2) Ls (.int x :: St)) : o_Go κ Q h k n pc Ls St := by
  obtain ⟨p, e, s, m, args, below, meth, c, rfl, hx, hZ, hby, hml, hown, hret, hlk, hnm⟩ := B
  intro T locs vm0 k0 X S0 hk0 hZ0 N eT
  have hown : (s.setVm vm0).vm.findClass y.cls = some m.cls := by rw [show (s.setVm vm0).vm = vm0 from rfl, hZ0.alike.findClass, ← hZ.alike.findClass]; exact hown
  have hZ : Z.Warmed39 (s.setVm vm0).vm := hZ0
  obtain ⟨s₂, o, st, r⟩ := K T locs vm0 k0 X S0 hk0 hZ0 N eT
  exact ⟨s₂, o, Stand.ldcI X hx hown (mv hZ w) rfl (hb hby hd) st, r⟩
theorem o_ldc_w (B : o_Bo κ l Z n0 R y bytes ml ret) {idx : Nat} {x : Int32} (hd : decode bytes pc = .ok (.ldc_w idx, 3)) (w : (Cond.constant y.cls idx x).before a0 Z = true) (K : o_Go κ Q h k n (pc + 3) Ls (.int x :: St)) : o_Go κ Q h k n pc Ls St := by
  obtain ⟨p, e, s, m, args, below, meth, c, rfl, hx, hZ, hby, hml, hown, hret, hlk, hnm⟩ := B
  intro T locs vm0 k0 X S0 hk0 hZ0 N eT
  have hown : (s.setVm vm0).vm.findClass y.cls = some m.cls := by rw [show (s.setVm vm0).vm = vm0 from rfl, hZ0.alike.findClass, ← hZ.alike.findClass]; exact hown
  have hZ : Z.Warmed39 (s.setVm vm0).vm := hZ0
  obtain ⟨s₂, o, st, r⟩ := K T locs vm0 k0 X S0 hk0 hZ0 N eT
  exact ⟨s₂, o, Stand.ldcWI X hx hown (mv hZ w) rfl (hb hby hd) st, r⟩
theorem o_ldc2_w (B : o_Bo κ l Z n0 R y bytes ml ret) {idx : Nat} {x : Int64} (hd : decode bytes pc = .ok (.ldc2_w idx, 3)) (w : (Cond.constantLong y.cls idx x).before a0 Z = true) (K : o_Go κ Q h k n (pc + 3) Ls (.long x :: St)) : o_Go κ Q h k n pc Ls St := by
  obtain ⟨p, e, s, m, args, below, meth, c, rfl, hx, hZ, hby, hml, hown, hret, hlk, hnm⟩ := B
  intro T locs vm0 k0 X S0 hk0 hZ0 N eT
  have hown : (s.setVm vm0).vm.findClass y.cls = some m.cls := by rw [show (s.setVm vm0).vm = vm0 from rfl, hZ0.alike.findClass, ← hZ.alike.findClass]; exact hown
  have hZ : Z.Warmed39 (s.setVm vm0).vm := hZ0
  obtain ⟨s₂, o, st, r⟩ := K T locs vm0 k0 X S0 hk0 hZ0 N eT
  exact ⟨s₂, o, Stand.ldc2J X hx hown (mv hZ w) rfl (hb hby hd) st, r⟩
theorem o_out (B : o_Bo κ l Z n0 R y bytes ml ret) {v : Option Value} (hv : ret = none → v = none) (hk : k ≤ R.cells) (hn : n ≤ R.slots) (q : Q v h)
    (f : ∀ (p : Program) (e : Env) (s : State) (m : MethodId) (args : Array Value) (below : List Frame) (meth : Method) (c : Code) (T : State) (locs : List Loc), Stand p l e R s m args below meth c T locs k n → p.tables.exec = Jvm.exec → c.code = bytes → meth.sig.returnType = ret → ∀ fs : List Frame, (∀ (f : JFrame) (acts : List Action), f.method = m → f.locked = none → f.entered = [] → (doReturn e (T.setTop f) acts v).1 = T.setFrames fs) → Steps p.tables e below (T.setTop (mkF m pc Ls.toArray St)) (T.setFrames fs)) : o_Go κ Q h k n pc Ls St := by
  obtain ⟨p, e, s, m, args, below, meth, c, rfl, hx, hZ, hby, hml, hown, hret, hlk, hnm⟩ := B
  intro T locs vm0 k0 X S0 hk0 hZ0 N eT
  have hown : (s.setVm vm0).vm.findClass y.cls = some m.cls := by rw [show (s.setVm vm0).vm = vm0 from rfl, hZ0.alike.findClass, ← hZ.alike.findClass]; exact hown
  have hZ : Z.Warmed39 (s.setVm vm0).vm := hZ0
  obtain ⟨fs, hr, hrun, hended, hW⟩ := X.leaveW S0 (by rw [eT]; exact hk0) (v := v) (fun hh => hv (hret.symm.trans hh)) hlk
  refine ⟨_, _, f p e (s.setVm vm0) m args below meth c T locs X hx hby hret fs hr, hrun, hended, _, _, rfl, ⟨?_, N⟩, hW.1, hW.2.1, hW.2.2.1, hW.2.2.2.mono hk hn⟩
  have e1 : (T.setFrames fs).heap = h := eT
  rw [e1]; exact q
theorem o_ireturn (B : o_Bo κ l Z n0 R y bytes ml (some .int)) {x : Int32} (hd : decode bytes pc = .ok (.ireturn, 1)) (hk : k ≤ R.cells) (hn : n ≤ R.slots) (q : Q (some (.int x)) h) : o_Go κ Q h k n pc Ls (.int x :: St) :=
  o_out B (fun hh => by cases hh) hk hn q fun p e s m args below meth c T locs X hx hby hret fs hr => retOut X hx hret rfl (Or.inl ⟨rfl, Or.inl rfl, _, rfl⟩) (hb hby hd) hr
theorem o_zreturn (B : o_Bo κ l Z n0 R y bytes ml (some .boolean)) {x : Int32} (hd : decode bytes pc = .ok (.ireturn, 1)) (hk : k ≤ R.cells) (hn : n ≤ R.slots) (q : Q (some (.int (nar .boolean x))) h) : o_Go κ Q h k n pc Ls (.int x :: St) :=
  o_out B (fun hh => by cases hh) hk hn q fun p e s m args below meth c T locs X hx hby hret fs hr => retN X hx hret (by simp) (hb hby hd) hr
theorem o_lreturn (B : o_Bo κ l Z n0 R y bytes ml (some .long)) {x : Int64} (hd : decode bytes pc = .ok (.lreturn, 1)) (hk : k ≤ R.cells) (hn : n ≤ R.slots) (q : Q (some (.long x)) h) : o_Go κ Q h k n pc Ls (.long x :: St) :=
  o_out B (fun hh => by cases hh) hk hn q fun p e s m args below meth c T locs X hx hby hret fs hr => retOut X hx hret rfl (Or.inr (Or.inl ⟨rfl, rfl, _, rfl⟩)) (hb hby hd) hr
theorem o_areturn {t : FieldType} (B : o_Bo κ l Z n0 R y bytes ml (some t)) {v : Value} (ht : t.isReference = true) (hn' : narrow t v = v) (hv : v.isRef = true) (hd : decode bytes pc = .ok (.areturn, 1)) (hk : k ≤ R.cells) (hn : n ≤ R.slots) (q : Q (some v) h) : o_Go κ Q h k n pc Ls (v :: St) :=
  o_out B (fun hh => by cases hh) hk hn q fun p e s m args below meth c T locs X hx hby hret fs hr => retOut X hx hret hn' (Or.inr (Or.inr (Or.inr (Or.inr ⟨rfl, ht, hv⟩)))) (hb hby hd) hr
theorem o_return (B : o_Bo κ l Z n0 R y bytes ml none) (hd : decode bytes pc = .ok (.return_, 1)) (hk : k ≤ R.cells) (hn : n ≤ R.slots) (q : Q none h) : o_Go κ Q h k n pc Ls [] :=
  o_out B (fun _ => rfl) hk hn q fun p e s m args below meth c T locs X hx hby hret fs hr => X.returnOut hx hret (hb hby hd) hr
theorem o_getF (B : o_Bo κ l Z n0 R y bytes ml ret) {O nm d : String} {idx : Nat} {a : Addr} {v : Value} (hd : decode bytes pc = .ok (.getfield idx, 3)) (w : (Cond.fieldLink y.cls idx O nm d).before a0 Z = true) (F : Fld Z h a O nm d v) (K : o_Go κ Q h k n (pc + 3) Ls (v :: St)) : o_Go κ Q h k n pc Ls (.ref a :: St) := by
  obtain ⟨p, e, s, m, args, below, meth, c, rfl, hx, hZ, hby, hml, hown, hret, hlk, hnm⟩ := B
  intro T locs vm0 k0 X S0 hk0 hZ0 N eT
  have hown : (s.setVm vm0).vm.findClass y.cls = some m.cls := by rw [show (s.setVm vm0).vm = vm0 from rfl, hZ0.alike.findClass, ← hZ.alike.findClass]; exact hown
  have hZ : Z.Warmed39 (s.setVm vm0).vm := hZ0
  obtain ⟨T', X', e', st'⟩ := getF X hx hZ hown (host := "") (Or.inl w) Via.refl eT F (g := mkF m pc Ls.toArray (.ref a :: St)) rfl rfl (hb hby hd)
  obtain ⟨s₂, o, st, r⟩ := K T' locs vm0 k0 X' S0 hk0 hZ0 N e'
  exact ⟨s₂, o, st' _ st, r⟩
theorem o_putF (B : o_Bo κ l Z n0 R y bytes ml ret) {O nm d C : String} {idx kk : Nat} {a : Addr} {v old : Value} {ty : FieldType} (hd : decode bytes pc = .ok (.putfield idx, 3)) (w : (Cond.fieldLink y.cls idx O nm d).before a0 Z = true) (F : Fld Z h a O nm d old) (E : Exa Z h a C) (L : (Cond.lays C O nm d).before a0 Z = true ∨ ((Cond.laysFinal C O nm d).before a0 Z = true ∧ y.cls = O ∧ y.name = "<init>")) (wi : (Cond.instantiable C kk).before a0 Z = true)
    (hty : parseFieldDescriptor d = some ty) (hn : narrow ty v = v) (hf : fits ty v = true) (ge : n0 ≤ a) (K : ∀ h', Wr h h' a (Jvm.RoadKit.slotOf Z O nm d) v → o_Go κ Q h' k n (pc + 3) Ls St) : o_Go κ Q h k n pc Ls (v :: .ref a :: St) := by
  obtain ⟨p, e, s, m, args, below, meth, c, rfl, hx, hZ, hby, hml, hown, hret, hlk, hnm⟩ := B
  intro T locs vm0 k0 X S0 hk0 hZ0 N eT
  have hown : (s.setVm vm0).vm.findClass y.cls = some m.cls := by rw [show (s.setVm vm0).vm = vm0 from rfl, hZ0.alike.findClass, ← hZ.alike.findClass]; exact hown
  have hZ : Z.Warmed39 (s.setVm vm0).vm := hZ0
  have L' : (Cond.lays C O nm d).before a0 Z = true ∨ ((Cond.laysFinal C O nm d).before a0 Z = true ∧ y.cls = O ∧ meth.name = "<init>") := L.imp id fun q => ⟨q.1, q.2.1, hnm.trans q.2.2⟩
  obtain ⟨T', h', X', e', W, st'⟩ := putF X hx hZ hown (host := "") (Or.inl w) Via.refl eT F E L' wi hty hn hf (g := mkF m pc Ls.toArray (v :: .ref a :: St)) rfl rfl (hb hby hd)
  obtain ⟨s₂, o, st, r⟩ := K h' W T' _ vm0 k0 X' S0 (by rw [W.size]; exact hk0) hZ0 (Fr.snoc X' N ge) e'
  exact ⟨s₂, o, st' _ st, r⟩
theorem o_getS (B : o_Bo κ l Z n0 R y bytes ml ret) {O nm d : String} {idx : Nat} {v : Value} (hd : decode bytes pc = .ok (.getstatic idx, 3)) (w : (Cond.fieldLink y.cls idx O nm d).before a0 Z = true) (F : Sta Z h O nm d v) (K : o_Go κ Q h k n (pc + 3) Ls (v :: St)) : o_Go κ Q h k n pc Ls St := by
  obtain ⟨p, e, s, m, args, below, meth, c, rfl, hx, hZ, hby, hml, hown, hret, hlk, hnm⟩ := B
  intro T locs vm0 k0 X S0 hk0 hZ0 N eT
  have hown : (s.setVm vm0).vm.findClass y.cls = some m.cls := by rw [show (s.setVm vm0).vm = vm0 from rfl, hZ0.alike.findClass, ← hZ.alike.findClass]; exact hown
  have hZ : Z.Warmed39 (s.setVm vm0).vm := hZ0
  obtain ⟨T', X', e', st'⟩ := getS (host := "") X hx hZ hown w Via.refl eT F (g := mkF m pc Ls.toArray St) rfl (hb hby hd)
  obtain ⟨s₂, o, st, r⟩ := K T' locs vm0 k0 X' S0 hk0 hZ0 N e'
  exact ⟨s₂, o, st' _ st, r⟩
theorem o_new (B : o_Bo κ l Z n0 R y bytes ml ret) {C : String} {idx nn : Nat} (hd : decode bytes pc = .ok (.new idx, 3)) (w : (Cond.classLink y.cls idx C).before a0 Z = true) (wi : (Cond.instantiable C nn).before a0 Z = true) (wz : (Cond.initialized C).before a0 Z = true) (hc : k + 1 ≤ R.cells) (hl : n + nn ≤ R.slots)
    (K : ∀ h', Ext h h' → Exa Z h' h.size C → (∀ {O nm d : String} {ty : FieldType}, Laid Z a0 C O nm d → parseFieldDescriptor d = some ty → Fld Z h' h.size O nm d (defaultValue ty)) → o_Go κ Q h' (k + 1) (n + nn) (pc + 3) Ls (.ref h.size :: St)) : o_Go κ Q h k n pc Ls St := by
  obtain ⟨p, e, s, m, args, below, meth, c, rfl, hx, hZ, hby, hml, hown, hret, hlk, hnm⟩ := B
  intro T locs vm0 k0 X S0 hk0 hZ0 N eT
  have hown : (s.setVm vm0).vm.findClass y.cls = some m.cls := by rw [show (s.setVm vm0).vm = vm0 from rfl, hZ0.alike.findClass, ← hZ.alike.findClass]; exact hown
  have hZ : Z.Warmed39 (s.setVm vm0).vm := hZ0
  obtain ⟨T', h', X', e', E, A, D, -, st'⟩ := newO X hx hZ hown w wi wz eT (g := mkF m pc Ls.toArray St) rfl (hb hby hd) hc hl
  obtain ⟨s₂, o, st, r⟩ := K h' E A (fun L q => D L q) T' _ vm0 k0 X' S0 (Nat.le_trans hk0 E.1) hZ0 N e'
  exact ⟨s₂, o, st' _ st, r⟩
theorem o_initO (B : o_Bo κ l Z n0 R y bytes ml ret) {idx W : Nat} {a : Addr} (hd : decode bytes pc = .ok (.invokespecial idx, 3)) (w1 : (Cond.methodLink y.cls idx Lib.objectInit).before a0 Z = true) (w2 : (Cond.instanceMethod Lib.objectInit).before a0 Z = true) (w3 : (Cond.code Lib.objectInit ⟨#[0xb1]⟩ 1 none).before a0 Z = true)
    (hf : 1 ≤ R.frames) (hW : (St.map fun v => v.category).sum ≤ W) (hl : W + 12 ≤ R.locals) (hLs : Ls.length = ml) (K : o_Go κ Q h k n (pc + 3) Ls St) : o_Go κ Q h k n pc Ls (.ref a :: St) := by
  obtain ⟨p, e, s, m, args, below, meth, c, rfl, hx, hZ, hby, hml, hown, hret, hlk, hnm⟩ := B
  intro T locs vm0 k0 X S0 hk0 hZ0 N eT
  have hown : (s.setVm vm0).vm.findClass y.cls = some m.cls := by rw [show (s.setVm vm0).vm = vm0 from rfl, hZ0.alike.findClass, ← hZ.alike.findClass]; exact hown
  have hZ : Z.Warmed39 (s.setVm vm0).vm := hZ0
  obtain ⟨T', X', e', st'⟩ := initO X hx hZ hown w1 w2 w3 eT (g := mkF m pc Ls.toArray (.ref a :: St)) rfl (by rw [hml, ← hLs]; simp) rfl (hb hby hd) hf (W := W) (by simpa using hW) hl
  obtain ⟨s₂, o, st, r⟩ := K T' _ vm0 k0 X' S0 hk0 hZ0 N e'
  exact ⟨s₂, o, st' _ st, r⟩
/-- an array of the component type ty that holds the list vs -/
def o_AR (Z : State) (h : Heap) (a : Addr) (ty : FieldType) (vs : List Value) : Prop := ∃ c : Cell, Arr Z h a c ty ∧ c.slots = vs.toArray ∧ vs.length < 2 ^ 31
abbrev o_IA (Z : State) (h : Heap) (a : Addr) (L : List Int32) : Prop := o_AR Z h a .int (L.map Value.int)
abbrev o_LA (Z : State) (h : Heap) (a : Addr) (L : List Int64) : Prop := o_AR Z h a .long (L.map Value.long)
abbrev o_ZA (Z : State) (h : Heap) (a : Addr) (L : List Int32) : Prop := o_AR Z h a .boolean (L.map Value.int)
theorem o_AR.lt {h : Heap} {a : Addr} {ty : FieldType} {vs : List Value} (A : o_AR Z h a ty vs) : a < h.size := by obtain ⟨c, A, -⟩ := A; exact A.lt
theorem o_AR.ext {h h' : Heap} {a : Addr} {ty : FieldType} {vs : List Value} (A : o_AR Z h a ty vs) (E : Ext h h') : o_AR Z h' a ty vs := by obtain ⟨c, A, r⟩ := A; exact ⟨c, A.ext E, r⟩
theorem o_AR.other {h h' : Heap} {a b : Addr} {sl : Nat} {v : Value} {ty : FieldType} {vs : List Value} (A : o_AR Z h a ty vs) (W : Wr h h' b sl v) (q : a ≠ b) : o_AR Z h' a ty vs := by obtain ⟨c, A, r⟩ := A; exact ⟨c, A.other W q, r⟩
theorem o_AR.keep {h h' : Heap} {a : Addr} {ws : List Addr} {ty : FieldType} {vs : List Value} (A : o_AR Z h a ty vs) (K : Keep h h' ws) (q : a ∉ ws) : o_AR Z h' a ty vs := by obtain ⟨c, A, r⟩ := A; exact ⟨c, ⟨K.2.1 a c A.1 q, A.2⟩, r⟩
theorem o_AR.same {h h' : Heap} {a : Addr} {i : Nat} {v : Value} {ty : FieldType} {vs : List Value} (A : o_AR Z h a ty vs) (W : Wr h h' a i v) : o_AR Z h' a ty (vs.set i v) := by
  obtain ⟨c, A, e, q⟩ := A
  exact ⟨_, A.same W, by simp [Cell.setSlot, e], by simpa using q⟩
theorem o_IA.same {h h' : Heap} {a : Addr} {i : Nat} {x : Int32} {L : List Int32} (A : o_IA Z h a L) (W : Wr h h' a i (.int x)) : o_IA Z h' a (L.set i x) := by
  have := o_AR.same A W; rwa [← List.map_set] at this
theorem o_LA.same {h h' : Heap} {a : Addr} {i : Nat} {x : Int64} {L : List Int64} (A : o_LA Z h a L) (W : Wr h h' a i (.long x)) : o_LA Z h' a (L.set i x) := by
  have := o_AR.same A W; rwa [← List.map_set] at this
theorem o_ZA.same {h h' : Heap} {a : Addr} {i : Nat} {x : Int32} {L : List Int32} (A : o_ZA Z h a L) (W : Wr h h' a i (.int x)) : o_ZA Z h' a (L.set i x) := by
  have := o_AR.same A W; rwa [← List.map_set] at this
theorem o_IA.len {h : Heap} {a : Addr} {L : List Int32} (A : o_IA Z h a L) : L.length < 2 ^ 31 := by obtain ⟨c, A, e, q⟩ := A; simpa using q
theorem o_LA.len {h : Heap} {a : Addr} {L : List Int64} (A : o_LA Z h a L) : L.length < 2 ^ 31 := by obtain ⟨c, A, e, q⟩ := A; simpa using q
theorem o_nat {i N : Nat} (hi : i < N) (hN : N < 2 ^ 31) : (Int32.ofNat i).toNatClampNeg = i ∧ ¬ (Int32.ofNat i < 0) := by
  have e : (Int32.ofNat i).toInt = i := Int32.toInt_ofNat_of_lt (by omega)
  refine ⟨by simp only [Int32.toNatClampNeg, e]; rfl, ?_⟩
  rw [Int32.lt_iff_toInt_lt, e]; show ¬ (i : Int) < 0; omega
theorem o_in {c : Cell} {vs : List Value} {i : Nat} {j : Int32} (es : c.slots = vs.toArray) (q : vs.length < 2 ^ 31) (hj : j = Int32.ofNat i) (hi : i < vs.length) : ¬ (j < 0 ∨ c.slots.size ≤ j.toNatClampNeg) ∧ j.toNatClampNeg = i := by
  subst hj
  obtain ⟨h1, h2⟩ := o_nat hi q
  refine ⟨?_, h1⟩
  rintro (g | g)
  · exact h2 g
  · rw [h1, es] at g; simp at g; omega
theorem o_iaload (B : o_Bo κ l Z n0 R y bytes ml ret) {a : Addr} {vs : List Value} {j : Int32} {v : Value} (i : Nat) (hd : decode bytes pc = .ok (.iaload, 1)) (A : o_AR Z h a .int vs) (hj : j = Int32.ofNat i) (hv : vs[i]? = some v) (K : o_Go κ Q h k n (pc + 1) Ls (v :: St)) : o_Go κ Q h k n pc Ls (.int j :: .ref a :: St) := by
  obtain ⟨p, e, s, m, args, below, meth, c, rfl, hx, hZ, hby, hml, hown, hret, hlk, hnm⟩ := B
  intro T locs vm0 k0 X S0 hk0 hZ0 N eT
  have hown : (s.setVm vm0).vm.findClass y.cls = some m.cls := by rw [show (s.setVm vm0).vm = vm0 from rfl, hZ0.alike.findClass, ← hZ.alike.findClass]; exact hown
  have hZ : Z.Warmed39 (s.setVm vm0).vm := hZ0
  obtain ⟨cl, A, es, q⟩ := A
  obtain ⟨hi, hget⟩ := List.getElem?_eq_some_iff.mp hv
  obtain ⟨h1, h2⟩ := o_in es q hj hi
  obtain ⟨s₂, o, st, r⟩ := K T _ vm0 k0 X S0 hk0 hZ0 N eT
  exact ⟨s₂, o, X.iaload hx (by rw [eT]; exact A.1) (State.isArrayOf_alike hZ.alike A.2.1) A.2.2 h1 (by rw [h2, es]; simpa using hv) (g := mkF m pc Ls.toArray (.int j :: .ref a :: St)) rfl rfl (hb hby hd) _ st, r⟩
theorem o_laload (B : o_Bo κ l Z n0 R y bytes ml ret) {a : Addr} {vs : List Value} {j : Int32} {v : Value} (i : Nat) (hd : decode bytes pc = .ok (.laload, 1)) (A : o_AR Z h a .long vs) (hj : j = Int32.ofNat i) (hv : vs[i]? = some v) (K : o_Go κ Q h k n (pc + 1) Ls (v :: St)) : o_Go κ Q h k n pc Ls (.int j :: .ref a :: St) := by
  obtain ⟨p, e, s, m, args, below, meth, c, rfl, hx, hZ, hby, hml, hown, hret, hlk, hnm⟩ := B
  intro T locs vm0 k0 X S0 hk0 hZ0 N eT
  have hown : (s.setVm vm0).vm.findClass y.cls = some m.cls := by rw [show (s.setVm vm0).vm = vm0 from rfl, hZ0.alike.findClass, ← hZ.alike.findClass]; exact hown
  have hZ : Z.Warmed39 (s.setVm vm0).vm := hZ0
  obtain ⟨cl, A, es, q⟩ := A
  obtain ⟨hi, hget⟩ := List.getElem?_eq_some_iff.mp hv
  obtain ⟨h1, h2⟩ := o_in es q hj hi
  obtain ⟨s₂, o, st, r⟩ := K T _ vm0 k0 X S0 hk0 hZ0 N eT
  exact ⟨s₂, o, X.laload hx (by rw [eT]; exact A.1) (State.isArrayOf_alike hZ.alike A.2.1) A.2.2 h1 (by rw [h2, es]; simpa using hv) (g := mkF m pc Ls.toArray (.int j :: .ref a :: St)) rfl rfl (hb hby hd) _ st, r⟩
theorem o_baload (B : o_Bo κ l Z n0 R y bytes ml ret) {a : Addr} {vs : List Value} {j : Int32} {v : Value} (i : Nat) (hd : decode bytes pc = .ok (.baload, 1)) (A : o_AR Z h a .boolean vs) (hj : j = Int32.ofNat i) (hv : vs[i]? = some v) (K : o_Go κ Q h k n (pc + 1) Ls (v :: St)) : o_Go κ Q h k n pc Ls (.int j :: .ref a :: St) := by
  obtain ⟨p, e, s, m, args, below, meth, c, rfl, hx, hZ, hby, hml, hown, hret, hlk, hnm⟩ := B
  intro T locs vm0 k0 X S0 hk0 hZ0 N eT
  have hown : (s.setVm vm0).vm.findClass y.cls = some m.cls := by rw [show (s.setVm vm0).vm = vm0 from rfl, hZ0.alike.findClass, ← hZ.alike.findClass]; exact hown
  have hZ : Z.Warmed39 (s.setVm vm0).vm := hZ0
  obtain ⟨cl, A, es, q⟩ := A
  obtain ⟨hi, hget⟩ := List.getElem?_eq_some_iff.mp hv
  obtain ⟨h1, h2⟩ := o_in es q hj hi
  obtain ⟨s₂, o, st, r⟩ := K T _ vm0 k0 X S0 hk0 hZ0 N eT
  exact ⟨s₂, o, X.baloadBooleans hx (by rw [eT]; exact A.1) (State.isArrayOf_alike hZ.alike A.2.1) A.2.2 h1 (by rw [h2, es]; simpa using hv) (g := mkF m pc Ls.toArray (.int j :: .ref a :: St)) rfl rfl (hb hby hd) _ st, r⟩
theorem o_aaload (B : o_Bo κ l Z n0 R y bytes ml ret) {ty : FieldType} {a : Addr} {vs : List Value} {j : Int32} {v : Value} (i : Nat) (hty : ty.isReference = true) (hd : decode bytes pc = .ok (.aaload, 1)) (A : o_AR Z h a ty vs) (hj : j = Int32.ofNat i) (hv : vs[i]? = some v) (K : o_Go κ Q h k n (pc + 1) Ls (v :: St)) : o_Go κ Q h k n pc Ls (.int j :: .ref a :: St) := by
  obtain ⟨p, e, s, m, args, below, meth, c, rfl, hx, hZ, hby, hml, hown, hret, hlk, hnm⟩ := B
  intro T locs vm0 k0 X S0 hk0 hZ0 N eT
  have hown : (s.setVm vm0).vm.findClass y.cls = some m.cls := by rw [show (s.setVm vm0).vm = vm0 from rfl, hZ0.alike.findClass, ← hZ.alike.findClass]; exact hown
  have hZ : Z.Warmed39 (s.setVm vm0).vm := hZ0
  obtain ⟨cl, A, es, q⟩ := A
  obtain ⟨hi, hget⟩ := List.getElem?_eq_some_iff.mp hv
  obtain ⟨h1, h2⟩ := o_in es q hj hi
  obtain ⟨s₂, o, st, r⟩ := K T _ vm0 k0 X S0 hk0 hZ0 N eT
  exact ⟨s₂, o, X.aaload hx (by rw [eT]; exact A.1) (State.isArrayOf_alike hZ.alike A.2.1) hty A.2.2 h1 (by rw [h2, es]; simpa using hv) (g := mkF m pc Ls.toArray (.int j :: .ref a :: St)) rfl rfl (hb hby hd) _ st, r⟩
theorem o_arraylength (B : o_Bo κ l Z n0 R y bytes ml ret) {ty : FieldType} {a : Addr} {vs : List Value} (hd : decode bytes pc = .ok (.arraylength, 1)) (A : o_AR Z h a ty vs) (K : o_Go κ Q h k n (pc + 1) Ls (.int (Int32.ofNat vs.length) :: St)) : o_Go κ Q h k n pc Ls (.ref a :: St) := by
  obtain ⟨p, e, s, m, args, below, meth, c, rfl, hx, hZ, hby, hml, hown, hret, hlk, hnm⟩ := B
  intro T locs vm0 k0 X S0 hk0 hZ0 N eT
  have hown : (s.setVm vm0).vm.findClass y.cls = some m.cls := by rw [show (s.setVm vm0).vm = vm0 from rfl, hZ0.alike.findClass, ← hZ.alike.findClass]; exact hown
  have hZ : Z.Warmed39 (s.setVm vm0).vm := hZ0
  obtain ⟨cl, A, es, q⟩ := A
  obtain ⟨s₂, o, st, r⟩ := K T _ vm0 k0 X S0 hk0 hZ0 N eT
  have ez : cl.slots.size.toInt32 = Int32.ofNat vs.length := by rw [es]; simp
  exact ⟨s₂, o, X.arraylength hx (by rw [eT]; exact A.1) (State.isArrayOf_alike hZ.alike A.2.1) (g := mkF m pc Ls.toArray (.ref a :: St)) rfl rfl (hb hby hd) _ (by rw [ez]; exact st), r⟩
theorem o_iastore (B : o_Bo κ l Z n0 R y bytes ml ret) {a : Addr} {vs : List Value} {j : Int32} {x : Int32} (i : Nat) (hd : decode bytes pc = .ok (.iastore, 1)) (A : o_AR Z h a .int vs) (hj : j = Int32.ofNat i) (hi : i < vs.length) (ge : n0 ≤ a) (K : ∀ h', Wr h h' a i (.int x) → o_Go κ Q h' k n (pc + 1) Ls St) : o_Go κ Q h k n pc Ls (.int x :: .int j :: .ref a :: St) := by
  obtain ⟨p, e, s, m, args, below, meth, c, rfl, hx, hZ, hby, hml, hown, hret, hlk, hnm⟩ := B
  intro T locs vm0 k0 X S0 hk0 hZ0 N eT
  have hown : (s.setVm vm0).vm.findClass y.cls = some m.cls := by rw [show (s.setVm vm0).vm = vm0 from rfl, hZ0.alike.findClass, ← hZ.alike.findClass]; exact hown
  have hZ : Z.Warmed39 (s.setVm vm0).vm := hZ0
  obtain ⟨cl, A, es, q⟩ := A
  obtain ⟨h1, h2⟩ := o_in es q hj hi
  obtain ⟨T', h', X', e', W, st'⟩ := stI X hx hZ eT A h1 (g := mkF m pc Ls.toArray (.int x :: .int j :: .ref a :: St)) rfl rfl (hb hby hd)
  have W' := W
  rw [h2] at W'
  obtain ⟨s₂, o, st, r⟩ := K h' W' T' _ vm0 k0 X' S0 (by rw [W'.size]; exact hk0) hZ0 (Fr.snoc X' N ge) e'
  exact ⟨s₂, o, st' _ st, r⟩
theorem o_lastore (B : o_Bo κ l Z n0 R y bytes ml ret) {a : Addr} {vs : List Value} {j : Int32} {x : Int64} (i : Nat) (hd : decode bytes pc = .ok (.lastore, 1)) (A : o_AR Z h a .long vs) (hj : j = Int32.ofNat i) (hi : i < vs.length) (ge : n0 ≤ a) (K : ∀ h', Wr h h' a i (.long x) → o_Go κ Q h' k n (pc + 1) Ls St) : o_Go κ Q h k n pc Ls (.long x :: .int j :: .ref a :: St) := by
  obtain ⟨p, e, s, m, args, below, meth, c, rfl, hx, hZ, hby, hml, hown, hret, hlk, hnm⟩ := B
  intro T locs vm0 k0 X S0 hk0 hZ0 N eT
  have hown : (s.setVm vm0).vm.findClass y.cls = some m.cls := by rw [show (s.setVm vm0).vm = vm0 from rfl, hZ0.alike.findClass, ← hZ.alike.findClass]; exact hown
  have hZ : Z.Warmed39 (s.setVm vm0).vm := hZ0
  obtain ⟨cl, A, es, q⟩ := A
  obtain ⟨h1, h2⟩ := o_in es q hj hi
  obtain ⟨T', h', X', e', W, st'⟩ := stJ X hx hZ eT A h1 (g := mkF m pc Ls.toArray (.long x :: .int j :: .ref a :: St)) rfl rfl (hb hby hd)
  have W' := W
  rw [h2] at W'
  obtain ⟨s₂, o, st, r⟩ := K h' W' T' _ vm0 k0 X' S0 (by rw [W'.size]; exact hk0) hZ0 (Fr.snoc X' N ge) e'
  exact ⟨s₂, o, st' _ st, r⟩
theorem o_bastore (B : o_Bo κ l Z n0 R y bytes ml ret) {a : Addr} {vs : List Value} {j : Int32} {x : Int32} (i : Nat) (hd : decode bytes pc = .ok (.bastore, 1)) (A : o_AR Z h a .boolean vs) (hj : j = Int32.ofNat i) (hi : i < vs.length) (ge : n0 ≤ a) (K : ∀ h', Wr h h' a i (.int (nar .boolean x)) → o_Go κ Q h' k n (pc + 1) Ls St) : o_Go κ Q h k n pc Ls (.int x :: .int j :: .ref a :: St) := by
  obtain ⟨p, e, s, m, args, below, meth, c, rfl, hx, hZ, hby, hml, hown, hret, hlk, hnm⟩ := B
  intro T locs vm0 k0 X S0 hk0 hZ0 N eT
  have hown : (s.setVm vm0).vm.findClass y.cls = some m.cls := by rw [show (s.setVm vm0).vm = vm0 from rfl, hZ0.alike.findClass, ← hZ.alike.findClass]; exact hown
  have hZ : Z.Warmed39 (s.setVm vm0).vm := hZ0
  obtain ⟨cl, A, es, q⟩ := A
  obtain ⟨h1, h2⟩ := o_in es q hj hi
  obtain ⟨T', h', X', e', W, st'⟩ := stZ X hx hZ eT A h1 (g := mkF m pc Ls.toArray (.int x :: .int j :: .ref a :: St)) rfl rfl (hb hby hd)
  have W' := W
  rw [h2] at W'
  obtain ⟨s₂, o, st, r⟩ := K h' W' T' _ vm0 k0 X' S0 (by rw [W'.size]; exact hk0) hZ0 (Fr.snoc X' N ge) e'
  exact ⟨s₂, o, st' _ st, r⟩
theorem o_newarray (B : o_Bo κ l Z n0 R y bytes ml ret) {aty : ArrayType} {cnt : Int32} (cN cap : Nat) (hd : decode bytes pc = .ok (.newarray aty, 2)) (w : (Cond.arrayClass (newarray.typeOf aty)).before a0 Z = true) (hcnt : cnt = Int32.ofNat cN) (hcap : cN ≤ cap) (hbig : cap * 8 ≤ 536870912) (hc : k + 1 ≤ R.cells) (hl : n + cap ≤ R.slots)
    (K : ∀ h', Ext h h' → h.size < h'.size → o_AR Z h' h.size (newarray.typeOf aty) (List.replicate cN (defaultValue (newarray.typeOf aty))) → o_Go κ Q h' (k + 1) (n + cap) (pc + 2) Ls (.ref h.size :: St)) : o_Go κ Q h k n pc Ls (.int cnt :: St) := by
  obtain ⟨p, e, s, m, args, below, meth, c, rfl, hx, hZ, hby, hml, hown, hret, hlk, hnm⟩ := B
  intro T locs vm0 k0 X S0 hk0 hZ0 N eT
  have hown : (s.setVm vm0).vm.findClass y.cls = some m.cls := by rw [show (s.setVm vm0).vm = vm0 from rfl, hZ0.alike.findClass, ← hZ.alike.findClass]; exact hown
  have hZ : Z.Warmed39 (s.setVm vm0).vm := hZ0
  obtain ⟨h1, h2⟩ := o_nat (i := cN) (N := cN + 1) (by omega) (by omega)
  obtain ⟨T', h', cA, X', e', E, A, st'⟩ := newP X hx hZ w eT (g := mkF m pc Ls.toArray (.int cnt :: St)) rfl (hb hby hd) rfl (by rw [hcnt]; exact h2) (cap := cap) (by rw [hcnt, h1]; exact hcap) hbig hc hl
  obtain ⟨s₂, o, st, r⟩ := K h' E A.lt ⟨_, A, by simp [newA, hcnt, h1], by simp; omega⟩ T' _ vm0 k0 X' S0 (Nat.le_trans hk0 E.1) hZ0 N e'
  exact ⟨s₂, o, st' _ st, r⟩
theorem o_iadd_c (B : o_Bo κ l Z n0 R y bytes ml ret) {x y : Int32} (z : Int32) (hd : decode bytes pc = .ok (.iadd, 1)) (hz : x + y = z) (K : o_Go κ Q h k n (pc + 1) Ls (.int z :: St)) : o_Go κ Q h k n pc Ls (.int y :: .int x :: St) := o_iadd B hd (hz.symm ▸ K)
theorem o_isub_c (B : o_Bo κ l Z n0 R y bytes ml ret) {x y : Int32} (z : Int32) (hd : decode bytes pc = .ok (.isub, 1)) (hz : x - y = z) (K : o_Go κ Q h k n (pc + 1) Ls (.int z :: St)) : o_Go κ Q h k n pc Ls (.int y :: .int x :: St) := o_isub B hd (hz.symm ▸ K)
theorem o_iand_c (B : o_Bo κ l Z n0 R y bytes ml ret) {x y : Int32} (z : Int32) (hd : decode bytes pc = .ok (.iand, 1)) (hz : x &&& y = z) (K : o_Go κ Q h k n (pc + 1) Ls (.int z :: St)) : o_Go κ Q h k n pc Ls (.int y :: .int x :: St) := o_iand B hd (hz.symm ▸ K)
theorem o_imul_c (B : o_Bo κ l Z n0 R y bytes ml ret) {x y : Int32} (z : Int32) (hd : decode bytes pc = .ok (.imul, 1)) (hz : x * y = z) (K : o_Go κ Q h k n (pc + 1) Ls (.int z :: St)) : o_Go κ Q h k n pc Ls (.int y :: .int x :: St) := o_imul B hd (hz.symm ▸ K)
theorem o_ior_c (B : o_Bo κ l Z n0 R y bytes ml ret) {x y : Int32} (z : Int32) (hd : decode bytes pc = .ok (.ior, 1)) (hz : x ||| y = z) (K : o_Go κ Q h k n (pc + 1) Ls (.int z :: St)) : o_Go κ Q h k n pc Ls (.int y :: .int x :: St) := o_ior B hd (hz.symm ▸ K)
theorem o_ixor_c (B : o_Bo κ l Z n0 R y bytes ml ret) {x y : Int32} (z : Int32) (hd : decode bytes pc = .ok (.ixor, 1)) (hz : x ^^^ y = z) (K : o_Go κ Q h k n (pc + 1) Ls (.int z :: St)) : o_Go κ Q h k n pc Ls (.int y :: .int x :: St) := o_ixor B hd (hz.symm ▸ K)
theorem o_ishl_c (B : o_Bo κ l Z n0 R y bytes ml ret) {x y : Int32} (z : Int32) (hd : decode bytes pc = .ok (.ishl, 1)) (hz : x <<< (y &&& 31) = z) (K : o_Go κ Q h k n (pc + 1) Ls (.int z :: St)) : o_Go κ Q h k n pc Ls (.int y :: .int x :: St) := o_ishl B hd (hz.symm ▸ K)
theorem o_ishr_c (B : o_Bo κ l Z n0 R y bytes ml ret) {x y : Int32} (z : Int32) (hd : decode bytes pc = .ok (.ishr, 1)) (hz : x >>> (y &&& 31) = z) (K : o_Go κ Q h k n (pc + 1) Ls (.int z :: St)) : o_Go κ Q h k n pc Ls (.int y :: .int x :: St) := o_ishr B hd (hz.symm ▸ K)
theorem o_iushr_c (B : o_Bo κ l Z n0 R y bytes ml ret) {x y : Int32} (z : Int32) (hd : decode bytes pc = .ok (.iushr, 1)) (hz : XT.ushr x y = z) (K : o_Go κ Q h k n (pc + 1) Ls (.int z :: St)) : o_Go κ Q h k n pc Ls (.int y :: .int x :: St) := o_iushr B hd (hz.symm ▸ K)
theorem o_idiv_c (B : o_Bo κ l Z n0 R y bytes ml ret) {x y : Int32} (z : Int32) (hd : decode bytes pc = .ok (.idiv, 1)) (hy : y ≠ 0) (hz : x / y = z) (K : o_Go κ Q h k n (pc + 1) Ls (.int z :: St)) : o_Go κ Q h k n pc Ls (.int y :: .int x :: St) := o_idiv B hd hy (hz.symm ▸ K)
theorem o_irem_c (B : o_Bo κ l Z n0 R y bytes ml ret) {x y : Int32} (z : Int32) (hd : decode bytes pc = .ok (.irem, 1)) (hy : y ≠ 0) (hz : x % y = z) (K : o_Go κ Q h k n (pc + 1) Ls (.int z :: St)) : o_Go κ Q h k n pc Ls (.int y :: .int x :: St) := o_irem B hd hy (hz.symm ▸ K)
theorem o_arraylen (B : o_Bo κ l Z n0 R y bytes ml ret) {ty : FieldType} {a : Addr} {vs : List Value} (z : Int32) (hd : decode bytes pc = .ok (.arraylength, 1)) (A : o_AR Z h a ty vs) (hz : Int32.ofNat vs.length = z) (K : o_Go κ Q h k n (pc + 1) Ls (.int z :: St)) : o_Go κ Q h k n pc Ls (.ref a :: St) := o_arraylength B hd A (hz.symm ▸ K)
/-- an array of references: as o_AR, and P holds of its class -/
def o_RR (Z : State) (h : Heap) (a : Addr) (ty : FieldType) (P : ClassId → Prop) (vs : List Value) : Prop := ∃ c : Cell, Arr Z h a c ty ∧ c.slots = vs.toArray ∧ vs.length < 2 ^ 31 ∧ P c.cls
section RR
variable {Z : State} {h h' : Heap} {a b y : Addr} {ty : FieldType} {P : ClassId → Prop} {vs : List Value} {sl i : Nat} {v : Value} {ws : List Addr} {C : String}
theorem o_RR.ar (A : o_RR Z h a ty P vs) : o_AR Z h a ty vs := by obtain ⟨c, A, e, q, -⟩ := A; exact ⟨c, A, e, q⟩
theorem o_RR.lt (A : o_RR Z h a ty P vs) : a < h.size := A.ar.lt
theorem o_RR.ext (A : o_RR Z h a ty P vs) (E : Ext h h') : o_RR Z h' a ty P vs := by obtain ⟨c, A, r⟩ := A; exact ⟨c, A.ext E, r⟩
theorem o_RR.other (A : o_RR Z h a ty P vs) (W : Wr h h' b sl v) (q : a ≠ b) : o_RR Z h' a ty P vs := by obtain ⟨c, A, r⟩ := A; exact ⟨c, A.other W q, r⟩
theorem o_RR.keep (A : o_RR Z h a ty P vs) (K : Keep h h' ws) (q : a ∉ ws) : o_RR Z h' a ty P vs := by obtain ⟨c, A, r⟩ := A; exact ⟨c, ⟨K.2.1 a c A.1 q, A.2⟩, r⟩
theorem o_RR.same (A : o_RR Z h a ty P vs) (W : Wr h h' a i v) : o_RR Z h' a ty P (vs.set i v) := by
  obtain ⟨c, A, e, q, r⟩ := A
  exact ⟨_, A.same W, by simp [Cell.setSlot, e], by simpa using q, r⟩
theorem o_stoA (A : o_RR Z h a (.array ty) (fun k => OvrA Z k ty C) vs) (E : Exa Z h y C) : Sto Z h a (.ref y) := by
  obtain ⟨c, A, -, -, O⟩ := A; exact Sto.ofVA A rfl O (Ins.self E)
theorem o_stoR (A : o_RR Z h a (.object C) (fun k => Ovr Z k C) vs) (I : Ins Z h y C true) : Sto Z h a (.ref y) := by
  obtain ⟨c, A, -, -, O⟩ := A; exact Sto.ofV A rfl O I
end RR
theorem o_aastore (B : o_Bo κ l Z n0 R y bytes ml ret) {ty : FieldType} {P : ClassId → Prop} {a : Addr} {vs : List Value} {j : Int32} {v : Value} (i : Nat) (hty : ty.isReference = true) (hd : decode bytes pc = .ok (.aastore, 1)) (A : o_RR Z h a ty P vs) (hj : j = Int32.ofNat i) (hi : i < vs.length) (F : Sto Z h a v) (ge : n0 ≤ a) (K : ∀ h', Wr h h' a i v → o_Go κ Q h' k n (pc + 1) Ls St) : o_Go κ Q h k n pc Ls (v :: .int j :: .ref a :: St) := by
  obtain ⟨p, e, s, m, args, below, meth, c, rfl, hx, hZ, hby, hml, hown, hret, hlk, hnm⟩ := B
  intro T locs vm0 k0 X S0 hk0 hZ0 N eT
  have hown : (s.setVm vm0).vm.findClass y.cls = some m.cls := by rw [show (s.setVm vm0).vm = vm0 from rfl, hZ0.alike.findClass, ← hZ.alike.findClass]; exact hown
  have hZ : Z.Warmed39 (s.setVm vm0).vm := hZ0
  obtain ⟨cl, A, es, q, -⟩ := A
  obtain ⟨h1, h2⟩ := o_in es q hj hi
  obtain ⟨T', h', X', e', W, st'⟩ := stR X hx hZ eT A h1 hty F (g := mkF m pc Ls.toArray (v :: .int j :: .ref a :: St)) rfl rfl (hb hby hd)
  have W' := W
  rw [h2] at W'
  obtain ⟨s₂, o, st, r⟩ := K h' W' T' _ vm0 k0 X' S0 (by rw [W'.size]; exact hk0) hZ0 (Fr.snoc X' N ge) e'
  exact ⟨s₂, o, st' _ st, r⟩
theorem o_newarrayE (B : o_Bo κ l Z n0 R y bytes ml ret) {aty : ArrayType} {cnt : Int32} {ad : String} (cN cap : Nat) (had : "[" ++ (newarray.typeOf aty).toString = ad) (hd : decode bytes pc = .ok (.newarray aty, 2)) (w : (Cond.arrayClass (newarray.typeOf aty)).before a0 Z = true) (hcnt : cnt = Int32.ofNat cN) (hcap : cN ≤ cap) (hbig : cap * 8 ≤ 536870912) (hc : k + 1 ≤ R.cells) (hl : n + cap ≤ R.slots)
    (K : ∀ h', Ext h h' → h.size < h'.size → o_AR Z h' h.size (newarray.typeOf aty) (List.replicate cN (defaultValue (newarray.typeOf aty))) → Exa Z h' h.size ad → o_Go κ Q h' (k + 1) (n + cap) (pc + 2) Ls (.ref h.size :: St)) : o_Go κ Q h k n pc Ls (.int cnt :: St) := by
  obtain ⟨p, e, s, m, args, below, meth, c, rfl, hx, hZ, hby, hml, hown, hret, hlk, hnm⟩ := B
  intro T locs vm0 k0 X S0 hk0 hZ0 N eT
  have hown : (s.setVm vm0).vm.findClass y.cls = some m.cls := by rw [show (s.setVm vm0).vm = vm0 from rfl, hZ0.alike.findClass, ← hZ.alike.findClass]; exact hown
  have hZ : Z.Warmed39 (s.setVm vm0).vm := hZ0
  obtain ⟨h1, h2⟩ := o_nat (i := cN) (N := cN + 1) (by omega) (by omega)
  obtain ⟨T', h', cA, X', e', E, A, Ex, st'⟩ := newPE X hx hZ w eT (g := mkF m pc Ls.toArray (.int cnt :: St)) rfl (hb hby hd) rfl (by rw [hcnt]; exact h2) (cap := cap) (by rw [hcnt, h1]; exact hcap) hbig hc hl had
  obtain ⟨s₂, o, st, r⟩ := K h' E A.lt ⟨_, A, by simp [newA, hcnt, h1], by simp; omega⟩ Ex T' _ vm0 k0 X' S0 (Nat.le_trans hk0 E.1) hZ0 N e'
  exact ⟨s₂, o, st' _ st, r⟩
theorem o_anewA (B : o_Bo κ l Z n0 R y bytes ml ret) {C ad : String} {ty : FieldType} {idx : Nat} {cnt : Int32} (cN cap : Nat) (hC : (FieldType.array ty).toString = C) (had : "[" ++ C = ad) (hd : decode bytes pc = .ok (.anewarray idx, 3)) (w1 : (Cond.classLink y.cls idx C).before a0 Z = true) (w2 : (Cond.arrayOver (.array ty)).before a0 Z = true) (hcnt : cnt = Int32.ofNat cN) (hcap : cN ≤ cap) (hbig : cap * 8 ≤ 536870912) (hc : k + 1 ≤ R.cells) (hl : n + cap ≤ R.slots)
    (K : ∀ h', Ext h h' → h.size < h'.size → o_RR Z h' h.size (.array ty) (fun k => OvrA Z k ty C) (List.replicate cN .null) → Exa Z h' h.size ad → o_Go κ Q h' (k + 1) (n + cap) (pc + 3) Ls (.ref h.size :: St)) : o_Go κ Q h k n pc Ls (.int cnt :: St) := by
  obtain ⟨p, e, s, m, args, below, meth, c, rfl, hx, hZ, hby, hml, hown, hret, hlk, hnm⟩ := B
  intro T locs vm0 k0 X S0 hk0 hZ0 N eT
  have hown : (s.setVm vm0).vm.findClass y.cls = some m.cls := by rw [show (s.setVm vm0).vm = vm0 from rfl, hZ0.alike.findClass, ← hZ.alike.findClass]; exact hown
  have hZ : Z.Warmed39 (s.setVm vm0).vm := hZ0
  obtain ⟨h1, h2⟩ := o_nat (i := cN) (N := cN + 1) (by omega) (by omega)
  obtain ⟨T', h', cA, X', e', E, A, Ex, O, st'⟩ := newRA X hx hZ hown hC w1 w2 eT (g := mkF m pc Ls.toArray (.int cnt :: St)) rfl (hb hby hd) rfl (by rw [hcnt]; exact h2) (cap := cap) (by rw [hcnt, h1]; exact hcap) hbig hc hl had
  obtain ⟨s₂, o, st, r⟩ := K h' E A.lt ⟨_, A, by simp [newA, hcnt, h1, defaultValue], by simp; omega, O⟩ Ex T' _ vm0 k0 X' S0 (Nat.le_trans hk0 E.1) hZ0 N e'
  exact ⟨s₂, o, st' _ st, r⟩
theorem o_anewR (B : o_Bo κ l Z n0 R y bytes ml ret) {C ad : String} {idx : Nat} {cnt : Int32} (cN cap : Nat) (had : "[" ++ (FieldType.object C).toString = ad) (hd : decode bytes pc = .ok (.anewarray idx, 3)) (w1 : (Cond.classLink y.cls idx C).before a0 Z = true) (w2 : (Cond.arrayOver (.object C)).before a0 Z = true) (hcnt : cnt = Int32.ofNat cN) (hcap : cN ≤ cap) (hbig : cap * 8 ≤ 536870912) (hc : k + 1 ≤ R.cells) (hl : n + cap ≤ R.slots)
    (K : ∀ h', Ext h h' → h.size < h'.size → o_RR Z h' h.size (.object C) (fun k => Ovr Z k C) (List.replicate cN .null) → Exa Z h' h.size ad → o_Go κ Q h' (k + 1) (n + cap) (pc + 3) Ls (.ref h.size :: St)) : o_Go κ Q h k n pc Ls (.int cnt :: St) := by
  obtain ⟨p, e, s, m, args, below, meth, c, rfl, hx, hZ, hby, hml, hown, hret, hlk, hnm⟩ := B
  intro T locs vm0 k0 X S0 hk0 hZ0 N eT
  have hown : (s.setVm vm0).vm.findClass y.cls = some m.cls := by rw [show (s.setVm vm0).vm = vm0 from rfl, hZ0.alike.findClass, ← hZ.alike.findClass]; exact hown
  have hZ : Z.Warmed39 (s.setVm vm0).vm := hZ0
  obtain ⟨h1, h2⟩ := o_nat (i := cN) (N := cN + 1) (by omega) (by omega)
  obtain ⟨T', h', cA, X', e', E, A, Ex, O, st'⟩ := newRE X hx hZ hown w1 w2 eT (g := mkF m pc Ls.toArray (.int cnt :: St)) rfl (hb hby hd) rfl (by rw [hcnt]; exact h2) (cap := cap) (by rw [hcnt, h1]; exact hcap) hbig hc hl had
  obtain ⟨s₂, o, st, r⟩ := K h' E A.lt ⟨_, A, by simp [newA, hcnt, h1, defaultValue], by simp; omega, O⟩ Ex T' _ vm0 k0 X' S0 (Nat.le_trans hk0 E.1) hZ0 N e'
  exact ⟨s₂, o, st' _ st, r⟩
theorem o_callS (B : o_Bo κ l Z n0 R y bytes ml ret) {yc : MethodName} {bc : ByteArray} {mc : Nat} {rc : Option FieldType} {rm : Room} {as rest : List Value} {Qc : Option Value → Heap → Prop} {idx : Nat} (W : Nat) (hd : decode bytes pc = .ok (.invokestatic idx, 3))
    (w1 : (Cond.methodLink y.cls idx yc).before a0 Z = true) (w2 : (Cond.static yc).before a0 Z = true) (w3 : (Cond.initialized yc.cls).before a0 Z = true) (w4 : (Cond.code yc bc mc rc).before a0 Z = true) (hy : yc.cls ≠ "java/lang/invoke/MethodHandle" ∧ yc.cls ≠ "java/lang/invoke/VarHandle") {ps : List FieldType} {r0 : Option FieldType} (pd : parseMethodDescriptor yc.desc = some ⟨ps, r0⟩) (hlen : as.length = ps.length)
    (hW : (rest.map fun v => v.category).sum ≤ W) (hf : rm.frames + 1 ≤ R.frames) (hl : W + (mc + 11) + rm.locals ≤ R.locals) (hc : k + rm.cells ≤ R.cells) (hs : n + rm.slots ≤ R.slots) (hLs : Ls.length = ml)
    (C : o_C l Z n0 yc bc mc rc rm as h Qc) (K : ∀ v h', Qc v h' → o_Go κ Q h' (k + rm.cells) (n + rm.slots) (pc + 3) Ls (v.toList ++ rest)) : o_Go κ Q h k n pc Ls (as.reverse ++ rest) := by
  obtain ⟨p, e, s, m, args, below, meth, c, rfl, hx, hZ, hby, hml, hown, hret, hlk, hnm⟩ := B
  intro T locs vm0 k0 X S0 hk0 hZ0 N eT
  have hown : (s.setVm vm0).vm.findClass y.cls = some m.cls := by rw [show (s.setVm vm0).vm = vm0 from rfl, hZ0.alike.findClass, ← hZ.alike.findClass]; exact hown
  have hZ : Z.Warmed39 (s.setVm vm0).vm := hZ0
  obtain ⟨v, vm1, ⟨T', L', k', n'⟩, -, X', hS', hgr, ⟨Lc, hQ, l', y', z'⟩, st'⟩ := callSS X hx (y := yc) hown (mvT hZ w1) (mvT hZ w2) (mvT hZ w3) (mvT hZ w4) hy (backOfS (W := W) (Q := fun v h L => Qc v h ∧ Fr n0 L) (C []) hZ w4 w3 hf hl) (g := mkF m pc Ls.toArray (as.reverse ++ rest)) rfl (by rw [hml, ← hLs]; simp) (argsL := as) (rest := rest) (lenOf pd hlen) rfl (by simpa using hW) (hb hby hd) (fun _ _ => ⟨rfl, eT, hc, hs⟩)
  dsimp only [Pt.U, Pt.locs, Pt.cells, Pt.slots] at X' hS' hgr l' y' z' st' hQ
  subst l' y' z'
  obtain ⟨hq, Nc⟩ := hQ
  obtain ⟨s₂, o, st, r⟩ := K v T'.heap hq T' _ T'.vm T'.heap.size (show Stand p l e R (s.setVm T'.vm) m args below meth c T' _ _ _ from X') (S0.trans hS' (Nat.le_trans (eT.symm ▸ hk0) hgr)) (Nat.le_refl _) (State.Warmed39.trans (t := s.setVm vm0) hZ0 hS'.1) (Fr.app N Nc) rfl
  exact ⟨s₂, o, st'.trans st, r⟩
theorem o_callN (B : o_Bo κ l Z n0 R y bytes ml ret) {yc : MethodName} {bc : ByteArray} {mc : Nat} {rm : Room} {as rest : List Value} {a : Addr} {Qc : Option Value → Heap → Prop} {idx : Nat} (W : Nat) (hd : decode bytes pc = .ok (.invokespecial idx, 3)) (hin : yc.name = "<init>")
    (w1 : (Cond.methodLink y.cls idx yc).before a0 Z = true) (w2 : (Cond.instanceMethod yc).before a0 Z = true) (w3 : (Cond.initialized yc.cls).before a0 Z = true) (w4 : (Cond.code yc bc mc none).before a0 Z = true) (hy : yc.cls ≠ "java/lang/invoke/MethodHandle" ∧ yc.cls ≠ "java/lang/invoke/VarHandle") {ps : List FieldType} {r0 : Option FieldType} (pd : parseMethodDescriptor yc.desc = some ⟨ps, r0⟩) (hlen : as.length = ps.length)
    (hW : (rest.map fun v => v.category).sum ≤ W) (hf : rm.frames + 1 ≤ R.frames) (hl : W + (mc + 11) + rm.locals ≤ R.locals) (hc : k + rm.cells ≤ R.cells) (hs : n + rm.slots ≤ R.slots) (hLs : Ls.length = ml)
    (C : o_C l Z n0 yc bc mc none rm (.ref a :: as) h Qc) (K : ∀ v h', Qc v h' → o_Go κ Q h' (k + rm.cells) (n + rm.slots) (pc + 3) Ls (v.toList ++ rest)) : o_Go κ Q h k n pc Ls (as.reverse ++ .ref a :: rest) := by
  obtain ⟨p, e, s, m, args, below, meth, c, rfl, hx, hZ, hby, hml, hown, hret, hlk, hnm⟩ := B
  intro T locs vm0 k0 X S0 hk0 hZ0 N eT
  have hown : (s.setVm vm0).vm.findClass y.cls = some m.cls := by rw [show (s.setVm vm0).vm = vm0 from rfl, hZ0.alike.findClass, ← hZ.alike.findClass]; exact hown
  have hZ : Z.Warmed39 (s.setVm vm0).vm := hZ0
  obtain ⟨v, vm1, ⟨T', L', k', n'⟩, -, X', hS', hgr, ⟨Lc, hQ, l', y', z'⟩, st'⟩ := X.specialBackS hx (y := yc) hin hown (mvT hZ w1) (mvT hZ w2) (mvT hZ w4) hy (backOfS (W := W) (Q := fun v h L => Qc v h ∧ Fr n0 L) (C []) hZ w4 w3 hf hl) (g := mkF m pc Ls.toArray (as.reverse ++ .ref a :: rest)) rfl (by rw [hml, ← hLs]; simp) (Steps.refl _) (a := a) (argsL := as) (rest := rest) (lenOf pd hlen) rfl (by simpa using hW) (hb hby hd) (fun _ _ => ⟨rfl, eT, hc, hs⟩)
  dsimp only [Pt.U, Pt.locs, Pt.cells, Pt.slots] at X' hS' hgr l' y' z' st' hQ
  subst l' y' z'
  obtain ⟨hq, Nc⟩ := hQ
  obtain ⟨s₂, o, st, r⟩ := K v T'.heap hq T' _ T'.vm T'.heap.size (show Stand p l e R (s.setVm T'.vm) m args below meth c T' _ _ _ from X') (S0.trans hS' (Nat.le_trans (eT.symm ▸ hk0) hgr)) (Nat.le_refl _) (State.Warmed39.trans (t := s.setVm vm0) hZ0 hS'.1) (Fr.app N Nc) rfl
  exact ⟨s₂, o, st'.trans st, r⟩
theorem o_callV (B : o_Bo κ l Z n0 R y bytes ml ret) {yc : MethodName} {Cn : String} {bc : ByteArray} {mc : Nat} {rc : Option FieldType} {rm : Room} {as rest : List Value} {a : Addr} {Qc : Option Value → Heap → Prop} {idx : Nat} (W : Nat) (hd : decode bytes pc = .ok (.invokevirtual idx, 3))
    (w1 : (Cond.methodLink y.cls idx yc).before a0 Z = true) (w2 : (Cond.declares yc).before a0 Z = true) (w5 : (Cond.selects Cn yc yc).before a0 Z = true) (w6 : (Cond.instanceMethod yc).before a0 Z = true) (w3 : (Cond.initialized yc.cls).before a0 Z = true) (w4 : (Cond.code yc bc mc rc).before a0 Z = true) (hy : yc.cls ≠ "java/lang/invoke/MethodHandle" ∧ yc.cls ≠ "java/lang/invoke/VarHandle") {ps : List FieldType} {r0 : Option FieldType} (pd : parseMethodDescriptor yc.desc = some ⟨ps, r0⟩) (hlen : as.length = ps.length)
    (hW : (rest.map fun v => v.category).sum ≤ W) (hf : rm.frames + 1 ≤ R.frames) (hl : W + (mc + 11) + rm.locals ≤ R.locals) (hc : k + rm.cells ≤ R.cells) (hs : n + rm.slots ≤ R.slots) (hLs : Ls.length = ml) (E : Exa Z h a Cn)
    (C : o_C l Z n0 yc bc mc rc rm (.ref a :: as) h Qc) (K : ∀ v h', Qc v h' → o_Go κ Q h' (k + rm.cells) (n + rm.slots) (pc + 3) Ls (v.toList ++ rest)) : o_Go κ Q h k n pc Ls (as.reverse ++ .ref a :: rest) := by
  obtain ⟨p, e, s, m, args, below, meth, c, rfl, hx, hZ, hby, hml, hown, hret, hlk, hnm⟩ := B
  intro T locs vm0 k0 X S0 hk0 hZ0 N eT
  have hown : (s.setVm vm0).vm.findClass y.cls = some m.cls := by rw [show (s.setVm vm0).vm = vm0 from rfl, hZ0.alike.findClass, ← hZ.alike.findClass]; exact hown
  have hZ : Z.Warmed39 (s.setVm vm0).vm := hZ0
  obtain ⟨cq, kq, qa, qb, qc⟩ := isOf hZ eT E
  obtain ⟨v, vm1, ⟨T', L', k', n'⟩, -, X', hS', hgr, ⟨Lc, hQ, l', y', z'⟩, st'⟩ := X.virtualBackS hx (y := yc) (z := yc) hown (mvT hZ w1) (mvT hZ w2) (notFace_of_selects (args := #[]) (mvT hZ w5)) (mvT hZ w5) (mvT hZ w6) hy (backOfS (W := W) (Q := fun v h L => Qc v h ∧ Fr n0 L) (C []) hZ w4 w3 hf hl) qa qc (g := mkF m pc Ls.toArray (as.reverse ++ .ref a :: rest)) rfl (by rw [hml, ← hLs]; simp) (Steps.refl _) (argsL := as) (rest := rest) (lenOf pd hlen) rfl (by simpa using hW) (hb hby hd) (fun _ _ => ⟨rfl, eT, hc, hs⟩)
  dsimp only [Pt.U, Pt.locs, Pt.cells, Pt.slots] at X' hS' hgr l' y' z' st' hQ
  subst l' y' z'
  obtain ⟨hq, Nc⟩ := hQ
  obtain ⟨s₂, o, st, r⟩ := K v T'.heap hq T' _ T'.vm T'.heap.size (show Stand p l e R (s.setVm T'.vm) m args below meth c T' _ _ _ from X') (S0.trans hS' (Nat.le_trans (eT.symm ▸ hk0) hgr)) (Nat.le_refl _) (State.Warmed39.trans (t := s.setVm vm0) hZ0 hS'.1) (Fr.app N Nc) rfl
  exact ⟨s₂, o, st'.trans st, r⟩
theorem o_callS0 (B : o_Bo κ l Z n0 R y bytes ml ret) {yc : MethodName} {bc : ByteArray} {mc : Nat} {rc : Option FieldType} {rm : Room} {rest : List Value} {Qc : Option Value → Heap → Prop} {idx : Nat} (W : Nat) (hd : decode bytes pc = .ok (.invokestatic idx, 3)) (w1 : (Cond.methodLink y.cls idx yc).before a0 Z = true) (w2 : (Cond.static yc).before a0 Z = true) (w3 : (Cond.initialized yc.cls).before a0 Z = true) (w4 : (Cond.code yc bc mc rc).before a0 Z = true) (hy : yc.cls ≠ "java/lang/invoke/MethodHandle" ∧ yc.cls ≠ "java/lang/invoke/VarHandle") {ps : List FieldType} {r0 : Option FieldType} (pd : parseMethodDescriptor yc.desc = some ⟨ps, r0⟩) (hlen : 0 = ps.length) (hW : (rest.map fun v => v.category).sum ≤ W) (hf : rm.frames + 1 ≤ R.frames) (hl : W + (mc + 11) + rm.locals ≤ R.locals) (hc : k + rm.cells ≤ R.cells) (hs : n + rm.slots ≤ R.slots) (hLs : Ls.length = ml) (C : o_C l Z n0 yc bc mc rc rm [] h Qc) (K : ∀ v h', Qc v h' → o_Go κ Q h' (k + rm.cells) (n + rm.slots) (pc + 3) Ls (v.toList ++ rest)) : o_Go κ Q h k n pc Ls (rest) := o_callS B W hd w1 w2 w3 w4 hy pd (as := []) hlen hW hf hl hc hs hLs C K
theorem o_callN0 (B : o_Bo κ l Z n0 R y bytes ml ret) {yc : MethodName} {bc : ByteArray} {mc : Nat} {rm : Room} {rest : List Value} {a : Addr} {Qc : Option Value → Heap → Prop} {idx : Nat} (W : Nat) (hd : decode bytes pc = .ok (.invokespecial idx, 3)) (hin : yc.name = "<init>") (w1 : (Cond.methodLink y.cls idx yc).before a0 Z = true) (w2 : (Cond.instanceMethod yc).before a0 Z = true) (w3 : (Cond.initialized yc.cls).before a0 Z = true) (w4 : (Cond.code yc bc mc none).before a0 Z = true) (hy : yc.cls ≠ "java/lang/invoke/MethodHandle" ∧ yc.cls ≠ "java/lang/invoke/VarHandle") {ps : List FieldType} {r0 : Option FieldType} (pd : parseMethodDescriptor yc.desc = some ⟨ps, r0⟩) (hlen : 0 = ps.length) (hW : (rest.map fun v => v.category).sum ≤ W) (hf : rm.frames + 1 ≤ R.frames) (hl : W + (mc + 11) + rm.locals ≤ R.locals) (hc : k + rm.cells ≤ R.cells) (hs : n + rm.slots ≤ R.slots) (hLs : Ls.length = ml) (C : o_C l Z n0 yc bc mc none rm (.ref a :: []) h Qc) (K : ∀ v h', Qc v h' → o_Go κ Q h' (k + rm.cells) (n + rm.slots) (pc + 3) Ls (v.toList ++ rest)) : o_Go κ Q h k n pc Ls (.ref a :: rest) := o_callN B W hd hin w1 w2 w3 w4 hy pd (as := []) hlen hW hf hl hc hs hLs C K
theorem o_callV0 (B : o_Bo κ l Z n0 R y bytes ml ret) {yc : MethodName} {Cn : String} {bc : ByteArray} {mc : Nat} {rc : Option FieldType} {rm : Room} {rest : List Value} {a : Addr} {Qc : Option Value → Heap → Prop} {idx : Nat} (W : Nat) (hd : decode bytes pc = .ok (.invokevirtual idx, 3)) (w1 : (Cond.methodLink y.cls idx yc).before a0 Z = true) (w2 : (Cond.declares yc).before a0 Z = true) (w5 : (Cond.selects Cn yc yc).before a0 Z = true) (w6 : (Cond.instanceMethod yc).before a0 Z = true) (w3 : (Cond.initialized yc.cls).before a0 Z = true) (w4 : (Cond.code yc bc mc rc).before a0 Z = true) (hy : yc.cls ≠ "java/lang/invoke/MethodHandle" ∧ yc.cls ≠ "java/lang/invoke/VarHandle") {ps : List FieldType} {r0 : Option FieldType} (pd : parseMethodDescriptor yc.desc = some ⟨ps, r0⟩) (hlen : 0 = ps.length) (hW : (rest.map fun v => v.category).sum ≤ W) (hf : rm.frames + 1 ≤ R.frames) (hl : W + (mc + 11) + rm.locals ≤ R.locals) (hc : k + rm.cells ≤ R.cells) (hs : n + rm.slots ≤ R.slots) (hLs : Ls.length = ml) (E : Exa Z h a Cn) (C : o_C l Z n0 yc bc mc rc rm (.ref a :: []) h Qc) (K : ∀ v h', Qc v h' → o_Go κ Q h' (k + rm.cells) (n + rm.slots) (pc + 3) Ls (v.toList ++ rest)) : o_Go κ Q h k n pc Ls (.ref a :: rest) := o_callV B W hd w1 w2 w5 w6 w3 w4 hy pd (as := []) hlen hW hf hl hc hs hLs E C K
theorem o_callS1 (B : o_Bo κ l Z n0 R y bytes ml ret) {yc : MethodName} {bc : ByteArray} {mc : Nat} {rc : Option FieldType} {rm : Room} {v0 : Value} {rest : List Value} {Qc : Option Value → Heap → Prop} {idx : Nat} (W : Nat) (hd : decode bytes pc = .ok (.invokestatic idx, 3)) (w1 : (Cond.methodLink y.cls idx yc).before a0 Z = true) (w2 : (Cond.static yc).before a0 Z = true) (w3 : (Cond.initialized yc.cls).before a0 Z = true) (w4 : (Cond.code yc bc mc rc).before a0 Z = true) (hy : yc.cls ≠ "java/lang/invoke/MethodHandle" ∧ yc.cls ≠ "java/lang/invoke/VarHandle") {ps : List FieldType} {r0 : Option FieldType} (pd : parseMethodDescriptor yc.desc = some ⟨ps, r0⟩) (hlen : 1 = ps.length) (hW : (rest.map fun v => v.category).sum ≤ W) (hf : rm.frames + 1 ≤ R.frames) (hl : W + (mc + 11) + rm.locals ≤ R.locals) (hc : k + rm.cells ≤ R.cells) (hs : n + rm.slots ≤ R.slots) (hLs : Ls.length = ml) (C : o_C l Z n0 yc bc mc rc rm [v0] h Qc) (K : ∀ v h', Qc v h' → o_Go κ Q h' (k + rm.cells) (n + rm.slots) (pc + 3) Ls (v.toList ++ rest)) : o_Go κ Q h k n pc Ls (v0 :: rest) := o_callS B W hd w1 w2 w3 w4 hy pd (as := [v0]) hlen hW hf hl hc hs hLs C K
theorem o_callN1 (B : o_Bo κ l Z n0 R y bytes ml ret) {yc : MethodName} {bc : ByteArray} {mc : Nat} {rm : Room} {v0 : Value} {rest : List Value} {a : Addr} {Qc : Option Value → Heap → Prop} {idx : Nat} (W : Nat) (hd : decode bytes pc = .ok (.invokespecial idx, 3)) (hin : yc.name = "<init>") (w1 : (Cond.methodLink y.cls idx yc).before a0 Z = true) (w2 : (Cond.instanceMethod yc).before a0 Z = true) (w3 : (Cond.initialized yc.cls).before a0 Z = true) (w4 : (Cond.code yc bc mc none).before a0 Z = true) (hy : yc.cls ≠ "java/lang/invoke/MethodHandle" ∧ yc.cls ≠ "java/lang/invoke/VarHandle") {ps : List FieldType} {r0 : Option FieldType} (pd : parseMethodDescriptor yc.desc = some ⟨ps, r0⟩) (hlen : 1 = ps.length) (hW : (rest.map fun v => v.category).sum ≤ W) (hf : rm.frames + 1 ≤ R.frames) (hl : W + (mc + 11) + rm.locals ≤ R.locals) (hc : k + rm.cells ≤ R.cells) (hs : n + rm.slots ≤ R.slots) (hLs : Ls.length = ml) (C : o_C l Z n0 yc bc mc none rm (.ref a :: [v0]) h Qc) (K : ∀ v h', Qc v h' → o_Go κ Q h' (k + rm.cells) (n + rm.slots) (pc + 3) Ls (v.toList ++ rest)) : o_Go κ Q h k n pc Ls (v0 :: .ref a :: rest) := o_callN B W hd hin w1 w2 w3 w4 hy pd (as := [v0]) hlen hW hf hl hc hs hLs C K
theorem o_callV1 (B : o_Bo κ l Z n0 R y bytes ml ret) {yc : MethodName} {Cn : String} {bc : ByteArray} {mc : Nat} {rc : Option FieldType} {rm : Room} {v0 : Value} {rest : List Value} {a : Addr} {Qc : Option Value → Heap → Prop} {idx : Nat} (W : Nat) (hd : decode bytes pc = .ok (.invokevirtual idx, 3)) (w1 : (Cond.methodLink y.cls idx yc).before a0 Z = true) (w2 : (Cond.declares yc).before a0 Z = true) (w5 : (Cond.selects Cn yc yc).before a0 Z = true) (w6 : (Cond.instanceMethod yc).before a0 Z = true) (w3 : (Cond.initialized yc.cls).before a0 Z = true) (w4 : (Cond.code yc bc mc rc).before a0 Z = true) (hy : yc.cls ≠ "java/lang/invoke/MethodHandle" ∧ yc.cls ≠ "java/lang/invoke/VarHandle") {ps : List FieldType} {r0 : Option FieldType} (pd : parseMethodDescriptor yc.desc = some ⟨ps, r0⟩) (hlen : 1 = ps.length) (hW : (rest.map fun v => v.category).sum ≤ W) (hf : rm.frames + 1 ≤ R.frames) (hl : W + (mc + 11) + rm.locals ≤ R.locals) (hc : k + rm.cells ≤ R.cells) (hs : n + rm.slots ≤ R.slots) (hLs : Ls.length = ml) (E : Exa Z h a Cn) (C : o_C l Z n0 yc bc mc rc rm (.ref a :: [v0]) h Qc) (K : ∀ v h', Qc v h' → o_Go κ Q h' (k + rm.cells) (n + rm.slots) (pc + 3) Ls (v.toList ++ rest)) : o_Go κ Q h k n pc Ls (v0 :: .ref a :: rest) := o_callV B W hd w1 w2 w5 w6 w3 w4 hy pd (as := [v0]) hlen hW hf hl hc hs hLs E C K
theorem o_callS2 (B : o_Bo κ l Z n0 R y bytes ml ret) {yc : MethodName} {bc : ByteArray} {mc : Nat} {rc : Option FieldType} {rm : Room} {v0 v1 : Value} {rest : List Value} {Qc : Option Value → Heap → Prop} {idx : Nat} (W : Nat) (hd : decode bytes pc = .ok (.invokestatic idx, 3)) (w1 : (Cond.methodLink y.cls idx yc).before a0 Z = true) (w2 : (Cond.static yc).before a0 Z = true) (w3 : (Cond.initialized yc.cls).before a0 Z = true) (w4 : (Cond.code yc bc mc rc).before a0 Z = true) (hy : yc.cls ≠ "java/lang/invoke/MethodHandle" ∧ yc.cls ≠ "java/lang/invoke/VarHandle") {ps : List FieldType} {r0 : Option FieldType} (pd : parseMethodDescriptor yc.desc = some ⟨ps, r0⟩) (hlen : 2 = ps.length) (hW : (rest.map fun v => v.category).sum ≤ W) (hf : rm.frames + 1 ≤ R.frames) (hl : W + (mc + 11) + rm.locals ≤ R.locals) (hc : k + rm.cells ≤ R.cells) (hs : n + rm.slots ≤ R.slots) (hLs : Ls.length = ml) (C : o_C l Z n0 yc bc mc rc rm [v0, v1] h Qc) (K : ∀ v h', Qc v h' → o_Go κ Q h' (k + rm.cells) (n + rm.slots) (pc + 3) Ls (v.toList ++ rest)) : o_Go κ Q h k n pc Ls (v1 :: v0 :: rest) := o_callS B W hd w1 w2 w3 w4 hy pd (as := [v0, v1]) hlen hW hf hl hc hs hLs C K
theorem o_callN2 (B : o_Bo κ l Z n0 R y bytes ml ret) {yc : MethodName} {bc : ByteArray} {mc : Nat} {rm : Room} {v0 v1 : Value} {rest : List Value} {a : Addr} {Qc : Option Value → Heap → Prop} {idx : Nat} (W : Nat) (hd : decode bytes pc = .ok (.invokespecial idx, 3)) (hin : yc.name = "<init>") (w1 : (Cond.methodLink y.cls idx yc).before a0 Z = true) (w2 : (Cond.instanceMethod yc).before a0 Z = true) (w3 : (Cond.initialized yc.cls).before a0 Z = true) (w4 : (Cond.code yc bc mc none).before a0 Z = true) (hy : yc.cls ≠ "java/lang/invoke/MethodHandle" ∧ yc.cls ≠ "java/lang/invoke/VarHandle") {ps : List FieldType} {r0 : Option FieldType} (pd : parseMethodDescriptor yc.desc = some ⟨ps, r0⟩) (hlen : 2 = ps.length) (hW : (rest.map fun v => v.category).sum ≤ W) (hf : rm.frames + 1 ≤ R.frames) (hl : W + (mc + 11) + rm.locals ≤ R.locals) (hc : k + rm.cells ≤ R.cells) (hs : n + rm.slots ≤ R.slots) (hLs : Ls.length = ml) (C : o_C l Z n0 yc bc mc none rm (.ref a :: [v0, v1]) h Qc) (K : ∀ v h', Qc v h' → o_Go κ Q h' (k + rm.cells) (n + rm.slots) (pc + 3) Ls (v.toList ++ rest)) : o_Go κ Q h k n pc Ls (v1 :: v0 :: .ref a :: rest) := o_callN B W hd hin w1 w2 w3 w4 hy pd (as := [v0, v1]) hlen hW hf hl hc hs hLs C K
theorem o_callV2 (B : o_Bo κ l Z n0 R y bytes ml ret) {yc : MethodName} {Cn : String} {bc : ByteArray} {mc : Nat} {rc : Option FieldType} {rm : Room} {v0 v1 : Value} {rest : List Value} {a : Addr} {Qc : Option Value → Heap → Prop} {idx : Nat} (W : Nat) (hd : decode bytes pc = .ok (.invokevirtual idx, 3)) (w1 : (Cond.methodLink y.cls idx yc).before a0 Z = true) (w2 : (Cond.declares yc).before a0 Z = true) (w5 : (Cond.selects Cn yc yc).before a0 Z = true) (w6 : (Cond.instanceMethod yc).before a0 Z = true) (w3 : (Cond.initialized yc.cls).before a0 Z = true) (w4 : (Cond.code yc bc mc rc).before a0 Z = true) (hy : yc.cls ≠ "java/lang/invoke/MethodHandle" ∧ yc.cls ≠ "java/lang/invoke/VarHandle") {ps : List FieldType} {r0 : Option FieldType} (pd : parseMethodDescriptor yc.desc = some ⟨ps, r0⟩) (hlen : 2 = ps.length) (hW : (rest.map fun v => v.category).sum ≤ W) (hf : rm.frames + 1 ≤ R.frames) (hl : W + (mc + 11) + rm.locals ≤ R.locals) (hc : k + rm.cells ≤ R.cells) (hs : n + rm.slots ≤ R.slots) (hLs : Ls.length = ml) (E : Exa Z h a Cn) (C : o_C l Z n0 yc bc mc rc rm (.ref a :: [v0, v1]) h Qc) (K : ∀ v h', Qc v h' → o_Go κ Q h' (k + rm.cells) (n + rm.slots) (pc + 3) Ls (v.toList ++ rest)) : o_Go κ Q h k n pc Ls (v1 :: v0 :: .ref a :: rest) := o_callV B W hd w1 w2 w5 w6 w3 w4 hy pd (as := [v0, v1]) hlen hW hf hl hc hs hLs E C K
theorem o_callS3 (B : o_Bo κ l Z n0 R y bytes ml ret) {yc : MethodName} {bc : ByteArray} {mc : Nat} {rc : Option FieldType} {rm : Room} {v0 v1 v2 : Value} {rest : List Value} {Qc : Option Value → Heap → Prop} {idx : Nat} (W : Nat) (hd : decode bytes pc = .ok (.invokestatic idx, 3)) (w1 : (Cond.methodLink y.cls idx yc).before a0 Z = true) (w2 : (Cond.static yc).before a0 Z = true) (w3 : (Cond.initialized yc.cls).before a0 Z = true) (w4 : (Cond.code yc bc mc rc).before a0 Z = true) (hy : yc.cls ≠ "java/lang/invoke/MethodHandle" ∧ yc.cls ≠ "java/lang/invoke/VarHandle") {ps : List FieldType} {r0 : Option FieldType} (pd : parseMethodDescriptor yc.desc = some ⟨ps, r0⟩) (hlen : 3 = ps.length) (hW : (rest.map fun v => v.category).sum ≤ W) (hf : rm.frames + 1 ≤ R.frames) (hl : W + (mc + 11) + rm.locals ≤ R.locals) (hc : k + rm.cells ≤ R.cells) (hs : n + rm.slots ≤ R.slots) (hLs : Ls.length = ml) (C : o_C l Z n0 yc bc mc rc rm [v0, v1, v2] h Qc) (K : ∀ v h', Qc v h' → o_Go κ Q h' (k + rm.cells) (n + rm.slots) (pc + 3) Ls (v.toList ++ rest)) : o_Go κ Q h k n pc Ls (v2 :: v1 :: v0 :: rest) := o_callS B W hd w1 w2 w3 w4 hy pd (as := [v0, v1, v2]) hlen hW hf hl hc hs hLs C K
theorem o_callN3 (B : o_Bo κ l Z n0 R y bytes ml ret) {yc : MethodName} {bc : ByteArray} {mc : Nat} {rm : Room} {v0 v1 v2 : Value} {rest : List Value} {a : Addr} {Qc : Option Value → Heap → Prop} {idx : Nat} (W : Nat) (hd : decode bytes pc = .ok (.invokespecial idx, 3)) (hin : yc.name = "<init>") (w1 : (Cond.methodLink y.cls idx yc).before a0 Z = true) (w2 : (Cond.instanceMethod yc).before a0 Z = true) (w3 : (Cond.initialized yc.cls).before a0 Z = true) (w4 : (Cond.code yc bc mc none).before a0 Z = true) (hy : yc.cls ≠ "java/lang/invoke/MethodHandle" ∧ yc.cls ≠ "java/lang/invoke/VarHandle") {ps : List FieldType} {r0 : Option FieldType} (pd : parseMethodDescriptor yc.desc = some ⟨ps, r0⟩) (hlen : 3 = ps.length) (hW : (rest.map fun v => v.category).sum ≤ W) (hf : rm.frames + 1 ≤ R.frames) (hl : W + (mc + 11) + rm.locals ≤ R.locals) (hc : k + rm.cells ≤ R.cells) (hs : n + rm.slots ≤ R.slots) (hLs : Ls.length = ml) (C : o_C l Z n0 yc bc mc none rm (.ref a :: [v0, v1, v2]) h Qc) (K : ∀ v h', Qc v h' → o_Go κ Q h' (k + rm.cells) (n + rm.slots) (pc + 3) Ls (v.toList ++ rest)) : o_Go κ Q h k n pc Ls (v2 :: v1 :: v0 :: .ref a :: rest) := o_callN B W hd hin w1 w2 w3 w4 hy pd (as := [v0, v1, v2]) hlen hW hf hl hc hs hLs C K
theorem o_callV3 (B : o_Bo κ l Z n0 R y bytes ml ret) {yc : MethodName} {Cn : String} {bc : ByteArray} {mc : Nat} {rc : Option FieldType} {rm : Room} {v0 v1 v2 : Value} {rest : List Value} {a : Addr} {Qc : Option Value → Heap → Prop} {idx : Nat} (W : Nat) (hd : decode bytes pc = .ok (.invokevirtual idx, 3)) (w1 : (Cond.methodLink y.cls idx yc).before a0 Z = true) (w2 : (Cond.declares yc).before a0 Z = true) (w5 : (Cond.selects Cn yc yc).before a0 Z = true) (w6 : (Cond.instanceMethod yc).before a0 Z = true) (w3 : (Cond.initialized yc.cls).before a0 Z = true) (w4 : (Cond.code yc bc mc rc).before a0 Z = true) (hy : yc.cls ≠ "java/lang/invoke/MethodHandle" ∧ yc.cls ≠ "java/lang/invoke/VarHandle") {ps : List FieldType} {r0 : Option FieldType} (pd : parseMethodDescriptor yc.desc = some ⟨ps, r0⟩) (hlen : 3 = ps.length) (hW : (rest.map fun v => v.category).sum ≤ W) (hf : rm.frames + 1 ≤ R.frames) (hl : W + (mc + 11) + rm.locals ≤ R.locals) (hc : k + rm.cells ≤ R.cells) (hs : n + rm.slots ≤ R.slots) (hLs : Ls.length = ml) (E : Exa Z h a Cn) (C : o_C l Z n0 yc bc mc rc rm (.ref a :: [v0, v1, v2]) h Qc) (K : ∀ v h', Qc v h' → o_Go κ Q h' (k + rm.cells) (n + rm.slots) (pc + 3) Ls (v.toList ++ rest)) : o_Go κ Q h k n pc Ls (v2 :: v1 :: v0 :: .ref a :: rest) := o_callV B W hd w1 w2 w5 w6 w3 w4 hy pd (as := [v0, v1, v2]) hlen hW hf hl hc hs hLs E C K
theorem o_callS4 (B : o_Bo κ l Z n0 R y bytes ml ret) {yc : MethodName} {bc : ByteArray} {mc : Nat} {rc : Option FieldType} {rm : Room} {v0 v1 v2 v3 : Value} {rest : List Value} {Qc : Option Value → Heap → Prop} {idx : Nat} (W : Nat) (hd : decode bytes pc = .ok (.invokestatic idx, 3)) (w1 : (Cond.methodLink y.cls idx yc).before a0 Z = true) (w2 : (Cond.static yc).before a0 Z = true) (w3 : (Cond.initialized yc.cls).before a0 Z = true) (w4 : (Cond.code yc bc mc rc).before a0 Z = true) (hy : yc.cls ≠ "java/lang/invoke/MethodHandle" ∧ yc.cls ≠ "java/lang/invoke/VarHandle") {ps : List FieldType} {r0 : Option FieldType} (pd : parseMethodDescriptor yc.desc = some ⟨ps, r0⟩) (hlen : 4 = ps.length) (hW : (rest.map fun v => v.category).sum ≤ W) (hf : rm.frames + 1 ≤ R.frames) (hl : W + (mc + 11) + rm.locals ≤ R.locals) (hc : k + rm.cells ≤ R.cells) (hs : n + rm.slots ≤ R.slots) (hLs : Ls.length = ml) (C : o_C l Z n0 yc bc mc rc rm [v0, v1, v2, v3] h Qc) (K : ∀ v h', Qc v h' → o_Go κ Q h' (k + rm.cells) (n + rm.slots) (pc + 3) Ls (v.toList ++ rest)) : o_Go κ Q h k n pc Ls (v3 :: v2 :: v1 :: v0 :: rest) := o_callS B W hd w1 w2 w3 w4 hy pd (as := [v0, v1, v2, v3]) hlen hW hf hl hc hs hLs C K
theorem o_callN4 (B : o_Bo κ l Z n0 R y bytes ml ret) {yc : MethodName} {bc : ByteArray} {mc : Nat} {rm : Room} {v0 v1 v2 v3 : Value} {rest : List Value} {a : Addr} {Qc : Option Value → Heap → Prop} {idx : Nat} (W : Nat) (hd : decode bytes pc = .ok (.invokespecial idx, 3)) (hin : yc.name = "<init>") (w1 : (Cond.methodLink y.cls idx yc).before a0 Z = true) (w2 : (Cond.instanceMethod yc).before a0 Z = true) (w3 : (Cond.initialized yc.cls).before a0 Z = true) (w4 : (Cond.code yc bc mc none).before a0 Z = true) (hy : yc.cls ≠ "java/lang/invoke/MethodHandle" ∧ yc.cls ≠ "java/lang/invoke/VarHandle") {ps : List FieldType} {r0 : Option FieldType} (pd : parseMethodDescriptor yc.desc = some ⟨ps, r0⟩) (hlen : 4 = ps.length) (hW : (rest.map fun v => v.category).sum ≤ W) (hf : rm.frames + 1 ≤ R.frames) (hl : W + (mc + 11) + rm.locals ≤ R.locals) (hc : k + rm.cells ≤ R.cells) (hs : n + rm.slots ≤ R.slots) (hLs : Ls.length = ml) (C : o_C l Z n0 yc bc mc none rm (.ref a :: [v0, v1, v2, v3]) h Qc) (K : ∀ v h', Qc v h' → o_Go κ Q h' (k + rm.cells) (n + rm.slots) (pc + 3) Ls (v.toList ++ rest)) : o_Go κ Q h k n pc Ls (v3 :: v2 :: v1 :: v0 :: .ref a :: rest) := o_callN B W hd hin w1 w2 w3 w4 hy pd (as := [v0, v1, v2, v3]) hlen hW hf hl hc hs hLs C K
theorem o_callV4 (B : o_Bo κ l Z n0 R y bytes ml ret) {yc : MethodName} {Cn : String} {bc : ByteArray} {mc : Nat} {rc : Option FieldType} {rm : Room} {v0 v1 v2 v3 : Value} {rest : List Value} {a : Addr} {Qc : Option Value → Heap → Prop} {idx : Nat} (W : Nat) (hd : decode bytes pc = .ok (.invokevirtual idx, 3)) (w1 : (Cond.methodLink y.cls idx yc).before a0 Z = true) (w2 : (Cond.declares yc).before a0 Z = true) (w5 : (Cond.selects Cn yc yc).before a0 Z = true) (w6 : (Cond.instanceMethod yc).before a0 Z = true) (w3 : (Cond.initialized yc.cls).before a0 Z = true) (w4 : (Cond.code yc bc mc rc).before a0 Z = true) (hy : yc.cls ≠ "java/lang/invoke/MethodHandle" ∧ yc.cls ≠ "java/lang/invoke/VarHandle") {ps : List FieldType} {r0 : Option FieldType} (pd : parseMethodDescriptor yc.desc = some ⟨ps, r0⟩) (hlen : 4 = ps.length) (hW : (rest.map fun v => v.category).sum ≤ W) (hf : rm.frames + 1 ≤ R.frames) (hl : W + (mc + 11) + rm.locals ≤ R.locals) (hc : k + rm.cells ≤ R.cells) (hs : n + rm.slots ≤ R.slots) (hLs : Ls.length = ml) (E : Exa Z h a Cn) (C : o_C l Z n0 yc bc mc rc rm (.ref a :: [v0, v1, v2, v3]) h Qc) (K : ∀ v h', Qc v h' → o_Go κ Q h' (k + rm.cells) (n + rm.slots) (pc + 3) Ls (v.toList ++ rest)) : o_Go κ Q h k n pc Ls (v3 :: v2 :: v1 :: v0 :: .ref a :: rest) := o_callV B W hd w1 w2 w5 w6 w3 w4 hy pd (as := [v0, v1, v2, v3]) hlen hW hf hl hc hs hLs E C K
theorem o_callS5 (B : o_Bo κ l Z n0 R y bytes ml ret) {yc : MethodName} {bc : ByteArray} {mc : Nat} {rc : Option FieldType} {rm : Room} {v0 v1 v2 v3 v4 : Value} {rest : List Value} {Qc : Option Value → Heap → Prop} {idx : Nat} (W : Nat) (hd : decode bytes pc = .ok (.invokestatic idx, 3)) (w1 : (Cond.methodLink y.cls idx yc).before a0 Z = true) (w2 : (Cond.static yc).before a0 Z = true) (w3 : (Cond.initialized yc.cls).before a0 Z = true) (w4 : (Cond.code yc bc mc rc).before a0 Z = true) (hy : yc.cls ≠ "java/lang/invoke/MethodHandle" ∧ yc.cls ≠ "java/lang/invoke/VarHandle") {ps : List FieldType} {r0 : Option FieldType} (pd : parseMethodDescriptor yc.desc = some ⟨ps, r0⟩) (hlen : 5 = ps.length) (hW : (rest.map fun v => v.category).sum ≤ W) (hf : rm.frames + 1 ≤ R.frames) (hl : W + (mc + 11) + rm.locals ≤ R.locals) (hc : k + rm.cells ≤ R.cells) (hs : n + rm.slots ≤ R.slots) (hLs : Ls.length = ml) (C : o_C l Z n0 yc bc mc rc rm [v0, v1, v2, v3, v4] h Qc) (K : ∀ v h', Qc v h' → o_Go κ Q h' (k + rm.cells) (n + rm.slots) (pc + 3) Ls (v.toList ++ rest)) : o_Go κ Q h k n pc Ls (v4 :: v3 :: v2 :: v1 :: v0 :: rest) := o_callS B W hd w1 w2 w3 w4 hy pd (as := [v0, v1, v2, v3, v4]) hlen hW hf hl hc hs hLs C K
theorem o_callN5 (B : o_Bo κ l Z n0 R y bytes ml ret) {yc : MethodName} {bc : ByteArray} {mc : Nat} {rm : Room} {v0 v1 v2 v3 v4 : Value} {rest : List Value} {a : Addr} {Qc : Option Value → Heap → Prop} {idx : Nat} (W : Nat) (hd : decode bytes pc = .ok (.invokespecial idx, 3)) (hin : yc.name = "<init>") (w1 : (Cond.methodLink y.cls idx yc).before a0 Z = true) (w2 : (Cond.instanceMethod yc).before a0 Z = true) (w3 : (Cond.initialized yc.cls).before a0 Z = true) (w4 : (Cond.code yc bc mc none).before a0 Z = true) (hy : yc.cls ≠ "java/lang/invoke/MethodHandle" ∧ yc.cls ≠ "java/lang/invoke/VarHandle") {ps : List FieldType} {r0 : Option FieldType} (pd : parseMethodDescriptor yc.desc = some ⟨ps, r0⟩) (hlen : 5 = ps.length) (hW : (rest.map fun v => v.category).sum ≤ W) (hf : rm.frames + 1 ≤ R.frames) (hl : W + (mc + 11) + rm.locals ≤ R.locals) (hc : k + rm.cells ≤ R.cells) (hs : n + rm.slots ≤ R.slots) (hLs : Ls.length = ml) (C : o_C l Z n0 yc bc mc none rm (.ref a :: [v0, v1, v2, v3, v4]) h Qc) (K : ∀ v h', Qc v h' → o_Go κ Q h' (k + rm.cells) (n + rm.slots) (pc + 3) Ls (v.toList ++ rest)) : o_Go κ Q h k n pc Ls (v4 :: v3 :: v2 :: v1 :: v0 :: .ref a :: rest) := o_callN B W hd hin w1 w2 w3 w4 hy pd (as := [v0, v1, v2, v3, v4]) hlen hW hf hl hc hs hLs C K
theorem o_callV5 (B : o_Bo κ l Z n0 R y bytes ml ret) {yc : MethodName} {Cn : String} {bc : ByteArray} {mc : Nat} {rc : Option FieldType} {rm : Room} {v0 v1 v2 v3 v4 : Value} {rest : List Value} {a : Addr} {Qc : Option Value → Heap → Prop} {idx : Nat} (W : Nat) (hd : decode bytes pc = .ok (.invokevirtual idx, 3)) (w1 : (Cond.methodLink y.cls idx yc).before a0 Z = true) (w2 : (Cond.declares yc).before a0 Z = true) (w5 : (Cond.selects Cn yc yc).before a0 Z = true) (w6 : (Cond.instanceMethod yc).before a0 Z = true) (w3 : (Cond.initialized yc.cls).before a0 Z = true) (w4 : (Cond.code yc bc mc rc).before a0 Z = true) (hy : yc.cls ≠ "java/lang/invoke/MethodHandle" ∧ yc.cls ≠ "java/lang/invoke/VarHandle") {ps : List FieldType} {r0 : Option FieldType} (pd : parseMethodDescriptor yc.desc = some ⟨ps, r0⟩) (hlen : 5 = ps.length) (hW : (rest.map fun v => v.category).sum ≤ W) (hf : rm.frames + 1 ≤ R.frames) (hl : W + (mc + 11) + rm.locals ≤ R.locals) (hc : k + rm.cells ≤ R.cells) (hs : n + rm.slots ≤ R.slots) (hLs : Ls.length = ml) (E : Exa Z h a Cn) (C : o_C l Z n0 yc bc mc rc rm (.ref a :: [v0, v1, v2, v3, v4]) h Qc) (K : ∀ v h', Qc v h' → o_Go κ Q h' (k + rm.cells) (n + rm.slots) (pc + 3) Ls (v.toList ++ rest)) : o_Go κ Q h k n pc Ls (v4 :: v3 :: v2 :: v1 :: v0 :: .ref a :: rest) := o_callV B W hd w1 w2 w5 w6 w3 w4 hy pd (as := [v0, v1, v2, v3, v4]) hlen hW hf hl hc hs hLs E C K
theorem o_callS6 (B : o_Bo κ l Z n0 R y bytes ml ret) {yc : MethodName} {bc : ByteArray} {mc : Nat} {rc : Option FieldType} {rm : Room} {v0 v1 v2 v3 v4 v5 : Value} {rest : List Value} {Qc : Option Value → Heap → Prop} {idx : Nat} (W : Nat) (hd : decode bytes pc = .ok (.invokestatic idx, 3)) (w1 : (Cond.methodLink y.cls idx yc).before a0 Z = true) (w2 : (Cond.static yc).before a0 Z = true) (w3 : (Cond.initialized yc.cls).before a0 Z = true) (w4 : (Cond.code yc bc mc rc).before a0 Z = true) (hy : yc.cls ≠ "java/lang/invoke/MethodHandle" ∧ yc.cls ≠ "java/lang/invoke/VarHandle") {ps : List FieldType} {r0 : Option FieldType} (pd : parseMethodDescriptor yc.desc = some ⟨ps, r0⟩) (hlen : 6 = ps.length) (hW : (rest.map fun v => v.category).sum ≤ W) (hf : rm.frames + 1 ≤ R.frames) (hl : W + (mc + 11) + rm.locals ≤ R.locals) (hc : k + rm.cells ≤ R.cells) (hs : n + rm.slots ≤ R.slots) (hLs : Ls.length = ml) (C : o_C l Z n0 yc bc mc rc rm [v0, v1, v2, v3, v4, v5] h Qc) (K : ∀ v h', Qc v h' → o_Go κ Q h' (k + rm.cells) (n + rm.slots) (pc + 3) Ls (v.toList ++ rest)) : o_Go κ Q h k n pc Ls (v5 :: v4 :: v3 :: v2 :: v1 :: v0 :: rest) := o_callS B W hd w1 w2 w3 w4 hy pd (as := [v0, v1, v2, v3, v4, v5]) hlen hW hf hl hc hs hLs C K
theorem o_callN6 (B : o_Bo κ l Z n0 R y bytes ml ret) {yc : MethodName} {bc : ByteArray} {mc : Nat} {rm : Room} {v0 v1 v2 v3 v4 v5 : Value} {rest : List Value} {a : Addr} {Qc : Option Value → Heap → Prop} {idx : Nat} (W : Nat) (hd : decode bytes pc = .ok (.invokespecial idx, 3)) (hin : yc.name = "<init>") (w1 : (Cond.methodLink y.cls idx yc).before a0 Z = true) (w2 : (Cond.instanceMethod yc).before a0 Z = true) (w3 : (Cond.initialized yc.cls).before a0 Z = true) (w4 : (Cond.code yc bc mc none).before a0 Z = true) (hy : yc.cls ≠ "java/lang/invoke/MethodHandle" ∧ yc.cls ≠ "java/lang/invoke/VarHandle") {ps : List FieldType} {r0 : Option FieldType} (pd : parseMethodDescriptor yc.desc = some ⟨ps, r0⟩) (hlen : 6 = ps.length) (hW : (rest.map fun v => v.category).sum ≤ W) (hf : rm.frames + 1 ≤ R.frames) (hl : W + (mc + 11) + rm.locals ≤ R.locals) (hc : k + rm.cells ≤ R.cells) (hs : n + rm.slots ≤ R.slots) (hLs : Ls.length = ml) (C : o_C l Z n0 yc bc mc none rm (.ref a :: [v0, v1, v2, v3, v4, v5]) h Qc) (K : ∀ v h', Qc v h' → o_Go κ Q h' (k + rm.cells) (n + rm.slots) (pc + 3) Ls (v.toList ++ rest)) : o_Go κ Q h k n pc Ls (v5 :: v4 :: v3 :: v2 :: v1 :: v0 :: .ref a :: rest) := o_callN B W hd hin w1 w2 w3 w4 hy pd (as := [v0, v1, v2, v3, v4, v5]) hlen hW hf hl hc hs hLs C K
theorem o_callV6 (B : o_Bo κ l Z n0 R y bytes ml ret) {yc : MethodName} {Cn : String} {bc : ByteArray} {mc : Nat} {rc : Option FieldType} {rm : Room} {v0 v1 v2 v3 v4 v5 : Value} {rest : List Value} {a : Addr} {Qc : Option Value → Heap → Prop} {idx : Nat} (W : Nat) (hd : decode bytes pc = .ok (.invokevirtual idx, 3)) (w1 : (Cond.methodLink y.cls idx yc).before a0 Z = true) (w2 : (Cond.declares yc).before a0 Z = true) (w5 : (Cond.selects Cn yc yc).before a0 Z = true) (w6 : (Cond.instanceMethod yc).before a0 Z = true) (w3 : (Cond.initialized yc.cls).before a0 Z = true) (w4 : (Cond.code yc bc mc rc).before a0 Z = true) (hy : yc.cls ≠ "java/lang/invoke/MethodHandle" ∧ yc.cls ≠ "java/lang/invoke/VarHandle") {ps : List FieldType} {r0 : Option FieldType} (pd : parseMethodDescriptor yc.desc = some ⟨ps, r0⟩) (hlen : 6 = ps.length) (hW : (rest.map fun v => v.category).sum ≤ W) (hf : rm.frames + 1 ≤ R.frames) (hl : W + (mc + 11) + rm.locals ≤ R.locals) (hc : k + rm.cells ≤ R.cells) (hs : n + rm.slots ≤ R.slots) (hLs : Ls.length = ml) (E : Exa Z h a Cn) (C : o_C l Z n0 yc bc mc rc rm (.ref a :: [v0, v1, v2, v3, v4, v5]) h Qc) (K : ∀ v h', Qc v h' → o_Go κ Q h' (k + rm.cells) (n + rm.slots) (pc + 3) Ls (v.toList ++ rest)) : o_Go κ Q h k n pc Ls (v5 :: v4 :: v3 :: v2 :: v1 :: v0 :: .ref a :: rest) := o_callV B W hd w1 w2 w5 w6 w3 w4 hy pd (as := [v0, v1, v2, v3, v4, v5]) hlen hW hf hl hc hs hLs E C K
theorem o_callS7 (B : o_Bo κ l Z n0 R y bytes ml ret) {yc : MethodName} {bc : ByteArray} {mc : Nat} {rc : Option FieldType} {rm : Room} {v0 v1 v2 v3 v4 v5 v6 : Value} {rest : List Value} {Qc : Option Value → Heap → Prop} {idx : Nat} (W : Nat) (hd : decode bytes pc = .ok (.invokestatic idx, 3)) (w1 : (Cond.methodLink y.cls idx yc).before a0 Z = true) (w2 : (Cond.static yc).before a0 Z = true) (w3 : (Cond.initialized yc.cls).before a0 Z = true) (w4 : (Cond.code yc bc mc rc).before a0 Z = true) (hy : yc.cls ≠ "java/lang/invoke/MethodHandle" ∧ yc.cls ≠ "java/lang/invoke/VarHandle") {ps : List FieldType} {r0 : Option FieldType} (pd : parseMethodDescriptor yc.desc = some ⟨ps, r0⟩) (hlen : 7 = ps.length) (hW : (rest.map fun v => v.category).sum ≤ W) (hf : rm.frames + 1 ≤ R.frames) (hl : W + (mc + 11) + rm.locals ≤ R.locals) (hc : k + rm.cells ≤ R.cells) (hs : n + rm.slots ≤ R.slots) (hLs : Ls.length = ml) (C : o_C l Z n0 yc bc mc rc rm [v0, v1, v2, v3, v4, v5, v6] h Qc) (K : ∀ v h', Qc v h' → o_Go κ Q h' (k + rm.cells) (n + rm.slots) (pc + 3) Ls (v.toList ++ rest)) : o_Go κ Q h k n pc Ls (v6 :: v5 :: v4 :: v3 :: v2 :: v1 :: v0 :: rest) := o_callS B W hd w1 w2 w3 w4 hy pd (as := [v0, v1, v2, v3, v4, v5, v6]) hlen hW hf hl hc hs hLs C K
theorem o_callN7 (B : o_Bo κ l Z n0 R y bytes ml ret) {yc : MethodName} {bc : ByteArray} {mc : Nat} {rm : Room} {v0 v1 v2 v3 v4 v5 v6 : Value} {rest : List Value} {a : Addr} {Qc : Option Value → Heap → Prop} {idx : Nat} (W : Nat) (hd : decode bytes pc = .ok (.invokespecial idx, 3)) (hin : yc.name = "<init>") (w1 : (Cond.methodLink y.cls idx yc).before a0 Z = true) (w2 : (Cond.instanceMethod yc).before a0 Z = true) (w3 : (Cond.initialized yc.cls).before a0 Z = true) (w4 : (Cond.code yc bc mc none).before a0 Z = true) (hy : yc.cls ≠ "java/lang/invoke/MethodHandle" ∧ yc.cls ≠ "java/lang/invoke/VarHandle") {ps : List FieldType} {r0 : Option FieldType} (pd : parseMethodDescriptor yc.desc = some ⟨ps, r0⟩) (hlen : 7 = ps.length) (hW : (rest.map fun v => v.category).sum ≤ W) (hf : rm.frames + 1 ≤ R.frames) (hl : W + (mc + 11) + rm.locals ≤ R.locals) (hc : k + rm.cells ≤ R.cells) (hs : n + rm.slots ≤ R.slots) (hLs : Ls.length = ml) (C : o_C l Z n0 yc bc mc none rm (.ref a :: [v0, v1, v2, v3, v4, v5, v6]) h Qc) (K : ∀ v h', Qc v h' → o_Go κ Q h' (k + rm.cells) (n + rm.slots) (pc + 3) Ls (v.toList ++ rest)) : o_Go κ Q h k n pc Ls (v6 :: v5 :: v4 :: v3 :: v2 :: v1 :: v0 :: .ref a :: rest) := o_callN B W hd hin w1 w2 w3 w4 hy pd (as := [v0, v1, v2, v3, v4, v5, v6]) hlen hW hf hl hc hs hLs C K
theorem o_callV7 (B : o_Bo κ l Z n0 R y bytes ml ret) {yc : MethodName} {Cn : String} {bc : ByteArray} {mc : Nat} {rc : Option FieldType} {rm : Room} {v0 v1 v2 v3 v4 v5 v6 : Value} {rest : List Value} {a : Addr} {Qc : Option Value → Heap → Prop} {idx : Nat} (W : Nat) (hd : decode bytes pc = .ok (.invokevirtual idx, 3)) (w1 : (Cond.methodLink y.cls idx yc).before a0 Z = true) (w2 : (Cond.declares yc).before a0 Z = true) (w5 : (Cond.selects Cn yc yc).before a0 Z = true) (w6 : (Cond.instanceMethod yc).before a0 Z = true) (w3 : (Cond.initialized yc.cls).before a0 Z = true) (w4 : (Cond.code yc bc mc rc).before a0 Z = true) (hy : yc.cls ≠ "java/lang/invoke/MethodHandle" ∧ yc.cls ≠ "java/lang/invoke/VarHandle") {ps : List FieldType} {r0 : Option FieldType} (pd : parseMethodDescriptor yc.desc = some ⟨ps, r0⟩) (hlen : 7 = ps.length) (hW : (rest.map fun v => v.category).sum ≤ W) (hf : rm.frames + 1 ≤ R.frames) (hl : W + (mc + 11) + rm.locals ≤ R.locals) (hc : k + rm.cells ≤ R.cells) (hs : n + rm.slots ≤ R.slots) (hLs : Ls.length = ml) (E : Exa Z h a Cn) (C : o_C l Z n0 yc bc mc rc rm (.ref a :: [v0, v1, v2, v3, v4, v5, v6]) h Qc) (K : ∀ v h', Qc v h' → o_Go κ Q h' (k + rm.cells) (n + rm.slots) (pc + 3) Ls (v.toList ++ rest)) : o_Go κ Q h k n pc Ls (v6 :: v5 :: v4 :: v3 :: v2 :: v1 :: v0 :: .ref a :: rest) := o_callV B W hd w1 w2 w5 w6 w3 w4 hy pd (as := [v0, v1, v2, v3, v4, v5, v6]) hlen hW hf hl hc hs hLs E C K
theorem o_cast (B : o_Bo κ l Z n0 R y bytes ml ret) {Kc : String} {idx : Nat} {a : Addr} (hd : decode bytes pc = .ok (.checkcast idx, 3)) (w : (Cond.classLink y.cls idx Kc).before a0 Z = true) (F : Ins Z h a Kc true) (K : o_Go κ Q h k n (pc + 3) Ls (.ref a :: St)) : o_Go κ Q h k n pc Ls (.ref a :: St) := by
  obtain ⟨p, e, s, m, args, below, meth, c, rfl, hx, hZ, hby, hml, hown, hret, hlk, hnm⟩ := B
  intro T locs vm0 k0 X S0 hk0 hZ0 N eT
  have hown : (s.setVm vm0).vm.findClass y.cls = some m.cls := by rw [show (s.setVm vm0).vm = vm0 from rfl, hZ0.alike.findClass, ← hZ.alike.findClass]; exact hown
  have hZ : Z.Warmed39 (s.setVm vm0).vm := hZ0
  obtain ⟨T', X', e', st'⟩ := castY X hx hZ hown w eT F (g := mkF m pc Ls.toArray (.ref a :: St)) rfl rfl (hb hby hd)
  obtain ⟨s₂, o, st, r⟩ := K T' locs vm0 k0 X' S0 hk0 hZ0 N e'
  exact ⟨s₂, o, st' _ st, r⟩
theorem o_ldcS (B : o_Bo κ l Z n0 R y bytes ml ret) {text : String} {idx : Nat} (nn : Nat) (hd : decode bytes pc = .ok (.ldc idx, 2)) (w : (Cond.stringLink y.cls idx text).before a0 Z = true) (wS : ∀ a ∈ Bundle.stringAtoms, a.before a0 Z = true) (hn : 4 * text.toList.length ≤ nn) (hbig : nn ≤ 536870912) (hc : k + 2 ≤ R.cells) (hl : n + (nn + 4) ≤ R.slots)
    (K : ∀ (a : Addr) h', Ext h h' → o_Go κ Q h' (k + 2) (n + (nn + 4)) (pc + 2) Ls (.ref a :: St)) : o_Go κ Q h k n pc Ls St := by
  obtain ⟨p, e, s, m, args, below, meth, c, rfl, hx, hZ, hby, hml, hown, hret, hlk, hnm⟩ := B
  intro T locs vm0 k0 X S0 hk0 hZ0 N eT
  have hown : vm0.findClass y.cls = some m.cls := by rw [hZ0.alike.findClass, ← hZ.alike.findClass]; exact hown
  obtain ⟨a, T', h', k1, X', e', E, S1, hk1, hZ1, -, st'⟩ := ldcS X hx hZ0 hown w wS eT S0 hk0 (g := mkF m pc Ls.toArray St) rfl (hb hby hd) (n := nn) hn hbig hc hl
  obtain ⟨s₂, o, st, r⟩ := K a h' E T' _ T'.vm k1 X' S1 hk1 hZ1 N e'
  exact ⟨s₂, o, st' _ st, r⟩
end Fw
section Pats
variable {κ : o_K} {l : Launch} {Z : State} {n0 : Nat} {R : Room} {y : MethodName} {bytes : ByteArray} {ml : Nat} {ret : Option FieldType} {Q : Option Value → Heap → Prop} {h : Heap} {k n pc : Nat} {St : List Value}
theorem o_astoreN_2_1 (B : o_Bo κ l Z n0 R y bytes ml ret) {s0 s1 : Slot} {v : Value} (hd : decode bytes pc = .ok (.astore_n 1, 1)) (hv : v.isRef = true) (ho : o_ok1 s1 = true) (K : o_Go κ Q h k n (pc + 1) [s0, .val v] St) : o_Go κ Q h k n pc [s0, s1] (v :: St) := o_astoreN B hd hv rfl ho K
theorem o_astore_14_4 (B : o_Bo κ l Z n0 R y bytes ml ret) {s0 s1 s2 s3 s4 s5 s6 s7 s8 s9 s10 s11 s12 s13 : Slot} {v : Value} (hd : decode bytes pc = .ok (.astore 4, 2)) (hv : v.isRef = true) (ho : o_ok1 s4 = true) (K : o_Go κ Q h k n (pc + 2) [s0, s1, s2, s3, .val v, s5, s6, s7, s8, s9, s10, s11, s12, s13] St) : o_Go κ Q h k n pc [s0, s1, s2, s3, s4, s5, s6, s7, s8, s9, s10, s11, s12, s13] (v :: St) := o_astore B hd hv rfl ho K
theorem o_astore_14_5 (B : o_Bo κ l Z n0 R y bytes ml ret) {s0 s1 s2 s3 s4 s5 s6 s7 s8 s9 s10 s11 s12 s13 : Slot} {v : Value} (hd : decode bytes pc = .ok (.astore 5, 2)) (hv : v.isRef = true) (ho : o_ok1 s5 = true) (K : o_Go κ Q h k n (pc + 2) [s0, s1, s2, s3, s4, .val v, s6, s7, s8, s9, s10, s11, s12, s13] St) : o_Go κ Q h k n pc [s0, s1, s2, s3, s4, s5, s6, s7, s8, s9, s10, s11, s12, s13] (v :: St) := o_astore B hd hv rfl ho K
theorem o_astore_14_6 (B : o_Bo κ l Z n0 R y bytes ml ret) {s0 s1 s2 s3 s4 s5 s6 s7 s8 s9 s10 s11 s12 s13 : Slot} {v : Value} (hd : decode bytes pc = .ok (.astore 6, 2)) (hv : v.isRef = true) (ho : o_ok1 s6 = true) (K : o_Go κ Q h k n (pc + 2) [s0, s1, s2, s3, s4, s5, .val v, s7, s8, s9, s10, s11, s12, s13] St) : o_Go κ Q h k n pc [s0, s1, s2, s3, s4, s5, s6, s7, s8, s9, s10, s11, s12, s13] (v :: St) := o_astore B hd hv rfl ho K
theorem o_astore_14_7 (B : o_Bo κ l Z n0 R y bytes ml ret) {s0 s1 s2 s3 s4 s5 s6 s7 s8 s9 s10 s11 s12 s13 : Slot} {v : Value} (hd : decode bytes pc = .ok (.astore 7, 2)) (hv : v.isRef = true) (ho : o_ok1 s7 = true) (K : o_Go κ Q h k n (pc + 2) [s0, s1, s2, s3, s4, s5, s6, .val v, s8, s9, s10, s11, s12, s13] St) : o_Go κ Q h k n pc [s0, s1, s2, s3, s4, s5, s6, s7, s8, s9, s10, s11, s12, s13] (v :: St) := o_astore B hd hv rfl ho K
theorem o_astore_14_8 (B : o_Bo κ l Z n0 R y bytes ml ret) {s0 s1 s2 s3 s4 s5 s6 s7 s8 s9 s10 s11 s12 s13 : Slot} {v : Value} (hd : decode bytes pc = .ok (.astore 8, 2)) (hv : v.isRef = true) (ho : o_ok1 s8 = true) (K : o_Go κ Q h k n (pc + 2) [s0, s1, s2, s3, s4, s5, s6, s7, .val v, s9, s10, s11, s12, s13] St) : o_Go κ Q h k n pc [s0, s1, s2, s3, s4, s5, s6, s7, s8, s9, s10, s11, s12, s13] (v :: St) := o_astore B hd hv rfl ho K
theorem o_astore_14_9 (B : o_Bo κ l Z n0 R y bytes ml ret) {s0 s1 s2 s3 s4 s5 s6 s7 s8 s9 s10 s11 s12 s13 : Slot} {v : Value} (hd : decode bytes pc = .ok (.astore 9, 2)) (hv : v.isRef = true) (ho : o_ok1 s9 = true) (K : o_Go κ Q h k n (pc + 2) [s0, s1, s2, s3, s4, s5, s6, s7, s8, .val v, s10, s11, s12, s13] St) : o_Go κ Q h k n pc [s0, s1, s2, s3, s4, s5, s6, s7, s8, s9, s10, s11, s12, s13] (v :: St) := o_astore B hd hv rfl ho K
theorem o_astore_14_10 (B : o_Bo κ l Z n0 R y bytes ml ret) {s0 s1 s2 s3 s4 s5 s6 s7 s8 s9 s10 s11 s12 s13 : Slot} {v : Value} (hd : decode bytes pc = .ok (.astore 10, 2)) (hv : v.isRef = true) (ho : o_ok1 s10 = true) (K : o_Go κ Q h k n (pc + 2) [s0, s1, s2, s3, s4, s5, s6, s7, s8, s9, .val v, s11, s12, s13] St) : o_Go κ Q h k n pc [s0, s1, s2, s3, s4, s5, s6, s7, s8, s9, s10, s11, s12, s13] (v :: St) := o_astore B hd hv rfl ho K
theorem o_astore_14_11 (B : o_Bo κ l Z n0 R y bytes ml ret) {s0 s1 s2 s3 s4 s5 s6 s7 s8 s9 s10 s11 s12 s13 : Slot} {v : Value} (hd : decode bytes pc = .ok (.astore 11, 2)) (hv : v.isRef = true) (ho : o_ok1 s11 = true) (K : o_Go κ Q h k n (pc + 2) [s0, s1, s2, s3, s4, s5, s6, s7, s8, s9, s10, .val v, s12, s13] St) : o_Go κ Q h k n pc [s0, s1, s2, s3, s4, s5, s6, s7, s8, s9, s10, s11, s12, s13] (v :: St) := o_astore B hd hv rfl ho K
theorem o_astore_14_12 (B : o_Bo κ l Z n0 R y bytes ml ret) {s0 s1 s2 s3 s4 s5 s6 s7 s8 s9 s10 s11 s12 s13 : Slot} {v : Value} (hd : decode bytes pc = .ok (.astore 12, 2)) (hv : v.isRef = true) (ho : o_ok1 s12 = true) (K : o_Go κ Q h k n (pc + 2) [s0, s1, s2, s3, s4, s5, s6, s7, s8, s9, s10, s11, .val v, s13] St) : o_Go κ Q h k n pc [s0, s1, s2, s3, s4, s5, s6, s7, s8, s9, s10, s11, s12, s13] (v :: St) := o_astore B hd hv rfl ho K
theorem o_astore_14_13 (B : o_Bo κ l Z n0 R y bytes ml ret) {s0 s1 s2 s3 s4 s5 s6 s7 s8 s9 s10 s11 s12 s13 : Slot} {v : Value} (hd : decode bytes pc = .ok (.astore 13, 2)) (hv : v.isRef = true) (ho : o_ok1 s13 = true) (K : o_Go κ Q h k n (pc + 2) [s0, s1, s2, s3, s4, s5, s6, s7, s8, s9, s10, s11, s12, .val v] St) : o_Go κ Q h k n pc [s0, s1, s2, s3, s4, s5, s6, s7, s8, s9, s10, s11, s12, s13] (v :: St) := o_astore B hd hv rfl ho K
theorem o_istoreN_14_2 (B : o_Bo κ l Z n0 R y bytes ml ret) {s0 s1 s2 s3 s4 s5 s6 s7 s8 s9 s10 s11 s12 s13 : Slot} {x : Int32} (hd : decode bytes pc = .ok (.istore_n 2, 1)) (ho : o_ok1 s2 = true) (K : o_Go κ Q h k n (pc + 1) [s0, s1, .val (.int x), s3, s4, s5, s6, s7, s8, s9, s10, s11, s12, s13] St) : o_Go κ Q h k n pc [s0, s1, s2, s3, s4, s5, s6, s7, s8, s9, s10, s11, s12, s13] (.int x :: St) := o_istoreN B hd rfl ho K
theorem o_istoreN_14_3 (B : o_Bo κ l Z n0 R y bytes ml ret) {s0 s1 s2 s3 s4 s5 s6 s7 s8 s9 s10 s11 s12 s13 : Slot} {x : Int32} (hd : decode bytes pc = .ok (.istore_n 3, 1)) (ho : o_ok1 s3 = true) (K : o_Go κ Q h k n (pc + 1) [s0, s1, s2, .val (.int x), s4, s5, s6, s7, s8, s9, s10, s11, s12, s13] St) : o_Go κ Q h k n pc [s0, s1, s2, s3, s4, s5, s6, s7, s8, s9, s10, s11, s12, s13] (.int x :: St) := o_istoreN B hd rfl ho K
end Pats
theorem own_i32n (a : Nat) (h : a < 2 ^ 32) : (Int32.ofNat a).toBitVec.toNat = a := by
  show (BitVec.ofNat 32 a).toNat = a
  rw [BitVec.toNat_ofNat]; exact Nat.mod_eq_of_lt h
theorem own_i64n (a : Nat) (h : a < 2 ^ 64) : (Int64.ofNat a).toBitVec.toNat = a := by
  show (BitVec.ofNat 64 a).toNat = a
  rw [BitVec.toNat_ofNat]; exact Nat.mod_eq_of_lt h
theorem own_pow {j : Nat} (hj : j ≤ 30) : 2 ^ j ≤ 2 ^ 30 ∧ 0 < 2 ^ j := ⟨Nat.pow_le_pow_right (by decide) hj, Nat.two_pow_pos j⟩
theorem own_and (x : Int32) {j : Nat} (hj : j ≤ 30) : x &&& Int32.ofNat (2 ^ j - 1) = Int32.ofNat (x.toBitVec.toNat % 2 ^ j) := by
  obtain ⟨p1, p2⟩ := own_pow hj
  have m := Nat.mod_lt x.toBitVec.toNat p2
  apply Int32.toBitVec_inj.mp; apply BitVec.eq_of_toNat_eq
  rw [Int32.toBitVec_and, BitVec.toNat_and, own_i32n _ (by omega), own_i32n _ (by omega), Nat.and_two_pow_sub_one_eq_mod]
theorem own_andL (x : Int64) {j : Nat} (hj : j ≤ 30) : x &&& Int64.ofNat (2 ^ j - 1) = Int64.ofNat (x.toBitVec.toNat % 2 ^ j) := by
  obtain ⟨p1, p2⟩ := own_pow hj
  have m := Nat.mod_lt x.toBitVec.toNat p2
  apply Int64.toBitVec_inj.mp; apply BitVec.eq_of_toNat_eq
  rw [Int64.toBitVec_and, BitVec.toNat_and, own_i64n _ (by omega), own_i64n _ (by omega), Nat.and_two_pow_sub_one_eq_mod]
theorem own_sub1 {j : Nat} (hj : j ≤ 30) : Int32.ofNat (2 ^ j) - 1 = Int32.ofNat (2 ^ j - 1) := by
  obtain ⟨p1, p2⟩ := own_pow hj
  have e : 2 ^ j = (2 ^ j - 1) + 1 := by omega
  have e2 : Int32.ofNat (2 ^ j) = Int32.ofNat (2 ^ j - 1) + 1 := by
    rw [show (1 : Int32) = Int32.ofNat 1 from rfl, ← Int32.ofNat_add, ← e]
  rw [e2, Int32.add_sub_cancel]
theorem own_toInt {a : Nat} (h : a < 2 ^ 31) : (Int32.ofNat a).toInt = a := Int32.toInt_ofNat_of_lt h
theorem own_one (x : Nat) : Int32.ofNat x + 1 = Int32.ofNat (x + 1) := (Int32.ofNat_add x 1).symm
theorem own_step {x j : Nat} (hj : j ≤ 30) (hx : x < 2 ^ j) : (Int32.ofNat x + 1) &&& Int32.ofNat (2 ^ j - 1) = Int32.ofNat ((x + 1) % 2 ^ j) := by
  obtain ⟨p1, p2⟩ := own_pow hj
  rw [own_one, own_and _ hj, own_i32n _ (by omega)]
theorem own_wide {a : Nat} (h : a < 2 ^ 31) : (Int32.ofNat a).toInt64 = Int64.ofNat a := by
  apply Int64.toInt_inj.mp
  rw [Int32.toInt_toInt64, own_toInt h, Int64.toInt_ofNat_of_lt (by omega)]
theorem own_narrow {a : Nat} (h : a < 2 ^ 31) : (Int64.ofNat a).toInt32 = Int32.ofNat a := by
  apply Int32.toBitVec_inj.mp; apply BitVec.eq_of_toNat_eq
  show ((Int64.ofNat a).toBitVec.signExtend 32).toNat = _
  rw [BitVec.signExtend_eq_setWidth_of_le _ (by decide), BitVec.toNat_setWidth, own_i64n _ (by omega), own_i32n _ (by omega)]
  exact Nat.mod_eq_of_lt (by omega)
theorem own_s1 (key : Int64) {j : Nat} (hj : j ≤ 30) : (key &&& (Int32.ofNat (2 ^ j - 1)).toInt64).toInt32 = Int32.ofNat (key.toBitVec.toNat % 2 ^ j) := by
  obtain ⟨p1, p2⟩ := own_pow hj
  have m := Nat.mod_lt key.toBitVec.toNat p2
  rw [own_wide (by omega), own_andL _ hj, own_narrow (by omega)]
theorem own_s2 (key : Int64) {j : Nat} (hj : j ≤ 30) : key.toInt32 &&& Int32.ofNat (2 ^ j - 1) = Int32.ofNat (key.toBitVec.toNat % 2 ^ j) := by
  rw [own_and _ hj]
  have e : key.toInt32.toBitVec.toNat = key.toBitVec.toNat % 2 ^ 32 := by
    show (key.toBitVec.signExtend 32).toNat = _
    rw [BitVec.signExtend_eq_setWidth_of_le _ (by decide), BitVec.toNat_setWidth]
  rw [e, Nat.mod_mod_of_dvd _ (Nat.pow_dvd_pow 2 (by omega : j ≤ 32))]
theorem own_rem {a b : Nat} (ha : a < 2 ^ 31) (hb : b < 2 ^ 31) : Int32.ofNat a % Int32.ofNat b = Int32.ofNat (a % b) := by
  have hm : a % b ≤ a := Nat.mod_le a b
  apply Int32.toInt_inj.mp
  rw [Int32.toInt_mod, own_toInt ha, own_toInt hb, own_toInt (by omega)]
  exact (Int.ofNat_tmod a b).symm
theorem own_ne0 {a : Nat} (h0 : 0 < a) (ha : a < 2 ^ 31) : Int32.ofNat a ≠ 0 := fun q => by
  have := congrArg Int32.toInt q
  rw [own_toInt ha] at this
  have z : (0 : Int32).toInt = 0 := rfl
  omega
theorem own_nn {a : Nat} (ha : a < 2 ^ 31) : ¬ Int32.ofNat a < 0 := by
  rw [Int32.lt_iff_toInt_lt, own_toInt ha]
  have z : (0 : Int32).toInt = 0 := rfl
  omega
theorem own_ltn {a b : Nat} (ha : a < 2 ^ 31) (hb : b < 2 ^ 31) : Int32.ofNat a < Int32.ofNat b ↔ a < b := by
  rw [Int32.lt_iff_toInt_lt, own_toInt ha, own_toInt hb]; omega
theorem own_inj {a b : Nat} (ha : a < 2 ^ 31) (hb : b < 2 ^ 31) : Int32.ofNat a = Int32.ofNat b ↔ a = b := by
  rw [← Int32.toInt_inj, own_toInt ha, own_toInt hb]; omega
theorem own_least {p : Nat → Prop} (hd : ∀ d, p d ∨ ¬ p d) : ∀ n, (∃ d, d < n ∧ p d) → ∃ d0, d0 < n ∧ p d0 ∧ ∀ d, d < d0 → ¬ p d
  | 0, ⟨d, h, _⟩ => absurd h (Nat.not_lt_zero d)
  | n + 1, ⟨d, h, q⟩ => by
    by_cases e : ∃ d, d < n ∧ p d
    · obtain ⟨d0, h1, h2, h3⟩ := own_least hd n e
      exact ⟨d0, by omega, h2, h3⟩
    · have hdn : d = n := by
        have : ¬ d < n := fun x => e ⟨d, x, q⟩
        omega
      subst hdn
      exact ⟨d, by omega, q, fun x hx px => e ⟨x, hx, px⟩⟩
abbrev own_CQ : String := "com/example/trailhead/trailhead/core/ConstraintQueue"
abbrev own_PL : String := "com/example/trailhead/trailhead/core/ConstraintQueuePollPinLaw"
abbrev own_CO : String := "com/example/trailhead/trailhead/core/Constraint"
abbrev own_PR : String := "com/example/trailhead/trailhead/core/Priority"
theorem own_wS {Z : State} {a0 : Array Value} (hw : ∀ d ∈ tables_1, d.before a0 Z = true) : ∀ a ∈ Bundle.stringAtoms, a.before a0 Z = true := fun d hd => by
  simp only [Bundle.stringAtoms, List.mem_cons, List.not_mem_nil, or_false] at hd
  rcases hd with rfl | rfl | rfl | rfl | rfl | rfl | rfl
  · exact (hw _ (List.mem_of_getElem? (i := 22) rfl))
  · exact (hw _ (List.mem_of_getElem? (i := 23) rfl))
  · exact (hw _ (List.mem_of_getElem? (i := 24) rfl))
  · exact (hw _ (List.mem_of_getElem? (i := 25) rfl))
  · exact (hw _ (List.mem_of_getElem? (i := 26) rfl))
  · exact (hw _ (List.mem_of_getElem? (i := 27) rfl))
  · exact (hw _ (List.mem_of_getElem? (i := 28) rfl))
/-- the queue at o, its ring at r -/
def own_Ob (Z : State) (n0 : Nat) (h : Heap) (o r : Addr) (hd sz : Nat) (L : List Value) : Prop :=
  n0 ≤ o ∧ n0 ≤ r ∧ o ≠ r ∧ Exa Z h o own_CQ ∧ Fld Z h o own_CQ "ring" "[Lcom/example/trailhead/trailhead/core/Constraint;" (.ref r) ∧ Fld Z h o own_CQ "head" "I" (.int (Int32.ofNat hd)) ∧ Fld Z h o own_CQ "size" "I" (.int (Int32.ofNat sz)) ∧ o_RR Z h r (.object own_CO) (fun k => Ovr Z k own_CO) L
section Ob
variable {Z : State} {a0 : Array Value} {n0 : Nat} {h h' : Heap} {o r : Addr} {hd sz x i : Nat} {L : List Value} {v : Value} {ws : List Addr}
theorem own_Ob.keep (O : own_Ob Z n0 h o r hd sz L) (K : Keep h h' ws) (q1 : o ∉ ws) (q2 : r ∉ ws) : own_Ob Z n0 h' o r hd sz L := by
  obtain ⟨g1, g2, n1, E, F1, F2, F3, A⟩ := O
  exact ⟨g1, g2, n1, E.keep K, F1.keep K q1, F2.keep K q1, F3.keep K q1, A.keep K q2⟩
theorem own_Ob.whd (hw : ∀ d ∈ tables_1, d.before a0 Z = true) (O : own_Ob Z n0 h o r hd sz L) (W : Wr h h' o (Jvm.RoadKit.slotOf Z own_CQ "head" "I") (.int (Int32.ofNat x))) : own_Ob Z n0 h' o r x sz L := by
  obtain ⟨g1, g2, n1, E, F1, F2, F3, A⟩ := O
  exact ⟨g1, g2, n1, E.wr W, F1.other W (Or.inr (slot_ne (C := own_CQ) (Or.inl (hw _ (List.mem_of_getElem? (i := 47) rfl))) (Or.inl (hw _ (List.mem_of_getElem? (i := 61) rfl))) (by decide) (by decide : parseFieldDescriptor "[Lcom/example/trailhead/trailhead/core/Constraint;" = some (.array (.object "com/example/trailhead/trailhead/core/Constraint"))) (by decide : parseFieldDescriptor "I" = some .int))), F2.same W, F3.other W (Or.inr (slot_ne (C := own_CQ) (Or.inl (hw _ (List.mem_of_getElem? (i := 54) rfl))) (Or.inl (hw _ (List.mem_of_getElem? (i := 61) rfl))) (by decide) (by decide : parseFieldDescriptor "I" = some .int) (by decide : parseFieldDescriptor "I" = some .int))), A.other W (Ne.symm n1)⟩
theorem own_Ob.wsz (hw : ∀ d ∈ tables_1, d.before a0 Z = true) (O : own_Ob Z n0 h o r hd sz L) (W : Wr h h' o (Jvm.RoadKit.slotOf Z own_CQ "size" "I") (.int (Int32.ofNat x))) : own_Ob Z n0 h' o r hd x L := by
  obtain ⟨g1, g2, n1, E, F1, F2, F3, A⟩ := O
  exact ⟨g1, g2, n1, E.wr W, F1.other W (Or.inr (slot_ne (C := own_CQ) (Or.inl (hw _ (List.mem_of_getElem? (i := 47) rfl))) (Or.inl (hw _ (List.mem_of_getElem? (i := 54) rfl))) (by decide) (by decide : parseFieldDescriptor "[Lcom/example/trailhead/trailhead/core/Constraint;" = some (.array (.object "com/example/trailhead/trailhead/core/Constraint"))) (by decide : parseFieldDescriptor "I" = some .int))), F2.other W (Or.inr (slot_ne (C := own_CQ) (Or.inl (hw _ (List.mem_of_getElem? (i := 61) rfl))) (Or.inl (hw _ (List.mem_of_getElem? (i := 54) rfl))) (by decide) (by decide : parseFieldDescriptor "I" = some .int) (by decide : parseFieldDescriptor "I" = some .int))), F3.same W, A.other W (Ne.symm n1)⟩
theorem own_Ob.wr (O : own_Ob Z n0 h o r hd sz L) (W : Wr h h' r i v) : own_Ob Z n0 h' o r hd sz (L.set i v) := by
  obtain ⟨g1, g2, n1, E, F1, F2, F3, A⟩ := O
  exact ⟨g1, g2, n1, E.wr W, F1.other W (Or.inl n1), F2.other W (Or.inl n1), F3.other W (Or.inl n1), A.same W⟩
theorem own_Ob.go (O : own_Ob Z n0 h o r hd sz L) : n0 ≤ o := O.1
theorem own_Ob.gr (O : own_Ob Z n0 h o r hd sz L) : n0 ≤ r := O.2.1
theorem own_Ob.ex (O : own_Ob Z n0 h o r hd sz L) : Exa Z h o own_CQ := O.2.2.2.1
theorem own_Ob.fr (O : own_Ob Z n0 h o r hd sz L) : Fld Z h o own_CQ "ring" "[Lcom/example/trailhead/trailhead/core/Constraint;" (.ref r) := O.2.2.2.2.1
theorem own_Ob.fh (O : own_Ob Z n0 h o r hd sz L) : Fld Z h o own_CQ "head" "I" (.int (Int32.ofNat hd)) := O.2.2.2.2.2.1
theorem own_Ob.fs (O : own_Ob Z n0 h o r hd sz L) : Fld Z h o own_CQ "size" "I" (.int (Int32.ofNat sz)) := O.2.2.2.2.2.2.1
theorem own_Ob.rr (O : own_Ob Z n0 h o r hd sz L) : o_RR Z h r (.object own_CO) (fun k => Ovr Z k own_CO) L := O.2.2.2.2.2.2.2
end Ob
theorem pn0 : plainFor Jvm.Pilot.@@N@@.x = true := by first | exact plainFor_of_name (by first | (simp [x, plainName, overriddenIn]; done) | decide +kernel) | decide +kernel
theorem d1_0 : decode method_1_code 0 = .ok (.aload_n 0, 1) := by decide +kernel
theorem d1_1 : decode method_1_code 1 = .ok (.invokespecial 1, 3) := by decide +kernel
theorem d1_4 : decode method_1_code 4 = .ok (.return_, 1) := by decide +kernel
abbrev oy1 : MethodName := ⟨"com/example/trailhead/trailhead/core/ConstraintQueuePollPinLaw", "<init>", "()V"⟩
theorem pn1 : plainFor oy1 = true := by first | exact plainFor_of_name (by first | (simp [plainName, overriddenIn]; done) | decide +kernel) | decide +kernel
theorem pd1 : parseMethodDescriptor oy1.desc = some ⟨[], none⟩ := by decide +kernel
theorem d2_0 : decode prog_30_method_1_code 0 = .ok (.aload_n 0, 1) := by decide +kernel
theorem d2_1 : decode prog_30_method_1_code 1 = .ok (.getstatic 1, 3) := by decide +kernel
theorem d2_4 : decode prog_30_method_1_code 4 = .ok (.invokespecial 7, 3) := by decide +kernel
theorem d2_7 : decode prog_30_method_1_code 7 = .ok (.return_, 1) := by decide +kernel
abbrev oy2 : MethodName := ⟨"com/example/trailhead/trailhead/core/Constraint", "<init>", "()V"⟩
theorem pn2 : plainFor oy2 = true := by first | exact plainFor_of_name (by first | (simp [plainName, overriddenIn]; done) | decide +kernel) | decide +kernel
theorem pd2 : parseMethodDescriptor oy2.desc = some ⟨[], none⟩ := by decide +kernel
theorem d3_0 : decode prog_30_method_2_code 0 = .ok (.aload_n 0, 1) := by decide +kernel
theorem d3_1 : decode prog_30_method_2_code 1 = .ok (.invokespecial 13, 3) := by decide +kernel
theorem d3_4 : decode prog_30_method_2_code 4 = .ok (.aload_n 0, 1) := by decide +kernel
theorem d3_5 : decode prog_30_method_2_code 5 = .ok (.aload_n 1, 1) := by decide +kernel
theorem d3_6 : decode prog_30_method_2_code 6 = .ok (.ldc 18, 2) := by decide +kernel
theorem d3_8 : decode prog_30_method_2_code 8 = .ok (.invokestatic 20, 3) := by decide +kernel
theorem d3_11 : decode prog_30_method_2_code 11 = .ok (.checkcast 2, 3) := by decide +kernel
theorem d3_14 : decode prog_30_method_2_code 14 = .ok (.putfield 26, 3) := by decide +kernel
theorem d3_17 : decode prog_30_method_2_code 17 = .ok (.return_, 1) := by decide +kernel
abbrev oy3 : MethodName := ⟨"com/example/trailhead/trailhead/core/Constraint", "<init>", "(Lcom/example/trailhead/trailhead/core/Priority;)V"⟩
theorem pn3 : plainFor oy3 = true := by first | exact plainFor_of_name (by first | (simp [plainName, overriddenIn]; done) | decide +kernel) | decide +kernel
theorem pd3 : parseMethodDescriptor oy3.desc = some ⟨[(.object "com/example/trailhead/trailhead/core/Priority")], none⟩ := by decide +kernel
theorem d5_0 : decode jdk_31_method_11_code 0 = .ok (.aload_n 0, 1) := by decide +kernel
theorem d5_1 : decode jdk_31_method_11_code 1 = .ok (.ifnonnull 12, 3) := by decide +kernel
theorem d5_4 : decode jdk_31_method_11_code 4 = .ok (.new 84, 3) := by decide +kernel
theorem d5_7 : decode jdk_31_method_11_code 7 = .ok (.dup, 1) := by decide +kernel
theorem d5_8 : decode jdk_31_method_11_code 8 = .ok (.aload_n 1, 1) := by decide +kernel
theorem d5_9 : decode jdk_31_method_11_code 9 = .ok (.invokespecial 87, 3) := by decide +kernel
theorem d5_12 : decode jdk_31_method_11_code 12 = .ok (.athrow, 1) := by decide +kernel
theorem d5_13 : decode jdk_31_method_11_code 13 = .ok (.aload_n 0, 1) := by decide +kernel
theorem d5_14 : decode jdk_31_method_11_code 14 = .ok (.areturn, 1) := by decide +kernel
abbrev oy5 : MethodName := ⟨"java/util/Objects", "requireNonNull", "(Ljava/lang/Object;Ljava/lang/String;)Ljava/lang/Object;"⟩
theorem pn5 : plainFor oy5 = true := by first | exact plainFor_of_name (by first | (simp [plainName, overriddenIn]; done) | decide +kernel) | decide +kernel
theorem pd5 : parseMethodDescriptor oy5.desc = some ⟨[(.object "java/lang/Object"), (.object "java/lang/String")], some (.object "java/lang/Object")⟩ := by decide +kernel
theorem d6_0 : decode prog_32_method_1_code 0 = .ok (.aload_n 0, 1) := by decide +kernel
theorem d6_1 : decode prog_32_method_1_code 1 = .ok (.invokespecial 1, 3) := by decide +kernel
theorem d6_4 : decode prog_32_method_1_code 4 = .ok (.aload_n 0, 1) := by decide +kernel
theorem d6_5 : decode prog_32_method_1_code 5 = .ok (.bipush 16, 2) := by decide +kernel
theorem d6_7 : decode prog_32_method_1_code 7 = .ok (.anewarray 7, 3) := by decide +kernel
theorem d6_10 : decode prog_32_method_1_code 10 = .ok (.putfield 9, 3) := by decide +kernel
theorem d6_13 : decode prog_32_method_1_code 13 = .ok (.return_, 1) := by decide +kernel
abbrev oy6 : MethodName := ⟨"com/example/trailhead/trailhead/core/ConstraintQueue", "<init>", "()V"⟩
theorem pn6 : plainFor oy6 = true := by first | exact plainFor_of_name (by first | (simp [plainName, overriddenIn]; done) | decide +kernel) | decide +kernel
theorem pd6 : parseMethodDescriptor oy6.desc = some ⟨[], none⟩ := by decide +kernel
theorem d7_0 : decode prog_32_method_3_code 0 = .ok (.aload_n 0, 1) := by decide +kernel
theorem d7_1 : decode prog_32_method_3_code 1 = .ok (.getfield 15, 3) := by decide +kernel
theorem d7_4 : decode prog_32_method_3_code 4 = .ok (.ifCond .ne 5, 3) := by decide +kernel
theorem d7_7 : decode prog_32_method_3_code 7 = .ok (.aconst_null, 1) := by decide +kernel
theorem d7_8 : decode prog_32_method_3_code 8 = .ok (.areturn, 1) := by decide +kernel
theorem d7_9 : decode prog_32_method_3_code 9 = .ok (.aload_n 0, 1) := by decide +kernel
theorem d7_10 : decode prog_32_method_3_code 10 = .ok (.getfield 9, 3) := by decide +kernel
theorem d7_13 : decode prog_32_method_3_code 13 = .ok (.aload_n 0, 1) := by decide +kernel
theorem d7_14 : decode prog_32_method_3_code 14 = .ok (.getfield 22, 3) := by decide +kernel
theorem d7_17 : decode prog_32_method_3_code 17 = .ok (.aaload, 1) := by decide +kernel
theorem d7_18 : decode prog_32_method_3_code 18 = .ok (.astore_n 1, 1) := by decide +kernel
theorem d7_19 : decode prog_32_method_3_code 19 = .ok (.aload_n 0, 1) := by decide +kernel
theorem d7_20 : decode prog_32_method_3_code 20 = .ok (.getfield 9, 3) := by decide +kernel
theorem d7_23 : decode prog_32_method_3_code 23 = .ok (.aload_n 0, 1) := by decide +kernel
theorem d7_24 : decode prog_32_method_3_code 24 = .ok (.getfield 22, 3) := by decide +kernel
theorem d7_27 : decode prog_32_method_3_code 27 = .ok (.aconst_null, 1) := by decide +kernel
theorem d7_28 : decode prog_32_method_3_code 28 = .ok (.aastore, 1) := by decide +kernel
theorem d7_29 : decode prog_32_method_3_code 29 = .ok (.aload_n 0, 1) := by decide +kernel
theorem d7_30 : decode prog_32_method_3_code 30 = .ok (.aload_n 0, 1) := by decide +kernel
theorem d7_31 : decode prog_32_method_3_code 31 = .ok (.getfield 22, 3) := by decide +kernel
theorem d7_34 : decode prog_32_method_3_code 34 = .ok (.iconst 1, 1) := by decide +kernel
theorem d7_35 : decode prog_32_method_3_code 35 = .ok (.iadd, 1) := by decide +kernel
theorem d7_36 : decode prog_32_method_3_code 36 = .ok (.aload_n 0, 1) := by decide +kernel
theorem d7_37 : decode prog_32_method_3_code 37 = .ok (.getfield 9, 3) := by decide +kernel
theorem d7_40 : decode prog_32_method_3_code 40 = .ok (.arraylength, 1) := by decide +kernel
theorem d7_41 : decode prog_32_method_3_code 41 = .ok (.iconst 1, 1) := by decide +kernel
theorem d7_42 : decode prog_32_method_3_code 42 = .ok (.isub, 1) := by decide +kernel
theorem d7_43 : decode prog_32_method_3_code 43 = .ok (.iand, 1) := by decide +kernel
theorem d7_44 : decode prog_32_method_3_code 44 = .ok (.putfield 22, 3) := by decide +kernel
theorem d7_47 : decode prog_32_method_3_code 47 = .ok (.aload_n 0, 1) := by decide +kernel
theorem d7_48 : decode prog_32_method_3_code 48 = .ok (.dup, 1) := by decide +kernel
theorem d7_49 : decode prog_32_method_3_code 49 = .ok (.getfield 15, 3) := by decide +kernel
theorem d7_52 : decode prog_32_method_3_code 52 = .ok (.iconst 1, 1) := by decide +kernel
theorem d7_53 : decode prog_32_method_3_code 53 = .ok (.isub, 1) := by decide +kernel
theorem d7_54 : decode prog_32_method_3_code 54 = .ok (.putfield 15, 3) := by decide +kernel
theorem d7_57 : decode prog_32_method_3_code 57 = .ok (.aload_n 1, 1) := by decide +kernel
theorem d7_58 : decode prog_32_method_3_code 58 = .ok (.areturn, 1) := by decide +kernel
abbrev oy7 : MethodName := ⟨"com/example/trailhead/trailhead/core/ConstraintQueue", "poll", "()Lcom/example/trailhead/trailhead/core/Constraint;"⟩
theorem pn7 : plainFor oy7 = true := by first | exact plainFor_of_name (by first | (simp [plainName, overriddenIn]; done) | decide +kernel) | decide +kernel
theorem pd7 : parseMethodDescriptor oy7.desc = some ⟨[], some (.object "com/example/trailhead/trailhead/core/Constraint")⟩ := by decide +kernel
theorem d8_0 : decode prog_32_method_2_code 0 = .ok (.aload_n 0, 1) := by decide +kernel
theorem d8_1 : decode prog_32_method_2_code 1 = .ok (.getfield 15, 3) := by decide +kernel
theorem d8_4 : decode prog_32_method_2_code 4 = .ok (.aload_n 0, 1) := by decide +kernel
theorem d8_5 : decode prog_32_method_2_code 5 = .ok (.getfield 9, 3) := by decide +kernel
theorem d8_8 : decode prog_32_method_2_code 8 = .ok (.arraylength, 1) := by decide +kernel
theorem d8_9 : decode prog_32_method_2_code 9 = .ok (.if_icmp .ne 7, 3) := by decide +kernel
theorem d8_12 : decode prog_32_method_2_code 12 = .ok (.aload_n 0, 1) := by decide +kernel
theorem d8_13 : decode prog_32_method_2_code 13 = .ok (.invokevirtual 19, 3) := by decide +kernel
theorem d8_16 : decode prog_32_method_2_code 16 = .ok (.aload_n 0, 1) := by decide +kernel
theorem d8_17 : decode prog_32_method_2_code 17 = .ok (.getfield 9, 3) := by decide +kernel
theorem d8_20 : decode prog_32_method_2_code 20 = .ok (.aload_n 0, 1) := by decide +kernel
theorem d8_21 : decode prog_32_method_2_code 21 = .ok (.getfield 22, 3) := by decide +kernel
theorem d8_24 : decode prog_32_method_2_code 24 = .ok (.aload_n 0, 1) := by decide +kernel
theorem d8_25 : decode prog_32_method_2_code 25 = .ok (.getfield 15, 3) := by decide +kernel
theorem d8_28 : decode prog_32_method_2_code 28 = .ok (.iadd, 1) := by decide +kernel
theorem d8_29 : decode prog_32_method_2_code 29 = .ok (.aload_n 0, 1) := by decide +kernel
theorem d8_30 : decode prog_32_method_2_code 30 = .ok (.getfield 9, 3) := by decide +kernel
theorem d8_33 : decode prog_32_method_2_code 33 = .ok (.arraylength, 1) := by decide +kernel
theorem d8_34 : decode prog_32_method_2_code 34 = .ok (.iconst 1, 1) := by decide +kernel
theorem d8_35 : decode prog_32_method_2_code 35 = .ok (.isub, 1) := by decide +kernel
theorem d8_36 : decode prog_32_method_2_code 36 = .ok (.iand, 1) := by decide +kernel
theorem d8_37 : decode prog_32_method_2_code 37 = .ok (.aload_n 1, 1) := by decide +kernel
theorem d8_38 : decode prog_32_method_2_code 38 = .ok (.aastore, 1) := by decide +kernel
theorem d8_39 : decode prog_32_method_2_code 39 = .ok (.aload_n 0, 1) := by decide +kernel
theorem d8_40 : decode prog_32_method_2_code 40 = .ok (.dup, 1) := by decide +kernel
theorem d8_41 : decode prog_32_method_2_code 41 = .ok (.getfield 15, 3) := by decide +kernel
theorem d8_44 : decode prog_32_method_2_code 44 = .ok (.iconst 1, 1) := by decide +kernel
theorem d8_45 : decode prog_32_method_2_code 45 = .ok (.iadd, 1) := by decide +kernel
theorem d8_46 : decode prog_32_method_2_code 46 = .ok (.putfield 15, 3) := by decide +kernel
theorem d8_49 : decode prog_32_method_2_code 49 = .ok (.return_, 1) := by decide +kernel
abbrev oy8 : MethodName := ⟨"com/example/trailhead/trailhead/core/ConstraintQueue", "add", "(Lcom/example/trailhead/trailhead/core/Constraint;)V"⟩
theorem pn8 : plainFor oy8 = true := by first | exact plainFor_of_name (by first | (simp [plainName, overriddenIn]; done) | decide +kernel) | decide +kernel
theorem pd8 : parseMethodDescriptor oy8.desc = some ⟨[(.object "com/example/trailhead/trailhead/core/Constraint")], none⟩ := by decide +kernel
abbrev orm5 : Room := { frames := 0, cells := 0, slots := 0, locals := 0 }
abbrev orm3 : Room := { frames := 1, cells := 2, slots := 36, locals := 16 }
abbrev orm2 : Room := { frames := 2, cells := 2, slots := 36, locals := 32 }
abbrev orm1 : Room := { frames := 3, cells := 2, slots := 36, locals := 48 }
abbrev orm6 : Room := { frames := 1, cells := 1, slots := 16, locals := 16 }
abbrev orm7 : Room := { frames := 0, cells := 0, slots := 0, locals := 0 }
abbrev orm8 : Room := { frames := 0, cells := 0, slots := 0, locals := 0 }
set_option maxRecDepth 65536 in
set_option maxHeartbeats 40000000 in
theorem oc5 (l : Launch) (Z : State) (a0 : Array Value) (hw : ∀ d ∈ tables_1, d.before a0 Z = true) (n0 : Nat) (h : Heap) (a b : Addr) : o_C l Z n0 oy5 jdk_31_method_11_code 2 (some (.object "java/lang/Object")) orm5 [(.ref a), (.ref b)] h (fun v h' => v = some (.ref a) ∧ h' = h) := by
  refine o_body (Ls := [.val (.ref a), .val (.ref b)]) pn5 (by first | (simp [argsToLocals, Value.category]; done) | rfl) (fun κ B => ?_)
  refine o_aloadN (pc := 0) B d5_0 rfl rfl ?_
  refine o_ifnonnull_R (pc := 1) (pc' := 13) B d5_1 (by decide) (by decide) ?_
  refine o_aloadN (pc := 13) B d5_13 rfl rfl ?_
  exact o_areturn (pc := 14) B rfl rfl rfl d5_14 (by decide) (by decide) (⟨rfl, rfl⟩)
set_option maxRecDepth 65536 in
set_option maxHeartbeats 40000000 in
theorem oc3 (l : Launch) (Z : State) (a0 : Array Value) (hw : ∀ d ∈ tables_1, d.before a0 Z = true) (n0 : Nat) (h : Heap) (c pa : Addr) (u : Value) (gc : n0 ≤ c) (OL : Old Z n0 h) (E : Exa Z h c own_PL) (F : Fld Z h c own_CO "priority" "Lcom/example/trailhead/trailhead/core/Priority;" u) (EP : Exa Z Z.heap pa own_PR) : o_C l Z n0 oy3 prog_30_method_2_code 2 none orm3 [(.ref c), (.ref pa)] h (fun v h' => v = none ∧ Old Z n0 h' ∧ Keep h h' [c]) := by
  refine o_body (Ls := [.val (.ref c), .val (.ref pa)]) pn3 (by first | (simp [argsToLocals, Value.category]; done) | rfl) (fun κ B => ?_)
  refine o_aloadN (pc := 0) B d3_0 rfl rfl ?_
  refine o_initO (pc := 1) B (W := 0) d3_1 (hw _ (List.mem_of_getElem? (i := 18) rfl)) (hw _ (List.mem_of_getElem? (i := 19) rfl)) (hw _ (List.mem_of_getElem? (i := 20) rfl)) (by decide) (by first | exact Nat.zero_le _ | exact Nat.le_of_ble_eq_true rfl | simp [Value.category]) (by decide) rfl ?_
  refine o_aloadN (pc := 4) B d3_4 rfl rfl ?_
  refine o_aloadN (pc := 5) B d3_5 rfl rfl ?_
  refine o_ldcS (pc := 6) B (32) d3_6 (hw _ (List.mem_of_getElem? (i := 21) rfl)) (own_wS hw) (by decide) (by decide) (by decide) (by decide) ?_
  intro sa h1 E1
  have OL1 := OL.ext E1
  refine o_callS2 (pc := 8) B 1 d3_8 (hw _ (List.mem_of_getElem? (i := 29) rfl)) (hw _ (List.mem_of_getElem? (i := 30) rfl)) (hw _ (List.mem_of_getElem? (i := 31) rfl)) (hw _ (List.mem_of_getElem? (i := 32) rfl)) (by decide) pd5 rfl (by first | exact Nat.zero_le _ | exact Nat.le_of_ble_eq_true rfl | simp [Value.category]) (by decide) (by decide) (by decide) (by decide) rfl (oc5 l Z a0 hw n0 _ pa sa) ?_
  rintro v h' ⟨rfl, rfl⟩
  refine o_cast (pc := 11) B d3_11 (hw _ (List.mem_of_getElem? (i := 33) rfl)) (Ins.self (EP.ext OL1.2)) ?_
  refine o_putF (pc := 14) (ty := (.object "com/example/trailhead/trailhead/core/Priority")) B d3_14 (hw _ (List.mem_of_getElem? (i := 35) rfl)) (F.ext E1) (E.ext E1) (Or.inr ⟨(hw _ (List.mem_of_getElem? (i := 36) rfl)), rfl, rfl⟩) (hw _ (List.mem_of_getElem? (i := 2) rfl)) (by decide) rfl rfl (gc) ?_
  intro h2 W2
  exact o_return (pc := 17) B d3_17 (by decide) (by decide) (⟨rfl, OL1.wr W2 gc, ((Keep.refl _ _).ext E1).wr W2 (Or.inl (List.mem_cons_self ..))⟩)
set_option maxRecDepth 65536 in
set_option maxHeartbeats 40000000 in
theorem oc2 (l : Launch) (Z : State) (a0 : Array Value) (hw : ∀ d ∈ tables_1, d.before a0 Z = true) (n0 : Nat) (h : Heap) (c pa : Addr) (u : Value) (gc : n0 ≤ c) (OL : Old Z n0 h) (E : Exa Z h c own_PL) (F : Fld Z h c own_CO "priority" "Lcom/example/trailhead/trailhead/core/Priority;" u) (EP : Exa Z Z.heap pa own_PR) (SP : Sta Z Z.heap own_PR "NORMAL" "Lcom/example/trailhead/trailhead/core/Priority;" (.ref pa)) : o_C l Z n0 oy2 prog_30_method_1_code 1 none orm2 [(.ref c)] h (fun v h' => v = none ∧ Old Z n0 h' ∧ Keep h h' [c]) := by
  refine o_body (Ls := [.val (.ref c)]) pn2 (by first | (simp [argsToLocals, Value.category]; done) | rfl) (fun κ B => ?_)
  refine o_aloadN (pc := 0) B d2_0 rfl rfl ?_
  refine o_getS (pc := 1) B d2_1 (hw _ (List.mem_of_getElem? (i := 12) rfl)) (SP.ext OL.2) ?_
  refine o_callN1 (pc := 4) B 0 d2_4 rfl (hw _ (List.mem_of_getElem? (i := 15) rfl)) (hw _ (List.mem_of_getElem? (i := 16) rfl)) (hw _ (List.mem_of_getElem? (i := 10) rfl)) (hw _ (List.mem_of_getElem? (i := 17) rfl)) (by decide) pd3 rfl (by first | exact Nat.zero_le _ | exact Nat.le_of_ble_eq_true rfl | simp [Value.category]) (by decide) (by decide) (by decide) (by decide) rfl (oc3 l Z a0 hw n0 _ c pa u gc OL E F EP) ?_
  rintro v h' ⟨rfl, q⟩
  exact o_return (pc := 7) B d2_7 (by decide) (by decide) (⟨rfl, q⟩)
set_option maxRecDepth 65536 in
set_option maxHeartbeats 40000000 in
theorem oc1 (l : Launch) (Z : State) (a0 : Array Value) (hw : ∀ d ∈ tables_1, d.before a0 Z = true) (n0 : Nat) (h : Heap) (c pa : Addr) (u : Value) (gc : n0 ≤ c) (OL : Old Z n0 h) (E : Exa Z h c own_PL) (F : Fld Z h c own_CO "priority" "Lcom/example/trailhead/trailhead/core/Priority;" u) (EP : Exa Z Z.heap pa own_PR) (SP : Sta Z Z.heap own_PR "NORMAL" "Lcom/example/trailhead/trailhead/core/Priority;" (.ref pa)) : o_C l Z n0 oy1 method_1_code 1 none orm1 [(.ref c)] h (fun v h' => v = none ∧ Old Z n0 h' ∧ Keep h h' [c]) := by
  refine o_body (Ls := [.val (.ref c)]) pn1 (by first | (simp [argsToLocals, Value.category]; done) | rfl) (fun κ B => ?_)
  refine o_aloadN (pc := 0) B d1_0 rfl rfl ?_
  refine o_callN0 (pc := 1) B 0 d1_1 rfl (hw _ (List.mem_of_getElem? (i := 7) rfl)) (hw _ (List.mem_of_getElem? (i := 8) rfl)) (hw _ (List.mem_of_getElem? (i := 10) rfl)) (hw _ (List.mem_of_getElem? (i := 11) rfl)) (by decide) pd2 rfl (by first | exact Nat.zero_le _ | exact Nat.le_of_ble_eq_true rfl | simp [Value.category]) (by decide) (by decide) (by decide) (by decide) rfl (oc2 l Z a0 hw n0 _ c pa u gc OL E F EP SP) ?_
  rintro v h' ⟨rfl, q⟩
  exact o_return (pc := 4) B d1_4 (by decide) (by decide) (⟨rfl, q⟩)
set_option maxRecDepth 65536 in
set_option maxHeartbeats 40000000 in
theorem oc6 (l : Launch) (Z : State) (a0 : Array Value) (hw : ∀ d ∈ tables_1, d.before a0 Z = true) (n0 : Nat) (h : Heap) (c : Addr) (u : Value) (gc : n0 ≤ c) (Z0 : n0 ≤ h.size) (E : Exa Z h c own_CQ) (F1 : Fld Z h c own_CQ "ring" "[Lcom/example/trailhead/trailhead/core/Constraint;" u) (F2 : Fld Z h c own_CQ "head" "I" (.int (Int32.ofNat 0))) (F3 : Fld Z h c own_CQ "size" "I" (.int (Int32.ofNat 0))) : o_C l Z n0 oy6 prog_32_method_1_code 1 none orm6 [(.ref c)] h (fun v h' => v = none ∧ Keep h h' [c] ∧ ∃ r, h.size ≤ r ∧ own_Ob Z n0 h' c r 0 0 (List.replicate 16 .null)) := by
  refine o_body (Ls := [.val (.ref c)]) pn6 (by first | (simp [argsToLocals, Value.category]; done) | rfl) (fun κ B => ?_)
  refine o_aloadN (pc := 0) B d6_0 rfl rfl ?_
  refine o_initO (pc := 1) B (W := 0) d6_1 (hw _ (List.mem_of_getElem? (i := 43) rfl)) (hw _ (List.mem_of_getElem? (i := 19) rfl)) (hw _ (List.mem_of_getElem? (i := 20) rfl)) (by decide) (by first | exact Nat.zero_le _ | exact Nat.le_of_ble_eq_true rfl | simp [Value.category]) (by decide) rfl ?_
  refine o_aloadN (pc := 4) B d6_4 rfl rfl ?_
  refine o_bipush (pc := 5) B (16 : Int32) d6_5 (by decide) ?_
  refine o_anewR (pc := 7) B (C := "com/example/trailhead/trailhead/core/Constraint") (ad := "[Lcom/example/trailhead/trailhead/core/Constraint;") (16) (16) (by decide) d6_7 (hw _ (List.mem_of_getElem? (i := 44) rfl)) (hw _ (List.mem_of_getElem? (i := 45) rfl)) (by decide) (by decide) (by decide) (by decide) (by decide) ?_
  intro h1 X1 lt1 R1 _
  obtain ⟨r, gr, er⟩ : ∃ a, n0 ≤ a ∧ a = h.size := ⟨_, Z0, rfl⟩
  rw [← er] at R1 ⊢
  have cr : c ≠ r := o_ne (by have := o_lt E.lt; omega)
  refine o_putF (pc := 10) (ty := (.array (.object "com/example/trailhead/trailhead/core/Constraint"))) B d6_10 (hw _ (List.mem_of_getElem? (i := 46) rfl)) (F1.ext X1) (E.ext X1) (Or.inl (hw _ (List.mem_of_getElem? (i := 47) rfl))) (hw _ (List.mem_of_getElem? (i := 38) rfl)) (by decide) rfl rfl (gc) ?_
  intro h2 W2
  exact o_return (pc := 13) B d6_13 (by decide) (by decide) (⟨rfl, ((Keep.refl _ _).ext X1).wr W2 (Or.inl (List.mem_cons_self ..)), r, o_le (by omega), gc, gr, cr, (E.ext X1).wr W2, (F1.ext X1).same W2, (F2.ext X1).other W2 (Or.inr (slot_ne (C := own_CQ) (Or.inl (hw _ (List.mem_of_getElem? (i := 61) rfl))) (Or.inl (hw _ (List.mem_of_getElem? (i := 47) rfl))) (by decide) (by decide : parseFieldDescriptor "I" = some .int) (by decide : parseFieldDescriptor "[Lcom/example/trailhead/trailhead/core/Constraint;" = some (.array (.object "com/example/trailhead/trailhead/core/Constraint"))))), (F3.ext X1).other W2 (Or.inr (slot_ne (C := own_CQ) (Or.inl (hw _ (List.mem_of_getElem? (i := 54) rfl))) (Or.inl (hw _ (List.mem_of_getElem? (i := 47) rfl))) (by decide) (by decide : parseFieldDescriptor "I" = some .int) (by decide : parseFieldDescriptor "[Lcom/example/trailhead/trailhead/core/Constraint;" = some (.array (.object "com/example/trailhead/trailhead/core/Constraint"))))), R1.other W2 (Ne.symm cr)⟩)
set_option maxRecDepth 65536 in
set_option maxHeartbeats 40000000 in
theorem oc7z (l : Launch) (Z : State) (a0 : Array Value) (hw : ∀ d ∈ tables_1, d.before a0 Z = true) (n0 : Nat) (h : Heap) (o r : Addr) (hd : Nat) (L : List Value) (O : own_Ob Z n0 h o r hd 0 L) : o_C l Z n0 oy7 prog_32_method_3_code 2 (some (.object "com/example/trailhead/trailhead/core/Constraint")) orm7 [(.ref o)] h (fun v h' => v = some .null ∧ h' = h) := by
  refine o_body (Ls := [.val (.ref o), .unset]) pn7 (by first | (simp [argsToLocals, Value.category]; done) | rfl) (fun κ B => ?_)
  refine o_aloadN (pc := 0) B d7_0 rfl rfl ?_
  refine o_getF (pc := 1) B d7_1 (hw _ (List.mem_of_getElem? (i := 53) rfl)) (O.fs) ?_
  refine o_if_ne (pc := 4) (pc' := 9) B d7_4 (by decide) (by decide) (fun hc4 => False.elim ((hc4 rfl))) (fun hc4 => ?_)
  refine o_aconst_null (pc := 7) B d7_7 ?_
  exact o_areturn (pc := 8) B rfl rfl rfl d7_8 (by decide) (by decide) (⟨rfl, rfl⟩)
set_option maxRecDepth 65536 in
set_option maxHeartbeats 40000000 in
theorem oc7 (l : Launch) (Z : State) (a0 : Array Value) (hw : ∀ d ∈ tables_1, d.before a0 Z = true) (n0 : Nat) (h : Heap) (o r c : Addr) (hd sz : Nat) (L : List Value) (O : own_Ob Z n0 h o r hd (sz + 1) L) (h1 : hd < 8) (h2 : sz < 8) (hL : L.length = 16) (hv : L[hd]? = some (.ref c)) : o_C l Z n0 oy7 prog_32_method_3_code 2 (some (.object "com/example/trailhead/trailhead/core/Constraint")) orm7 [(.ref o)] h (fun v h' => v = some (.ref c) ∧ Keep h h' [o, r] ∧ own_Ob Z n0 h' o r (hd + 1) sz (L.set hd .null)) := by
  refine o_body (Ls := [.val (.ref o), .unset]) pn7 (by first | (simp [argsToLocals, Value.category]; done) | rfl) (fun κ B => ?_)
  have mo : o ∈ [o, r] := List.mem_cons_self ..
  have mr : r ∈ [o, r] := List.mem_cons_of_mem _ (List.mem_cons_self ..)
  refine o_aloadN (pc := 0) B d7_0 rfl rfl ?_
  refine o_getF (pc := 1) B d7_1 (hw _ (List.mem_of_getElem? (i := 53) rfl)) (O.fs) ?_
  refine o_if_ne (pc := 4) (pc' := 9) B d7_4 (by decide) (by decide) (fun hc4 => ?_) (fun hc4 => False.elim ((own_ne0 (by omega) (by omega) hc4)))
  refine o_aloadN (pc := 9) B d7_9 rfl rfl ?_
  refine o_getF (pc := 10) B d7_10 (hw _ (List.mem_of_getElem? (i := 46) rfl)) (O.fr) ?_
  refine o_aloadN (pc := 13) B d7_13 rfl rfl ?_
  refine o_getF (pc := 14) B d7_14 (hw _ (List.mem_of_getElem? (i := 60) rfl)) (O.fh) ?_
  refine o_aaload (pc := 17) B (hd) rfl d7_17 (O.rr.ar) (rfl) (hv) ?_
  refine o_astoreN_2_1 (pc := 18) B d7_18 rfl rfl ?_
  refine o_aloadN (pc := 19) B d7_19 rfl rfl ?_
  refine o_getF (pc := 20) B d7_20 (hw _ (List.mem_of_getElem? (i := 46) rfl)) (O.fr) ?_
  refine o_aloadN (pc := 23) B d7_23 rfl rfl ?_
  refine o_getF (pc := 24) B d7_24 (hw _ (List.mem_of_getElem? (i := 60) rfl)) (O.fh) ?_
  refine o_aconst_null (pc := 27) B d7_27 ?_
  refine o_aastore (pc := 28) B (hd) rfl d7_28 (O.rr) (rfl) (by omega) (Or.inl rfl) (O.gr) ?_
  intro h3 W3
  have O3 := O.wr W3
  have K3 : Keep h h3 [o, r] := (Keep.refl _ _).wr W3 (Or.inl mr)
  refine o_aloadN (pc := 29) B d7_29 rfl rfl ?_
  refine o_aloadN (pc := 30) B d7_30 rfl rfl ?_
  refine o_getF (pc := 31) B d7_31 (hw _ (List.mem_of_getElem? (i := 60) rfl)) (O3.fh) ?_
  refine o_iconst (pc := 34) B (1 : Int32) d7_34 (by decide) ?_
  refine o_iadd (pc := 35) B d7_35 ?_
  refine o_aloadN (pc := 36) B d7_36 rfl rfl ?_
  refine o_getF (pc := 37) B d7_37 (hw _ (List.mem_of_getElem? (i := 46) rfl)) (O3.fr) ?_
  refine o_arraylen (pc := 40) B (16 : Int32) d7_40 (O3.rr.ar) (by rw [List.length_set, hL]; rfl) ?_
  refine o_iconst (pc := 41) B (1 : Int32) d7_41 (by decide) ?_
  refine o_isub_c (pc := 42) B (15 : Int32) d7_42 (by decide) ?_
  have ei : (Int32.ofNat hd + 1) &&& 15 = Int32.ofNat (hd + 1) := by
    have e : (Int32.ofNat hd + 1) &&& 15 = Int32.ofNat ((hd + 1) % 2 ^ 4) := own_step (j := 4) (by decide) (by omega)
    rw [e, Nat.mod_eq_of_lt (by omega)]
  refine o_iand (pc := 43) B d7_43 ?_
  rw [ei]
  refine o_putF (pc := 44) (ty := .int) B d7_44 (hw _ (List.mem_of_getElem? (i := 60) rfl)) (O3.fh) (O3.ex) (Or.inl (hw _ (List.mem_of_getElem? (i := 61) rfl))) (hw _ (List.mem_of_getElem? (i := 38) rfl)) (by decide) rfl rfl (O3.go) ?_
  intro h4 W4
  have O4 := O3.whd hw W4
  have K4 := K3.wr W4 (Or.inl mo)
  refine o_aloadN (pc := 47) B d7_47 rfl rfl ?_
  refine o_dup (pc := 48) B d7_48 rfl ?_
  refine o_getF (pc := 49) B d7_49 (hw _ (List.mem_of_getElem? (i := 53) rfl)) (O4.fs) ?_
  refine o_iconst (pc := 52) B (1 : Int32) d7_52 (by decide) ?_
  refine o_isub (pc := 53) B d7_53 ?_
  have es : Int32.ofNat (sz + 1) - 1 = Int32.ofNat sz := by rw [← own_one, Int32.add_sub_cancel]
  rw [es]
  refine o_putF (pc := 54) (ty := .int) B d7_54 (hw _ (List.mem_of_getElem? (i := 53) rfl)) (O4.fs) (O4.ex) (Or.inl (hw _ (List.mem_of_getElem? (i := 54) rfl))) (hw _ (List.mem_of_getElem? (i := 38) rfl)) (by decide) rfl rfl (O4.go) ?_
  intro h5 W5
  refine o_aloadN (pc := 57) B d7_57 rfl rfl ?_
  exact o_areturn (pc := 58) B rfl rfl rfl d7_58 (by decide) (by decide) (⟨rfl, K4.wr W5 (Or.inl mo), O4.wsz hw W5⟩)
set_option maxRecDepth 65536 in
set_option maxHeartbeats 40000000 in
theorem oc8 (l : Launch) (Z : State) (a0 : Array Value) (hw : ∀ d ∈ tables_1, d.before a0 Z = true) (n0 : Nat) (h : Heap) (o r c : Addr) (hd sz : Nat) (L : List Value) (O : own_Ob Z n0 h o r hd sz L) (h1 : hd < 8) (h2 : sz < 8) (hL : L.length = 16) (E : Exa Z h c own_PL) : o_C l Z n0 oy8 prog_32_method_2_code 2 none orm8 [(.ref o), (.ref c)] h (fun v h' => v = none ∧ Keep h h' [o, r] ∧ own_Ob Z n0 h' o r hd (sz + 1) (L.set (hd + sz) (.ref c))) := by
  refine o_body (Ls := [.val (.ref o), .val (.ref c)]) pn8 (by first | (simp [argsToLocals, Value.category]; done) | rfl) (fun κ B => ?_)
  have mo : o ∈ [o, r] := List.mem_cons_self ..
  have mr : r ∈ [o, r] := List.mem_cons_of_mem _ (List.mem_cons_self ..)
  refine o_aloadN (pc := 0) B d8_0 rfl rfl ?_
  refine o_getF (pc := 1) B d8_1 (hw _ (List.mem_of_getElem? (i := 53) rfl)) (O.fs) ?_
  refine o_aloadN (pc := 4) B d8_4 rfl rfl ?_
  refine o_getF (pc := 5) B d8_5 (hw _ (List.mem_of_getElem? (i := 46) rfl)) (O.fr) ?_
  refine o_arraylen (pc := 8) B (16 : Int32) d8_8 (O.rr.ar) (by rw [hL]; rfl) ?_
  refine o_icmp_ne (pc := 9) (pc' := 16) B d8_9 (by decide) (by decide) (fun hc9 => ?_) (fun hc9 => False.elim ((by have q := (own_inj (b := 16) (by omega) (by decide)).mp hc9; omega)))
  refine o_aloadN (pc := 16) B d8_16 rfl rfl ?_
  refine o_getF (pc := 17) B d8_17 (hw _ (List.mem_of_getElem? (i := 46) rfl)) (O.fr) ?_
  refine o_aloadN (pc := 20) B d8_20 rfl rfl ?_
  refine o_getF (pc := 21) B d8_21 (hw _ (List.mem_of_getElem? (i := 60) rfl)) (O.fh) ?_
  refine o_aloadN (pc := 24) B d8_24 rfl rfl ?_
  refine o_getF (pc := 25) B d8_25 (hw _ (List.mem_of_getElem? (i := 53) rfl)) (O.fs) ?_
  refine o_iadd (pc := 28) B d8_28 ?_
  refine o_aloadN (pc := 29) B d8_29 rfl rfl ?_
  refine o_getF (pc := 30) B d8_30 (hw _ (List.mem_of_getElem? (i := 46) rfl)) (O.fr) ?_
  refine o_arraylen (pc := 33) B (16 : Int32) d8_33 (O.rr.ar) (by rw [hL]; rfl) ?_
  refine o_iconst (pc := 34) B (1 : Int32) d8_34 (by decide) ?_
  refine o_isub_c (pc := 35) B (15 : Int32) d8_35 (by decide) ?_
  have ei : (Int32.ofNat hd + Int32.ofNat sz) &&& 15 = Int32.ofNat (hd + sz) := by
    rw [← Int32.ofNat_add]
    have e : Int32.ofNat (hd + sz) &&& 15 = Int32.ofNat ((Int32.ofNat (hd + sz)).toBitVec.toNat % 2 ^ 4) := own_and _ (j := 4) (by decide)
    rw [e, own_i32n _ (by omega), Nat.mod_eq_of_lt (by omega)]
  refine o_iand (pc := 36) B d8_36 ?_
  rw [ei]
  refine o_aloadN (pc := 37) B d8_37 rfl rfl ?_
  refine o_aastore (pc := 38) B (hd + sz) rfl d8_38 (O.rr) (rfl) (by omega) (o_stoR O.rr (Ins.of_exa E (hw _ (List.mem_of_getElem? (i := 62) rfl)))) (O.gr) ?_
  intro h3 W3
  have O3 := O.wr W3
  have K3 : Keep h h3 [o, r] := (Keep.refl _ _).wr W3 (Or.inl mr)
  refine o_aloadN (pc := 39) B d8_39 rfl rfl ?_
  refine o_dup (pc := 40) B d8_40 rfl ?_
  refine o_getF (pc := 41) B d8_41 (hw _ (List.mem_of_getElem? (i := 53) rfl)) (O3.fs) ?_
  refine o_iconst (pc := 44) B (1 : Int32) d8_44 (by decide) ?_
  refine o_iadd (pc := 45) B d8_45 ?_
  rw [own_one]
  refine o_putF (pc := 46) (ty := .int) B d8_46 (hw _ (List.mem_of_getElem? (i := 53) rfl)) (O3.fs) (O3.ex) (Or.inl (hw _ (List.mem_of_getElem? (i := 54) rfl))) (hw _ (List.mem_of_getElem? (i := 38) rfl)) (by decide) rfl rfl (O3.go) ?_
  intro h4 W4
  exact o_return (pc := 49) B d8_49 (by decide) (by decide) (⟨rfl, K3.wr W4 (Or.inl mo), O3.wsz hw W4⟩)
theorem own_num (b : Int32) {n : Nat} (h0 : 0 < n) (hn : n < 2 ^ 31) : ∃ u, u < n ∧ (b &&& 2147483647) % Int32.ofNat n = Int32.ofNat u := by
  have e : b &&& 2147483647 = Int32.ofNat (b.toBitVec.toNat % 2 ^ 31) := by
    apply Int32.toBitVec_inj.mp; apply BitVec.eq_of_toNat_eq
    have m := Nat.mod_lt b.toBitVec.toNat (show 0 < 2 ^ 31 by decide)
    rw [own_i32n _ (by omega), Int32.toBitVec_and, BitVec.toNat_and]
    exact Nat.and_two_pow_sub_one_eq_mod _ 31
  have m := Nat.mod_lt b.toBitVec.toNat (show 0 < 2 ^ 31 by decide)
  exact ⟨_, Nat.mod_lt _ h0, by rw [e, own_rem m hn]⟩
set_option maxRecDepth 65536 in
set_option maxHeartbeats 40000000 in
theorem own_tail_00 (l : Launch) (Z : State) (a0 : Array Value) (hw : ∀ d ∈ tables_1, d.before a0 Z = true) (n0 : Nat) (h : Heap) (κ : o_K) (B : o_Bo κ l Z n0 room_1 x code maxLocals ret) (p q : Int32) (ca cb cc o r : Addr) (na : ca ≠ o) (na2 : ca ≠ r) (nb : cb ≠ o) (nb2 : cb ≠ r) (nc : cc ≠ o) (nc2 : cc ≠ r) (Ea : Exa Z h ca own_PL) (Eb : Exa Z h cb own_PL) (Ec : Exa Z h cc own_PL) (O0 : own_Ob Z n0 h o r 0 0 (List.replicate 16 .null)) :
    o_Go κ (fun v h' => v = some (.int 1)) h 11 139 55 [.val (.int p), .val (.int q), .val (.int 0), .val (.int 0), .val (.ref ca), .val (.ref cb), .val (.ref cc), .val (.ref o), .unset, .unset, .unset, .unset, .unset, .unset] [] := by
  refine o_iloadN (pc := 55) B at_55 rfl ?_
  refine o_iconst (pc := 56) B (1 : Int32) at_56 (by decide) ?_
  refine o_icmp_lt (pc := 57) (pc' := 67) B at_57 (by decide) (by decide) (fun hc57 => ?_) (fun hc57 => False.elim (by revert hc57; decide))
  refine o_iloadN (pc := 67) B at_67 rfl ?_
  refine o_iconst (pc := 68) B (2 : Int32) at_68 (by decide) ?_
  refine o_icmp_lt (pc := 69) (pc' := 79) B at_69 (by decide) (by decide) (fun hc69 => ?_) (fun hc69 => False.elim (by revert hc69; decide))
  refine o_aload (pc := 79) B at_79 rfl rfl ?_
  refine o_callV0 (pc := 81) B 0 at_81 (hw _ (List.mem_of_getElem? (i := 48) rfl)) (hw _ (List.mem_of_getElem? (i := 49) rfl)) (hw _ (List.mem_of_getElem? (i := 51) rfl)) (hw _ (List.mem_of_getElem? (i := 50) rfl)) (hw _ (List.mem_of_getElem? (i := 39) rfl)) (hw _ (List.mem_of_getElem? (i := 52) rfl)) (by decide) pd7 rfl (by first | exact Nat.zero_le _ | exact Nat.le_of_ble_eq_true rfl | simp [Value.category]) (by decide) (by decide) (by decide) (by decide) rfl (O0.ex) (oc7z l Z a0 hw n0 _ o r 0 _ O0) ?_
  rintro v h1 ⟨rfl, rfl⟩
  refine o_astore_14_8 (pc := 84) B at_84 rfl rfl ?_
  refine o_iloadN (pc := 86) B at_86 rfl ?_
  refine o_if_eq (pc := 87) (pc' := 97) B at_87 (by decide) (by decide) (fun hc87 => ?_) (fun hc87 => False.elim (by revert hc87; decide))
  refine o_aload (pc := 97) B at_97 rfl rfl ?_
  refine o_callV0 (pc := 99) B 0 at_99 (hw _ (List.mem_of_getElem? (i := 48) rfl)) (hw _ (List.mem_of_getElem? (i := 49) rfl)) (hw _ (List.mem_of_getElem? (i := 51) rfl)) (hw _ (List.mem_of_getElem? (i := 50) rfl)) (hw _ (List.mem_of_getElem? (i := 39) rfl)) (hw _ (List.mem_of_getElem? (i := 52) rfl)) (by decide) pd7 rfl (by first | exact Nat.zero_le _ | exact Nat.le_of_ble_eq_true rfl | simp [Value.category]) (by decide) (by decide) (by decide) (by decide) rfl (O0.ex) (oc7z l Z a0 hw n0 _ o r 0 _ O0) ?_
  rintro v h2 ⟨rfl, rfl⟩
  refine o_astore_14_9 (pc := 102) B at_102 rfl rfl ?_
  refine o_aload (pc := 104) B at_104 rfl rfl ?_
  refine o_callV0 (pc := 106) B 0 at_106 (hw _ (List.mem_of_getElem? (i := 48) rfl)) (hw _ (List.mem_of_getElem? (i := 49) rfl)) (hw _ (List.mem_of_getElem? (i := 51) rfl)) (hw _ (List.mem_of_getElem? (i := 50) rfl)) (hw _ (List.mem_of_getElem? (i := 39) rfl)) (hw _ (List.mem_of_getElem? (i := 52) rfl)) (by decide) pd7 rfl (by first | exact Nat.zero_le _ | exact Nat.le_of_ble_eq_true rfl | simp [Value.category]) (by decide) (by decide) (by decide) (by decide) rfl (O0.ex) (oc7z l Z a0 hw n0 _ o r 0 _ O0) ?_
  rintro v h3 ⟨rfl, rfl⟩
  refine o_astore_14_10 (pc := 109) B at_109 rfl rfl ?_
  refine o_iloadN (pc := 111) B at_111 rfl ?_
  refine o_iconst (pc := 112) B (1 : Int32) at_112 (by decide) ?_
  refine o_icmp_lt (pc := 113) (pc' := 121) B at_113 (by decide) (by decide) (fun hc113 => ?_) (fun hc113 => False.elim (by revert hc113; decide))
  refine o_aconst_null (pc := 121) B at_121 ?_
  refine o_astore_14_11 (pc := 122) B at_122 rfl rfl ?_
  refine o_iloadN (pc := 124) B at_124 rfl ?_
  refine o_iconst (pc := 125) B (2 : Int32) at_125 (by decide) ?_
  refine o_icmp_ne (pc := 126) (pc' := 134) B at_126 (by decide) (by decide) (fun hc126 => ?_) (fun hc126 => False.elim (by revert hc126; decide))
  refine o_iloadN (pc := 134) B at_134 rfl ?_
  refine o_if_eq (pc := 135) (pc' := 143) B at_135 (by decide) (by decide) (fun hc135 => ?_) (fun hc135 => False.elim (by revert hc135; decide))
  refine o_aconst_null (pc := 143) B at_143 ?_
  refine o_astore_14_12 (pc := 144) B at_144 rfl rfl ?_
  refine o_iloadN (pc := 146) B at_146 rfl ?_
  refine o_iconst (pc := 147) B (2 : Int32) at_147 (by decide) ?_
  refine o_icmp_ne (pc := 148) (pc' := 160) B at_148 (by decide) (by decide) (fun hc148 => ?_) (fun hc148 => False.elim (by revert hc148; decide))
  refine o_aconst_null (pc := 160) B at_160 ?_
  refine o_astore_14_13 (pc := 161) B at_161 rfl rfl ?_
  refine o_aload (pc := 163) B at_163 rfl rfl ?_
  refine o_aload (pc := 165) B at_165 rfl rfl ?_
  refine o_acmp_ne (pc := 167) (pc' := 188) B rfl rfl at_167 (by decide) (by decide) (fun hc167 => False.elim (hc167 rfl)) (fun hc167 => ?_)
  refine o_aload (pc := 170) B at_170 rfl rfl ?_
  refine o_aload (pc := 172) B at_172 rfl rfl ?_
  refine o_acmp_ne (pc := 174) (pc' := 188) B rfl rfl at_174 (by decide) (by decide) (fun hc174 => False.elim (hc174 rfl)) (fun hc174 => ?_)
  refine o_aload (pc := 177) B at_177 rfl rfl ?_
  refine o_aload (pc := 179) B at_179 rfl rfl ?_
  refine o_acmp_ne (pc := 181) (pc' := 188) B rfl rfl at_181 (by decide) (by decide) (fun hc181 => False.elim (hc181 rfl)) (fun hc181 => ?_)
  refine o_iconst (pc := 184) B (1 : Int32) at_184 (by decide) ?_
  refine o_goto (pc := 185) (pc' := 189) B at_185 (by decide) (by decide) ?_
  exact o_zreturn (pc := 189) B at_189 (by decide) (by decide) (rfl)
set_option maxRecDepth 65536 in
set_option maxHeartbeats 40000000 in
theorem own_tail_01 (l : Launch) (Z : State) (a0 : Array Value) (hw : ∀ d ∈ tables_1, d.before a0 Z = true) (n0 : Nat) (h : Heap) (κ : o_K) (B : o_Bo κ l Z n0 room_1 x code maxLocals ret) (p q : Int32) (ca cb cc o r : Addr) (na : ca ≠ o) (na2 : ca ≠ r) (nb : cb ≠ o) (nb2 : cb ≠ r) (nc : cc ≠ o) (nc2 : cc ≠ r) (Ea : Exa Z h ca own_PL) (Eb : Exa Z h cb own_PL) (Ec : Exa Z h cc own_PL) (O0 : own_Ob Z n0 h o r 0 0 (List.replicate 16 .null)) :
    o_Go κ (fun v h' => v = some (.int 1)) h 11 139 55 [.val (.int p), .val (.int q), .val (.int 0), .val (.int 1), .val (.ref ca), .val (.ref cb), .val (.ref cc), .val (.ref o), .unset, .unset, .unset, .unset, .unset, .unset] [] := by
  refine o_iloadN (pc := 55) B at_55 rfl ?_
  refine o_iconst (pc := 56) B (1 : Int32) at_56 (by decide) ?_
  refine o_icmp_lt (pc := 57) (pc' := 67) B at_57 (by decide) (by decide) (fun hc57 => ?_) (fun hc57 => False.elim (by revert hc57; decide))
  refine o_iloadN (pc := 67) B at_67 rfl ?_
  refine o_iconst (pc := 68) B (2 : Int32) at_68 (by decide) ?_
  refine o_icmp_lt (pc := 69) (pc' := 79) B at_69 (by decide) (by decide) (fun hc69 => ?_) (fun hc69 => False.elim (by revert hc69; decide))
  refine o_aload (pc := 79) B at_79 rfl rfl ?_
  refine o_callV0 (pc := 81) B 0 at_81 (hw _ (List.mem_of_getElem? (i := 48) rfl)) (hw _ (List.mem_of_getElem? (i := 49) rfl)) (hw _ (List.mem_of_getElem? (i := 51) rfl)) (hw _ (List.mem_of_getElem? (i := 50) rfl)) (hw _ (List.mem_of_getElem? (i := 39) rfl)) (hw _ (List.mem_of_getElem? (i := 52) rfl)) (by decide) pd7 rfl (by first | exact Nat.zero_le _ | exact Nat.le_of_ble_eq_true rfl | simp [Value.category]) (by decide) (by decide) (by decide) (by decide) rfl (O0.ex) (oc7z l Z a0 hw n0 _ o r 0 _ O0) ?_
  rintro v h1 ⟨rfl, rfl⟩
  refine o_astore_14_8 (pc := 84) B at_84 rfl rfl ?_
  refine o_iloadN (pc := 86) B at_86 rfl ?_
  refine o_if_eq (pc := 87) (pc' := 97) B at_87 (by decide) (by decide) (fun hc87 => False.elim (by revert hc87; decide)) (fun hc87 => ?_)
  refine o_aload (pc := 90) B at_90 rfl rfl ?_
  refine o_aload (pc := 92) B at_92 rfl rfl ?_
  refine o_callV1 (pc := 94) B 0 at_94 (hw _ (List.mem_of_getElem? (i := 55) rfl)) (hw _ (List.mem_of_getElem? (i := 56) rfl)) (hw _ (List.mem_of_getElem? (i := 58) rfl)) (hw _ (List.mem_of_getElem? (i := 57) rfl)) (hw _ (List.mem_of_getElem? (i := 39) rfl)) (hw _ (List.mem_of_getElem? (i := 59) rfl)) (by decide) pd8 rfl (by first | exact Nat.zero_le _ | exact Nat.le_of_ble_eq_true rfl | simp [Value.category]) (by decide) (by decide) (by decide) (by decide) rfl (O0.ex) (oc8 l Z a0 hw n0 _ o r cc 0 0 (List.replicate 16 .null) O0 (by decide) (by decide) (by simp) Ec) ?_
  rintro v h2 ⟨rfl, K2, O2⟩
  refine o_aload (pc := 97) B at_97 rfl rfl ?_
  refine o_callV0 (pc := 99) B 0 at_99 (hw _ (List.mem_of_getElem? (i := 48) rfl)) (hw _ (List.mem_of_getElem? (i := 49) rfl)) (hw _ (List.mem_of_getElem? (i := 51) rfl)) (hw _ (List.mem_of_getElem? (i := 50) rfl)) (hw _ (List.mem_of_getElem? (i := 39) rfl)) (hw _ (List.mem_of_getElem? (i := 52) rfl)) (by decide) pd7 rfl (by first | exact Nat.zero_le _ | exact Nat.le_of_ble_eq_true rfl | simp [Value.category]) (by decide) (by decide) (by decide) (by decide) rfl (O2.ex) (oc7 l Z a0 hw n0 _ o r cc 0 0 ((List.replicate 16 .null).set (0 + 0) (.ref cc)) O2 (by decide) (by decide) (by simp) rfl) ?_
  rintro v h3 ⟨rfl, K3, O3⟩
  refine o_astore_14_9 (pc := 102) B at_102 rfl rfl ?_
  refine o_aload (pc := 104) B at_104 rfl rfl ?_
  refine o_callV0 (pc := 106) B 0 at_106 (hw _ (List.mem_of_getElem? (i := 48) rfl)) (hw _ (List.mem_of_getElem? (i := 49) rfl)) (hw _ (List.mem_of_getElem? (i := 51) rfl)) (hw _ (List.mem_of_getElem? (i := 50) rfl)) (hw _ (List.mem_of_getElem? (i := 39) rfl)) (hw _ (List.mem_of_getElem? (i := 52) rfl)) (by decide) pd7 rfl (by first | exact Nat.zero_le _ | exact Nat.le_of_ble_eq_true rfl | simp [Value.category]) (by decide) (by decide) (by decide) (by decide) rfl (O3.ex) (oc7z l Z a0 hw n0 _ o r 1 _ O3) ?_
  rintro v h4 ⟨rfl, rfl⟩
  refine o_astore_14_10 (pc := 109) B at_109 rfl rfl ?_
  refine o_iloadN (pc := 111) B at_111 rfl ?_
  refine o_iconst (pc := 112) B (1 : Int32) at_112 (by decide) ?_
  refine o_icmp_lt (pc := 113) (pc' := 121) B at_113 (by decide) (by decide) (fun hc113 => ?_) (fun hc113 => False.elim (by revert hc113; decide))
  refine o_aconst_null (pc := 121) B at_121 ?_
  refine o_astore_14_11 (pc := 122) B at_122 rfl rfl ?_
  refine o_iloadN (pc := 124) B at_124 rfl ?_
  refine o_iconst (pc := 125) B (2 : Int32) at_125 (by decide) ?_
  refine o_icmp_ne (pc := 126) (pc' := 134) B at_126 (by decide) (by decide) (fun hc126 => ?_) (fun hc126 => False.elim (by revert hc126; decide))
  refine o_iloadN (pc := 134) B at_134 rfl ?_
  refine o_if_eq (pc := 135) (pc' := 143) B at_135 (by decide) (by decide) (fun hc135 => False.elim (by revert hc135; decide)) (fun hc135 => ?_)
  refine o_aload (pc := 138) B at_138 rfl rfl ?_
  refine o_goto (pc := 140) (pc' := 144) B at_140 (by decide) (by decide) ?_
  refine o_astore_14_12 (pc := 144) B at_144 rfl rfl ?_
  refine o_iloadN (pc := 146) B at_146 rfl ?_
  refine o_iconst (pc := 147) B (2 : Int32) at_147 (by decide) ?_
  refine o_icmp_ne (pc := 148) (pc' := 160) B at_148 (by decide) (by decide) (fun hc148 => ?_) (fun hc148 => False.elim (by revert hc148; decide))
  refine o_aconst_null (pc := 160) B at_160 ?_
  refine o_astore_14_13 (pc := 161) B at_161 rfl rfl ?_
  refine o_aload (pc := 163) B at_163 rfl rfl ?_
  refine o_aload (pc := 165) B at_165 rfl rfl ?_
  refine o_acmp_ne (pc := 167) (pc' := 188) B rfl rfl at_167 (by decide) (by decide) (fun hc167 => False.elim (hc167 rfl)) (fun hc167 => ?_)
  refine o_aload (pc := 170) B at_170 rfl rfl ?_
  refine o_aload (pc := 172) B at_172 rfl rfl ?_
  refine o_acmp_ne (pc := 174) (pc' := 188) B rfl rfl at_174 (by decide) (by decide) (fun hc174 => False.elim (hc174 rfl)) (fun hc174 => ?_)
  refine o_aload (pc := 177) B at_177 rfl rfl ?_
  refine o_aload (pc := 179) B at_179 rfl rfl ?_
  refine o_acmp_ne (pc := 181) (pc' := 188) B rfl rfl at_181 (by decide) (by decide) (fun hc181 => False.elim (hc181 rfl)) (fun hc181 => ?_)
  refine o_iconst (pc := 184) B (1 : Int32) at_184 (by decide) ?_
  refine o_goto (pc := 185) (pc' := 189) B at_185 (by decide) (by decide) ?_
  exact o_zreturn (pc := 189) B at_189 (by decide) (by decide) (rfl)
set_option maxRecDepth 65536 in
set_option maxHeartbeats 40000000 in
theorem own_tail_10 (l : Launch) (Z : State) (a0 : Array Value) (hw : ∀ d ∈ tables_1, d.before a0 Z = true) (n0 : Nat) (h : Heap) (κ : o_K) (B : o_Bo κ l Z n0 room_1 x code maxLocals ret) (p q : Int32) (ca cb cc o r : Addr) (na : ca ≠ o) (na2 : ca ≠ r) (nb : cb ≠ o) (nb2 : cb ≠ r) (nc : cc ≠ o) (nc2 : cc ≠ r) (Ea : Exa Z h ca own_PL) (Eb : Exa Z h cb own_PL) (Ec : Exa Z h cc own_PL) (O0 : own_Ob Z n0 h o r 0 0 (List.replicate 16 .null)) :
    o_Go κ (fun v h' => v = some (.int 1)) h 11 139 55 [.val (.int p), .val (.int q), .val (.int 1), .val (.int 0), .val (.ref ca), .val (.ref cb), .val (.ref cc), .val (.ref o), .unset, .unset, .unset, .unset, .unset, .unset] [] := by
  refine o_iloadN (pc := 55) B at_55 rfl ?_
  refine o_iconst (pc := 56) B (1 : Int32) at_56 (by decide) ?_
  refine o_icmp_lt (pc := 57) (pc' := 67) B at_57 (by decide) (by decide) (fun hc57 => False.elim (by revert hc57; decide)) (fun hc57 => ?_)
  refine o_aload (pc := 60) B at_60 rfl rfl ?_
  refine o_aload (pc := 62) B at_62 rfl rfl ?_
  refine o_callV1 (pc := 64) B 0 at_64 (hw _ (List.mem_of_getElem? (i := 55) rfl)) (hw _ (List.mem_of_getElem? (i := 56) rfl)) (hw _ (List.mem_of_getElem? (i := 58) rfl)) (hw _ (List.mem_of_getElem? (i := 57) rfl)) (hw _ (List.mem_of_getElem? (i := 39) rfl)) (hw _ (List.mem_of_getElem? (i := 59) rfl)) (by decide) pd8 rfl (by first | exact Nat.zero_le _ | exact Nat.le_of_ble_eq_true rfl | simp [Value.category]) (by decide) (by decide) (by decide) (by decide) rfl (O0.ex) (oc8 l Z a0 hw n0 _ o r ca 0 0 (List.replicate 16 .null) O0 (by decide) (by decide) (by simp) Ea) ?_
  rintro v h1 ⟨rfl, K1, O1⟩
  refine o_iloadN (pc := 67) B at_67 rfl ?_
  refine o_iconst (pc := 68) B (2 : Int32) at_68 (by decide) ?_
  refine o_icmp_lt (pc := 69) (pc' := 79) B at_69 (by decide) (by decide) (fun hc69 => ?_) (fun hc69 => False.elim (by revert hc69; decide))
  refine o_aload (pc := 79) B at_79 rfl rfl ?_
  refine o_callV0 (pc := 81) B 0 at_81 (hw _ (List.mem_of_getElem? (i := 48) rfl)) (hw _ (List.mem_of_getElem? (i := 49) rfl)) (hw _ (List.mem_of_getElem? (i := 51) rfl)) (hw _ (List.mem_of_getElem? (i := 50) rfl)) (hw _ (List.mem_of_getElem? (i := 39) rfl)) (hw _ (List.mem_of_getElem? (i := 52) rfl)) (by decide) pd7 rfl (by first | exact Nat.zero_le _ | exact Nat.le_of_ble_eq_true rfl | simp [Value.category]) (by decide) (by decide) (by decide) (by decide) rfl (O1.ex) (oc7 l Z a0 hw n0 _ o r ca 0 0 ((List.replicate 16 .null).set (0 + 0) (.ref ca)) O1 (by decide) (by decide) (by simp) rfl) ?_
  rintro v h2 ⟨rfl, K2, O2⟩
  refine o_astore_14_8 (pc := 84) B at_84 rfl rfl ?_
  refine o_iloadN (pc := 86) B at_86 rfl ?_
  refine o_if_eq (pc := 87) (pc' := 97) B at_87 (by decide) (by decide) (fun hc87 => ?_) (fun hc87 => False.elim (by revert hc87; decide))
  refine o_aload (pc := 97) B at_97 rfl rfl ?_
  refine o_callV0 (pc := 99) B 0 at_99 (hw _ (List.mem_of_getElem? (i := 48) rfl)) (hw _ (List.mem_of_getElem? (i := 49) rfl)) (hw _ (List.mem_of_getElem? (i := 51) rfl)) (hw _ (List.mem_of_getElem? (i := 50) rfl)) (hw _ (List.mem_of_getElem? (i := 39) rfl)) (hw _ (List.mem_of_getElem? (i := 52) rfl)) (by decide) pd7 rfl (by first | exact Nat.zero_le _ | exact Nat.le_of_ble_eq_true rfl | simp [Value.category]) (by decide) (by decide) (by decide) (by decide) rfl (O2.ex) (oc7z l Z a0 hw n0 _ o r 1 _ O2) ?_
  rintro v h3 ⟨rfl, rfl⟩
  refine o_astore_14_9 (pc := 102) B at_102 rfl rfl ?_
  refine o_aload (pc := 104) B at_104 rfl rfl ?_
  refine o_callV0 (pc := 106) B 0 at_106 (hw _ (List.mem_of_getElem? (i := 48) rfl)) (hw _ (List.mem_of_getElem? (i := 49) rfl)) (hw _ (List.mem_of_getElem? (i := 51) rfl)) (hw _ (List.mem_of_getElem? (i := 50) rfl)) (hw _ (List.mem_of_getElem? (i := 39) rfl)) (hw _ (List.mem_of_getElem? (i := 52) rfl)) (by decide) pd7 rfl (by first | exact Nat.zero_le _ | exact Nat.le_of_ble_eq_true rfl | simp [Value.category]) (by decide) (by decide) (by decide) (by decide) rfl (O2.ex) (oc7z l Z a0 hw n0 _ o r 1 _ O2) ?_
  rintro v h4 ⟨rfl, rfl⟩
  refine o_astore_14_10 (pc := 109) B at_109 rfl rfl ?_
  refine o_iloadN (pc := 111) B at_111 rfl ?_
  refine o_iconst (pc := 112) B (1 : Int32) at_112 (by decide) ?_
  refine o_icmp_lt (pc := 113) (pc' := 121) B at_113 (by decide) (by decide) (fun hc113 => False.elim (by revert hc113; decide)) (fun hc113 => ?_)
  refine o_aload (pc := 116) B at_116 rfl rfl ?_
  refine o_goto (pc := 118) (pc' := 122) B at_118 (by decide) (by decide) ?_
  refine o_astore_14_11 (pc := 122) B at_122 rfl rfl ?_
  refine o_iloadN (pc := 124) B at_124 rfl ?_
  refine o_iconst (pc := 125) B (2 : Int32) at_125 (by decide) ?_
  refine o_icmp_ne (pc := 126) (pc' := 134) B at_126 (by decide) (by decide) (fun hc126 => ?_) (fun hc126 => False.elim (by revert hc126; decide))
  refine o_iloadN (pc := 134) B at_134 rfl ?_
  refine o_if_eq (pc := 135) (pc' := 143) B at_135 (by decide) (by decide) (fun hc135 => ?_) (fun hc135 => False.elim (by revert hc135; decide))
  refine o_aconst_null (pc := 143) B at_143 ?_
  refine o_astore_14_12 (pc := 144) B at_144 rfl rfl ?_
  refine o_iloadN (pc := 146) B at_146 rfl ?_
  refine o_iconst (pc := 147) B (2 : Int32) at_147 (by decide) ?_
  refine o_icmp_ne (pc := 148) (pc' := 160) B at_148 (by decide) (by decide) (fun hc148 => ?_) (fun hc148 => False.elim (by revert hc148; decide))
  refine o_aconst_null (pc := 160) B at_160 ?_
  refine o_astore_14_13 (pc := 161) B at_161 rfl rfl ?_
  refine o_aload (pc := 163) B at_163 rfl rfl ?_
  refine o_aload (pc := 165) B at_165 rfl rfl ?_
  refine o_acmp_ne (pc := 167) (pc' := 188) B rfl rfl at_167 (by decide) (by decide) (fun hc167 => False.elim (hc167 rfl)) (fun hc167 => ?_)
  refine o_aload (pc := 170) B at_170 rfl rfl ?_
  refine o_aload (pc := 172) B at_172 rfl rfl ?_
  refine o_acmp_ne (pc := 174) (pc' := 188) B rfl rfl at_174 (by decide) (by decide) (fun hc174 => False.elim (hc174 rfl)) (fun hc174 => ?_)
  refine o_aload (pc := 177) B at_177 rfl rfl ?_
  refine o_aload (pc := 179) B at_179 rfl rfl ?_
  refine o_acmp_ne (pc := 181) (pc' := 188) B rfl rfl at_181 (by decide) (by decide) (fun hc181 => False.elim (hc181 rfl)) (fun hc181 => ?_)
  refine o_iconst (pc := 184) B (1 : Int32) at_184 (by decide) ?_
  refine o_goto (pc := 185) (pc' := 189) B at_185 (by decide) (by decide) ?_
  exact o_zreturn (pc := 189) B at_189 (by decide) (by decide) (rfl)
set_option maxRecDepth 65536 in
set_option maxHeartbeats 40000000 in
theorem own_tail_11 (l : Launch) (Z : State) (a0 : Array Value) (hw : ∀ d ∈ tables_1, d.before a0 Z = true) (n0 : Nat) (h : Heap) (κ : o_K) (B : o_Bo κ l Z n0 room_1 x code maxLocals ret) (p q : Int32) (ca cb cc o r : Addr) (na : ca ≠ o) (na2 : ca ≠ r) (nb : cb ≠ o) (nb2 : cb ≠ r) (nc : cc ≠ o) (nc2 : cc ≠ r) (Ea : Exa Z h ca own_PL) (Eb : Exa Z h cb own_PL) (Ec : Exa Z h cc own_PL) (O0 : own_Ob Z n0 h o r 0 0 (List.replicate 16 .null)) :
    o_Go κ (fun v h' => v = some (.int 1)) h 11 139 55 [.val (.int p), .val (.int q), .val (.int 1), .val (.int 1), .val (.ref ca), .val (.ref cb), .val (.ref cc), .val (.ref o), .unset, .unset, .unset, .unset, .unset, .unset] [] := by
  refine o_iloadN (pc := 55) B at_55 rfl ?_
  refine o_iconst (pc := 56) B (1 : Int32) at_56 (by decide) ?_
  refine o_icmp_lt (pc := 57) (pc' := 67) B at_57 (by decide) (by decide) (fun hc57 => False.elim (by revert hc57; decide)) (fun hc57 => ?_)
  refine o_aload (pc := 60) B at_60 rfl rfl ?_
  refine o_aload (pc := 62) B at_62 rfl rfl ?_
  refine o_callV1 (pc := 64) B 0 at_64 (hw _ (List.mem_of_getElem? (i := 55) rfl)) (hw _ (List.mem_of_getElem? (i := 56) rfl)) (hw _ (List.mem_of_getElem? (i := 58) rfl)) (hw _ (List.mem_of_getElem? (i := 57) rfl)) (hw _ (List.mem_of_getElem? (i := 39) rfl)) (hw _ (List.mem_of_getElem? (i := 59) rfl)) (by decide) pd8 rfl (by first | exact Nat.zero_le _ | exact Nat.le_of_ble_eq_true rfl | simp [Value.category]) (by decide) (by decide) (by decide) (by decide) rfl (O0.ex) (oc8 l Z a0 hw n0 _ o r ca 0 0 (List.replicate 16 .null) O0 (by decide) (by decide) (by simp) Ea) ?_
  rintro v h1 ⟨rfl, K1, O1⟩
  refine o_iloadN (pc := 67) B at_67 rfl ?_
  refine o_iconst (pc := 68) B (2 : Int32) at_68 (by decide) ?_
  refine o_icmp_lt (pc := 69) (pc' := 79) B at_69 (by decide) (by decide) (fun hc69 => ?_) (fun hc69 => False.elim (by revert hc69; decide))
  refine o_aload (pc := 79) B at_79 rfl rfl ?_
  refine o_callV0 (pc := 81) B 0 at_81 (hw _ (List.mem_of_getElem? (i := 48) rfl)) (hw _ (List.mem_of_getElem? (i := 49) rfl)) (hw _ (List.mem_of_getElem? (i := 51) rfl)) (hw _ (List.mem_of_getElem? (i := 50) rfl)) (hw _ (List.mem_of_getElem? (i := 39) rfl)) (hw _ (List.mem_of_getElem? (i := 52) rfl)) (by decide) pd7 rfl (by first | exact Nat.zero_le _ | exact Nat.le_of_ble_eq_true rfl | simp [Value.category]) (by decide) (by decide) (by decide) (by decide) rfl (O1.ex) (oc7 l Z a0 hw n0 _ o r ca 0 0 ((List.replicate 16 .null).set (0 + 0) (.ref ca)) O1 (by decide) (by decide) (by simp) rfl) ?_
  rintro v h2 ⟨rfl, K2, O2⟩
  refine o_astore_14_8 (pc := 84) B at_84 rfl rfl ?_
  refine o_iloadN (pc := 86) B at_86 rfl ?_
  refine o_if_eq (pc := 87) (pc' := 97) B at_87 (by decide) (by decide) (fun hc87 => False.elim (by revert hc87; decide)) (fun hc87 => ?_)
  refine o_aload (pc := 90) B at_90 rfl rfl ?_
  refine o_aload (pc := 92) B at_92 rfl rfl ?_
  refine o_callV1 (pc := 94) B 0 at_94 (hw _ (List.mem_of_getElem? (i := 55) rfl)) (hw _ (List.mem_of_getElem? (i := 56) rfl)) (hw _ (List.mem_of_getElem? (i := 58) rfl)) (hw _ (List.mem_of_getElem? (i := 57) rfl)) (hw _ (List.mem_of_getElem? (i := 39) rfl)) (hw _ (List.mem_of_getElem? (i := 59) rfl)) (by decide) pd8 rfl (by first | exact Nat.zero_le _ | exact Nat.le_of_ble_eq_true rfl | simp [Value.category]) (by decide) (by decide) (by decide) (by decide) rfl (O2.ex) (oc8 l Z a0 hw n0 _ o r cc 1 0 (((List.replicate 16 .null).set (0 + 0) (.ref ca)).set 0 .null) O2 (by decide) (by decide) (by simp) ((Ec.keep K1).keep K2)) ?_
  rintro v h3 ⟨rfl, K3, O3⟩
  refine o_aload (pc := 97) B at_97 rfl rfl ?_
  refine o_callV0 (pc := 99) B 0 at_99 (hw _ (List.mem_of_getElem? (i := 48) rfl)) (hw _ (List.mem_of_getElem? (i := 49) rfl)) (hw _ (List.mem_of_getElem? (i := 51) rfl)) (hw _ (List.mem_of_getElem? (i := 50) rfl)) (hw _ (List.mem_of_getElem? (i := 39) rfl)) (hw _ (List.mem_of_getElem? (i := 52) rfl)) (by decide) pd7 rfl (by first | exact Nat.zero_le _ | exact Nat.le_of_ble_eq_true rfl | simp [Value.category]) (by decide) (by decide) (by decide) (by decide) rfl (O3.ex) (oc7 l Z a0 hw n0 _ o r cc 1 0 ((((List.replicate 16 .null).set (0 + 0) (.ref ca)).set 0 .null).set (1 + 0) (.ref cc)) O3 (by decide) (by decide) (by simp) rfl) ?_
  rintro v h4 ⟨rfl, K4, O4⟩
  refine o_astore_14_9 (pc := 102) B at_102 rfl rfl ?_
  refine o_aload (pc := 104) B at_104 rfl rfl ?_
  refine o_callV0 (pc := 106) B 0 at_106 (hw _ (List.mem_of_getElem? (i := 48) rfl)) (hw _ (List.mem_of_getElem? (i := 49) rfl)) (hw _ (List.mem_of_getElem? (i := 51) rfl)) (hw _ (List.mem_of_getElem? (i := 50) rfl)) (hw _ (List.mem_of_getElem? (i := 39) rfl)) (hw _ (List.mem_of_getElem? (i := 52) rfl)) (by decide) pd7 rfl (by first | exact Nat.zero_le _ | exact Nat.le_of_ble_eq_true rfl | simp [Value.category]) (by decide) (by decide) (by decide) (by decide) rfl (O4.ex) (oc7z l Z a0 hw n0 _ o r 2 _ O4) ?_
  rintro v h5 ⟨rfl, rfl⟩
  refine o_astore_14_10 (pc := 109) B at_109 rfl rfl ?_
  refine o_iloadN (pc := 111) B at_111 rfl ?_
  refine o_iconst (pc := 112) B (1 : Int32) at_112 (by decide) ?_
  refine o_icmp_lt (pc := 113) (pc' := 121) B at_113 (by decide) (by decide) (fun hc113 => False.elim (by revert hc113; decide)) (fun hc113 => ?_)
  refine o_aload (pc := 116) B at_116 rfl rfl ?_
  refine o_goto (pc := 118) (pc' := 122) B at_118 (by decide) (by decide) ?_
  refine o_astore_14_11 (pc := 122) B at_122 rfl rfl ?_
  refine o_iloadN (pc := 124) B at_124 rfl ?_
  refine o_iconst (pc := 125) B (2 : Int32) at_125 (by decide) ?_
  refine o_icmp_ne (pc := 126) (pc' := 134) B at_126 (by decide) (by decide) (fun hc126 => ?_) (fun hc126 => False.elim (by revert hc126; decide))
  refine o_iloadN (pc := 134) B at_134 rfl ?_
  refine o_if_eq (pc := 135) (pc' := 143) B at_135 (by decide) (by decide) (fun hc135 => False.elim (by revert hc135; decide)) (fun hc135 => ?_)
  refine o_aload (pc := 138) B at_138 rfl rfl ?_
  refine o_goto (pc := 140) (pc' := 144) B at_140 (by decide) (by decide) ?_
  refine o_astore_14_12 (pc := 144) B at_144 rfl rfl ?_
  refine o_iloadN (pc := 146) B at_146 rfl ?_
  refine o_iconst (pc := 147) B (2 : Int32) at_147 (by decide) ?_
  refine o_icmp_ne (pc := 148) (pc' := 160) B at_148 (by decide) (by decide) (fun hc148 => ?_) (fun hc148 => False.elim (by revert hc148; decide))
  refine o_aconst_null (pc := 160) B at_160 ?_
  refine o_astore_14_13 (pc := 161) B at_161 rfl rfl ?_
  refine o_aload (pc := 163) B at_163 rfl rfl ?_
  refine o_aload (pc := 165) B at_165 rfl rfl ?_
  refine o_acmp_ne (pc := 167) (pc' := 188) B rfl rfl at_167 (by decide) (by decide) (fun hc167 => False.elim (hc167 rfl)) (fun hc167 => ?_)
  refine o_aload (pc := 170) B at_170 rfl rfl ?_
  refine o_aload (pc := 172) B at_172 rfl rfl ?_
  refine o_acmp_ne (pc := 174) (pc' := 188) B rfl rfl at_174 (by decide) (by decide) (fun hc174 => False.elim (hc174 rfl)) (fun hc174 => ?_)
  refine o_aload (pc := 177) B at_177 rfl rfl ?_
  refine o_aload (pc := 179) B at_179 rfl rfl ?_
  refine o_acmp_ne (pc := 181) (pc' := 188) B rfl rfl at_181 (by decide) (by decide) (fun hc181 => False.elim (hc181 rfl)) (fun hc181 => ?_)
  refine o_iconst (pc := 184) B (1 : Int32) at_184 (by decide) ?_
  refine o_goto (pc := 185) (pc' := 189) B at_185 (by decide) (by decide) ?_
  exact o_zreturn (pc := 189) B at_189 (by decide) (by decide) (rfl)
set_option maxRecDepth 65536 in
set_option maxHeartbeats 40000000 in
theorem own_tail_20 (l : Launch) (Z : State) (a0 : Array Value) (hw : ∀ d ∈ tables_1, d.before a0 Z = true) (n0 : Nat) (h : Heap) (κ : o_K) (B : o_Bo κ l Z n0 room_1 x code maxLocals ret) (p q : Int32) (ca cb cc o r : Addr) (na : ca ≠ o) (na2 : ca ≠ r) (nb : cb ≠ o) (nb2 : cb ≠ r) (nc : cc ≠ o) (nc2 : cc ≠ r) (Ea : Exa Z h ca own_PL) (Eb : Exa Z h cb own_PL) (Ec : Exa Z h cc own_PL) (O0 : own_Ob Z n0 h o r 0 0 (List.replicate 16 .null)) :
    o_Go κ (fun v h' => v = some (.int 1)) h 11 139 55 [.val (.int p), .val (.int q), .val (.int 2), .val (.int 0), .val (.ref ca), .val (.ref cb), .val (.ref cc), .val (.ref o), .unset, .unset, .unset, .unset, .unset, .unset] [] := by
  refine o_iloadN (pc := 55) B at_55 rfl ?_
  refine o_iconst (pc := 56) B (1 : Int32) at_56 (by decide) ?_
  refine o_icmp_lt (pc := 57) (pc' := 67) B at_57 (by decide) (by decide) (fun hc57 => False.elim (by revert hc57; decide)) (fun hc57 => ?_)
  refine o_aload (pc := 60) B at_60 rfl rfl ?_
  refine o_aload (pc := 62) B at_62 rfl rfl ?_
  refine o_callV1 (pc := 64) B 0 at_64 (hw _ (List.mem_of_getElem? (i := 55) rfl)) (hw _ (List.mem_of_getElem? (i := 56) rfl)) (hw _ (List.mem_of_getElem? (i := 58) rfl)) (hw _ (List.mem_of_getElem? (i := 57) rfl)) (hw _ (List.mem_of_getElem? (i := 39) rfl)) (hw _ (List.mem_of_getElem? (i := 59) rfl)) (by decide) pd8 rfl (by first | exact Nat.zero_le _ | exact Nat.le_of_ble_eq_true rfl | simp [Value.category]) (by decide) (by decide) (by decide) (by decide) rfl (O0.ex) (oc8 l Z a0 hw n0 _ o r ca 0 0 (List.replicate 16 .null) O0 (by decide) (by decide) (by simp) Ea) ?_
  rintro v h1 ⟨rfl, K1, O1⟩
  refine o_iloadN (pc := 67) B at_67 rfl ?_
  refine o_iconst (pc := 68) B (2 : Int32) at_68 (by decide) ?_
  refine o_icmp_lt (pc := 69) (pc' := 79) B at_69 (by decide) (by decide) (fun hc69 => False.elim (by revert hc69; decide)) (fun hc69 => ?_)
  refine o_aload (pc := 72) B at_72 rfl rfl ?_
  refine o_aload (pc := 74) B at_74 rfl rfl ?_
  refine o_callV1 (pc := 76) B 0 at_76 (hw _ (List.mem_of_getElem? (i := 55) rfl)) (hw _ (List.mem_of_getElem? (i := 56) rfl)) (hw _ (List.mem_of_getElem? (i := 58) rfl)) (hw _ (List.mem_of_getElem? (i := 57) rfl)) (hw _ (List.mem_of_getElem? (i := 39) rfl)) (hw _ (List.mem_of_getElem? (i := 59) rfl)) (by decide) pd8 rfl (by first | exact Nat.zero_le _ | exact Nat.le_of_ble_eq_true rfl | simp [Value.category]) (by decide) (by decide) (by decide) (by decide) rfl (O1.ex) (oc8 l Z a0 hw n0 _ o r cb 0 1 ((List.replicate 16 .null).set (0 + 0) (.ref ca)) O1 (by decide) (by decide) (by simp) (Eb.keep K1)) ?_
  rintro v h2 ⟨rfl, K2, O2⟩
  refine o_aload (pc := 79) B at_79 rfl rfl ?_
  refine o_callV0 (pc := 81) B 0 at_81 (hw _ (List.mem_of_getElem? (i := 48) rfl)) (hw _ (List.mem_of_getElem? (i := 49) rfl)) (hw _ (List.mem_of_getElem? (i := 51) rfl)) (hw _ (List.mem_of_getElem? (i := 50) rfl)) (hw _ (List.mem_of_getElem? (i := 39) rfl)) (hw _ (List.mem_of_getElem? (i := 52) rfl)) (by decide) pd7 rfl (by first | exact Nat.zero_le _ | exact Nat.le_of_ble_eq_true rfl | simp [Value.category]) (by decide) (by decide) (by decide) (by decide) rfl (O2.ex) (oc7 l Z a0 hw n0 _ o r ca 0 1 (((List.replicate 16 .null).set (0 + 0) (.ref ca)).set (0 + 1) (.ref cb)) O2 (by decide) (by decide) (by simp) rfl) ?_
  rintro v h3 ⟨rfl, K3, O3⟩
  refine o_astore_14_8 (pc := 84) B at_84 rfl rfl ?_
  refine o_iloadN (pc := 86) B at_86 rfl ?_
  refine o_if_eq (pc := 87) (pc' := 97) B at_87 (by decide) (by decide) (fun hc87 => ?_) (fun hc87 => False.elim (by revert hc87; decide))
  refine o_aload (pc := 97) B at_97 rfl rfl ?_
  refine o_callV0 (pc := 99) B 0 at_99 (hw _ (List.mem_of_getElem? (i := 48) rfl)) (hw _ (List.mem_of_getElem? (i := 49) rfl)) (hw _ (List.mem_of_getElem? (i := 51) rfl)) (hw _ (List.mem_of_getElem? (i := 50) rfl)) (hw _ (List.mem_of_getElem? (i := 39) rfl)) (hw _ (List.mem_of_getElem? (i := 52) rfl)) (by decide) pd7 rfl (by first | exact Nat.zero_le _ | exact Nat.le_of_ble_eq_true rfl | simp [Value.category]) (by decide) (by decide) (by decide) (by decide) rfl (O3.ex) (oc7 l Z a0 hw n0 _ o r cb 1 0 ((((List.replicate 16 .null).set (0 + 0) (.ref ca)).set (0 + 1) (.ref cb)).set 0 .null) O3 (by decide) (by decide) (by simp) rfl) ?_
  rintro v h4 ⟨rfl, K4, O4⟩
  refine o_astore_14_9 (pc := 102) B at_102 rfl rfl ?_
  refine o_aload (pc := 104) B at_104 rfl rfl ?_
  refine o_callV0 (pc := 106) B 0 at_106 (hw _ (List.mem_of_getElem? (i := 48) rfl)) (hw _ (List.mem_of_getElem? (i := 49) rfl)) (hw _ (List.mem_of_getElem? (i := 51) rfl)) (hw _ (List.mem_of_getElem? (i := 50) rfl)) (hw _ (List.mem_of_getElem? (i := 39) rfl)) (hw _ (List.mem_of_getElem? (i := 52) rfl)) (by decide) pd7 rfl (by first | exact Nat.zero_le _ | exact Nat.le_of_ble_eq_true rfl | simp [Value.category]) (by decide) (by decide) (by decide) (by decide) rfl (O4.ex) (oc7z l Z a0 hw n0 _ o r 2 _ O4) ?_
  rintro v h5 ⟨rfl, rfl⟩
  refine o_astore_14_10 (pc := 109) B at_109 rfl rfl ?_
  refine o_iloadN (pc := 111) B at_111 rfl ?_
  refine o_iconst (pc := 112) B (1 : Int32) at_112 (by decide) ?_
  refine o_icmp_lt (pc := 113) (pc' := 121) B at_113 (by decide) (by decide) (fun hc113 => False.elim (by revert hc113; decide)) (fun hc113 => ?_)
  refine o_aload (pc := 116) B at_116 rfl rfl ?_
  refine o_goto (pc := 118) (pc' := 122) B at_118 (by decide) (by decide) ?_
  refine o_astore_14_11 (pc := 122) B at_122 rfl rfl ?_
  refine o_iloadN (pc := 124) B at_124 rfl ?_
  refine o_iconst (pc := 125) B (2 : Int32) at_125 (by decide) ?_
  refine o_icmp_ne (pc := 126) (pc' := 134) B at_126 (by decide) (by decide) (fun hc126 => False.elim (by revert hc126; decide)) (fun hc126 => ?_)
  refine o_aload (pc := 129) B at_129 rfl rfl ?_
  refine o_goto (pc := 131) (pc' := 144) B at_131 (by decide) (by decide) ?_
  refine o_astore_14_12 (pc := 144) B at_144 rfl rfl ?_
  refine o_iloadN (pc := 146) B at_146 rfl ?_
  refine o_iconst (pc := 147) B (2 : Int32) at_147 (by decide) ?_
  refine o_icmp_ne (pc := 148) (pc' := 160) B at_148 (by decide) (by decide) (fun hc148 => False.elim (by revert hc148; decide)) (fun hc148 => ?_)
  refine o_iloadN (pc := 151) B at_151 rfl ?_
  refine o_if_eq (pc := 152) (pc' := 160) B at_152 (by decide) (by decide) (fun hc152 => ?_) (fun hc152 => False.elim (by revert hc152; decide))
  refine o_aconst_null (pc := 160) B at_160 ?_
  refine o_astore_14_13 (pc := 161) B at_161 rfl rfl ?_
  refine o_aload (pc := 163) B at_163 rfl rfl ?_
  refine o_aload (pc := 165) B at_165 rfl rfl ?_
  refine o_acmp_ne (pc := 167) (pc' := 188) B rfl rfl at_167 (by decide) (by decide) (fun hc167 => False.elim (hc167 rfl)) (fun hc167 => ?_)
  refine o_aload (pc := 170) B at_170 rfl rfl ?_
  refine o_aload (pc := 172) B at_172 rfl rfl ?_
  refine o_acmp_ne (pc := 174) (pc' := 188) B rfl rfl at_174 (by decide) (by decide) (fun hc174 => False.elim (hc174 rfl)) (fun hc174 => ?_)
  refine o_aload (pc := 177) B at_177 rfl rfl ?_
  refine o_aload (pc := 179) B at_179 rfl rfl ?_
  refine o_acmp_ne (pc := 181) (pc' := 188) B rfl rfl at_181 (by decide) (by decide) (fun hc181 => False.elim (hc181 rfl)) (fun hc181 => ?_)
  refine o_iconst (pc := 184) B (1 : Int32) at_184 (by decide) ?_
  refine o_goto (pc := 185) (pc' := 189) B at_185 (by decide) (by decide) ?_
  exact o_zreturn (pc := 189) B at_189 (by decide) (by decide) (rfl)
set_option maxRecDepth 65536 in
set_option maxHeartbeats 40000000 in
theorem own_tail_21 (l : Launch) (Z : State) (a0 : Array Value) (hw : ∀ d ∈ tables_1, d.before a0 Z = true) (n0 : Nat) (h : Heap) (κ : o_K) (B : o_Bo κ l Z n0 room_1 x code maxLocals ret) (p q : Int32) (ca cb cc o r : Addr) (na : ca ≠ o) (na2 : ca ≠ r) (nb : cb ≠ o) (nb2 : cb ≠ r) (nc : cc ≠ o) (nc2 : cc ≠ r) (Ea : Exa Z h ca own_PL) (Eb : Exa Z h cb own_PL) (Ec : Exa Z h cc own_PL) (O0 : own_Ob Z n0 h o r 0 0 (List.replicate 16 .null)) :
    o_Go κ (fun v h' => v = some (.int 1)) h 11 139 55 [.val (.int p), .val (.int q), .val (.int 2), .val (.int 1), .val (.ref ca), .val (.ref cb), .val (.ref cc), .val (.ref o), .unset, .unset, .unset, .unset, .unset, .unset] [] := by
  refine o_iloadN (pc := 55) B at_55 rfl ?_
  refine o_iconst (pc := 56) B (1 : Int32) at_56 (by decide) ?_
  refine o_icmp_lt (pc := 57) (pc' := 67) B at_57 (by decide) (by decide) (fun hc57 => False.elim (by revert hc57; decide)) (fun hc57 => ?_)
  refine o_aload (pc := 60) B at_60 rfl rfl ?_
  refine o_aload (pc := 62) B at_62 rfl rfl ?_
  refine o_callV1 (pc := 64) B 0 at_64 (hw _ (List.mem_of_getElem? (i := 55) rfl)) (hw _ (List.mem_of_getElem? (i := 56) rfl)) (hw _ (List.mem_of_getElem? (i := 58) rfl)) (hw _ (List.mem_of_getElem? (i := 57) rfl)) (hw _ (List.mem_of_getElem? (i := 39) rfl)) (hw _ (List.mem_of_getElem? (i := 59) rfl)) (by decide) pd8 rfl (by first | exact Nat.zero_le _ | exact Nat.le_of_ble_eq_true rfl | simp [Value.category]) (by decide) (by decide) (by decide) (by decide) rfl (O0.ex) (oc8 l Z a0 hw n0 _ o r ca 0 0 (List.replicate 16 .null) O0 (by decide) (by decide) (by simp) Ea) ?_
  rintro v h1 ⟨rfl, K1, O1⟩
  refine o_iloadN (pc := 67) B at_67 rfl ?_
  refine o_iconst (pc := 68) B (2 : Int32) at_68 (by decide) ?_
  refine o_icmp_lt (pc := 69) (pc' := 79) B at_69 (by decide) (by decide) (fun hc69 => False.elim (by revert hc69; decide)) (fun hc69 => ?_)
  refine o_aload (pc := 72) B at_72 rfl rfl ?_
  refine o_aload (pc := 74) B at_74 rfl rfl ?_
  refine o_callV1 (pc := 76) B 0 at_76 (hw _ (List.mem_of_getElem? (i := 55) rfl)) (hw _ (List.mem_of_getElem? (i := 56) rfl)) (hw _ (List.mem_of_getElem? (i := 58) rfl)) (hw _ (List.mem_of_getElem? (i := 57) rfl)) (hw _ (List.mem_of_getElem? (i := 39) rfl)) (hw _ (List.mem_of_getElem? (i := 59) rfl)) (by decide) pd8 rfl (by first | exact Nat.zero_le _ | exact Nat.le_of_ble_eq_true rfl | simp [Value.category]) (by decide) (by decide) (by decide) (by decide) rfl (O1.ex) (oc8 l Z a0 hw n0 _ o r cb 0 1 ((List.replicate 16 .null).set (0 + 0) (.ref ca)) O1 (by decide) (by decide) (by simp) (Eb.keep K1)) ?_
  rintro v h2 ⟨rfl, K2, O2⟩
  refine o_aload (pc := 79) B at_79 rfl rfl ?_
  refine o_callV0 (pc := 81) B 0 at_81 (hw _ (List.mem_of_getElem? (i := 48) rfl)) (hw _ (List.mem_of_getElem? (i := 49) rfl)) (hw _ (List.mem_of_getElem? (i := 51) rfl)) (hw _ (List.mem_of_getElem? (i := 50) rfl)) (hw _ (List.mem_of_getElem? (i := 39) rfl)) (hw _ (List.mem_of_getElem? (i := 52) rfl)) (by decide) pd7 rfl (by first | exact Nat.zero_le _ | exact Nat.le_of_ble_eq_true rfl | simp [Value.category]) (by decide) (by decide) (by decide) (by decide) rfl (O2.ex) (oc7 l Z a0 hw n0 _ o r ca 0 1 (((List.replicate 16 .null).set (0 + 0) (.ref ca)).set (0 + 1) (.ref cb)) O2 (by decide) (by decide) (by simp) rfl) ?_
  rintro v h3 ⟨rfl, K3, O3⟩
  refine o_astore_14_8 (pc := 84) B at_84 rfl rfl ?_
  refine o_iloadN (pc := 86) B at_86 rfl ?_
  refine o_if_eq (pc := 87) (pc' := 97) B at_87 (by decide) (by decide) (fun hc87 => False.elim (by revert hc87; decide)) (fun hc87 => ?_)
  refine o_aload (pc := 90) B at_90 rfl rfl ?_
  refine o_aload (pc := 92) B at_92 rfl rfl ?_
  refine o_callV1 (pc := 94) B 0 at_94 (hw _ (List.mem_of_getElem? (i := 55) rfl)) (hw _ (List.mem_of_getElem? (i := 56) rfl)) (hw _ (List.mem_of_getElem? (i := 58) rfl)) (hw _ (List.mem_of_getElem? (i := 57) rfl)) (hw _ (List.mem_of_getElem? (i := 39) rfl)) (hw _ (List.mem_of_getElem? (i := 59) rfl)) (by decide) pd8 rfl (by first | exact Nat.zero_le _ | exact Nat.le_of_ble_eq_true rfl | simp [Value.category]) (by decide) (by decide) (by decide) (by decide) rfl (O3.ex) (oc8 l Z a0 hw n0 _ o r cc 1 1 ((((List.replicate 16 .null).set (0 + 0) (.ref ca)).set (0 + 1) (.ref cb)).set 0 .null) O3 (by decide) (by decide) (by simp) (((Ec.keep K1).keep K2).keep K3)) ?_
  rintro v h4 ⟨rfl, K4, O4⟩
  refine o_aload (pc := 97) B at_97 rfl rfl ?_
  refine o_callV0 (pc := 99) B 0 at_99 (hw _ (List.mem_of_getElem? (i := 48) rfl)) (hw _ (List.mem_of_getElem? (i := 49) rfl)) (hw _ (List.mem_of_getElem? (i := 51) rfl)) (hw _ (List.mem_of_getElem? (i := 50) rfl)) (hw _ (List.mem_of_getElem? (i := 39) rfl)) (hw _ (List.mem_of_getElem? (i := 52) rfl)) (by decide) pd7 rfl (by first | exact Nat.zero_le _ | exact Nat.le_of_ble_eq_true rfl | simp [Value.category]) (by decide) (by decide) (by decide) (by decide) rfl (O4.ex) (oc7 l Z a0 hw n0 _ o r cb 1 1 (((((List.replicate 16 .null).set (0 + 0) (.ref ca)).set (0 + 1) (.ref cb)).set 0 .null).set (1 + 1) (.ref cc)) O4 (by decide) (by decide) (by simp) rfl) ?_
  rintro v h5 ⟨rfl, K5, O5⟩
  refine o_astore_14_9 (pc := 102) B at_102 rfl rfl ?_
  refine o_aload (pc := 104) B at_104 rfl rfl ?_
  refine o_callV0 (pc := 106) B 0 at_106 (hw _ (List.mem_of_getElem? (i := 48) rfl)) (hw _ (List.mem_of_getElem? (i := 49) rfl)) (hw _ (List.mem_of_getElem? (i := 51) rfl)) (hw _ (List.mem_of_getElem? (i := 50) rfl)) (hw _ (List.mem_of_getElem? (i := 39) rfl)) (hw _ (List.mem_of_getElem? (i := 52) rfl)) (by decide) pd7 rfl (by first | exact Nat.zero_le _ | exact Nat.le_of_ble_eq_true rfl | simp [Value.category]) (by decide) (by decide) (by decide) (by decide) rfl (O5.ex) (oc7 l Z a0 hw n0 _ o r cc 2 0 ((((((List.replicate 16 .null).set (0 + 0) (.ref ca)).set (0 + 1) (.ref cb)).set 0 .null).set (1 + 1) (.ref cc)).set 1 .null) O5 (by decide) (by decide) (by simp) rfl) ?_
  rintro v h6 ⟨rfl, K6, O6⟩
  refine o_astore_14_10 (pc := 109) B at_109 rfl rfl ?_
  refine o_iloadN (pc := 111) B at_111 rfl ?_
  refine o_iconst (pc := 112) B (1 : Int32) at_112 (by decide) ?_
  refine o_icmp_lt (pc := 113) (pc' := 121) B at_113 (by decide) (by decide) (fun hc113 => False.elim (by revert hc113; decide)) (fun hc113 => ?_)
  refine o_aload (pc := 116) B at_116 rfl rfl ?_
  refine o_goto (pc := 118) (pc' := 122) B at_118 (by decide) (by decide) ?_
  refine o_astore_14_11 (pc := 122) B at_122 rfl rfl ?_
  refine o_iloadN (pc := 124) B at_124 rfl ?_
  refine o_iconst (pc := 125) B (2 : Int32) at_125 (by decide) ?_
  refine o_icmp_ne (pc := 126) (pc' := 134) B at_126 (by decide) (by decide) (fun hc126 => False.elim (by revert hc126; decide)) (fun hc126 => ?_)
  refine o_aload (pc := 129) B at_129 rfl rfl ?_
  refine o_goto (pc := 131) (pc' := 144) B at_131 (by decide) (by decide) ?_
  refine o_astore_14_12 (pc := 144) B at_144 rfl rfl ?_
  refine o_iloadN (pc := 146) B at_146 rfl ?_
  refine o_iconst (pc := 147) B (2 : Int32) at_147 (by decide) ?_
  refine o_icmp_ne (pc := 148) (pc' := 160) B at_148 (by decide) (by decide) (fun hc148 => False.elim (by revert hc148; decide)) (fun hc148 => ?_)
  refine o_iloadN (pc := 151) B at_151 rfl ?_
  refine o_if_eq (pc := 152) (pc' := 160) B at_152 (by decide) (by decide) (fun hc152 => False.elim (by revert hc152; decide)) (fun hc152 => ?_)
  refine o_aload (pc := 155) B at_155 rfl rfl ?_
  refine o_goto (pc := 157) (pc' := 161) B at_157 (by decide) (by decide) ?_
  refine o_astore_14_13 (pc := 161) B at_161 rfl rfl ?_
  refine o_aload (pc := 163) B at_163 rfl rfl ?_
  refine o_aload (pc := 165) B at_165 rfl rfl ?_
  refine o_acmp_ne (pc := 167) (pc' := 188) B rfl rfl at_167 (by decide) (by decide) (fun hc167 => False.elim (hc167 rfl)) (fun hc167 => ?_)
  refine o_aload (pc := 170) B at_170 rfl rfl ?_
  refine o_aload (pc := 172) B at_172 rfl rfl ?_
  refine o_acmp_ne (pc := 174) (pc' := 188) B rfl rfl at_174 (by decide) (by decide) (fun hc174 => False.elim (hc174 rfl)) (fun hc174 => ?_)
  refine o_aload (pc := 177) B at_177 rfl rfl ?_
  refine o_aload (pc := 179) B at_179 rfl rfl ?_
  refine o_acmp_ne (pc := 181) (pc' := 188) B rfl rfl at_181 (by decide) (by decide) (fun hc181 => False.elim (hc181 rfl)) (fun hc181 => ?_)
  refine o_iconst (pc := 184) B (1 : Int32) at_184 (by decide) ?_
  refine o_goto (pc := 185) (pc' := 189) B at_185 (by decide) (by decide) ?_
  exact o_zreturn (pc := 189) B at_189 (by decide) (by decide) (rfl)
set_option maxRecDepth 65536 in
set_option maxHeartbeats 40000000 in
theorem own_mid (l : Launch) (Z : State) (a0 : Array Value) (hw : ∀ d ∈ tables_1, d.before a0 Z = true) (n0 : Nat) (h : Heap) (κ : o_K) (B : o_Bo κ l Z n0 room_1 x code maxLocals ret) (p q k ad : Int32) (pa : Addr) (OL : Old Z n0 h) (EP : Exa Z Z.heap pa own_PR) (SP : Sta Z Z.heap own_PR "NORMAL" "Lcom/example/trailhead/trailhead/core/Priority;" (.ref pa))
    (fin : ∀ (h : Heap) (ca cb cc o r : Addr), ca ≠ o → ca ≠ r → cb ≠ o → cb ≠ r → cc ≠ o → cc ≠ r → Exa Z h ca own_PL → Exa Z h cb own_PL → Exa Z h cc own_PL → own_Ob Z n0 h o r 0 0 (List.replicate 16 .null) → o_Go κ (fun v h' => v = some (.int 1)) h 11 139 55 [.val (.int p), .val (.int q), .val (.int k), .val (.int ad), .val (.ref ca), .val (.ref cb), .val (.ref cc), .val (.ref o), .unset, .unset, .unset, .unset, .unset, .unset] []) :
    o_Go κ (fun v h' => v = some (.int 1)) h 0 0 19 [.val (.int p), .val (.int q), .val (.int k), .val (.int ad), .unset, .unset, .unset, .unset, .unset, .unset, .unset, .unset, .unset, .unset] [] := by
  have Z0 : n0 ≤ h.size := by have := OL.2.1; have := OL.1; omega
  refine o_new (pc := 19) B at_19 (hw _ (List.mem_of_getElem? (i := 1) rfl)) (hw _ (List.mem_of_getElem? (i := 2) rfl)) (hw _ (List.mem_of_getElem? (i := 3) rfl)) (by decide) (by decide) ?_
  intro h1 X1 Ea Da
  obtain ⟨ca, ga, ea⟩ : ∃ a, n0 ≤ a ∧ a = h.size := ⟨_, (by omega), rfl⟩
  rw [← ea] at Ea ⊢
  have Fa : Fld Z h1 ca own_CO "priority" "Lcom/example/trailhead/trailhead/core/Priority;" .null := ea ▸ Da (Or.inr (hw _ (List.mem_of_getElem? (i := 36) rfl))) (ty := .object own_PR) (by decide)
  have la := o_lt Ea.lt
  refine o_dup (pc := 22) B at_22 rfl ?_
  refine o_callN0 (pc := 23) B 1 at_23 rfl (hw _ (List.mem_of_getElem? (i := 4) rfl)) (hw _ (List.mem_of_getElem? (i := 5) rfl)) (hw _ (List.mem_of_getElem? (i := 3) rfl)) (hw _ (List.mem_of_getElem? (i := 6) rfl)) (by decide) pd1 rfl (by first | exact Nat.zero_le _ | exact Nat.le_of_ble_eq_true rfl | simp [Value.category]) (by decide) (by decide) (by decide) (by decide) rfl (oc1 l Z a0 hw n0 _ ca pa .null ga (OL.ext X1) Ea Fa EP SP) ?_
  rintro v h2 ⟨rfl, OL2, K2⟩
  have Ea2 := Ea.keep K2
  have z2 := K2.1
  have y1 := X1.1
  refine o_astore_14_4 (pc := 26) B at_26 rfl rfl ?_
  refine o_new (pc := 28) B at_28 (hw _ (List.mem_of_getElem? (i := 1) rfl)) (hw _ (List.mem_of_getElem? (i := 2) rfl)) (hw _ (List.mem_of_getElem? (i := 3) rfl)) (by decide) (by decide) ?_
  intro h3 X3 Eb Db
  obtain ⟨cb, gb, eb⟩ : ∃ a, n0 ≤ a ∧ a = h2.size := ⟨_, (by omega), rfl⟩
  rw [← eb] at Eb ⊢
  have Fb : Fld Z h3 cb own_CO "priority" "Lcom/example/trailhead/trailhead/core/Priority;" .null := eb ▸ Db (Or.inr (hw _ (List.mem_of_getElem? (i := 36) rfl))) (ty := .object own_PR) (by decide)
  have lb := o_lt Eb.lt
  refine o_dup (pc := 31) B at_31 rfl ?_
  refine o_callN0 (pc := 32) B 1 at_32 rfl (hw _ (List.mem_of_getElem? (i := 4) rfl)) (hw _ (List.mem_of_getElem? (i := 5) rfl)) (hw _ (List.mem_of_getElem? (i := 3) rfl)) (hw _ (List.mem_of_getElem? (i := 6) rfl)) (by decide) pd1 rfl (by first | exact Nat.zero_le _ | exact Nat.le_of_ble_eq_true rfl | simp [Value.category]) (by decide) (by decide) (by decide) (by decide) rfl (oc1 l Z a0 hw n0 _ cb pa .null gb (OL2.ext X3) Eb Fb EP SP) ?_
  rintro v h4 ⟨rfl, OL4, K4⟩
  have Eb4 := Eb.keep K4
  have z4 := K4.1
  have y3 := X3.1
  have Ea4 := (Ea2.ext X3).keep K4
  refine o_astore_14_5 (pc := 35) B at_35 rfl rfl ?_
  refine o_new (pc := 37) B at_37 (hw _ (List.mem_of_getElem? (i := 1) rfl)) (hw _ (List.mem_of_getElem? (i := 2) rfl)) (hw _ (List.mem_of_getElem? (i := 3) rfl)) (by decide) (by decide) ?_
  intro h5 X5 Ec Dc
  obtain ⟨cc, gc, ec⟩ : ∃ a, n0 ≤ a ∧ a = h4.size := ⟨_, (by omega), rfl⟩
  rw [← ec] at Ec ⊢
  have Fc : Fld Z h5 cc own_CO "priority" "Lcom/example/trailhead/trailhead/core/Priority;" .null := ec ▸ Dc (Or.inr (hw _ (List.mem_of_getElem? (i := 36) rfl))) (ty := .object own_PR) (by decide)
  have lc := o_lt Ec.lt
  refine o_dup (pc := 40) B at_40 rfl ?_
  refine o_callN0 (pc := 41) B 1 at_41 rfl (hw _ (List.mem_of_getElem? (i := 4) rfl)) (hw _ (List.mem_of_getElem? (i := 5) rfl)) (hw _ (List.mem_of_getElem? (i := 3) rfl)) (hw _ (List.mem_of_getElem? (i := 6) rfl)) (by decide) pd1 rfl (by first | exact Nat.zero_le _ | exact Nat.le_of_ble_eq_true rfl | simp [Value.category]) (by decide) (by decide) (by decide) (by decide) rfl (oc1 l Z a0 hw n0 _ cc pa .null gc (OL4.ext X5) Ec Fc EP SP) ?_
  rintro v h6 ⟨rfl, OL6, K6⟩
  have Ec6 := Ec.keep K6
  have z6 := K6.1
  have y5 := X5.1
  have Ea6 := (Ea4.ext X5).keep K6
  have Eb6 := (Eb4.ext X5).keep K6
  refine o_astore_14_6 (pc := 44) B at_44 rfl rfl ?_
  refine o_new (pc := 46) B at_46 (hw _ (List.mem_of_getElem? (i := 37) rfl)) (hw _ (List.mem_of_getElem? (i := 38) rfl)) (hw _ (List.mem_of_getElem? (i := 39) rfl)) (by decide) (by decide) ?_
  intro h7 X7 Eo Do
  obtain ⟨o, go, eo⟩ : ∃ a, n0 ≤ a ∧ a = h6.size := ⟨_, (by omega), rfl⟩
  rw [← eo] at Eo ⊢
  have F1 : Fld Z h7 o own_CQ "ring" "[Lcom/example/trailhead/trailhead/core/Constraint;" .null := eo ▸ Do (Or.inl (hw _ (List.mem_of_getElem? (i := 47) rfl))) (ty := .array (.object own_CO)) (by decide)
  have F2 : Fld Z h7 o own_CQ "head" "I" (.int (Int32.ofNat 0)) := eo ▸ Do (Or.inl (hw _ (List.mem_of_getElem? (i := 61) rfl))) (ty := .int) (by decide)
  have F3 : Fld Z h7 o own_CQ "size" "I" (.int (Int32.ofNat 0)) := eo ▸ Do (Or.inl (hw _ (List.mem_of_getElem? (i := 54) rfl))) (ty := .int) (by decide)
  have y7 := X7.1
  have lo := o_lt Eo.lt
  refine o_dup (pc := 49) B at_49 rfl ?_
  refine o_callN0 (pc := 50) B 1 at_50 rfl (hw _ (List.mem_of_getElem? (i := 40) rfl)) (hw _ (List.mem_of_getElem? (i := 41) rfl)) (hw _ (List.mem_of_getElem? (i := 39) rfl)) (hw _ (List.mem_of_getElem? (i := 42) rfl)) (by decide) pd6 rfl (by first | exact Nat.zero_le _ | exact Nat.le_of_ble_eq_true rfl | simp [Value.category]) (by decide) (by decide) (by decide) (by decide) rfl (oc6 l Z a0 hw n0 _ o .null go (by omega) Eo F1 F2 F3) ?_
  rintro v h8 ⟨rfl, K8, r, gr, O8⟩
  have gr' := o_le gr
  refine o_astore_14_7 (pc := 53) B at_53 rfl rfl ?_
  exact fin h8 ca cb cc o r (o_ne (by omega)) (o_ne (by omega)) (o_ne (by omega)) (o_ne (by omega)) (o_ne (by omega)) (o_ne (by omega)) ((Ea6.ext X7).keep K8) ((Eb6.ext X7).keep K8) ((Ec6.ext X7).keep K8) O8
set_option maxRecDepth 65536 in
set_option maxHeartbeats 40000000 in
theorem oc0 (l : Launch) (Z : State) (a0 : Array Value) (hw : ∀ d ∈ tables_1, d.before a0 Z = true) (n0 : Nat) (h : Heap) (p q : Int32) (pa : Addr) (OL : Old Z n0 h) (EP : Exa Z Z.heap pa own_PR) (SP : Sta Z Z.heap own_PR "NORMAL" "Lcom/example/trailhead/trailhead/core/Priority;" (.ref pa)) : o_C l Z n0 Jvm.Pilot.@@N@@.x code maxLocals ret room_1 [(.int p), (.int q)] h (fun v h' => v = some (.int 1)) := by
  refine o_body (Ls := [.val (.int p), .val (.int q), .unset, .unset, .unset, .unset, .unset, .unset, .unset, .unset, .unset, .unset, .unset, .unset]) pn0 (by first | (simp [argsToLocals, Value.category, maxLocals]; done) | rfl) (fun κ B => ?_)
  obtain ⟨u, hu, eu⟩ := own_num p (n := 3) (by decide) (by decide)
  have eu' : (p &&& 2147483647) % 3 = Int32.ofNat u := eu
  refine o_iloadN (pc := 0) B at_0 rfl ?_
  refine o_ldc (pc := 1) B (x := (2147483647 : Int32)) at_1 (hw _ (List.mem_of_getElem? (i := 0) rfl)) ?_
  refine o_iand (pc := 3) B at_3 ?_
  refine o_iconst (pc := 4) B (3 : Int32) at_4 (by decide) ?_
  refine o_irem (pc := 5) B at_5 (by decide) ?_
  rw [eu']
  have h3 : u = 0 ∨ u = 1 ∨ u = 2 := by omega
  rcases h3 with rfl | rfl | rfl
  · rw [show Int32.ofNat 0 = 0 from rfl]
    refine o_istoreN_14_2 (pc := 6) B at_6 rfl ?_
    refine o_iloadN (pc := 7) B at_7 rfl ?_
    refine o_iconst (pc := 8) B (1 : Int32) at_8 (by decide) ?_
    refine o_iand (pc := 9) B at_9 ?_
    refine o_if_eq (pc := 10) (pc' := 17) B at_10 (by decide) (by decide) (fun hc10 => ?_) (fun hc10 => ?_)
    · refine o_iconst (pc := 17) B (0 : Int32) at_17 (by decide) ?_
      refine o_istoreN_14_3 (pc := 18) B at_18 rfl ?_
      exact own_mid l Z a0 hw n0 h κ B p q 0 0 pa OL EP SP (fun h ca cb cc o r x1 x2 x3 x4 x5 x6 y1 y2 y3 O => own_tail_00 l Z a0 hw n0 h κ B p q ca cb cc o r x1 x2 x3 x4 x5 x6 y1 y2 y3 O)
    refine o_iconst (pc := 13) B (1 : Int32) at_13 (by decide) ?_
    refine o_goto (pc := 14) (pc' := 18) B at_14 (by decide) (by decide) ?_
    refine o_istoreN_14_3 (pc := 18) B at_18 rfl ?_
    exact own_mid l Z a0 hw n0 h κ B p q 0 1 pa OL EP SP (fun h ca cb cc o r x1 x2 x3 x4 x5 x6 y1 y2 y3 O => own_tail_01 l Z a0 hw n0 h κ B p q ca cb cc o r x1 x2 x3 x4 x5 x6 y1 y2 y3 O)
  · rw [show Int32.ofNat 1 = 1 from rfl]
    refine o_istoreN_14_2 (pc := 6) B at_6 rfl ?_
    refine o_iloadN (pc := 7) B at_7 rfl ?_
    refine o_iconst (pc := 8) B (1 : Int32) at_8 (by decide) ?_
    refine o_iand (pc := 9) B at_9 ?_
    refine o_if_eq (pc := 10) (pc' := 17) B at_10 (by decide) (by decide) (fun hc10 => ?_) (fun hc10 => ?_)
    · refine o_iconst (pc := 17) B (0 : Int32) at_17 (by decide) ?_
      refine o_istoreN_14_3 (pc := 18) B at_18 rfl ?_
      exact own_mid l Z a0 hw n0 h κ B p q 1 0 pa OL EP SP (fun h ca cb cc o r x1 x2 x3 x4 x5 x6 y1 y2 y3 O => own_tail_10 l Z a0 hw n0 h κ B p q ca cb cc o r x1 x2 x3 x4 x5 x6 y1 y2 y3 O)
    refine o_iconst (pc := 13) B (1 : Int32) at_13 (by decide) ?_
    refine o_goto (pc := 14) (pc' := 18) B at_14 (by decide) (by decide) ?_
    refine o_istoreN_14_3 (pc := 18) B at_18 rfl ?_
    exact own_mid l Z a0 hw n0 h κ B p q 1 1 pa OL EP SP (fun h ca cb cc o r x1 x2 x3 x4 x5 x6 y1 y2 y3 O => own_tail_11 l Z a0 hw n0 h κ B p q ca cb cc o r x1 x2 x3 x4 x5 x6 y1 y2 y3 O)
  · rw [show Int32.ofNat 2 = 2 from rfl]
    refine o_istoreN_14_2 (pc := 6) B at_6 rfl ?_
    refine o_iloadN (pc := 7) B at_7 rfl ?_
    refine o_iconst (pc := 8) B (1 : Int32) at_8 (by decide) ?_
    refine o_iand (pc := 9) B at_9 ?_
    refine o_if_eq (pc := 10) (pc' := 17) B at_10 (by decide) (by decide) (fun hc10 => ?_) (fun hc10 => ?_)
    · refine o_iconst (pc := 17) B (0 : Int32) at_17 (by decide) ?_
      refine o_istoreN_14_3 (pc := 18) B at_18 rfl ?_
      exact own_mid l Z a0 hw n0 h κ B p q 2 0 pa OL EP SP (fun h ca cb cc o r x1 x2 x3 x4 x5 x6 y1 y2 y3 O => own_tail_20 l Z a0 hw n0 h κ B p q ca cb cc o r x1 x2 x3 x4 x5 x6 y1 y2 y3 O)
    refine o_iconst (pc := 13) B (1 : Int32) at_13 (by decide) ?_
    refine o_goto (pc := 14) (pc' := 18) B at_14 (by decide) (by decide) ?_
    refine o_istoreN_14_3 (pc := 18) B at_18 rfl ?_
    exact own_mid l Z a0 hw n0 h κ B p q 2 1 pa OL EP SP (fun h ca cb cc o r x1 x2 x3 x4 x5 x6 y1 y2 y3 O => own_tail_21 l Z a0 hw n0 h κ B p q ca cb cc o r x1 x2 x3 x4 x5 x6 y1 y2 y3 O)
set_option maxRecDepth 65536 in
set_option maxHeartbeats 40000000 in
theorem comes_1 {Post : Tables → Env → Array Value → State → Outcome → State → Prop} (hpost : ∀ tb e args s v u, (limb_1_1.after args s (.returned v) u = true ∧ limb_1_2.after args s (.returned v) u = true ∧ True) → ReturnedEndW s (.returned v) u (Jvm.fieldLocs frame_1_writes args s ++ Jvm.arrayLocs frame_1_arrays args s ++ Jvm.staticLocs frame_1_statics s) 24 1216 → Post tb e args s (.returned v) u) :
    ArmFor flags0 classFile x code maxLocals ret World_1 tables_1 room_1 Calls_1 rest_1 Pre_1 Post := by
  intro l hfl _ _ p e ha hc hk s m args below hf hA hF happ hP
  obtain ⟨hcalls, hrest, hpre⟩ := hP
  obtain ⟨-, -, -, hnamed, -, -, -, hat⟩ := (Spec.applies_iff hf).mp happ
  obtain ⟨hg, hn⟩ := and_e (Cond.before_iff.mp (show (Jvm.Cond.and given_1 narrow_1).before args s = true from hpre))
  obtain ⟨hcnt, g0⟩ := and_e hg
  obtain ⟨q0, g1⟩ := and_e g0
  obtain ⟨w0, w1, rfl⟩ : ∃ w0 w1 : Value, args = #[w0, w1] := by
    have hs : args.size = 2 := by simpa [Cond.value, given_1] using hcnt
    obtain ⟨L⟩ := args
    match L, hs with
    | [w0, w1], _ => exact ⟨w0, w1, rfl⟩
  have hw := fun d (hd : d ∈ tables_1) => atoms_spec (ws := Jvm.Cond.code x code maxLocals ret :: tables_1) hat d (List.mem_cons_of_mem _ hd)
  obtain ⟨i0, e0⟩ := is_v q0
  obtain rfl : w0 = (.int i0) := Option.some.inj e0
  obtain ⟨i1, e1⟩ := is_v g1
  obtain rfl : w1 = (.int i1) := Option.some.inj e1
  obtain ⟨pa, epa⟩ := exa_v (show (Jvm.Cond.exactly (Jvm.Term.static own_PR "NORMAL" "Lcom/example/trailhead/trailhead/core/Priority;") own_PR).value _ s none s [] = some true from hn)
  have SP : Sta s s.heap own_PR "NORMAL" "Lcom/example/trailhead/trailhead/core/Priority;" (.ref pa) := Sta.start epa (Or.inr ⟨(hw _ (List.mem_of_getElem? (i := 13) rfl)), (hw _ (List.mem_of_getElem? (i := 14) rfl))⟩)
  have EP : Exa s s.heap pa own_PR := Exa.start epa hn
  obtain ⟨n, o, h1, h2, h3, _, L, rfl, ⟨rfl, N⟩, hq⟩ := (oc0 l s _ hw s.heap.size s.heap i0 i1 pa (Old.start s) EP SP) tables_1 p e ha hc hk s m _ below hf ((Spec.applies_iff_loose hf).mp happ).1 ⟨rfl, State.Warmed39.refl s, rfl⟩ trivial
  refine ⟨n, _, h1, h2, h3, hpost _ _ _ _ _ _ ⟨Cond.after_iff.mpr rfl, Cond.after_iff.mpr (eq_i res_at (Term.int_eval (1)) rfl), trivial⟩ ⟨hq.1, hq.2.1, hq.2.2.1, (hq.2.2.2.sift fun y hy => Or.inr (N y hy)).mono (by decide) (by decide)⟩⟩
theorem main_1_1 : Claimed_1_1 := comes_1 fun _ _ _ _ _ _ h hF => ⟨h.1, hF⟩
theorem main_1_2 : Claimed_1_2 := comes_1 fun _ _ _ _ _ _ h hF => ⟨h.2.1, hF⟩
end Jvm.Pilot.@@N@@
namespace Jvm.Pilot.@@N@@
open Jvm Jvm.ClassFile Sem Op Lib Jvm.Free Jvm.Stand Jvm.Pilot.@@N@@.Jvm.D
/-! MADE BY PROGRAM (witnessworld.py) out of the Statement's table words and the real class files: 19 classes; the members and pool entries that the words name. The judged class is class 2, her method 1. -/
namespace start1
open Jvm.ClassFile
def u (s : String) : CpInfo := .utf8 (stringToUtf16 s)
/-- a pool by its gaps: so many unusable entries, then the entry; so many at the end -/
def gap : Nat → List CpInfo → List CpInfo
  | 0, r => r
  | n + 1, r => .unusable :: gap n r
def poolList (es : List (Nat × CpInfo)) (last : Nat) : List CpInfo := es.foldr (fun e r => gap e.1 (e.2 :: r)) (gap last [])
def pool (es : List (Nat × CpInfo)) (last : Nat) : Array CpInfo := ⟨poolList es last⟩
def fileOf (pool : Array CpInfo) (this : Nat) (attrs : Array Attribute := #[]) (ms : Array MethodInfo := #[]) (fl : Nat := 33) (sup : Nat := 0) (ifs : Array Nat := #[]) (fds : Array FieldInfo := #[]) : ClassFile where
  minorVersion := 0
  majorVersion := 65
  constantPool := pool
  accessFlags := fl
  thisClass := this
  superClass := sup
  interfaces := ifs
  fields := fds
  methods := ms
  attributes := attrs
def plain (name : String) (sup : Option ClassId) : Class where
  name := name
  kind := .ordinary
  loader := none
  accessFlags := 33
  super := sup
  interfaces := #[]
  cf := none
  fields := #[]
  methods := #[]
  instanceTypes := #[]
  staticTypes := #[]
  resolved := #[]
  callSites := []
  init := .initialized
  statics := none
  mirror := none

def pool0 : Array CpInfo := pool [(5, u "<init>"), (0, u "()V"), (1, .class_ 10), (1, u "java/lang/Object")] 113

def k0c0 : Code := { maxStack := 0, maxLocals := 1, code := object_method_1_code, exceptionTable := #[], attributes := #[] }
def k0m0 : Method := { name := "<init>", desc := "()V", sig := { parameters := [], returnType := none }, accessFlags := 1, code := some k0c0 }
/-- java/lang/Object -/
def k0 : Class := { plain "java/lang/Object" none with
  accessFlags := 33
  interfaces := #[]
  cf := some (fileOf pool0 8 #[] #[{ accessFlags := 1, nameIndex := 5, descriptorIndex := 6, attributes := #[] }] 33 0 #[] #[])
  fields := #[]
  methods := #[k0m0]
  instanceTypes := #[]
  staticTypes := #[]
  resolved := Array.replicate 124 none
  statics := none }

def pool1 : Array CpInfo := pool [(1, .fieldref 2 3), (0, .class_ 4), (0, .nameAndType 5 6), (0, u "com/example/trailhead/trailhead/core/Priority"), (0, u "NORMAL"), (0, u "Lcom/example/trailhead/trailhead/core/Priority;"), (0, .methodref 8 9), (0, .class_ 10), (0, .nameAndType 11 12), (0, u "com/example/trailhead/trailhead/core/Constraint"), (0, u "<init>"), (0, u "(Lcom/example/trailhead/trailhead/core/Priority;)V"), (0, .methodref 14 15), (0, .class_ 16), (0, .nameAndType 11 17), (0, u "java/lang/Object"), (0, u "()V"), (0, .string 19), (0, u "priority"), (0, .methodref 21 22), (0, .class_ 23), (0, .nameAndType 24 25), (0, u "java/util/Objects"), (0, u "requireNonNull"), (0, u "(Ljava/lang/Object;Ljava/lang/String;)Ljava/lang/Object;"), (0, .fieldref 8 27), (0, .nameAndType 19 6), (2, u "solver"), (0, u "Lcom/example/trailhead/trailhead/core/Solver;"), (2, u "active"), (0, u "Lcom/example/trailhead/trailhead/state/ReversibleInt;"), (36, u "scheduled"), (0, u "Z")] 28

def k1c0 : Code := { maxStack := 2, maxLocals := 1, code := prog_30_method_1_code, exceptionTable := #[], attributes := #[] }
def k1m0 : Method := { name := "<init>", desc := "()V", sig := { parameters := [], returnType := none }, accessFlags := 4, code := some k1c0 }
def k1c1 : Code := { maxStack := 3, maxLocals := 2, code := prog_30_method_2_code, exceptionTable := #[], attributes := #[] }
def k1m1 : Method := { name := "<init>", desc := "(Lcom/example/trailhead/trailhead/core/Priority;)V", sig := { parameters := [(.object "com/example/trailhead/trailhead/core/Priority")], returnType := none }, accessFlags := 4, code := some k1c1 }
/-- com/example/trailhead/trailhead/core/Constraint -/
def k1 : Class := { plain "com/example/trailhead/trailhead/core/Constraint" (some 0) with
  accessFlags := 1057
  interfaces := #[]
  cf := some (fileOf pool1 8 #[] #[{ accessFlags := 4, nameIndex := 11, descriptorIndex := 17, attributes := #[] }, { accessFlags := 4, nameIndex := 11, descriptorIndex := 12, attributes := #[] }] 1057 14 #[] #[{ accessFlags := 2, nameIndex := 30, descriptorIndex := 31, attributes := #[] }, { accessFlags := 2, nameIndex := 34, descriptorIndex := 35, attributes := #[] }, { accessFlags := 16, nameIndex := 19, descriptorIndex := 6, attributes := #[] }, { accessFlags := 0, nameIndex := 72, descriptorIndex := 73, attributes := #[] }])
  fields := #[{ name := "solver", type := (.object "com/example/trailhead/trailhead/core/Solver"), accessFlags := 2, slot := 0, constantValue := 0 }, { name := "active", type := (.object "com/example/trailhead/trailhead/state/ReversibleInt"), accessFlags := 2, slot := 1, constantValue := 0 }, { name := "priority", type := (.object "com/example/trailhead/trailhead/core/Priority"), accessFlags := 16, slot := 2, constantValue := 0 }, { name := "scheduled", type := .boolean, accessFlags := 0, slot := 3, constantValue := 0 }]
  methods := #[k1m0, k1m1]
  instanceTypes := #[(.object "com/example/trailhead/trailhead/core/Solver"), (.object "com/example/trailhead/trailhead/state/ReversibleInt"), (.object "com/example/trailhead/trailhead/core/Priority"), .boolean]
  staticTypes := #[]
  resolved := Array.replicate 102 none
  statics := none }

def pool2 : Array CpInfo := pool [(1, .methodref 2 3), (0, .class_ 4), (0, .nameAndType 5 6), (0, u "com/example/trailhead/trailhead/core/Constraint"), (0, u "<init>"), (0, u "()V"), (0, .integer 2147483647), (0, .class_ 9), (0, u "com/example/trailhead/trailhead/core/ConstraintQueuePollPinLaw"), (0, .methodref 8 3), (0, .class_ 12), (0, u "com/example/trailhead/trailhead/core/ConstraintQueue"), (0, .methodref 11 3), (0, .methodref 11 15), (0, .nameAndType 16 17), (0, u "add"), (0, u "(Lcom/example/trailhead/trailhead/core/Constraint;)V"), (0, .methodref 11 19), (0, .nameAndType 20 21), (0, u "poll"), (0, u "()Lcom/example/trailhead/trailhead/core/Constraint;"), (4, u "law"), (0, u "(II)Z")] 3

def k2c0 : Code := { maxStack := 1, maxLocals := 1, code := method_1_code, exceptionTable := #[], attributes := #[] }
def k2m0 : Method := { name := "<init>", desc := "()V", sig := { parameters := [], returnType := none }, accessFlags := 1, code := some k2c0 }
def k2c1 : Code := { maxStack := 2, maxLocals := 14, code := code, exceptionTable := #[], attributes := #[] }
def k2m1 : Method := { name := "law", desc := "(II)Z", sig := { parameters := [.int, .int], returnType := some .boolean }, accessFlags := 9, code := some k2c1 }
/-- com/example/trailhead/trailhead/core/ConstraintQueuePollPinLaw -/
def k2 : Class := { plain "com/example/trailhead/trailhead/core/ConstraintQueuePollPinLaw" (some 1) with
  accessFlags := 49
  interfaces := #[]
  cf := some (fileOf pool2 8 #[] #[{ accessFlags := 1, nameIndex := 5, descriptorIndex := 6, attributes := #[] }, { accessFlags := 9, nameIndex := 26, descriptorIndex := 27, attributes := #[] }] 49 2 #[] #[])
  fields := #[]
  methods := #[k2m0, k2m1]
  instanceTypes := #[(.object "com/example/trailhead/trailhead/core/Solver"), (.object "com/example/trailhead/trailhead/state/ReversibleInt"), (.object "com/example/trailhead/trailhead/core/Priority"), .boolean]
  staticTypes := #[]
  resolved := Array.replicate 31 none
  statics := none }

def pool3 : Array CpInfo := pool [(1, .class_ 2), (0, u "java/lang/constant/Constable"), (0, .class_ 4), (0, u "java/lang/Object")] 6

/-- java/lang/constant/Constable -/
def k3 : Class := { plain "java/lang/constant/Constable" (some 0) with
  accessFlags := 1537
  interfaces := #[]
  cf := some (fileOf pool3 1 #[] #[] 1537 3 #[] #[])
  fields := #[]
  methods := #[]
  instanceTypes := #[]
  staticTypes := #[]
  resolved := Array.replicate 11 none
  statics := none }

def pool4 : Array CpInfo := pool [(1, .class_ 2), (0, u "java/lang/Comparable"), (0, .class_ 4), (0, u "java/lang/Object")] 7

/-- java/lang/Comparable -/
def k4 : Class := { plain "java/lang/Comparable" (some 0) with
  accessFlags := 1537
  interfaces := #[]
  cf := some (fileOf pool4 1 #[] #[] 1537 3 #[] #[])
  fields := #[]
  methods := #[]
  instanceTypes := #[]
  staticTypes := #[]
  resolved := Array.replicate 12 none
  statics := none }

def pool5 : Array CpInfo := pool [(1, .class_ 2), (0, u "java/io/Serializable"), (0, .class_ 4), (0, u "java/lang/Object")] 2

/-- java/io/Serializable -/
def k5 : Class := { plain "java/io/Serializable" (some 0) with
  accessFlags := 1537
  interfaces := #[]
  cf := some (fileOf pool5 1 #[] #[] 1537 3 #[] #[])
  fields := #[]
  methods := #[]
  instanceTypes := #[]
  staticTypes := #[]
  resolved := Array.replicate 7 none
  statics := none }

def pool6 : Array CpInfo := pool [(2, .class_ 4), (1, u "java/lang/Enum"), (0, u "name"), (0, u "Ljava/lang/String;"), (2, u "ordinal"), (0, u "I"), (1, .class_ 14), (1, u "java/lang/Object"), (4, u "hash"), (86, .class_ 108), (1, u "java/lang/Enum$EnumDesc"), (2, .class_ 112), (0, u "java/lang/constant/Constable"), (0, .class_ 114), (0, u "java/lang/Comparable"), (0, .class_ 116), (0, u "java/io/Serializable")] 87

/-- java/lang/Enum -/
def k6 : Class := { plain "java/lang/Enum" (some 0) with
  accessFlags := 1057
  interfaces := #[3, 4, 5]
  cf := some (fileOf pool6 2 #[.nestMembers #[106]] #[] 1057 12 #[111, 113, 115] #[{ accessFlags := 18, nameIndex := 5, descriptorIndex := 6, attributes := #[] }, { accessFlags := 18, nameIndex := 9, descriptorIndex := 10, attributes := #[] }, { accessFlags := 2, nameIndex := 19, descriptorIndex := 10, attributes := #[] }])
  fields := #[{ name := "name", type := (.object "java/lang/String"), accessFlags := 18, slot := 0, constantValue := 0 }, { name := "ordinal", type := .int, accessFlags := 18, slot := 1, constantValue := 0 }, { name := "hash", type := .int, accessFlags := 2, slot := 2, constantValue := 0 }]
  methods := #[]
  instanceTypes := #[(.object "java/lang/String"), .int, .int]
  staticTypes := #[]
  resolved := Array.replicate 204 none
  statics := none }

def pool7 : Array CpInfo := pool [(1, .class_ 2), (0, u "com/example/trailhead/trailhead/core/Priority"), (2, u "NORMAL"), (0, u "Lcom/example/trailhead/trailhead/core/Priority;"), (2, u "LOW"), (2, u "$VALUES"), (0, u "[Lcom/example/trailhead/trailhead/core/Priority;"), (6, .class_ 22), (1, u "java/lang/Enum")] 24

/-- com/example/trailhead/trailhead/core/Priority -/
def k7 : Class := { plain "com/example/trailhead/trailhead/core/Priority" (some 6) with
  accessFlags := 16433
  interfaces := #[]
  cf := some (fileOf pool7 1 #[] #[] 16433 20 #[] #[{ accessFlags := 16409, nameIndex := 5, descriptorIndex := 6, attributes := #[] }, { accessFlags := 16409, nameIndex := 9, descriptorIndex := 6, attributes := #[] }, { accessFlags := 4122, nameIndex := 12, descriptorIndex := 13, attributes := #[] }])
  fields := #[{ name := "NORMAL", type := (.object "com/example/trailhead/trailhead/core/Priority"), accessFlags := 16409, slot := 0, constantValue := 0 }, { name := "LOW", type := (.object "com/example/trailhead/trailhead/core/Priority"), accessFlags := 16409, slot := 1, constantValue := 0 }, { name := "$VALUES", type := (.array (.object "com/example/trailhead/trailhead/core/Priority")), accessFlags := 4122, slot := 2, constantValue := 0 }]
  methods := #[]
  instanceTypes := #[(.object "java/lang/String"), .int, .int]
  staticTypes := #[(.object "com/example/trailhead/trailhead/core/Priority"), (.object "com/example/trailhead/trailhead/core/Priority"), (.array (.object "com/example/trailhead/trailhead/core/Priority"))]
  resolved := Array.replicate 47 none
  statics := some 0 }

def pool8 : Array CpInfo := pool [(2, .class_ 4), (1, u "java/lang/CharSequence"), (42, .class_ 48), (0, u "java/lang/CharSequence$1CodePointIterator"), (10, .class_ 60), (0, u "java/lang/CharSequence$1CharIterator"), (5, .class_ 67), (0, u "java/lang/Object")] 63

/-- java/lang/CharSequence -/
def k8 : Class := { plain "java/lang/CharSequence" (some 0) with
  accessFlags := 1537
  interfaces := #[]
  cf := some (fileOf pool8 2 #[.nestMembers #[47, 59]] #[] 1537 66 #[] #[])
  fields := #[]
  methods := #[]
  instanceTypes := #[]
  staticTypes := #[]
  resolved := Array.replicate 131 none
  statics := none }

def pool9 : Array CpInfo := pool [(1, .class_ 2), (0, u "java/lang/constant/ConstantDesc"), (0, .class_ 4), (0, u "java/lang/Object")] 32

/-- java/lang/constant/ConstantDesc -/
def k9 : Class := { plain "java/lang/constant/ConstantDesc" (some 0) with
  accessFlags := 1537
  interfaces := #[]
  cf := some (fileOf pool9 1 #[] #[] 1537 3 #[] #[])
  fields := #[]
  methods := #[]
  instanceTypes := #[]
  staticTypes := #[]
  resolved := Array.replicate 37 none
  statics := none }

def pool10 : Array CpInfo := pool [(2, .class_ 4), (1, u "java/lang/Object"), (0, u "<init>"), (0, u "()V"), (3, .class_ 12), (1, u "java/lang/String"), (0, u "value"), (0, u "[B"), (2, u "coder"), (0, u "B"), (2, u "hash"), (0, u "I"), (2, u "hashIsZero"), (0, u "Z"), (13, u "COMPACT_STRINGS"), (534, .class_ 576), (0, u "java/lang/CharSequence"), (22, u "CASE_INSENSITIVE_ORDER"), (0, u "Ljava/util/Comparator;"), (500, u "serialPersistentFields"), (0, u "[Ljava/io/ObjectStreamField;"), (0, .class_ 1104), (0, u "java/lang/String$CaseInsensitiveComparator"), (1, .class_ 1107), (0, u "java/io/Serializable"), (0, .class_ 1109), (0, u "java/lang/Comparable"), (0, .class_ 1111), (0, u "java/lang/constant/Constable"), (0, .class_ 1113), (0, u "java/lang/constant/ConstantDesc"), (2, u "serialVersionUID"), (0, u "J"), (3, u "REPL"), (0, u "C"), (2, u "LATIN1"), (1, u "UTF16")] 323

def k10m0 : Method := { name := "<init>", desc := "()V", sig := { parameters := [], returnType := none }, accessFlags := 1, code := none }
/-- java/lang/String -/
def k10 : Class := { plain "java/lang/String" (some 0) with
  accessFlags := 49
  interfaces := #[5, 4, 8, 3, 9]
  cf := some (fileOf pool10 10 #[.nestMembers #[1103]] #[{ accessFlags := 1, nameIndex := 5, descriptorIndex := 6, attributes := #[] }] 49 2 #[1106, 1108, 575, 1110, 1112] #[{ accessFlags := 18, nameIndex := 13, descriptorIndex := 14, attributes := #[] }, { accessFlags := 18, nameIndex := 17, descriptorIndex := 18, attributes := #[] }, { accessFlags := 2, nameIndex := 21, descriptorIndex := 22, attributes := #[] }, { accessFlags := 2, nameIndex := 25, descriptorIndex := 26, attributes := #[] }, { accessFlags := 26, nameIndex := 1116, descriptorIndex := 1117, attributes := #[] }, { accessFlags := 24, nameIndex := 40, descriptorIndex := 26, attributes := #[] }, { accessFlags := 26, nameIndex := 1101, descriptorIndex := 1102, attributes := #[] }, { accessFlags := 26, nameIndex := 1121, descriptorIndex := 1122, attributes := #[] }, { accessFlags := 25, nameIndex := 599, descriptorIndex := 600, attributes := #[] }, { accessFlags := 24, nameIndex := 1125, descriptorIndex := 18, attributes := #[] }, { accessFlags := 24, nameIndex := 1127, descriptorIndex := 18, attributes := #[] }])
  fields := #[{ name := "value", type := (.array .byte), accessFlags := 18, slot := 0, constantValue := 0 }, { name := "coder", type := .byte, accessFlags := 18, slot := 1, constantValue := 0 }, { name := "hash", type := .int, accessFlags := 2, slot := 2, constantValue := 0 }, { name := "hashIsZero", type := .boolean, accessFlags := 2, slot := 3, constantValue := 0 }, { name := "serialVersionUID", type := .long, accessFlags := 26, slot := 0, constantValue := 0 }, { name := "COMPACT_STRINGS", type := .boolean, accessFlags := 24, slot := 1, constantValue := 0 }, { name := "serialPersistentFields", type := (.array (.object "java/io/ObjectStreamField")), accessFlags := 26, slot := 2, constantValue := 0 }, { name := "REPL", type := .char, accessFlags := 26, slot := 3, constantValue := 0 }, { name := "CASE_INSENSITIVE_ORDER", type := (.object "java/util/Comparator"), accessFlags := 25, slot := 4, constantValue := 0 }, { name := "LATIN1", type := .byte, accessFlags := 24, slot := 5, constantValue := 0 }, { name := "UTF16", type := .byte, accessFlags := 24, slot := 6, constantValue := 0 }]
  methods := #[k10m0]
  instanceTypes := #[(.array .byte), .byte, .int, .boolean]
  staticTypes := #[.long, .boolean, (.array (.object "java/io/ObjectStreamField")), .char, (.object "java/util/Comparator"), .byte, .byte]
  resolved := Array.replicate 1451 none
  statics := none }

def pool11 : Array CpInfo := pool [(2, .class_ 4), (1, u "java/lang/Object"), (0, u "<init>"), (0, u "()V"), (35, .class_ 44), (1, u "java/util/Objects"), (0, u "requireNonNull"), (48, u "(Ljava/lang/Object;Ljava/lang/String;)Ljava/lang/Object;")] 89

def k11m0 : Method := { name := "<init>", desc := "()V", sig := { parameters := [], returnType := none }, accessFlags := 2, code := none }
def k11c1 : Code := { maxStack := 3, maxLocals := 2, code := jdk_31_method_11_code, exceptionTable := #[], attributes := #[] }
def k11m1 : Method := { name := "requireNonNull", desc := "(Ljava/lang/Object;Ljava/lang/String;)Ljava/lang/Object;", sig := { parameters := [(.object "java/lang/Object"), (.object "java/lang/String")], returnType := some (.object "java/lang/Object") }, accessFlags := 9, code := some k11c1 }
/-- java/util/Objects -/
def k11 : Class := { plain "java/util/Objects" (some 0) with
  accessFlags := 49
  interfaces := #[]
  cf := some (fileOf pool11 42 #[] #[{ accessFlags := 2, nameIndex := 5, descriptorIndex := 6, attributes := #[] }, { accessFlags := 9, nameIndex := 45, descriptorIndex := 94, attributes := #[] }] 49 2 #[] #[])
  fields := #[]
  methods := #[k11m0, k11m1]
  instanceTypes := #[]
  staticTypes := #[]
  resolved := Array.replicate 184 none
  statics := none }

def pool12 : Array CpInfo := pool [(1, .methodref 2 3), (0, .class_ 4), (0, .nameAndType 5 6), (0, u "java/lang/Object"), (0, u "<init>"), (0, u "()V"), (0, .class_ 8), (0, u "com/example/trailhead/trailhead/core/Constraint"), (0, .fieldref 10 11), (0, .class_ 12), (0, .nameAndType 13 14), (0, u "com/example/trailhead/trailhead/core/ConstraintQueue"), (0, u "ring"), (0, u "[Lcom/example/trailhead/trailhead/core/Constraint;"), (0, .fieldref 10 16), (0, .nameAndType 17 18), (0, u "size"), (0, u "I"), (3, .fieldref 10 23), (0, .nameAndType 24 18), (0, u "head"), (2, u "poll"), (0, u "()Lcom/example/trailhead/trailhead/core/Constraint;"), (12, u "add"), (0, u "(Lcom/example/trailhead/trailhead/core/Constraint;)V")] 5

def k12c0 : Code := { maxStack := 2, maxLocals := 1, code := prog_32_method_1_code, exceptionTable := #[], attributes := #[] }
def k12m0 : Method := { name := "<init>", desc := "()V", sig := { parameters := [], returnType := none }, accessFlags := 0, code := some k12c0 }
def k12c1 : Code := { maxStack := 4, maxLocals := 2, code := prog_32_method_2_code, exceptionTable := #[], attributes := #[] }
def k12m1 : Method := { name := "add", desc := "(Lcom/example/trailhead/trailhead/core/Constraint;)V", sig := { parameters := [(.object "com/example/trailhead/trailhead/core/Constraint")], returnType := none }, accessFlags := 0, code := some k12c1 }
def k12c2 : Code := { maxStack := 4, maxLocals := 2, code := prog_32_method_3_code, exceptionTable := #[], attributes := #[] }
def k12m2 : Method := { name := "poll", desc := "()Lcom/example/trailhead/trailhead/core/Constraint;", sig := { parameters := [], returnType := some (.object "com/example/trailhead/trailhead/core/Constraint") }, accessFlags := 0, code := some k12c2 }
/-- com/example/trailhead/trailhead/core/ConstraintQueue -/
def k12 : Class := { plain "com/example/trailhead/trailhead/core/ConstraintQueue" (some 0) with
  accessFlags := 48
  interfaces := #[]
  cf := some (fileOf pool12 10 #[] #[{ accessFlags := 0, nameIndex := 5, descriptorIndex := 6, attributes := #[] }, { accessFlags := 0, nameIndex := 41, descriptorIndex := 42, attributes := #[] }, { accessFlags := 0, nameIndex := 27, descriptorIndex := 28, attributes := #[] }] 48 2 #[] #[{ accessFlags := 2, nameIndex := 13, descriptorIndex := 14, attributes := #[] }, { accessFlags := 2, nameIndex := 24, descriptorIndex := 18, attributes := #[] }, { accessFlags := 2, nameIndex := 17, descriptorIndex := 18, attributes := #[] }])
  fields := #[{ name := "ring", type := (.array (.object "com/example/trailhead/trailhead/core/Constraint")), accessFlags := 2, slot := 0, constantValue := 0 }, { name := "head", type := .int, accessFlags := 2, slot := 1, constantValue := 0 }, { name := "size", type := .int, accessFlags := 2, slot := 2, constantValue := 0 }]
  methods := #[k12m0, k12m1, k12m2]
  instanceTypes := #[(.array (.object "com/example/trailhead/trailhead/core/Constraint")), .int, .int]
  staticTypes := #[]
  resolved := Array.replicate 48 none
  statics := none }

def pool13 : Array CpInfo := pool [(1, u "java/lang/Cloneable"), (0, .class_ 1), (0, u "java/lang/Object"), (0, .class_ 3)] 3

/-- java/lang/Cloneable -/
def k13 : Class := { plain "java/lang/Cloneable" (some 0) with
  accessFlags := 1537
  interfaces := #[]
  cf := some (fileOf pool13 2 #[] #[] 1537 4 #[] #[])
  fields := #[]
  methods := #[]
  instanceTypes := #[]
  staticTypes := #[]
  resolved := Array.replicate 8 none
  statics := none }

/-- the primitive byte -/
def k14 : Class := { plain "byte" none with kind := .primitive 'B', accessFlags := 0x411 }
/-- [B -/
def k15 : Class := { plain "[B" (some 0) with kind := .array 14 .byte, interfaces := #[13, 5], accessFlags := 1041 }

/-- the primitive int -/
def k16 : Class := { plain "int" none with kind := .primitive 'I', accessFlags := 0x411 }
/-- [I -/
def k17 : Class := { plain "[I" (some 0) with kind := .array 16 .int, interfaces := #[13, 5], accessFlags := 1041 }

/-- [Lcom/example/trailhead/trailhead/core/Constraint; -/
def k18 : Class := { plain "[Lcom/example/trailhead/trailhead/core/Constraint;" (some 0) with kind := .array 1 (.object "com/example/trailhead/trailhead/core/Constraint"), interfaces := #[13, 5], accessFlags := 1041 }

def heap : Heap := #[{ cls := 7, slots := #[.ref 1, .null, .null], vm := .statics 7 },
  { cls := 7, slots := #[.null, .int 1, .int 0], vm := .none }]
def classes : Array Class := #[k0, k1, k2, k3, k4, k5, k6, k7, k8, k9, k10, k11, k12, k13, k14, k15, k16, k17, k18]
def interned : List (Array UInt16 × Addr) := []
def slotsUsed : Nat := 6
def theMethod : MethodId := ⟨2, 1⟩
def args0 : Array Value := #[.int 5, .int 7]
def aboutOver (below : List Frame) : State where
  vm := { classes := classes, interned := interned.toArray }
  heap := heap
  slotsUsed := slotsUsed
  threads := #[{ frames := .invoking theMethod args0 :: below }]
def below0 : List Frame := [.native { method := ⟨0, 0⟩, args := #[] }]
def about1 : State := aboutOver below0
def p0 : Program := .bare "" "" ""
def e0 : Env := launch0.env 0 0 0
theorem w_frames : about1.frames = Frame.invoking theMethod args0 :: below0 := rfl
set_option maxRecDepth 65536 in
theorem w_args : argsFit about1.vm theMethod args0 = true := by decide +kernel
set_option maxRecDepth 65536 in
theorem w_heap : heapFits about1 = true := by decide +kernel
set_option maxRecDepth 65536 in
theorem w_runnable : about1.curStatus? = some .runnable := by decide +kernel
set_option maxRecDepth 65536 in
theorem w_alone : about1.alone = true := by decide +kernel
set_option maxRecDepth 65536 in
theorem w_named : about1.methodNamed? x = some theMethod := by decide +kernel
set_option maxRecDepth 65536 in
theorem w_hears : about1.hears theMethod below0 = true := by decide +kernel
set_option maxRecDepth 65536 in
theorem w_ripe : about1.ripe theMethod args0 below0 = true := by decide +kernel
theorem w_running : about1.status = .running := rfl
set_option maxRecDepth 65536 in
theorem w_room : about1.hasRoom e0.platform room_1 = true :=
  launch0.hasRoom_least _ room_1 (by decide +kernel) (by decide +kernel) (by decide +kernel) (by decide +kernel) (by decide +kernel) (by decide +kernel)
theorem allAtoms_all (ts : List Jvm.Cond) (a : Array Jvm.Value) (st : Jvm.State) : (allAtoms ts).before a st = ts.all (fun c => c.before a st) := by
  induction ts with
  | nil => rfl
  | cons c t ih =>
    show (Jvm.Cond.and c (allAtoms t)).before a st = _
    rw [Jvm.Cond.before_and, ih, List.all_cons]
def words1 : List Jvm.Cond := Jvm.Cond.code x code maxLocals ret :: tables_1
/-- a 'code' word, met by the world's own term for the bytes: nothing is compared byte by byte -/
theorem code_word {y : MethodName} {bytes : ByteArray} {mx : Nat} {rt : Option FieldType} {a : Array Value} {s : State} {m : MethodId} {meth : Method} {c : Code} (h1 : s.methodNamed? y = some m) (h2 : s.vm.method? m = some meth) (h3 : meth.code = some c) (h4 : c.code = bytes)
    (h5 : (c.maxLocals == mx && c.exceptionTable.isEmpty && decide (c.maxStack ≤ mostOperands) && decide (meth.sig.returnType = rt) && !meth.locks && decide (parseMethodDescriptor y.desc = some meth.sig)) = true) : (Jvm.Cond.code y bytes mx rt).before a s = true := by
  simp only [Bool.and_eq_true, beq_iff_eq, Bool.not_eq_true', decide_eq_true_eq] at h5
  obtain ⟨⟨⟨⟨⟨g1, g2⟩, g3⟩, g4⟩, g5⟩, g6⟩ := h5
  simp [Cond.before, Cond.holds, Cond.value, h1, h2, h3, h4, g1, g2, g3, g4, g5, g6]
def isCode : Jvm.Cond → Bool
  | .code _ _ _ _ => true
  | _ => false
theorem all_split {L : List Jvm.Cond} {P : Jvm.Cond → Bool} (h1 : L.all (fun c => isCode c || P c) = true) (h2 : ∀ c ∈ L.filter isCode, P c = true) : L.all P = true := by
  refine List.all_eq_true.mpr fun c hc => ?_
  have h := List.all_eq_true.mp h1 c hc
  rcases Bool.eq_false_or_eq_true (isCode c) with hi | hi
  · exact h2 c (List.mem_filter.mpr ⟨hc, hi⟩)
  · simpa [hi] using h
set_option maxRecDepth 65536 in
theorem w_c0 : (Jvm.Cond.code x code maxLocals ret).before args0 about1 = true := code_word (m := ⟨2, 1⟩) (meth := k2m1) (c := k2c1) (by decide +kernel) rfl rfl rfl (by decide +kernel)
set_option maxRecDepth 65536 in
theorem w_c1 : (Jvm.Cond.code ({ cls := "com/example/trailhead/trailhead/core/ConstraintQueuePollPinLaw", name := "<init>", desc := "()V" } : Jvm.MethodName) method_1_code (1 : Nat) (Option.none : Option Jvm.ClassFile.FieldType)).before args0 about1 = true := code_word (m := ⟨2, 0⟩) (meth := k2m0) (c := k2c0) (by decide +kernel) rfl rfl rfl (by decide +kernel)
set_option maxRecDepth 65536 in
theorem w_c2 : (Jvm.Cond.code ({ cls := "com/example/trailhead/trailhead/core/Constraint", name := "<init>", desc := "()V" } : Jvm.MethodName) prog_30_method_1_code (1 : Nat) (Option.none : Option Jvm.ClassFile.FieldType)).before args0 about1 = true := code_word (m := ⟨1, 0⟩) (meth := k1m0) (c := k1c0) (by decide +kernel) rfl rfl rfl (by decide +kernel)
set_option maxRecDepth 65536 in
theorem w_c3 : (Jvm.Cond.code ({ cls := "com/example/trailhead/trailhead/core/Constraint", name := "<init>", desc := "(Lcom/example/trailhead/trailhead/core/Priority;)V" } : Jvm.MethodName) prog_30_method_2_code (2 : Nat) (Option.none : Option Jvm.ClassFile.FieldType)).before args0 about1 = true := code_word (m := ⟨1, 1⟩) (meth := k1m1) (c := k1c1) (by decide +kernel) rfl rfl rfl (by decide +kernel)
set_option maxRecDepth 65536 in
theorem w_c4 : (Jvm.Cond.code ({ cls := "java/lang/Object", name := "<init>", desc := "()V" } : Jvm.MethodName) object_method_1_code (1 : Nat) (Option.none : Option Jvm.ClassFile.FieldType)).before args0 about1 = true := code_word (m := ⟨0, 0⟩) (meth := k0m0) (c := k0c0) (by decide +kernel) rfl rfl rfl (by decide +kernel)
set_option maxRecDepth 65536 in
theorem w_c5 : (Jvm.Cond.code ({ cls := "java/util/Objects", name := "requireNonNull", desc := "(Ljava/lang/Object;Ljava/lang/String;)Ljava/lang/Object;" } : Jvm.MethodName) jdk_31_method_11_code (2 : Nat) (Option.some (Jvm.ClassFile.FieldType.object "java/lang/Object"))).before args0 about1 = true := code_word (m := ⟨11, 1⟩) (meth := k11m1) (c := k11c1) (by decide +kernel) rfl rfl rfl (by decide +kernel)
set_option maxRecDepth 65536 in
theorem w_c6 : (Jvm.Cond.code ({ cls := "com/example/trailhead/trailhead/core/ConstraintQueue", name := "<init>", desc := "()V" } : Jvm.MethodName) prog_32_method_1_code (1 : Nat) (Option.none : Option Jvm.ClassFile.FieldType)).before args0 about1 = true := code_word (m := ⟨12, 0⟩) (meth := k12m0) (c := k12c0) (by decide +kernel) rfl rfl rfl (by decide +kernel)
set_option maxRecDepth 65536 in
theorem w_c7 : (Jvm.Cond.code ({ cls := "com/example/trailhead/trailhead/core/ConstraintQueue", name := "poll", desc := "()Lcom/example/trailhead/trailhead/core/Constraint;" } : Jvm.MethodName) prog_32_method_3_code (2 : Nat) (Option.some (Jvm.ClassFile.FieldType.object "com/example/trailhead/trailhead/core/Constraint"))).before args0 about1 = true := code_word (m := ⟨12, 2⟩) (meth := k12m2) (c := k12c2) (by decide +kernel) rfl rfl rfl (by decide +kernel)
set_option maxRecDepth 65536 in
theorem w_c8 : (Jvm.Cond.code ({ cls := "com/example/trailhead/trailhead/core/ConstraintQueue", name := "add", desc := "(Lcom/example/trailhead/trailhead/core/Constraint;)V" } : Jvm.MethodName) prog_32_method_2_code (2 : Nat) (Option.none : Option Jvm.ClassFile.FieldType)).before args0 about1 = true := code_word (m := ⟨12, 1⟩) (meth := k12m1) (c := k12c1) (by decide +kernel) rfl rfl rfl (by decide +kernel)
def codes1 : List Jvm.Cond := [Jvm.Cond.code x code maxLocals ret, Jvm.Cond.code ({ cls := "com/example/trailhead/trailhead/core/ConstraintQueuePollPinLaw", name := "<init>", desc := "()V" } : Jvm.MethodName) method_1_code (1 : Nat) (Option.none : Option Jvm.ClassFile.FieldType), Jvm.Cond.code ({ cls := "com/example/trailhead/trailhead/core/Constraint", name := "<init>", desc := "()V" } : Jvm.MethodName) prog_30_method_1_code (1 : Nat) (Option.none : Option Jvm.ClassFile.FieldType), Jvm.Cond.code ({ cls := "com/example/trailhead/trailhead/core/Constraint", name := "<init>", desc := "(Lcom/example/trailhead/trailhead/core/Priority;)V" } : Jvm.MethodName) prog_30_method_2_code (2 : Nat) (Option.none : Option Jvm.ClassFile.FieldType), Jvm.Cond.code ({ cls := "java/lang/Object", name := "<init>", desc := "()V" } : Jvm.MethodName) object_method_1_code (1 : Nat) (Option.none : Option Jvm.ClassFile.FieldType), Jvm.Cond.code ({ cls := "java/util/Objects", name := "requireNonNull", desc := "(Ljava/lang/Object;Ljava/lang/String;)Ljava/lang/Object;" } : Jvm.MethodName) jdk_31_method_11_code (2 : Nat) (Option.some (Jvm.ClassFile.FieldType.object "java/lang/Object")), Jvm.Cond.code ({ cls := "com/example/trailhead/trailhead/core/ConstraintQueue", name := "<init>", desc := "()V" } : Jvm.MethodName) prog_32_method_1_code (1 : Nat) (Option.none : Option Jvm.ClassFile.FieldType), Jvm.Cond.code ({ cls := "com/example/trailhead/trailhead/core/ConstraintQueue", name := "poll", desc := "()Lcom/example/trailhead/trailhead/core/Constraint;" } : Jvm.MethodName) prog_32_method_3_code (2 : Nat) (Option.some (Jvm.ClassFile.FieldType.object "com/example/trailhead/trailhead/core/Constraint")), Jvm.Cond.code ({ cls := "com/example/trailhead/trailhead/core/ConstraintQueue", name := "add", desc := "(Lcom/example/trailhead/trailhead/core/Constraint;)V" } : Jvm.MethodName) prog_32_method_2_code (2 : Nat) (Option.none : Option Jvm.ClassFile.FieldType)]
set_option maxRecDepth 65536 in
theorem codes_eq : words1.filter isCode = codes1 := rfl
theorem w_codes : ∀ c ∈ words1.filter isCode, c.before args0 about1 = true := by
  rw [codes_eq]
  intro c hc
  simp only [codes1, List.mem_cons, List.not_mem_nil, or_false] at hc
  rcases hc with rfl | rfl | rfl | rfl | rfl | rfl | rfl | rfl | rfl
  · exact w_c0
  · exact w_c1
  · exact w_c2
  · exact w_c3
  · exact w_c4
  · exact w_c5
  · exact w_c6
  · exact w_c7
  · exact w_c8
set_option maxRecDepth 65536 in
theorem w_t1 : (words1.take 24).all (fun c => isCode c || c.before args0 about1) = true := by decide +kernel
set_option maxRecDepth 65536 in
theorem w_t2 : ((words1.drop 24).take 24).all (fun c => isCode c || c.before args0 about1) = true := by decide +kernel
set_option maxRecDepth 65536 in
theorem w_t3 : ((words1.drop 24).drop 24).all (fun c => isCode c || c.before args0 about1) = true := by decide +kernel
theorem w_tables : (allAtoms (Jvm.Cond.code x code maxLocals ret :: tables_1)).before args0 about1 = true := by
  rw [allAtoms_all]
  show words1.all (fun c => c.before args0 about1) = true
  refine all_split ?_ w_codes
  rw [← List.take_append_drop 24 words1, List.all_append, w_t1, ← List.take_append_drop 24 (words1.drop 24), List.all_append, w_t2, w_t3]
  rfl
set_option maxRecDepth 65536 in
theorem w_case : (Jvm.Cond.and given_1 narrow_1).before args0 about1 = true := by decide +kernel
theorem w_applies : (headSpec (Jvm.Cond.code x code maxLocals ret :: tables_1) room_1).applies x e0.platform about1 = true :=
  (Spec.applies_iff w_frames).mpr ⟨w_running, w_runnable, w_alone, w_named, w_hears, w_ripe, w_room, w_tables⟩
theorem atStart : AtStart classFile x code maxLocals ret World_1 tables_1 room_1 Calls_1 rest_1 Pre_1 launch0 p0 e0 about1 theMethod args0 below0 :=
  ⟨lists_1, trivial, launch0.admits_env _ _ _, launch0.least_env, fairChoices_fair.cas, fairChoices_fair.clock, w_frames, w_args, w_heap, w_applies, trivial, trivial, w_case⟩
end start1
theorem witness_1 : WitnessClaimed_1 := ⟨start1.p0, start1.e0, start1.about1, start1.theMethod, start1.args0, start1.below0, start1.atStart⟩
end Jvm.Pilot.@@N@@
