import JvmDerived
import JvmDerived.Pilot.@@N@@Statement
import JvmDerived.Pilot.@@N@@Code
set_option linter.unusedVariables false
set_option linter.unusedSimpArgs false
namespace Jvm.Pilot.@@N@@
open Jvm Jvm.ClassFile Sem Op Lib Jvm.Free Jvm.Stand Jvm.LawKit Jvm.RoadKit Bundle Jvm.Pilot.@@N@@.Jvm.D
abbrev o_K : Type := Program × Launch × Env × Room × State × MethodId × Array Value × List Frame × Method × Code × State × Nat × State × (List Addr × Nat)
/-- a frame with its monitor entries -/
abbrev o_F (Ef : List Addr × Nat) (m : MethodId) (pc : Nat) (ls : Array Slot) (st : List Value) : JFrame := { method := m, pc := pc, locals := ls, stack := st, locked := none, entered := Ef.1, monitorRoom := Ef.2 }
/-- from heap h, with k cells and n slots made so far, at pc with locals Ls and stack St, the invocation comes to its end, and Q holds of what it returns and of the heap -/
def o_Go (κ : o_K) (Q : Option Value → Heap → Nat → Nat → Prop) (h : Heap) (k n pc : Nat) (Ls : List Slot) (St : List Value) : Prop :=
  match κ with
  | (p, l, e, R, s, m, args, below, meth, c, Z, n0, s0, Ef) =>
    ∀ (T : State) (locs : List Loc), Stand p l e R s m args below meth c T locs k n → Fr n0 locs → T.heap = h →
      ∃ (s₂ : State) (o : Outcome), Steps p.tables e below (T.setTop (o_F Ef m pc Ls.toArray St)) s₂ ∧ s₂.status = .running ∧ Ended s₂ below o ∧
        ∃ v L kc nc, o = .returned v ∧ (Q v s₂.heap kc nc ∧ Fr n0 L) ∧ (kc ≤ R.cells ∧ nc ≤ R.slots) ∧ FrameEnd s0 o s₂ L kc nc
/-- the standing facts of one invocation of y, her frame's monitor entries Ef; fin: the walk stands over the invocation's true start -/
def o_BE (κ : o_K) (l : Launch) (Z : State) (n0 : Nat) (R : Room) (y : MethodName) (bytes : ByteArray) (ml : Nat) (ret : Option FieldType) (Ef : List Addr × Nat) (fin : Bool) : Prop :=
  ∃ (p : Program) (e : Env) (s : State) (m : MethodId) (args : Array Value) (below : List Frame) (meth : Method) (c : Code) (s0 : State), κ = (p, l, e, R, s, m, args, below, meth, c, Z, n0, s0, Ef) ∧ (fin = true → s0 = s) ∧ p.tables.exec = Jvm.exec ∧ Z.Warmed39 s.vm ∧ c.code = bytes ∧ c.maxLocals = ml ∧ s.vm.findClass y.cls = some m.cls ∧ meth.sig.returnType = ret ∧ meth.locks = false ∧ meth.name = y.name
abbrev o_Bo (κ : o_K) (l : Launch) (Z : State) (n0 : Nat) (R : Room) (y : MethodName) (bytes : ByteArray) (ml : Nat) (ret : Option FieldType) : Prop := o_BE κ l Z n0 R y bytes ml ret ([], 0) true
/-- a lay in the heap at the invocation -/
def o_old (κ : o_K) (a : Addr) : Prop := match κ with
  | (p, l, e, R, s, m, args, below, meth, c, Z, n0, s0, Ef) => a < s.heap.size
/-- the contract of y at the arguments 'as' and the heap h -/
def o_C (l : Launch) (Z : State) (n0 : Nat) (y : MethodName) (bytes : ByteArray) (ml : Nat) (ret : Option FieldType) (rm : Room) (as : List Value) (h : Heap) (Q : Option Value → Heap → Nat → Nat → Prop) : Prop :=
  ∀ ws : List Jvm.Cond, MetFree l y (head1 (Jvm.Cond.code y bytes ml ret :: ws) rm) (fun a U => a = as.toArray ∧ Z.Warmed39 U.vm ∧ U.heap = h) (fun _ _ _ _ _ => True) (fun _ U o U' => ∃ v L kc nc, o = .returned v ∧ (Q v U'.heap kc nc ∧ Fr n0 L) ∧ (kc ≤ rm.cells ∧ nc ≤ rm.slots) ∧ FrameEnd U o U' L kc nc)
theorem o_lt {a b : Nat} (h : a < b) : a < b := h
theorem o_le {a b : Nat} (h : a ≤ b) : a ≤ b := h
theorem o_ne {a b : Nat} (h : a ≠ b) : a ≠ b := h
theorem o_eq {a b : Nat} (h : a = b) : a = b := h
theorem o_backX {l : Launch} {R : Room} {p : Program} {e : Env} {below : List Frame} {s : State} {args a0 : Array Value} {Z : State} {h : Heap} {y : MethodName} {bytes : ByteArray} {maxL : Nat} {ret : Option FieldType} {rm : Room} {len W : Nat} {as' : Array Value} {Q : Option Value → Heap → List Loc → Nat → Nat → Prop}
    (hM : MetFree l y (head1 [Cond.code y bytes maxL ret] rm) (fun a U => a = as' ∧ Z.Warmed39 U.vm ∧ U.heap = h) (fun _ _ _ _ _ => True) (fun _ U o U' => ∃ v L kc nc, o = .returned v ∧ Q v U'.heap L kc nc ∧ (kc ≤ rm.cells ∧ nc ≤ rm.slots) ∧ FrameEnd U o U' L kc nc))
    (hZ : Z.Warmed39 s.vm) (wc : (Cond.code y bytes maxL ret).before a0 Z = true) (wz : (Cond.initialized y.cls).before a0 Z = true) (hf : rm.frames + 1 ≤ R.frames) (hl : W + (maxL + 11) + rm.locals ≤ R.locals) :
    Back l R p e below s args y len W (fun A a => a = as' ∧ A.U.heap = h ∧ A.cells + rm.cells ≤ R.cells ∧ A.slots + rm.slots ≤ R.slots)
      (fun A _ v B => ∃ L kc nc, Q v B.U.heap L kc nc ∧ B.locs = A.locs ++ L ∧ B.cells = A.cells + kc ∧ B.slots = A.slots + nc ∧ kc ≤ rm.cells ∧ nc ≤ rm.slots) :=
  Back.of_free (bytes := bytes) (maxL := maxL) (ret := ret) (E := fun _ _ o t L k n => (k ≤ rm.cells ∧ n ≤ rm.slots) ∧ ∃ v, o = .returned v ∧ Q v t.heap L k n) hM hf hl
    (fun m meth c A a Y hp => have hU : Z.Warmed39 A.U.vm := wtrans hZ Y.warmed
      ⟨by show (Cond.and _ .tt).before a A.U = true; rw [Cond.before_and, mv hU wc]; rfl, mv hU wc, mv hU wz, hp.2.2.1, hp.2.2.2⟩)
    (fun m meth c A a g mk Y hp => ⟨hp.1, wtrans hZ Y.warmed, hp.2.1⟩) (fun _ _ _ _ _ _ _ _ _ => trivial)
    (fun _ _ _ _ ⟨v, L, kc, nc, h1, h2, h4, h3⟩ => ⟨L, _, _, h3, h4, v, h1, h2⟩)
    (fun m meth c A a g mk v t L k n Y hp _ _ ⟨e1, v', e3, e4⟩ => by cases e3; exact ⟨L, k, n, e4, rfl, rfl, rfl, e1.1, e1.2⟩)
theorem o_backXH {l : Launch} {R : Room} {p : Program} {e : Env} {below : List Frame} {s : State} {args a0 : Array Value} {Z : State} {h : Heap} {y : MethodName} {bytes : ByteArray} {maxL : Nat} {ret : Option FieldType} {hs : List (Nat × Nat × Nat × Nat)} {rm : Room} {len W : Nat} {as' : Array Value} {Q : Option Value → Heap → List Loc → Nat → Nat → Prop}
    (hM : MetFree l y (head1 [Cond.codeWith y bytes maxL ret hs] rm) (fun a U => a = as' ∧ Z.Warmed39 U.vm ∧ U.heap = h) (fun _ _ _ _ _ => True) (fun _ U o U' => ∃ v L kc nc, o = .returned v ∧ Q v U'.heap L kc nc ∧ (kc ≤ rm.cells ∧ nc ≤ rm.slots) ∧ FrameEnd U o U' L kc nc))
    (hZ : Z.Warmed39 s.vm) (wc : (Cond.codeWith y bytes maxL ret hs).before a0 Z = true) (wz : (Cond.initialized y.cls).before a0 Z = true) (hf : rm.frames + 1 ≤ R.frames) (hl : W + (maxL + 11) + rm.locals ≤ R.locals) :
    Back l R p e below s args y len W (fun A a => a = as' ∧ A.U.heap = h ∧ A.cells + rm.cells ≤ R.cells ∧ A.slots + rm.slots ≤ R.slots)
      (fun A _ v B => ∃ L kc nc, Q v B.U.heap L kc nc ∧ B.locs = A.locs ++ L ∧ B.cells = A.cells + kc ∧ B.slots = A.slots + nc ∧ kc ≤ rm.cells ∧ nc ≤ rm.slots) :=
  Back.of_freeWith (bytes := bytes) (maxL := maxL) (ret := ret) (handlers := hs) (E := fun _ _ o t L k n => (k ≤ rm.cells ∧ n ≤ rm.slots) ∧ ∃ v, o = .returned v ∧ Q v t.heap L k n) hM hf hl
    (fun m meth c A a Y hp => have hU : Z.Warmed39 A.U.vm := wtrans hZ Y.warmed
      ⟨by show (Cond.and _ .tt).before a A.U = true; rw [Cond.before_and, mv hU wc]; rfl, mv hU wc, mv hU wz, hp.2.2.1, hp.2.2.2⟩)
    (fun m meth c A a g mk Y hp => ⟨hp.1, wtrans hZ Y.warmed, hp.2.1⟩) (fun _ _ _ _ _ _ _ _ _ => trivial)
    (fun _ _ _ _ ⟨v, L, kc, nc, h1, h2, h4, h3⟩ => ⟨L, _, _, h3, h4, v, h1, h2⟩)
    (fun m meth c A a g mk v t L k n Y hp _ _ ⟨e1, v', e3, e4⟩ => by cases e3; exact ⟨L, k, n, e4, rfl, rfl, rfl, e1.1, e1.2⟩)
section Fw
variable {κ : o_K} {l : Launch} {Z : State} {n0 : Nat} {R : Room} {y : MethodName} {bytes : ByteArray} {ml : Nat} {ret : Option FieldType} {Q : Option Value → Heap → Nat → Nat → Prop} {h : Heap} {k n pc : Nat} {Ls : List Slot} {St : List Value} {a0 : Array Value} {Ef : List Addr × Nat} {fin : Bool}
theorem o_body {rm : Room} {as : List Value} (hpn : plainFor y = true) (hef : argsToLocals as.toArray ml = Ls.toArray) (H : ∀ κ, o_Bo κ l Z n0 rm y bytes ml ret → o_Go κ Q h 0 0 0 Ls []) : o_C l Z n0 y bytes ml ret rm as h Q := by
  intro ws
  refine MetFree.of_bodySF hpn hisR ?_
  intro p e s m args below meth c s₁ Bd hml0 hP hK
  obtain ⟨rfl, hZ, hh⟩ := hP
  have X0 : Stand p l e rm s m as.toArray below meth c s₁ [] 0 0 := Stand.of_body Bd
  have e0 : s₁.heap = h := by rw [← hh, Bd.state]; rfl
  have hown := findClass_of_methodNamed Bd.named
  have hnm := (name_of_methodNamed Bd.named Bd.method).1
  obtain ⟨s₂, o, st, r1, r2, v, L, kc, nc, rfl, ⟨q, N⟩, hkn, fe⟩ := H (p, l, e, rm, s, m, as.toArray, below, meth, c, Z, n0, s, ([], 0)) ⟨p, e, s, m, _, below, meth, c, s, rfl, fun _ => rfl, Bd.exec, hZ, Bd.bytes, hml0, hown, Bd.returns, Bd.notSynchronized, hnm⟩ s₁ [] X0 (Fr.nil _) e0
  refine ⟨s₂, _, ?_, r1, r2, v, L, kc, nc, rfl, ⟨q, N⟩, hkn, fe⟩
  exact castTop (g' := mkF m 0 Ls.toArray []) (by unfold entryFrame; rw [hef]) st
theorem o_C.imp {rm : Room} {as : List Value} {Q' : Option Value → Heap → Nat → Nat → Prop} (C : o_C l Z n0 y bytes ml ret rm as h Q) (H : ∀ v h' kc nc, Q v h' kc nc → Q' v h' kc nc) : o_C l Z n0 y bytes ml ret rm as h Q' := by
  intro ws p e ha hc hk s m args below hf happ hP hK
  obtain ⟨n, o, h1, h2, h3, v, L, kc, nc, e1, ⟨q, N⟩, hkn, fe⟩ := C ws p e ha hc hk s m args below hf happ hP hK
  exact ⟨n, o, h1, h2, h3, v, L, kc, nc, e1, ⟨H _ _ _ _ q, N⟩, hkn, fe⟩
theorem o_imp {Q' : Option Value → Heap → Nat → Nat → Prop} (H : ∀ v h' kc nc, Q v h' kc nc → Q' v h' kc nc) (G : o_Go κ Q h k n pc Ls St) : o_Go κ Q' h k n pc Ls St := by
  obtain ⟨p, l, e, R, s, m, args, below, meth, c, Z, n0, s0, Ef⟩ := κ
  intro T locs X N eT
  obtain ⟨s₂, o, st, r1, r2, v, L, kc, nc, e1, ⟨q, N⟩, hkn, fe⟩ := G T locs X N eT
  exact ⟨s₂, o, st, r1, r2, v, L, kc, nc, e1, ⟨H _ _ _ _ q, N⟩, hkn, fe⟩
theorem o_mono {k' n' : Nat} (hk : k ≤ k') (hn : n ≤ n') (G : o_Go κ Q h k' n' pc Ls St) : o_Go κ Q h k n pc Ls St := by
  obtain ⟨p, l, e, R, s, m, args, below, meth, c, Z, n0, s0, Ef⟩ := κ
  intro T locs X N eT
  exact G T locs (X.more hk hn) N eT
theorem o_sim (B : o_BE κ l Z n0 R y bytes ml ret Ef fin) {pc' : Nat} {Ls' : List Slot} {St' : List Value} (f : ∀ (p : Program) (e : Env) (m : MethodId) (below : List Frame) (c : Code) (T target : State), At T m c below → p.tables.exec = Jvm.exec → c.code = bytes → Steps p.tables e below (T.setTop (o_F Ef m pc' Ls'.toArray St')) target → Steps p.tables e below (T.setTop (o_F Ef m pc Ls.toArray St)) target) (K : o_Go κ Q h k n pc' Ls' St') : o_Go κ Q h k n pc Ls St := by
  obtain ⟨p, e, s, m, args, below, meth, c, s0, rfl, hs0, hx, hZ, hby, hml, hown, hret, hlk, hnm⟩ := B
  intro T locs X N eT
  obtain ⟨s₂, o, st, r⟩ := K T locs X N eT
  exact ⟨s₂, o, f p e m below c T s₂ X.here hx hby st, r⟩
theorem o_get {i : Nat} {x : Slot} (hl : Ls[i]? = some x) : Ls.toArray[i]? = some x := by simpa using hl
def o_ok1 : Slot → Bool
  | .unset => true
  | .val w => w.category == 1
  | .second => false
theorem o_ok1_spec {o : Slot} (ho : o_ok1 o = true) : o = .unset ∨ ∃ w, o = .val w ∧ w.category = 1 := by
  cases o <;> simp [o_ok1] at ho ⊢; exact ho
theorem o_store1 {i : Nat} {o : Slot} {v : Value} (hold : Ls[i]? = some o) (ho : o_ok1 o = true) (hv : v.category = 1) : storeLocals Ls.toArray i v = some (Ls.set i (.val v)).toArray := by
  rw [XS.store1 (o_get hold) (o_ok1_spec ho) hv]; simp
def o_okl : Slot → Slot → Bool
  | .second, _ => false
  | _, .val w => w.category == 1
  | _, _ => true
theorem o_storel {i : Nat} {o o' : Slot} {v : Value} (hold : Ls[i]? = some o) (hold' : Ls[i + 1]? = some o') (ho : o_okl o o' = true) (hv : v.category = 2) : storeLocals Ls.toArray i v = some ((Ls.set i (.val v)).set (i + 1) .second).toArray := by
  obtain ⟨hi, hget⟩ := List.getElem?_eq_some_iff.mp hold
  obtain ⟨hi', hget'⟩ := List.getElem?_eq_some_iff.mp hold'
  have hne : i ≠ i + 1 := by omega
  have hne' : i + 1 ≠ i := by omega
  cases o with
  | second => simp [o_okl] at ho
  | unset =>
    cases o' with
    | val w =>
      have hw : w.category = 1 := by simpa [o_okl] using ho
      simp [storeLocals, storeSelf, setAt, hi, hi', hget, hget', hv, hw, List.getElem?_set, hne, hold, hold']
    | _ => simp [storeLocals, storeSelf, setAt, hi, hi', hget, hget', hv, List.getElem?_set, hne, hold, hold']
  | val u =>
    by_cases hu : u.category = 2
    · cases o' with
      | val w =>
        have hw : w.category = 1 := by simpa [o_okl] using ho
        simp [storeLocals, storeSelf, setAt, hi, hi', hget, hget', hv, hu, hw, List.getElem?_set, hne, hne', hold, hold', List.set_comm _ _ hne', List.set_set]
      | _ => simp [storeLocals, storeSelf, setAt, hi, hi', hget, hget', hv, hu, List.getElem?_set, hne, hne', hold, hold', List.set_comm _ _ hne', List.set_set]
    · cases o' with
      | val w =>
        have hw : w.category = 1 := by simpa [o_okl] using ho
        simp [storeLocals, storeSelf, setAt, hi, hi', hget, hget', hv, hu, hw, List.getElem?_set, hne, hold, hold']
      | _ => simp [storeLocals, storeSelf, setAt, hi, hi', hget, hget', hv, hu, List.getElem?_set, hne, hold, hold']
theorem o_iloadN (B : o_BE κ l Z n0 R y bytes ml ret Ef fin) {i : Fin 4} {x : Int32} (hd : decode bytes pc = .ok (.iload_n i, 1)) (hl : Ls[i.val]? = some (.val (.int x))) (K : o_Go κ Q h k n (pc + 1) Ls (.int x :: St)) : o_Go κ Q h k n pc Ls (St) := o_sim B (fun p e m below c T target X hx hby st => XS.iloadN X hx rfl (hb hby hd) (o_get hl) st) K
theorem o_iload (B : o_BE κ l Z n0 R y bytes ml ret Ef fin) {i : Nat} {x : Int32} (hd : decode bytes pc = .ok (.iload i, 2)) (hl : Ls[i]? = some (.val (.int x))) (K : o_Go κ Q h k n (pc + 2) Ls (.int x :: St)) : o_Go κ Q h k n pc Ls (St) := o_sim B (fun p e m below c T target X hx hby st => XS.iload X hx rfl (hb hby hd) (o_get hl) st) K
theorem o_lloadN (B : o_BE κ l Z n0 R y bytes ml ret Ef fin) {i : Fin 4} {x : Int64} (hd : decode bytes pc = .ok (.lload_n i, 1)) (hl : Ls[i.val]? = some (.val (.long x))) (K : o_Go κ Q h k n (pc + 1) Ls (.long x :: St)) : o_Go κ Q h k n pc Ls (St) := o_sim B (fun p e m below c T target X hx hby st => XT.lloadN X hx rfl (hb hby hd) (o_get hl) st) K
theorem o_lload (B : o_BE κ l Z n0 R y bytes ml ret Ef fin) {i : Nat} {x : Int64} (hd : decode bytes pc = .ok (.lload i, 2)) (hl : Ls[i]? = some (.val (.long x))) (K : o_Go κ Q h k n (pc + 2) Ls (.long x :: St)) : o_Go κ Q h k n pc Ls (St) := o_sim B (fun p e m below c T target X hx hby st => XT.lload X hx rfl (hb hby hd) (o_get hl) st) K
theorem o_aloadN (B : o_BE κ l Z n0 R y bytes ml ret Ef fin) {i : Fin 4} {v : Value} (hd : decode bytes pc = .ok (.aload_n i, 1)) (hl : Ls[i.val]? = some (.val v)) (hv : v.isRef = true) (K : o_Go κ Q h k n (pc + 1) Ls (v :: St)) : o_Go κ Q h k n pc Ls (St) := o_sim B (fun p e m below c T target X hx hby st => XS.aloadN X hx rfl (hb hby hd) (o_get hl) hv st) K
theorem o_aload (B : o_BE κ l Z n0 R y bytes ml ret Ef fin) {i : Nat} {v : Value} (hd : decode bytes pc = .ok (.aload i, 2)) (hl : Ls[i]? = some (.val v)) (hv : v.isRef = true) (K : o_Go κ Q h k n (pc + 2) Ls (v :: St)) : o_Go κ Q h k n pc Ls (St) := o_sim B (fun p e m below c T target X hx hby st => XS.aload X hx rfl (hb hby hd) (o_get hl) hv st) K
theorem o_istoreN (B : o_BE κ l Z n0 R y bytes ml ret Ef fin) {i : Fin 4} {x : Int32} {o : Slot} (hd : decode bytes pc = .ok (.istore_n i, 1)) (hold : Ls[i.val]? = some o) (ho : o_ok1 o = true) (K : o_Go κ Q h k n (pc + 1) (Ls.set i.val (.val (.int x))) (St)) : o_Go κ Q h k n pc Ls (.int x :: St) := o_sim B (fun p e m below c T target X hx hby st => XS.istoreN X hx rfl (hb hby hd) rfl (o_store1 hold ho rfl) st) K
theorem o_istore (B : o_BE κ l Z n0 R y bytes ml ret Ef fin) {i : Nat} {x : Int32} {o : Slot} (hd : decode bytes pc = .ok (.istore i, 2)) (hold : Ls[i]? = some o) (ho : o_ok1 o = true) (K : o_Go κ Q h k n (pc + 2) (Ls.set i (.val (.int x))) (St)) : o_Go κ Q h k n pc Ls (.int x :: St) := o_sim B (fun p e m below c T target X hx hby st => XS.istore X hx rfl (hb hby hd) rfl (o_store1 hold ho rfl) st) K
theorem o_astoreN (B : o_BE κ l Z n0 R y bytes ml ret Ef fin) {i : Fin 4} {v : Value} {o : Slot} (hd : decode bytes pc = .ok (.astore_n i, 1)) (hv : v.isRef = true) (hold : Ls[i.val]? = some o) (ho : o_ok1 o = true) (K : o_Go κ Q h k n (pc + 1) (Ls.set i.val (.val v)) (St)) : o_Go κ Q h k n pc Ls (v :: St) := o_sim B (fun p e m below c T target X hx hby st => XS.astoreN X hx rfl (hb hby hd) rfl hv (o_store1 hold ho (by cases v <;> simp [Value.isRef] at hv <;> rfl)) st) K
theorem o_astore (B : o_BE κ l Z n0 R y bytes ml ret Ef fin) {i : Nat} {v : Value} {o : Slot} (hd : decode bytes pc = .ok (.astore i, 2)) (hv : v.isRef = true) (hold : Ls[i]? = some o) (ho : o_ok1 o = true) (K : o_Go κ Q h k n (pc + 2) (Ls.set i (.val v)) (St)) : o_Go κ Q h k n pc Ls (v :: St) := o_sim B (fun p e m below c T target X hx hby st => XS.astore X hx rfl (hb hby hd) rfl hv (o_store1 hold ho (by cases v <;> simp [Value.isRef] at hv <;> rfl)) st) K
theorem o_lstoreN (B : o_BE κ l Z n0 R y bytes ml ret Ef fin) {i : Fin 4} {x : Int64} {o o2 : Slot} (hd : decode bytes pc = .ok (.lstore_n i, 1)) (hold : Ls[i.val]? = some o) (hold2 : Ls[i.val + 1]? = some o2) (ho : o_okl o o2 = true) (K : o_Go κ Q h k n (pc + 1) ((Ls.set i.val (.val (.long x))).set (i.val + 1) .second) (St)) : o_Go κ Q h k n pc Ls (.long x :: St) := o_sim B (fun p e m below c T target X hx hby st => XT.lstoreN X hx rfl (hb hby hd) rfl (o_storel hold hold2 ho rfl) st) K
theorem o_lstore (B : o_BE κ l Z n0 R y bytes ml ret Ef fin) {i : Nat} {x : Int64} {o o2 : Slot} (hd : decode bytes pc = .ok (.lstore i, 2)) (hold : Ls[i]? = some o) (hold2 : Ls[i + 1]? = some o2) (ho : o_okl o o2 = true) (K : o_Go κ Q h k n (pc + 2) ((Ls.set i (.val (.long x))).set (i + 1) .second) (St)) : o_Go κ Q h k n pc Ls (.long x :: St) := o_sim B (fun p e m below c T target X hx hby st => XT.lstore X hx rfl (hb hby hd) rfl (o_storel hold hold2 ho rfl) st) K
theorem o_iinc (B : o_BE κ l Z n0 R y bytes ml ret Ef fin) {i : Nat} {cst : Int} {x : Int32} (v : Int32) (hd : decode bytes pc = .ok (.iinc i cst, 3)) (hv : Int32.ofInt cst = v) (hl : Ls[i]? = some (.val (.int x))) (K : o_Go κ Q h k n (pc + 3) (Ls.set i (.val (.int (x + v)))) (St)) : o_Go κ Q h k n pc Ls (St) := o_sim B (fun p e m below c T target X hx hby st => XT.iincV X hx rfl v (hb hby hd) hv (o_get hl) (o_store1 hl rfl rfl) st) K
theorem o_iconst (B : o_BE κ l Z n0 R y bytes ml ret Ef fin) {i : Int} (v : Int32) (hd : decode bytes pc = .ok (.iconst i, 1)) (hv : Int32.ofInt i = v) (K : o_Go κ Q h k n (pc + 1) Ls (.int v :: St)) : o_Go κ Q h k n pc Ls (St) := o_sim B (fun p e m below c T target X hx hby st => XT.iconstV X hx rfl v (hb hby hd) hv st) K
theorem o_bipush (B : o_BE κ l Z n0 R y bytes ml ret Ef fin) {i : Int} (v : Int32) (hd : decode bytes pc = .ok (.bipush i, 2)) (hv : (Int8.ofInt i).toInt32 = v) (K : o_Go κ Q h k n (pc + 2) Ls (.int v :: St)) : o_Go κ Q h k n pc Ls (St) := o_sim B (fun p e m below c T target X hx hby st => XT.bipushV X hx rfl v (hb hby hd) hv st) K
theorem o_sipush (B : o_BE κ l Z n0 R y bytes ml ret Ef fin) {i : Int} (v : Int32) (hd : decode bytes pc = .ok (.sipush i, 3)) (hv : (Int16.ofInt i).toInt32 = v) (K : o_Go κ Q h k n (pc + 3) Ls (.int v :: St)) : o_Go κ Q h k n pc Ls (St) := o_sim B (fun p e m below c T target X hx hby st => XT.sipushV X hx rfl v (hb hby hd) hv st) K
theorem o_lconst (B : o_BE κ l Z n0 R y bytes ml ret Ef fin) {i : Fin 2} (v : Int64) (hd : decode bytes pc = .ok (.lconst i, 1)) (hv : Int64.ofNat i = v) (K : o_Go κ Q h k n (pc + 1) Ls (.long v :: St)) : o_Go κ Q h k n pc Ls (St) := o_sim B (fun p e m below c T target X hx hby st => XT.lconstV X hx rfl v (hb hby hd) hv st) K
theorem o_aconst_null (B : o_BE κ l Z n0 R y bytes ml ret Ef fin)  (hd : decode bytes pc = .ok (.aconst_null, 1)) (K : o_Go κ Q h k n (pc + 1) Ls (.null :: St)) : o_Go κ Q h k n pc Ls (St) := o_sim B (fun p e m below c T target X hx hby st => XS.aconstNull X hx rfl (hb hby hd) st) K
theorem o_iadd (B : o_BE κ l Z n0 R y bytes ml ret Ef fin) {x y : Int32} (hd : decode bytes pc = .ok (.iadd, 1)) (K : o_Go κ Q h k n (pc + 1) Ls (.int (x + y) :: St)) : o_Go κ Q h k n pc Ls (.int y :: .int x :: St) := o_sim B (fun p e m below c T target X hx hby st => XS.iadd X hx rfl (hb hby hd) rfl st) K
theorem o_isub (B : o_BE κ l Z n0 R y bytes ml ret Ef fin) {x y : Int32} (hd : decode bytes pc = .ok (.isub, 1)) (K : o_Go κ Q h k n (pc + 1) Ls (.int (x - y) :: St)) : o_Go κ Q h k n pc Ls (.int y :: .int x :: St) := o_sim B (fun p e m below c T target X hx hby st => XS.isub X hx rfl (hb hby hd) rfl st) K
theorem o_iand (B : o_BE κ l Z n0 R y bytes ml ret Ef fin) {x y : Int32} (hd : decode bytes pc = .ok (.iand, 1)) (K : o_Go κ Q h k n (pc + 1) Ls (.int (x &&& y) :: St)) : o_Go κ Q h k n pc Ls (.int y :: .int x :: St) := o_sim B (fun p e m below c T target X hx hby st => XS.iand X hx rfl (hb hby hd) rfl st) K
theorem o_imul (B : o_BE κ l Z n0 R y bytes ml ret Ef fin) {x y : Int32} (hd : decode bytes pc = .ok (.imul, 1)) (K : o_Go κ Q h k n (pc + 1) Ls (.int (x * y) :: St)) : o_Go κ Q h k n pc Ls (.int y :: .int x :: St) := o_sim B (fun p e m below c T target X hx hby st => XS.imul X hx rfl (hb hby hd) rfl st) K
theorem o_ior (B : o_BE κ l Z n0 R y bytes ml ret Ef fin) {x y : Int32} (hd : decode bytes pc = .ok (.ior, 1)) (K : o_Go κ Q h k n (pc + 1) Ls (.int (x ||| y) :: St)) : o_Go κ Q h k n pc Ls (.int y :: .int x :: St) := o_sim B (fun p e m below c T target X hx hby st => XT.ior X hx rfl (hb hby hd) rfl st) K
theorem o_ixor (B : o_BE κ l Z n0 R y bytes ml ret Ef fin) {x y : Int32} (hd : decode bytes pc = .ok (.ixor, 1)) (K : o_Go κ Q h k n (pc + 1) Ls (.int (x ^^^ y) :: St)) : o_Go κ Q h k n pc Ls (.int y :: .int x :: St) := o_sim B (fun p e m below c T target X hx hby st => XT.ixor X hx rfl (hb hby hd) rfl st) K
theorem o_ishl (B : o_BE κ l Z n0 R y bytes ml ret Ef fin) {x y : Int32} (hd : decode bytes pc = .ok (.ishl, 1)) (K : o_Go κ Q h k n (pc + 1) Ls (.int (x <<< (y &&& 31)) :: St)) : o_Go κ Q h k n pc Ls (.int y :: .int x :: St) := o_sim B (fun p e m below c T target X hx hby st => XT.ishl X hx rfl (hb hby hd) rfl st) K
theorem o_ishr (B : o_BE κ l Z n0 R y bytes ml ret Ef fin) {x y : Int32} (hd : decode bytes pc = .ok (.ishr, 1)) (K : o_Go κ Q h k n (pc + 1) Ls (.int (x >>> (y &&& 31)) :: St)) : o_Go κ Q h k n pc Ls (.int y :: .int x :: St) := o_sim B (fun p e m below c T target X hx hby st => XT.ishr X hx rfl (hb hby hd) rfl st) K
theorem o_iushr (B : o_BE κ l Z n0 R y bytes ml ret Ef fin) {x y : Int32} (hd : decode bytes pc = .ok (.iushr, 1)) (K : o_Go κ Q h k n (pc + 1) Ls (.int (XT.ushr x y) :: St)) : o_Go κ Q h k n pc Ls (.int y :: .int x :: St) := o_sim B (fun p e m below c T target X hx hby st => XT.iushr X hx rfl (hb hby hd) rfl st) K
theorem o_idiv (B : o_BE κ l Z n0 R y bytes ml ret Ef fin) {x y : Int32} (hd : decode bytes pc = .ok (.idiv, 1)) (hy : y ≠ 0) (K : o_Go κ Q h k n (pc + 1) Ls (.int (x / y) :: St)) : o_Go κ Q h k n pc Ls (.int y :: .int x :: St) := o_sim B (fun p e m below c T target X hx hby st => XS.idiv X hx rfl (hb hby hd) rfl hy st) K
theorem o_irem (B : o_BE κ l Z n0 R y bytes ml ret Ef fin) {x y : Int32} (hd : decode bytes pc = .ok (.irem, 1)) (hy : y ≠ 0) (K : o_Go κ Q h k n (pc + 1) Ls (.int (x % y) :: St)) : o_Go κ Q h k n pc Ls (.int y :: .int x :: St) := o_sim B (fun p e m below c T target X hx hby st => XS.irem X hx rfl (hb hby hd) rfl hy (by rw [irem_eq_mod]; exact st)) K
theorem o_ineg (B : o_BE κ l Z n0 R y bytes ml ret Ef fin) {x : Int32} (hd : decode bytes pc = .ok (.ineg, 1)) (K : o_Go κ Q h k n (pc + 1) Ls (.int (-x) :: St)) : o_Go κ Q h k n pc Ls (.int x :: St) := o_sim B (fun p e m below c T target X hx hby st => XS.ineg X hx rfl (hb hby hd) rfl st) K
theorem o_ladd (B : o_BE κ l Z n0 R y bytes ml ret Ef fin) {x y : Int64} (hd : decode bytes pc = .ok (.ladd, 1)) (K : o_Go κ Q h k n (pc + 1) Ls (.long (x + y) :: St)) : o_Go κ Q h k n pc Ls (.long y :: .long x :: St) := o_sim B (fun p e m below c T target X hx hby st => XT.ladd X hx rfl (hb hby hd) rfl st) K
theorem o_lsub (B : o_BE κ l Z n0 R y bytes ml ret Ef fin) {x y : Int64} (hd : decode bytes pc = .ok (.lsub, 1)) (K : o_Go κ Q h k n (pc + 1) Ls (.long (x - y) :: St)) : o_Go κ Q h k n pc Ls (.long y :: .long x :: St) := o_sim B (fun p e m below c T target X hx hby st => XT.lsub X hx rfl (hb hby hd) rfl st) K
theorem o_lmul (B : o_BE κ l Z n0 R y bytes ml ret Ef fin) {x y : Int64} (hd : decode bytes pc = .ok (.lmul, 1)) (K : o_Go κ Q h k n (pc + 1) Ls (.long (x * y) :: St)) : o_Go κ Q h k n pc Ls (.long y :: .long x :: St) := o_sim B (fun p e m below c T target X hx hby st => XT.lmul X hx rfl (hb hby hd) rfl st) K
theorem o_land (B : o_BE κ l Z n0 R y bytes ml ret Ef fin) {x y : Int64} (hd : decode bytes pc = .ok (.land, 1)) (K : o_Go κ Q h k n (pc + 1) Ls (.long (x &&& y) :: St)) : o_Go κ Q h k n pc Ls (.long y :: .long x :: St) := o_sim B (fun p e m below c T target X hx hby st => XT.land X hx rfl (hb hby hd) rfl st) K
theorem o_lor (B : o_BE κ l Z n0 R y bytes ml ret Ef fin) {x y : Int64} (hd : decode bytes pc = .ok (.lor, 1)) (K : o_Go κ Q h k n (pc + 1) Ls (.long (x ||| y) :: St)) : o_Go κ Q h k n pc Ls (.long y :: .long x :: St) := o_sim B (fun p e m below c T target X hx hby st => XT.lor X hx rfl (hb hby hd) rfl st) K
theorem o_lxor (B : o_BE κ l Z n0 R y bytes ml ret Ef fin) {x y : Int64} (hd : decode bytes pc = .ok (.lxor, 1)) (K : o_Go κ Q h k n (pc + 1) Ls (.long (x ^^^ y) :: St)) : o_Go κ Q h k n pc Ls (.long y :: .long x :: St) := o_sim B (fun p e m below c T target X hx hby st => XT.lxor X hx rfl (hb hby hd) rfl st) K
theorem o_lshl (B : o_BE κ l Z n0 R y bytes ml ret Ef fin) {x : Int64} {y : Int32} (hd : decode bytes pc = .ok (.lshl, 1)) (K : o_Go κ Q h k n (pc + 1) Ls (.long (x <<< (y.toInt64 &&& 63)) :: St)) : o_Go κ Q h k n pc Ls (.int y :: .long x :: St) := o_sim B (fun p e m below c T target X hx hby st => XT.lshl X hx rfl (hb hby hd) rfl st) K
theorem o_lshr (B : o_BE κ l Z n0 R y bytes ml ret Ef fin) {x : Int64} {y : Int32} (hd : decode bytes pc = .ok (.lshr, 1)) (K : o_Go κ Q h k n (pc + 1) Ls (.long (x >>> (y.toInt64 &&& 63)) :: St)) : o_Go κ Q h k n pc Ls (.int y :: .long x :: St) := o_sim B (fun p e m below c T target X hx hby st => XT.lshr X hx rfl (hb hby hd) rfl st) K
theorem o_lushr (B : o_BE κ l Z n0 R y bytes ml ret Ef fin) {x : Int64} {y : Int32} (hd : decode bytes pc = .ok (.lushr, 1)) (K : o_Go κ Q h k n (pc + 1) Ls (.long (XT.ushrL x y) :: St)) : o_Go κ Q h k n pc Ls (.int y :: .long x :: St) := o_sim B (fun p e m below c T target X hx hby st => XT.lushr X hx rfl (hb hby hd) rfl st) K
theorem o_ldiv (B : o_BE κ l Z n0 R y bytes ml ret Ef fin) {x y : Int64} (hd : decode bytes pc = .ok (.ldiv, 1)) (hy : y ≠ 0) (K : o_Go κ Q h k n (pc + 1) Ls (.long (x / y) :: St)) : o_Go κ Q h k n pc Ls (.long y :: .long x :: St) := o_sim B (fun p e m below c T target X hx hby st => XT.ldiv X hx rfl (hb hby hd) rfl hy st) K
theorem o_lrem (B : o_BE κ l Z n0 R y bytes ml ret Ef fin) {x y : Int64} (hd : decode bytes pc = .ok (.lrem, 1)) (hy : y ≠ 0) (K : o_Go κ Q h k n (pc + 1) Ls (.long (x - (x / y) * y) :: St)) : o_Go κ Q h k n pc Ls (.long y :: .long x :: St) := o_sim B (fun p e m below c T target X hx hby st => XT.lrem X hx rfl (hb hby hd) rfl hy st) K
theorem o_lneg (B : o_BE κ l Z n0 R y bytes ml ret Ef fin) {x : Int64} (hd : decode bytes pc = .ok (.lneg, 1)) (K : o_Go κ Q h k n (pc + 1) Ls (.long (-x) :: St)) : o_Go κ Q h k n pc Ls (.long x :: St) := o_sim B (fun p e m below c T target X hx hby st => XT.lneg X hx rfl (hb hby hd) rfl st) K
theorem o_i2l (B : o_BE κ l Z n0 R y bytes ml ret Ef fin) {x : Int32} (hd : decode bytes pc = .ok (.i2l, 1)) (K : o_Go κ Q h k n (pc + 1) Ls (.long x.toInt64 :: St)) : o_Go κ Q h k n pc Ls (.int x :: St) := o_sim B (fun p e m below c T target X hx hby st => XT.i2l X hx rfl (hb hby hd) rfl st) K
theorem o_l2i (B : o_BE κ l Z n0 R y bytes ml ret Ef fin) {x : Int64} (hd : decode bytes pc = .ok (.l2i, 1)) (K : o_Go κ Q h k n (pc + 1) Ls (.int x.toInt32 :: St)) : o_Go κ Q h k n pc Ls (.long x :: St) := o_sim B (fun p e m below c T target X hx hby st => XT.l2i X hx rfl (hb hby hd) rfl st) K
theorem o_lcmp (B : o_BE κ l Z n0 R y bytes ml ret Ef fin) {x y : Int64} (hd : decode bytes pc = .ok (.lcmp, 1)) (K : o_Go κ Q h k n (pc + 1) Ls (.int (XT.cmpL x y) :: St)) : o_Go κ Q h k n pc Ls (.long y :: .long x :: St) := o_sim B (fun p e m below c T target X hx hby st => XT.lcmp X hx rfl (hb hby hd) rfl st) K
theorem o_dup (B : o_BE κ l Z n0 R y bytes ml ret Ef fin) {v : Value} (hd : decode bytes pc = .ok (.dup, 1)) (hv : v.category = 1) (K : o_Go κ Q h k n (pc + 1) Ls (v :: v :: St)) : o_Go κ Q h k n pc Ls (v :: St) := o_sim B (fun p e m below c T target X hx hby st => XS.dup X hx rfl (hb hby hd) rfl hv st) K
theorem o_pop (B : o_BE κ l Z n0 R y bytes ml ret Ef fin) {v : Value} (hd : decode bytes pc = .ok (.pop, 1)) (hv : v.category = 1) (K : o_Go κ Q h k n (pc + 1) Ls (St)) : o_Go κ Q h k n pc Ls (v :: St) := o_sim B (fun p e m below c T target X hx hby st => XT.pop X hx rfl (hb hby hd) rfl hv st) K
theorem o_dup_x1 (B : o_BE κ l Z n0 R y bytes ml ret Ef fin) {v w : Value} (hd : decode bytes pc = .ok (.dup_x1, 1)) (hv : v.category = 1) (hw : w.category = 1) (K : o_Go κ Q h k n (pc + 1) Ls (v :: w :: v :: St)) : o_Go κ Q h k n pc Ls (v :: w :: St) := o_sim B (fun p e m below c T target X hx hby st => XT.dupX1 X hx rfl (hb hby hd) rfl hv hw st) K
theorem o_dup2 (B : o_BE κ l Z n0 R y bytes ml ret Ef fin) {v w : Value} (hd : decode bytes pc = .ok (.dup2, 1)) (hv : v.category = 1) (hw : w.category = 1) (K : o_Go κ Q h k n (pc + 1) Ls (v :: w :: v :: w :: St)) : o_Go κ Q h k n pc Ls (v :: w :: St) := o_sim B (fun p e m below c T target X hx hby st => XT.dup2 X hx rfl (hb hby hd) rfl hv hw st) K
theorem o_dup2L (B : o_BE κ l Z n0 R y bytes ml ret Ef fin) {x : Int64} (hd : decode bytes pc = .ok (.dup2, 1)) (K : o_Go κ Q h k n (pc + 1) Ls (.long x :: .long x :: St)) : o_Go κ Q h k n pc Ls (.long x :: St) := o_sim B (fun p e m below c T target X hx hby st => XT.dup2L X hx rfl (hb hby hd) rfl st) K
theorem o_goto (B : o_BE κ l Z n0 R y bytes ml ret Ef fin) {o : Int} {pc' : Nat} (hd : decode bytes pc = .ok (.goto o, 3)) (ho : 0 ≤ (pc : Int) + o) (hp : ((pc : Int) + o).toNat = pc') (K : o_Go κ Q h k n pc' Ls St) : o_Go κ Q h k n pc Ls St := o_sim B (fun p e m below c T target X hx hby st => XS.goto X hx rfl (pc0 := pc) rfl (hb hby hd) ho hp st) K
theorem o_if_eq (B : o_BE κ l Z n0 R y bytes ml ret Ef fin) {o : Int} {pc' : Nat} {x : Int32} (hd : decode bytes pc = .ok (.ifCond .eq o, 3)) (ho : 0 ≤ (pc : Int) + o) (hp : ((pc : Int) + o).toNat = pc') (K1 : x = 0 → o_Go κ Q h k n pc' Ls St) (K2 : ¬ x = 0 → o_Go κ Q h k n (pc + 3) Ls St) : o_Go κ Q h k n pc Ls (.int x :: St) := by
  by_cases hc : x = 0
  · exact o_sim B (fun p e m below c T target X hx hby st => XS.ifYes X hx rfl (pc0 := pc) rfl (hb hby hd) rfl (XT.i0_eq_t hc) ho hp st) (K1 hc)
  · exact o_sim B (fun p e m below c T target X hx hby st => XS.ifNo X hx rfl (hb hby hd) rfl (XT.i0_eq_f hc) st) (K2 hc)
theorem o_icmp_eq (B : o_BE κ l Z n0 R y bytes ml ret Ef fin) {o : Int} {pc' : Nat} {x w : Int32} (hd : decode bytes pc = .ok (.if_icmp .eq o, 3)) (ho : 0 ≤ (pc : Int) + o) (hp : ((pc : Int) + o).toNat = pc') (K1 : x = w → o_Go κ Q h k n pc' Ls St) (K2 : ¬ x = w → o_Go κ Q h k n (pc + 3) Ls St) : o_Go κ Q h k n pc Ls (.int w :: .int x :: St) := by
  by_cases hc : x = w
  · exact o_sim B (fun p e m below c T target X hx hby st => XS.icmpYes X hx rfl (pc0 := pc) rfl (hb hby hd) rfl (XT.ii_eq_t hc) ho hp st) (K1 hc)
  · exact o_sim B (fun p e m below c T target X hx hby st => XS.icmpNo X hx rfl (hb hby hd) rfl (XT.ii_eq_f hc) st) (K2 hc)
theorem o_lif_eq (B : o_BE κ l Z n0 R y bytes ml ret Ef fin) {o : Int} {pc' : Nat} {x w : Int64} (hd : decode bytes pc = .ok (.ifCond .eq o, 3)) (ho : 0 ≤ (pc : Int) + o) (hp : ((pc : Int) + o).toNat = pc') (K1 : x = w → o_Go κ Q h k n pc' Ls St) (K2 : ¬ x = w → o_Go κ Q h k n (pc + 3) Ls St) : o_Go κ Q h k n pc Ls (.int (XT.cmpL x w) :: St) := by
  by_cases hc : x = w
  · exact o_sim B (fun p e m below c T target X hx hby st => XS.ifYes X hx rfl (pc0 := pc) rfl (hb hby hd) rfl (XT.ll_eq_t hc) ho hp st) (K1 hc)
  · exact o_sim B (fun p e m below c T target X hx hby st => XS.ifNo X hx rfl (hb hby hd) rfl (XT.ll_eq_f hc) st) (K2 hc)
theorem o_if_ne (B : o_BE κ l Z n0 R y bytes ml ret Ef fin) {o : Int} {pc' : Nat} {x : Int32} (hd : decode bytes pc = .ok (.ifCond .ne o, 3)) (ho : 0 ≤ (pc : Int) + o) (hp : ((pc : Int) + o).toNat = pc') (K1 : ¬ x = 0 → o_Go κ Q h k n pc' Ls St) (K2 : x = 0 → o_Go κ Q h k n (pc + 3) Ls St) : o_Go κ Q h k n pc Ls (.int x :: St) := by
  by_cases hc : x = 0
  · exact o_sim B (fun p e m below c T target X hx hby st => XS.ifNo X hx rfl (hb hby hd) rfl (XT.i0_ne_f hc) st) (K2 hc)
  · exact o_sim B (fun p e m below c T target X hx hby st => XS.ifYes X hx rfl (pc0 := pc) rfl (hb hby hd) rfl (XT.i0_ne_t hc) ho hp st) (K1 hc)
theorem o_icmp_ne (B : o_BE κ l Z n0 R y bytes ml ret Ef fin) {o : Int} {pc' : Nat} {x w : Int32} (hd : decode bytes pc = .ok (.if_icmp .ne o, 3)) (ho : 0 ≤ (pc : Int) + o) (hp : ((pc : Int) + o).toNat = pc') (K1 : ¬ x = w → o_Go κ Q h k n pc' Ls St) (K2 : x = w → o_Go κ Q h k n (pc + 3) Ls St) : o_Go κ Q h k n pc Ls (.int w :: .int x :: St) := by
  by_cases hc : x = w
  · exact o_sim B (fun p e m below c T target X hx hby st => XS.icmpNo X hx rfl (hb hby hd) rfl (XT.ii_ne_f hc) st) (K2 hc)
  · exact o_sim B (fun p e m below c T target X hx hby st => XS.icmpYes X hx rfl (pc0 := pc) rfl (hb hby hd) rfl (XT.ii_ne_t hc) ho hp st) (K1 hc)
theorem o_lif_ne (B : o_BE κ l Z n0 R y bytes ml ret Ef fin) {o : Int} {pc' : Nat} {x w : Int64} (hd : decode bytes pc = .ok (.ifCond .ne o, 3)) (ho : 0 ≤ (pc : Int) + o) (hp : ((pc : Int) + o).toNat = pc') (K1 : ¬ x = w → o_Go κ Q h k n pc' Ls St) (K2 : x = w → o_Go κ Q h k n (pc + 3) Ls St) : o_Go κ Q h k n pc Ls (.int (XT.cmpL x w) :: St) := by
  by_cases hc : x = w
  · exact o_sim B (fun p e m below c T target X hx hby st => XS.ifNo X hx rfl (hb hby hd) rfl (XT.ll_ne_f hc) st) (K2 hc)
  · exact o_sim B (fun p e m below c T target X hx hby st => XS.ifYes X hx rfl (pc0 := pc) rfl (hb hby hd) rfl (XT.ll_ne_t hc) ho hp st) (K1 hc)
theorem o_if_lt (B : o_BE κ l Z n0 R y bytes ml ret Ef fin) {o : Int} {pc' : Nat} {x : Int32} (hd : decode bytes pc = .ok (.ifCond .lt o, 3)) (ho : 0 ≤ (pc : Int) + o) (hp : ((pc : Int) + o).toNat = pc') (K1 : x < 0 → o_Go κ Q h k n pc' Ls St) (K2 : ¬ x < 0 → o_Go κ Q h k n (pc + 3) Ls St) : o_Go κ Q h k n pc Ls (.int x :: St) := by
  by_cases hc : x < 0
  · exact o_sim B (fun p e m below c T target X hx hby st => XS.ifYes X hx rfl (pc0 := pc) rfl (hb hby hd) rfl (XT.i0_lt_t hc) ho hp st) (K1 hc)
  · exact o_sim B (fun p e m below c T target X hx hby st => XS.ifNo X hx rfl (hb hby hd) rfl (XT.i0_lt_f hc) st) (K2 hc)
theorem o_icmp_lt (B : o_BE κ l Z n0 R y bytes ml ret Ef fin) {o : Int} {pc' : Nat} {x w : Int32} (hd : decode bytes pc = .ok (.if_icmp .lt o, 3)) (ho : 0 ≤ (pc : Int) + o) (hp : ((pc : Int) + o).toNat = pc') (K1 : x < w → o_Go κ Q h k n pc' Ls St) (K2 : ¬ x < w → o_Go κ Q h k n (pc + 3) Ls St) : o_Go κ Q h k n pc Ls (.int w :: .int x :: St) := by
  by_cases hc : x < w
  · exact o_sim B (fun p e m below c T target X hx hby st => XS.icmpYes X hx rfl (pc0 := pc) rfl (hb hby hd) rfl (XT.ii_lt_t hc) ho hp st) (K1 hc)
  · exact o_sim B (fun p e m below c T target X hx hby st => XS.icmpNo X hx rfl (hb hby hd) rfl (XT.ii_lt_f hc) st) (K2 hc)
theorem o_lif_lt (B : o_BE κ l Z n0 R y bytes ml ret Ef fin) {o : Int} {pc' : Nat} {x w : Int64} (hd : decode bytes pc = .ok (.ifCond .lt o, 3)) (ho : 0 ≤ (pc : Int) + o) (hp : ((pc : Int) + o).toNat = pc') (K1 : x < w → o_Go κ Q h k n pc' Ls St) (K2 : ¬ x < w → o_Go κ Q h k n (pc + 3) Ls St) : o_Go κ Q h k n pc Ls (.int (XT.cmpL x w) :: St) := by
  by_cases hc : x < w
  · exact o_sim B (fun p e m below c T target X hx hby st => XS.ifYes X hx rfl (pc0 := pc) rfl (hb hby hd) rfl (XT.ll_lt_t hc) ho hp st) (K1 hc)
  · exact o_sim B (fun p e m below c T target X hx hby st => XS.ifNo X hx rfl (hb hby hd) rfl (XT.ll_lt_f hc) st) (K2 hc)
theorem o_if_ge (B : o_BE κ l Z n0 R y bytes ml ret Ef fin) {o : Int} {pc' : Nat} {x : Int32} (hd : decode bytes pc = .ok (.ifCond .ge o, 3)) (ho : 0 ≤ (pc : Int) + o) (hp : ((pc : Int) + o).toNat = pc') (K1 : ¬ x < 0 → o_Go κ Q h k n pc' Ls St) (K2 : x < 0 → o_Go κ Q h k n (pc + 3) Ls St) : o_Go κ Q h k n pc Ls (.int x :: St) := by
  by_cases hc : x < 0
  · exact o_sim B (fun p e m below c T target X hx hby st => XS.ifNo X hx rfl (hb hby hd) rfl (XT.i0_ge_f hc) st) (K2 hc)
  · exact o_sim B (fun p e m below c T target X hx hby st => XS.ifYes X hx rfl (pc0 := pc) rfl (hb hby hd) rfl (XT.i0_ge_t hc) ho hp st) (K1 hc)
theorem o_icmp_ge (B : o_BE κ l Z n0 R y bytes ml ret Ef fin) {o : Int} {pc' : Nat} {x w : Int32} (hd : decode bytes pc = .ok (.if_icmp .ge o, 3)) (ho : 0 ≤ (pc : Int) + o) (hp : ((pc : Int) + o).toNat = pc') (K1 : ¬ x < w → o_Go κ Q h k n pc' Ls St) (K2 : x < w → o_Go κ Q h k n (pc + 3) Ls St) : o_Go κ Q h k n pc Ls (.int w :: .int x :: St) := by
  by_cases hc : x < w
  · exact o_sim B (fun p e m below c T target X hx hby st => XS.icmpNo X hx rfl (hb hby hd) rfl (XT.ii_ge_f hc) st) (K2 hc)
  · exact o_sim B (fun p e m below c T target X hx hby st => XS.icmpYes X hx rfl (pc0 := pc) rfl (hb hby hd) rfl (XT.ii_ge_t hc) ho hp st) (K1 hc)
theorem o_lif_ge (B : o_BE κ l Z n0 R y bytes ml ret Ef fin) {o : Int} {pc' : Nat} {x w : Int64} (hd : decode bytes pc = .ok (.ifCond .ge o, 3)) (ho : 0 ≤ (pc : Int) + o) (hp : ((pc : Int) + o).toNat = pc') (K1 : ¬ x < w → o_Go κ Q h k n pc' Ls St) (K2 : x < w → o_Go κ Q h k n (pc + 3) Ls St) : o_Go κ Q h k n pc Ls (.int (XT.cmpL x w) :: St) := by
  by_cases hc : x < w
  · exact o_sim B (fun p e m below c T target X hx hby st => XS.ifNo X hx rfl (hb hby hd) rfl (XT.ll_ge_f hc) st) (K2 hc)
  · exact o_sim B (fun p e m below c T target X hx hby st => XS.ifYes X hx rfl (pc0 := pc) rfl (hb hby hd) rfl (XT.ll_ge_t hc) ho hp st) (K1 hc)
theorem o_if_gt (B : o_BE κ l Z n0 R y bytes ml ret Ef fin) {o : Int} {pc' : Nat} {x : Int32} (hd : decode bytes pc = .ok (.ifCond .gt o, 3)) (ho : 0 ≤ (pc : Int) + o) (hp : ((pc : Int) + o).toNat = pc') (K1 : 0 < x → o_Go κ Q h k n pc' Ls St) (K2 : ¬ 0 < x → o_Go κ Q h k n (pc + 3) Ls St) : o_Go κ Q h k n pc Ls (.int x :: St) := by
  by_cases hc : 0 < x
  · exact o_sim B (fun p e m below c T target X hx hby st => XS.ifYes X hx rfl (pc0 := pc) rfl (hb hby hd) rfl (XT.i0_gt_t hc) ho hp st) (K1 hc)
  · exact o_sim B (fun p e m below c T target X hx hby st => XS.ifNo X hx rfl (hb hby hd) rfl (XT.i0_gt_f hc) st) (K2 hc)
theorem o_icmp_gt (B : o_BE κ l Z n0 R y bytes ml ret Ef fin) {o : Int} {pc' : Nat} {x w : Int32} (hd : decode bytes pc = .ok (.if_icmp .gt o, 3)) (ho : 0 ≤ (pc : Int) + o) (hp : ((pc : Int) + o).toNat = pc') (K1 : w < x → o_Go κ Q h k n pc' Ls St) (K2 : ¬ w < x → o_Go κ Q h k n (pc + 3) Ls St) : o_Go κ Q h k n pc Ls (.int w :: .int x :: St) := by
  by_cases hc : w < x
  · exact o_sim B (fun p e m below c T target X hx hby st => XS.icmpYes X hx rfl (pc0 := pc) rfl (hb hby hd) rfl (XT.ii_gt_t hc) ho hp st) (K1 hc)
  · exact o_sim B (fun p e m below c T target X hx hby st => XS.icmpNo X hx rfl (hb hby hd) rfl (XT.ii_gt_f hc) st) (K2 hc)
theorem o_lif_gt (B : o_BE κ l Z n0 R y bytes ml ret Ef fin) {o : Int} {pc' : Nat} {x w : Int64} (hd : decode bytes pc = .ok (.ifCond .gt o, 3)) (ho : 0 ≤ (pc : Int) + o) (hp : ((pc : Int) + o).toNat = pc') (K1 : w < x → o_Go κ Q h k n pc' Ls St) (K2 : ¬ w < x → o_Go κ Q h k n (pc + 3) Ls St) : o_Go κ Q h k n pc Ls (.int (XT.cmpL x w) :: St) := by
  by_cases hc : w < x
  · exact o_sim B (fun p e m below c T target X hx hby st => XS.ifYes X hx rfl (pc0 := pc) rfl (hb hby hd) rfl (XT.ll_gt_t hc) ho hp st) (K1 hc)
  · exact o_sim B (fun p e m below c T target X hx hby st => XS.ifNo X hx rfl (hb hby hd) rfl (XT.ll_gt_f hc) st) (K2 hc)
theorem o_if_le (B : o_BE κ l Z n0 R y bytes ml ret Ef fin) {o : Int} {pc' : Nat} {x : Int32} (hd : decode bytes pc = .ok (.ifCond .le o, 3)) (ho : 0 ≤ (pc : Int) + o) (hp : ((pc : Int) + o).toNat = pc') (K1 : ¬ 0 < x → o_Go κ Q h k n pc' Ls St) (K2 : 0 < x → o_Go κ Q h k n (pc + 3) Ls St) : o_Go κ Q h k n pc Ls (.int x :: St) := by
  by_cases hc : 0 < x
  · exact o_sim B (fun p e m below c T target X hx hby st => XS.ifNo X hx rfl (hb hby hd) rfl (XT.i0_le_f hc) st) (K2 hc)
  · exact o_sim B (fun p e m below c T target X hx hby st => XS.ifYes X hx rfl (pc0 := pc) rfl (hb hby hd) rfl (XT.i0_le_t hc) ho hp st) (K1 hc)
theorem o_icmp_le (B : o_BE κ l Z n0 R y bytes ml ret Ef fin) {o : Int} {pc' : Nat} {x w : Int32} (hd : decode bytes pc = .ok (.if_icmp .le o, 3)) (ho : 0 ≤ (pc : Int) + o) (hp : ((pc : Int) + o).toNat = pc') (K1 : ¬ w < x → o_Go κ Q h k n pc' Ls St) (K2 : w < x → o_Go κ Q h k n (pc + 3) Ls St) : o_Go κ Q h k n pc Ls (.int w :: .int x :: St) := by
  by_cases hc : w < x
  · exact o_sim B (fun p e m below c T target X hx hby st => XS.icmpNo X hx rfl (hb hby hd) rfl (XT.ii_le_f hc) st) (K2 hc)
  · exact o_sim B (fun p e m below c T target X hx hby st => XS.icmpYes X hx rfl (pc0 := pc) rfl (hb hby hd) rfl (XT.ii_le_t hc) ho hp st) (K1 hc)
theorem o_lif_le (B : o_BE κ l Z n0 R y bytes ml ret Ef fin) {o : Int} {pc' : Nat} {x w : Int64} (hd : decode bytes pc = .ok (.ifCond .le o, 3)) (ho : 0 ≤ (pc : Int) + o) (hp : ((pc : Int) + o).toNat = pc') (K1 : ¬ w < x → o_Go κ Q h k n pc' Ls St) (K2 : w < x → o_Go κ Q h k n (pc + 3) Ls St) : o_Go κ Q h k n pc Ls (.int (XT.cmpL x w) :: St) := by
  by_cases hc : w < x
  · exact o_sim B (fun p e m below c T target X hx hby st => XS.ifNo X hx rfl (hb hby hd) rfl (XT.ll_le_f hc) st) (K2 hc)
  · exact o_sim B (fun p e m below c T target X hx hby st => XS.ifYes X hx rfl (pc0 := pc) rfl (hb hby hd) rfl (XT.ll_le_t hc) ho hp st) (K1 hc)
theorem o_ifnull_N (B : o_BE κ l Z n0 R y bytes ml ret Ef fin) {o : Int} {pc' : Nat} (hd : decode bytes pc = .ok (.ifnull o, 3)) (ho : 0 ≤ (pc : Int) + o) (hp : ((pc : Int) + o).toNat = pc') (K : o_Go κ Q h k n pc' Ls St) : o_Go κ Q h k n pc Ls (.null :: St) := o_sim B (fun p e m below c T target X hx hby st => XS.ifnullYes X hx rfl (pc0 := pc) rfl (hb hby hd) rfl ho hp st) K
theorem o_ifnull_R (B : o_BE κ l Z n0 R y bytes ml ret Ef fin) {o : Int} {b : Addr} (hd : decode bytes pc = .ok (.ifnull o, 3)) (K : o_Go κ Q h k n (pc + 3) Ls St) : o_Go κ Q h k n pc Ls (.ref b :: St) := o_sim B (fun p e m below c T target X hx hby st => XS.ifnullNo X hx rfl (hb hby hd) rfl st) K
theorem o_ifnonnull_R (B : o_BE κ l Z n0 R y bytes ml ret Ef fin) {o : Int} {pc' : Nat} {b : Addr} (hd : decode bytes pc = .ok (.ifnonnull o, 3)) (ho : 0 ≤ (pc : Int) + o) (hp : ((pc : Int) + o).toNat = pc') (K : o_Go κ Q h k n pc' Ls St) : o_Go κ Q h k n pc Ls (.ref b :: St) := o_sim B (fun p e m below c T target X hx hby st => XT.ifnonnullYes X hx rfl (pc0 := pc) rfl (hb hby hd) rfl ho hp st) K
theorem o_ifnonnull_N (B : o_BE κ l Z n0 R y bytes ml ret Ef fin) {o : Int} (hd : decode bytes pc = .ok (.ifnonnull o, 3)) (K : o_Go κ Q h k n (pc + 3) Ls St) : o_Go κ Q h k n pc Ls (.null :: St) := o_sim B (fun p e m below c T target X hx hby st => XT.ifnonnullNo X hx rfl (hb hby hd) rfl st) K
theorem o_acmp_eq (B : o_BE κ l Z n0 R y bytes ml ret Ef fin) {o : Int} {pc' : Nat} {v w : Value} (hv : v.isRef = true) (hw : w.isRef = true) (hd : decode bytes pc = .ok (.if_acmp .eq o, 3)) (ho : 0 ≤ (pc : Int) + o) (hp : ((pc : Int) + o).toNat = pc') (K1 : v = w → o_Go κ Q h k n pc' Ls St) (K2 : ¬ v = w → o_Go κ Q h k n (pc + 3) Ls St) : o_Go κ Q h k n pc Ls (w :: v :: St) := by
  by_cases hc : v = w
  · exact o_sim B (fun p e m below c T target X hx hby st => XT.acmpYes X hx rfl (pc0 := pc) rfl (hb hby hd) rfl hv hw (by simp [XT.acmp, hc]) ho hp st) (K1 hc)
  · exact o_sim B (fun p e m below c T target X hx hby st => XT.acmpNo X hx rfl (hb hby hd) rfl hv hw (by simp [XT.acmp, hc]) st) (K2 hc)
theorem o_acmp_ne (B : o_BE κ l Z n0 R y bytes ml ret Ef fin) {o : Int} {pc' : Nat} {v w : Value} (hv : v.isRef = true) (hw : w.isRef = true) (hd : decode bytes pc = .ok (.if_acmp .ne o, 3)) (ho : 0 ≤ (pc : Int) + o) (hp : ((pc : Int) + o).toNat = pc') (K1 : ¬ v = w → o_Go κ Q h k n pc' Ls St) (K2 : v = w → o_Go κ Q h k n (pc + 3) Ls St) : o_Go κ Q h k n pc Ls (w :: v :: St) := by
  by_cases hc : v = w
  · exact o_sim B (fun p e m below c T target X hx hby st => XT.acmpNo X hx rfl (hb hby hd) rfl hv hw (by simp [XT.acmp, hc]) st) (K2 hc)
  · exact o_sim B (fun p e m below c T target X hx hby st => XT.acmpYes X hx rfl (pc0 := pc) rfl (hb hby hd) rfl hv hw (by simp [XT.acmp, hc]) ho hp st) (K1 hc)
theorem o_ldc (B : o_BE κ l Z n0 R y bytes ml ret Ef fin) {idx : Nat} {x : Int32} (hd : decode bytes pc = .ok (.ldc idx, 2)) (w : (Cond.constant y.cls idx x).before a0 Z = true) (K : o_Go κ Q h k n (pc + 2) Ls (.int x :: St)) : o_Go κ Q h k n pc Ls St := by
  obtain ⟨p, e, s, m, args, below, meth, c, s0, rfl, hs0, hx, hZ, hby, hml, hown, hret, hlk, hnm⟩ := B
  intro T locs X N eT
  obtain ⟨s₂, o, st, r⟩ := K T locs X N eT
  exact ⟨s₂, o, Stand.ldcI X hx hown (mv hZ w) rfl (hb hby hd) st, r⟩
theorem o_ldc_w (B : o_BE κ l Z n0 R y bytes ml ret Ef fin) {idx : Nat} {x : Int32} (hd : decode bytes pc = .ok (.ldc_w idx, 3)) (w : (Cond.constant y.cls idx x).before a0 Z = true) (K : o_Go κ Q h k n (pc + 3) Ls (.int x :: St)) : o_Go κ Q h k n pc Ls St := by
  obtain ⟨p, e, s, m, args, below, meth, c, s0, rfl, hs0, hx, hZ, hby, hml, hown, hret, hlk, hnm⟩ := B
  intro T locs X N eT
  obtain ⟨s₂, o, st, r⟩ := K T locs X N eT
  exact ⟨s₂, o, Stand.ldcWI X hx hown (mv hZ w) rfl (hb hby hd) st, r⟩
theorem o_ldc2_w (B : o_BE κ l Z n0 R y bytes ml ret Ef fin) {idx : Nat} {x : Int64} (hd : decode bytes pc = .ok (.ldc2_w idx, 3)) (w : (Cond.constantLong y.cls idx x).before a0 Z = true) (K : o_Go κ Q h k n (pc + 3) Ls (.long x :: St)) : o_Go κ Q h k n pc Ls St := by
  obtain ⟨p, e, s, m, args, below, meth, c, s0, rfl, hs0, hx, hZ, hby, hml, hown, hret, hlk, hnm⟩ := B
  intro T locs X N eT
  obtain ⟨s₂, o, st, r⟩ := K T locs X N eT
  exact ⟨s₂, o, Stand.ldc2J X hx hown (mv hZ w) rfl (hb hby hd) st, r⟩
theorem o_out (B : o_Bo κ l Z n0 R y bytes ml ret) {v : Option Value} (hv : ret = none → v = none) (hk : k ≤ R.cells) (hn : n ≤ R.slots) (q : Q v h k n)
    (f : ∀ (p : Program) (e : Env) (s : State) (m : MethodId) (args : Array Value) (below : List Frame) (meth : Method) (c : Code) (T : State) (locs : List Loc), Stand p l e R s m args below meth c T locs k n → p.tables.exec = Jvm.exec → c.code = bytes → meth.sig.returnType = ret → ∀ fs : List Frame, (∀ (f : JFrame) (acts : List Action), f.method = m → f.locked = none → f.entered = [] → (doReturn e (T.setTop f) acts v).1 = T.setFrames fs) → Steps p.tables e below (T.setTop (mkF m pc Ls.toArray St)) (T.setFrames fs)) : o_Go κ Q h k n pc Ls St := by
  obtain ⟨p, e, s, m, args, below, meth, c, s0, rfl, hs0, hx, hZ, hby, hml, hown, hret, hlk, hnm⟩ := B
  cases hs0 rfl
  intro T locs X N eT
  obtain ⟨fs, hr, hrun, hended, hW, hsame⟩ := X.leave (v := v) (fun hh => hv (hret.symm.trans hh)) hlk
  refine ⟨_, _, f p e s m args below meth c T locs X hx hby hret fs hr, hrun, hended, _, _, k, n, rfl, ⟨?_, N⟩, ⟨hk, hn⟩, ⟨_, rfl⟩, hW, hsame⟩
  have e1 : (T.setFrames fs).heap = h := eT
  rw [e1]; exact q
theorem o_ireturn (B : o_Bo κ l Z n0 R y bytes ml (some .int)) {x : Int32} (hd : decode bytes pc = .ok (.ireturn, 1)) (hk : k ≤ R.cells) (hn : n ≤ R.slots) (q : Q (some (.int x)) h k n) : o_Go κ Q h k n pc Ls (.int x :: St) :=
  o_out B (fun hh => by cases hh) hk hn q fun p e s m args below meth c T locs X hx hby hret fs hr => retOut X hx hret rfl (Or.inl ⟨rfl, Or.inl rfl, _, rfl⟩) (hb hby hd) hr
theorem o_zreturn (B : o_Bo κ l Z n0 R y bytes ml (some .boolean)) {x : Int32} (hd : decode bytes pc = .ok (.ireturn, 1)) (hk : k ≤ R.cells) (hn : n ≤ R.slots) (q : Q (some (.int (nar .boolean x))) h k n) : o_Go κ Q h k n pc Ls (.int x :: St) :=
  o_out B (fun hh => by cases hh) hk hn q fun p e s m args below meth c T locs X hx hby hret fs hr => retN X hx hret (by simp) (hb hby hd) hr
theorem o_lreturn (B : o_Bo κ l Z n0 R y bytes ml (some .long)) {x : Int64} (hd : decode bytes pc = .ok (.lreturn, 1)) (hk : k ≤ R.cells) (hn : n ≤ R.slots) (q : Q (some (.long x)) h k n) : o_Go κ Q h k n pc Ls (.long x :: St) :=
  o_out B (fun hh => by cases hh) hk hn q fun p e s m args below meth c T locs X hx hby hret fs hr => retOut X hx hret rfl (Or.inr (Or.inl ⟨rfl, rfl, _, rfl⟩)) (hb hby hd) hr
theorem o_areturn {t : FieldType} (B : o_Bo κ l Z n0 R y bytes ml (some t)) {v : Value} (ht : t.isReference = true) (hn' : narrow t v = v) (hv : v.isRef = true) (hd : decode bytes pc = .ok (.areturn, 1)) (hk : k ≤ R.cells) (hn : n ≤ R.slots) (q : Q (some v) h k n) : o_Go κ Q h k n pc Ls (v :: St) :=
  o_out B (fun hh => by cases hh) hk hn q fun p e s m args below meth c T locs X hx hby hret fs hr => retOut X hx hret hn' (Or.inr (Or.inr (Or.inr (Or.inr ⟨rfl, ht, hv⟩)))) (hb hby hd) hr
theorem o_return (B : o_Bo κ l Z n0 R y bytes ml none) (hd : decode bytes pc = .ok (.return_, 1)) (hk : k ≤ R.cells) (hn : n ≤ R.slots) (q : Q none h k n) : o_Go κ Q h k n pc Ls [] :=
  o_out B (fun _ => rfl) hk hn q fun p e s m args below meth c T locs X hx hby hret fs hr => X.returnOut hx hret (hb hby hd) hr
theorem o_getF (B : o_BE κ l Z n0 R y bytes ml ret Ef fin) {O nm d : String} {idx : Nat} {a : Addr} {v : Value} (hd : decode bytes pc = .ok (.getfield idx, 3)) (w : (Cond.fieldLink y.cls idx O nm d).before a0 Z = true) (F : Fld Z h a O nm d v) (K : o_Go κ Q h k n (pc + 3) Ls (v :: St)) : o_Go κ Q h k n pc Ls (.ref a :: St) := by
  obtain ⟨p, e, s, m, args, below, meth, c, s0, rfl, hs0, hx, hZ, hby, hml, hown, hret, hlk, hnm⟩ := B
  intro T locs X N eT
  obtain ⟨T', X', e', st'⟩ := getF X hx hZ hown (host := "") (Or.inl w) Via.refl eT F (g := o_F Ef m pc Ls.toArray (.ref a :: St)) rfl rfl (hb hby hd)
  obtain ⟨s₂, o, st, r⟩ := K T' locs X' N e'
  exact ⟨s₂, o, st' _ st, r⟩
theorem o_putF (B : o_BE κ l Z n0 R y bytes ml ret Ef fin) {O nm d C : String} {idx kk : Nat} {a : Addr} {v old : Value} {ty : FieldType} (hd : decode bytes pc = .ok (.putfield idx, 3)) (w : (Cond.fieldLink y.cls idx O nm d).before a0 Z = true) (F : Fld Z h a O nm d old) (E : Exa Z h a C) (L : (Cond.lays C O nm d).before a0 Z = true ∨ ((Cond.laysFinal C O nm d).before a0 Z = true ∧ y.cls = O ∧ y.name = "<init>")) (wi : (Cond.instantiable C kk).before a0 Z = true)
    (hty : parseFieldDescriptor d = some ty) (hn : narrow ty v = v) (hf : fits ty v = true) (ge : n0 ≤ a) (K : ∀ h', Wr h h' a (Jvm.RoadKit.slotOf Z O nm d) v → o_Go κ Q h' k n (pc + 3) Ls St) : o_Go κ Q h k n pc Ls (v :: .ref a :: St) := by
  obtain ⟨p, e, s, m, args, below, meth, c, s0, rfl, hs0, hx, hZ, hby, hml, hown, hret, hlk, hnm⟩ := B
  intro T locs X N eT
  have L' : (Cond.lays C O nm d).before a0 Z = true ∨ ((Cond.laysFinal C O nm d).before a0 Z = true ∧ y.cls = O ∧ meth.name = "<init>") := L.imp id fun q => ⟨q.1, q.2.1, hnm.trans q.2.2⟩
  obtain ⟨T', h', X', e', W, st'⟩ := putF X hx hZ hown (host := "") (Or.inl w) Via.refl eT F E L' wi hty hn hf (g := o_F Ef m pc Ls.toArray (v :: .ref a :: St)) rfl rfl (hb hby hd)
  obtain ⟨s₂, o, st, r⟩ := K h' W T' _ X' (Fr.snoc X' N ge) e'
  exact ⟨s₂, o, st' _ st, r⟩
theorem o_getS (B : o_BE κ l Z n0 R y bytes ml ret Ef fin) {O nm d : String} {idx : Nat} {v : Value} (hd : decode bytes pc = .ok (.getstatic idx, 3)) (w : (Cond.fieldLink y.cls idx O nm d).before a0 Z = true) (F : Sta Z h O nm d v) (K : o_Go κ Q h k n (pc + 3) Ls (v :: St)) : o_Go κ Q h k n pc Ls St := by
  obtain ⟨p, e, s, m, args, below, meth, c, s0, rfl, hs0, hx, hZ, hby, hml, hown, hret, hlk, hnm⟩ := B
  intro T locs X N eT
  obtain ⟨T', X', e', st'⟩ := getS (host := "") X hx hZ hown w Via.refl eT F (g := o_F Ef m pc Ls.toArray St) rfl (hb hby hd)
  obtain ⟨s₂, o, st, r⟩ := K T' locs X' N e'
  exact ⟨s₂, o, st' _ st, r⟩
theorem o_new (B : o_BE κ l Z n0 R y bytes ml ret Ef fin) {C : String} {idx nn : Nat} (hd : decode bytes pc = .ok (.new idx, 3)) (w : (Cond.classLink y.cls idx C).before a0 Z = true) (wi : (Cond.instantiable C nn).before a0 Z = true) (wz : (Cond.initialized C).before a0 Z = true) (hc : k + 1 ≤ R.cells) (hl : n + nn ≤ R.slots)
    (K : ∀ h', Ext h h' → Exa Z h' h.size C → (∀ {O nm d : String} {ty : FieldType}, Laid Z a0 C O nm d → parseFieldDescriptor d = some ty → Fld Z h' h.size O nm d (defaultValue ty)) → Unt h' h.size → o_Go κ Q h' (k + 1) (n + nn) (pc + 3) Ls (.ref h.size :: St)) : o_Go κ Q h k n pc Ls St := by
  obtain ⟨p, e, s, m, args, below, meth, c, s0, rfl, hs0, hx, hZ, hby, hml, hown, hret, hlk, hnm⟩ := B
  intro T locs X N eT
  obtain ⟨T', h', X', e', E, A, D, U, st'⟩ := newO X hx hZ hown w wi wz eT (g := o_F Ef m pc Ls.toArray St) rfl (hb hby hd) hc hl
  obtain ⟨s₂, o, st, r⟩ := K h' E A (fun L q => D L q) U T' _ X' N e'
  exact ⟨s₂, o, st' _ st, r⟩
theorem o_initO (B : o_BE κ l Z n0 R y bytes ml ret Ef fin) {idx W : Nat} {a : Addr} (hd : decode bytes pc = .ok (.invokespecial idx, 3)) (w1 : (Cond.methodLink y.cls idx Lib.objectInit).before a0 Z = true) (w2 : (Cond.instanceMethod Lib.objectInit).before a0 Z = true) (w3 : (Cond.code Lib.objectInit ⟨#[0xb1]⟩ 1 none).before a0 Z = true)
    (hf : 1 ≤ R.frames) (hW : 2 * Ef.2 + (St.map fun v => v.category).sum ≤ W) (hl : W + 12 ≤ R.locals) (hLs : Ls.length = ml) (K : o_Go κ Q h k n (pc + 3) Ls St) : o_Go κ Q h k n pc Ls (.ref a :: St) := by
  obtain ⟨p, e, s, m, args, below, meth, c, s0, rfl, hs0, hx, hZ, hby, hml, hown, hret, hlk, hnm⟩ := B
  intro T locs X N eT
  obtain ⟨T', X', e', st'⟩ := initO X hx hZ hown w1 w2 w3 eT (g := o_F Ef m pc Ls.toArray (.ref a :: St)) rfl (by rw [hml, ← hLs]; simp) rfl (hb hby hd) hf (W := W) (by simpa using hW) hl
  obtain ⟨s₂, o, st, r⟩ := K T' _ X' N e'
  exact ⟨s₂, o, st' _ st, r⟩
/-- an array of the component type ty that holds the list vs -/
def o_AR (Z : State) (h : Heap) (a : Addr) (ty : FieldType) (vs : List Value) : Prop := ∃ c : Cell, Arr Z h a c ty ∧ c.slots = vs.toArray ∧ vs.length < 2 ^ 31
abbrev o_IA (Z : State) (h : Heap) (a : Addr) (L : List Int32) : Prop := o_AR Z h a .int (L.map Value.int)
abbrev o_LA (Z : State) (h : Heap) (a : Addr) (L : List Int64) : Prop := o_AR Z h a .long (L.map Value.long)
abbrev o_ZA (Z : State) (h : Heap) (a : Addr) (L : List Int32) : Prop := o_AR Z h a .boolean (L.map Value.int)
theorem o_AR.lt {h : Heap} {a : Addr} {ty : FieldType} {vs : List Value} (A : o_AR Z h a ty vs) : a < h.size := by obtain ⟨c, A, -⟩ := A; exact A.lt
theorem o_AR.ext {h h' : Heap} {a : Addr} {ty : FieldType} {vs : List Value} (A : o_AR Z h a ty vs) (E : Ext h h') : o_AR Z h' a ty vs := by obtain ⟨c, A, r⟩ := A; exact ⟨c, A.ext E, r⟩
theorem o_AR.other {h h' : Heap} {a b : Addr} {sl : Nat} {v : Value} {ty : FieldType} {vs : List Value} (A : o_AR Z h a ty vs) (W : Wr h h' b sl v) (q : a ≠ b) : o_AR Z h' a ty vs := by obtain ⟨c, A, r⟩ := A; exact ⟨c, A.other W q, r⟩
theorem o_AR.keep {h h' : Heap} {a : Addr} {ws : List Addr} {ty : FieldType} {vs : List Value} (A : o_AR Z h a ty vs) (K : Keep h h' ws) (q : a ∉ ws) : o_AR Z h' a ty vs := by obtain ⟨c, A, r⟩ := A; exact ⟨c, ⟨K.2.1 a c A.1 q, A.2⟩, r⟩
theorem o_AR.same {h h' : Heap} {a : Addr} {i : Nat} {v : Value} {ty : FieldType} {vs : List Value} (A : o_AR Z h a ty vs) (W : Wr h h' a i v) : o_AR Z h' a ty (vs.set i v) := by
  obtain ⟨c, A, e, q⟩ := A
  exact ⟨_, A.same W, by simp [Cell.setSlot, e], by simpa using q⟩
theorem o_IA.same {h h' : Heap} {a : Addr} {i : Nat} {x : Int32} {L : List Int32} (A : o_IA Z h a L) (W : Wr h h' a i (.int x)) : o_IA Z h' a (L.set i x) := by
  have := o_AR.same A W; rwa [← List.map_set] at this
theorem o_LA.same {h h' : Heap} {a : Addr} {i : Nat} {x : Int64} {L : List Int64} (A : o_LA Z h a L) (W : Wr h h' a i (.long x)) : o_LA Z h' a (L.set i x) := by
  have := o_AR.same A W; rwa [← List.map_set] at this
theorem o_ZA.same {h h' : Heap} {a : Addr} {i : Nat} {x : Int32} {L : List Int32} (A : o_ZA Z h a L) (W : Wr h h' a i (.int x)) : o_ZA Z h' a (L.set i x) := by
  have := o_AR.same A W; rwa [← List.map_set] at this
theorem o_IA.len {h : Heap} {a : Addr} {L : List Int32} (A : o_IA Z h a L) : L.length < 2 ^ 31 := by obtain ⟨c, A, e, q⟩ := A; simpa using q
theorem o_LA.len {h : Heap} {a : Addr} {L : List Int64} (A : o_LA Z h a L) : L.length < 2 ^ 31 := by obtain ⟨c, A, e, q⟩ := A; simpa using q
theorem o_nat {i N : Nat} (hi : i < N) (hN : N < 2 ^ 31) : (Int32.ofNat i).toNatClampNeg = i ∧ ¬ (Int32.ofNat i < 0) := by
  have e : (Int32.ofNat i).toInt = i := Int32.toInt_ofNat_of_lt (by omega)
  refine ⟨by simp only [Int32.toNatClampNeg, e]; rfl, ?_⟩
  rw [Int32.lt_iff_toInt_lt, e]; show ¬ (i : Int) < 0; omega
theorem o_in {c : Cell} {vs : List Value} {i : Nat} {j : Int32} (es : c.slots = vs.toArray) (q : vs.length < 2 ^ 31) (hj : j = Int32.ofNat i) (hi : i < vs.length) : ¬ (j < 0 ∨ c.slots.size ≤ j.toNatClampNeg) ∧ j.toNatClampNeg = i := by
  subst hj
  obtain ⟨h1, h2⟩ := o_nat hi q
  refine ⟨?_, h1⟩
  rintro (g | g)
  · exact h2 g
  · rw [h1, es] at g; simp at g; omega
theorem o_iaload (B : o_BE κ l Z n0 R y bytes ml ret Ef fin) {a : Addr} {vs : List Value} {j : Int32} {v : Value} (i : Nat) (hd : decode bytes pc = .ok (.iaload, 1)) (A : o_AR Z h a .int vs) (hj : j = Int32.ofNat i) (hv : vs[i]? = some v) (K : o_Go κ Q h k n (pc + 1) Ls (v :: St)) : o_Go κ Q h k n pc Ls (.int j :: .ref a :: St) := by
  obtain ⟨p, e, s, m, args, below, meth, c, s0, rfl, hs0, hx, hZ, hby, hml, hown, hret, hlk, hnm⟩ := B
  intro T locs X N eT
  obtain ⟨cl, A, es, q⟩ := A
  obtain ⟨hi, hget⟩ := List.getElem?_eq_some_iff.mp hv
  obtain ⟨h1, h2⟩ := o_in es q hj hi
  obtain ⟨s₂, o, st, r⟩ := K T _ X N eT
  exact ⟨s₂, o, X.iaload hx (by rw [eT]; exact A.1) (State.isArrayOf_alike hZ.alike A.2.1) A.2.2 h1 (by rw [h2, es]; simpa using hv) (g := o_F Ef m pc Ls.toArray (.int j :: .ref a :: St)) rfl rfl (hb hby hd) _ st, r⟩
theorem o_laload (B : o_BE κ l Z n0 R y bytes ml ret Ef fin) {a : Addr} {vs : List Value} {j : Int32} {v : Value} (i : Nat) (hd : decode bytes pc = .ok (.laload, 1)) (A : o_AR Z h a .long vs) (hj : j = Int32.ofNat i) (hv : vs[i]? = some v) (K : o_Go κ Q h k n (pc + 1) Ls (v :: St)) : o_Go κ Q h k n pc Ls (.int j :: .ref a :: St) := by
  obtain ⟨p, e, s, m, args, below, meth, c, s0, rfl, hs0, hx, hZ, hby, hml, hown, hret, hlk, hnm⟩ := B
  intro T locs X N eT
  obtain ⟨cl, A, es, q⟩ := A
  obtain ⟨hi, hget⟩ := List.getElem?_eq_some_iff.mp hv
  obtain ⟨h1, h2⟩ := o_in es q hj hi
  obtain ⟨s₂, o, st, r⟩ := K T _ X N eT
  exact ⟨s₂, o, X.laload hx (by rw [eT]; exact A.1) (State.isArrayOf_alike hZ.alike A.2.1) A.2.2 h1 (by rw [h2, es]; simpa using hv) (g := o_F Ef m pc Ls.toArray (.int j :: .ref a :: St)) rfl rfl (hb hby hd) _ st, r⟩
theorem o_baload (B : o_BE κ l Z n0 R y bytes ml ret Ef fin) {a : Addr} {vs : List Value} {j : Int32} {v : Value} (i : Nat) (hd : decode bytes pc = .ok (.baload, 1)) (A : o_AR Z h a .boolean vs) (hj : j = Int32.ofNat i) (hv : vs[i]? = some v) (K : o_Go κ Q h k n (pc + 1) Ls (v :: St)) : o_Go κ Q h k n pc Ls (.int j :: .ref a :: St) := by
  obtain ⟨p, e, s, m, args, below, meth, c, s0, rfl, hs0, hx, hZ, hby, hml, hown, hret, hlk, hnm⟩ := B
  intro T locs X N eT
  obtain ⟨cl, A, es, q⟩ := A
  obtain ⟨hi, hget⟩ := List.getElem?_eq_some_iff.mp hv
  obtain ⟨h1, h2⟩ := o_in es q hj hi
  obtain ⟨s₂, o, st, r⟩ := K T _ X N eT
  exact ⟨s₂, o, X.baloadBooleans hx (by rw [eT]; exact A.1) (State.isArrayOf_alike hZ.alike A.2.1) A.2.2 h1 (by rw [h2, es]; simpa using hv) (g := o_F Ef m pc Ls.toArray (.int j :: .ref a :: St)) rfl rfl (hb hby hd) _ st, r⟩
theorem o_aaload (B : o_BE κ l Z n0 R y bytes ml ret Ef fin) {ty : FieldType} {a : Addr} {vs : List Value} {j : Int32} {v : Value} (i : Nat) (hty : ty.isReference = true) (hd : decode bytes pc = .ok (.aaload, 1)) (A : o_AR Z h a ty vs) (hj : j = Int32.ofNat i) (hv : vs[i]? = some v) (K : o_Go κ Q h k n (pc + 1) Ls (v :: St)) : o_Go κ Q h k n pc Ls (.int j :: .ref a :: St) := by
  obtain ⟨p, e, s, m, args, below, meth, c, s0, rfl, hs0, hx, hZ, hby, hml, hown, hret, hlk, hnm⟩ := B
  intro T locs X N eT
  obtain ⟨cl, A, es, q⟩ := A
  obtain ⟨hi, hget⟩ := List.getElem?_eq_some_iff.mp hv
  obtain ⟨h1, h2⟩ := o_in es q hj hi
  obtain ⟨s₂, o, st, r⟩ := K T _ X N eT
  exact ⟨s₂, o, X.aaload hx (by rw [eT]; exact A.1) (State.isArrayOf_alike hZ.alike A.2.1) hty A.2.2 h1 (by rw [h2, es]; simpa using hv) (g := o_F Ef m pc Ls.toArray (.int j :: .ref a :: St)) rfl rfl (hb hby hd) _ st, r⟩
theorem o_arraylength (B : o_BE κ l Z n0 R y bytes ml ret Ef fin) {ty : FieldType} {a : Addr} {vs : List Value} (hd : decode bytes pc = .ok (.arraylength, 1)) (A : o_AR Z h a ty vs) (K : o_Go κ Q h k n (pc + 1) Ls (.int (Int32.ofNat vs.length) :: St)) : o_Go κ Q h k n pc Ls (.ref a :: St) := by
  obtain ⟨p, e, s, m, args, below, meth, c, s0, rfl, hs0, hx, hZ, hby, hml, hown, hret, hlk, hnm⟩ := B
  intro T locs X N eT
  obtain ⟨cl, A, es, q⟩ := A
  obtain ⟨s₂, o, st, r⟩ := K T _ X N eT
  have ez : cl.slots.size.toInt32 = Int32.ofNat vs.length := by rw [es]; simp
  exact ⟨s₂, o, X.arraylength hx (by rw [eT]; exact A.1) (State.isArrayOf_alike hZ.alike A.2.1) (g := o_F Ef m pc Ls.toArray (.ref a :: St)) rfl rfl (hb hby hd) _ (by rw [ez]; exact st), r⟩
theorem o_iastore (B : o_BE κ l Z n0 R y bytes ml ret Ef fin) {a : Addr} {vs : List Value} {j : Int32} {x : Int32} (i : Nat) (hd : decode bytes pc = .ok (.iastore, 1)) (A : o_AR Z h a .int vs) (hj : j = Int32.ofNat i) (hi : i < vs.length) (ge : n0 ≤ a) (K : ∀ h', Wr h h' a i (.int x) → o_Go κ Q h' k n (pc + 1) Ls St) : o_Go κ Q h k n pc Ls (.int x :: .int j :: .ref a :: St) := by
  obtain ⟨p, e, s, m, args, below, meth, c, s0, rfl, hs0, hx, hZ, hby, hml, hown, hret, hlk, hnm⟩ := B
  intro T locs X N eT
  obtain ⟨cl, A, es, q⟩ := A
  obtain ⟨h1, h2⟩ := o_in es q hj hi
  obtain ⟨T', h', X', e', W, st'⟩ := stI X hx hZ eT A h1 (g := o_F Ef m pc Ls.toArray (.int x :: .int j :: .ref a :: St)) rfl rfl (hb hby hd)
  have W' := W
  rw [h2] at W'
  obtain ⟨s₂, o, st, r⟩ := K h' W' T' _ X' (Fr.snoc X' N ge) e'
  exact ⟨s₂, o, st' _ st, r⟩
theorem o_lastore (B : o_BE κ l Z n0 R y bytes ml ret Ef fin) {a : Addr} {vs : List Value} {j : Int32} {x : Int64} (i : Nat) (hd : decode bytes pc = .ok (.lastore, 1)) (A : o_AR Z h a .long vs) (hj : j = Int32.ofNat i) (hi : i < vs.length) (ge : n0 ≤ a) (K : ∀ h', Wr h h' a i (.long x) → o_Go κ Q h' k n (pc + 1) Ls St) : o_Go κ Q h k n pc Ls (.long x :: .int j :: .ref a :: St) := by
  obtain ⟨p, e, s, m, args, below, meth, c, s0, rfl, hs0, hx, hZ, hby, hml, hown, hret, hlk, hnm⟩ := B
  intro T locs X N eT
  obtain ⟨cl, A, es, q⟩ := A
  obtain ⟨h1, h2⟩ := o_in es q hj hi
  obtain ⟨T', h', X', e', W, st'⟩ := stJ X hx hZ eT A h1 (g := o_F Ef m pc Ls.toArray (.long x :: .int j :: .ref a :: St)) rfl rfl (hb hby hd)
  have W' := W
  rw [h2] at W'
  obtain ⟨s₂, o, st, r⟩ := K h' W' T' _ X' (Fr.snoc X' N ge) e'
  exact ⟨s₂, o, st' _ st, r⟩
theorem o_bastore (B : o_BE κ l Z n0 R y bytes ml ret Ef fin) {a : Addr} {vs : List Value} {j : Int32} {x : Int32} (i : Nat) (hd : decode bytes pc = .ok (.bastore, 1)) (A : o_AR Z h a .boolean vs) (hj : j = Int32.ofNat i) (hi : i < vs.length) (ge : n0 ≤ a) (K : ∀ h', Wr h h' a i (.int (nar .boolean x)) → o_Go κ Q h' k n (pc + 1) Ls St) : o_Go κ Q h k n pc Ls (.int x :: .int j :: .ref a :: St) := by
  obtain ⟨p, e, s, m, args, below, meth, c, s0, rfl, hs0, hx, hZ, hby, hml, hown, hret, hlk, hnm⟩ := B
  intro T locs X N eT
  obtain ⟨cl, A, es, q⟩ := A
  obtain ⟨h1, h2⟩ := o_in es q hj hi
  obtain ⟨T', h', X', e', W, st'⟩ := stZ X hx hZ eT A h1 (g := o_F Ef m pc Ls.toArray (.int x :: .int j :: .ref a :: St)) rfl rfl (hb hby hd)
  have W' := W
  rw [h2] at W'
  obtain ⟨s₂, o, st, r⟩ := K h' W' T' _ X' (Fr.snoc X' N ge) e'
  exact ⟨s₂, o, st' _ st, r⟩
theorem o_newarray (B : o_BE κ l Z n0 R y bytes ml ret Ef fin) {aty : ArrayType} {cnt : Int32} (cN cap : Nat) (hd : decode bytes pc = .ok (.newarray aty, 2)) (w : (Cond.arrayClass (newarray.typeOf aty)).before a0 Z = true) (hcnt : cnt = Int32.ofNat cN) (hcap : cN ≤ cap) (hbig : cap * 8 ≤ 536870912) (hc : k + 1 ≤ R.cells) (hl : n + cap ≤ R.slots)
    (K : ∀ h', Ext h h' → h.size < h'.size → o_AR Z h' h.size (newarray.typeOf aty) (List.replicate cN (defaultValue (newarray.typeOf aty))) → o_Go κ Q h' (k + 1) (n + cap) (pc + 2) Ls (.ref h.size :: St)) : o_Go κ Q h k n pc Ls (.int cnt :: St) := by
  obtain ⟨p, e, s, m, args, below, meth, c, s0, rfl, hs0, hx, hZ, hby, hml, hown, hret, hlk, hnm⟩ := B
  intro T locs X N eT
  obtain ⟨h1, h2⟩ := o_nat (i := cN) (N := cN + 1) (by omega) (by omega)
  obtain ⟨T', h', cA, X', e', E, A, st'⟩ := newP X hx hZ w eT (g := o_F Ef m pc Ls.toArray (.int cnt :: St)) rfl (hb hby hd) rfl (by rw [hcnt]; exact h2) (cap := cap) (by rw [hcnt, h1]; exact hcap) hbig hc hl
  obtain ⟨s₂, o, st, r⟩ := K h' E A.lt ⟨_, A, by simp [newA, hcnt, h1], by simp; omega⟩ T' _ X' N e'
  exact ⟨s₂, o, st' _ st, r⟩
theorem o_iadd_c (B : o_BE κ l Z n0 R y bytes ml ret Ef fin) {x y : Int32} (z : Int32) (hd : decode bytes pc = .ok (.iadd, 1)) (hz : x + y = z) (K : o_Go κ Q h k n (pc + 1) Ls (.int z :: St)) : o_Go κ Q h k n pc Ls (.int y :: .int x :: St) := o_iadd B hd (hz.symm ▸ K)
theorem o_isub_c (B : o_BE κ l Z n0 R y bytes ml ret Ef fin) {x y : Int32} (z : Int32) (hd : decode bytes pc = .ok (.isub, 1)) (hz : x - y = z) (K : o_Go κ Q h k n (pc + 1) Ls (.int z :: St)) : o_Go κ Q h k n pc Ls (.int y :: .int x :: St) := o_isub B hd (hz.symm ▸ K)
theorem o_iand_c (B : o_BE κ l Z n0 R y bytes ml ret Ef fin) {x y : Int32} (z : Int32) (hd : decode bytes pc = .ok (.iand, 1)) (hz : x &&& y = z) (K : o_Go κ Q h k n (pc + 1) Ls (.int z :: St)) : o_Go κ Q h k n pc Ls (.int y :: .int x :: St) := o_iand B hd (hz.symm ▸ K)
theorem o_imul_c (B : o_BE κ l Z n0 R y bytes ml ret Ef fin) {x y : Int32} (z : Int32) (hd : decode bytes pc = .ok (.imul, 1)) (hz : x * y = z) (K : o_Go κ Q h k n (pc + 1) Ls (.int z :: St)) : o_Go κ Q h k n pc Ls (.int y :: .int x :: St) := o_imul B hd (hz.symm ▸ K)
theorem o_ior_c (B : o_BE κ l Z n0 R y bytes ml ret Ef fin) {x y : Int32} (z : Int32) (hd : decode bytes pc = .ok (.ior, 1)) (hz : x ||| y = z) (K : o_Go κ Q h k n (pc + 1) Ls (.int z :: St)) : o_Go κ Q h k n pc Ls (.int y :: .int x :: St) := o_ior B hd (hz.symm ▸ K)
theorem o_ixor_c (B : o_BE κ l Z n0 R y bytes ml ret Ef fin) {x y : Int32} (z : Int32) (hd : decode bytes pc = .ok (.ixor, 1)) (hz : x ^^^ y = z) (K : o_Go κ Q h k n (pc + 1) Ls (.int z :: St)) : o_Go κ Q h k n pc Ls (.int y :: .int x :: St) := o_ixor B hd (hz.symm ▸ K)
theorem o_ishl_c (B : o_BE κ l Z n0 R y bytes ml ret Ef fin) {x y : Int32} (z : Int32) (hd : decode bytes pc = .ok (.ishl, 1)) (hz : x <<< (y &&& 31) = z) (K : o_Go κ Q h k n (pc + 1) Ls (.int z :: St)) : o_Go κ Q h k n pc Ls (.int y :: .int x :: St) := o_ishl B hd (hz.symm ▸ K)
theorem o_ishr_c (B : o_BE κ l Z n0 R y bytes ml ret Ef fin) {x y : Int32} (z : Int32) (hd : decode bytes pc = .ok (.ishr, 1)) (hz : x >>> (y &&& 31) = z) (K : o_Go κ Q h k n (pc + 1) Ls (.int z :: St)) : o_Go κ Q h k n pc Ls (.int y :: .int x :: St) := o_ishr B hd (hz.symm ▸ K)
theorem o_iushr_c (B : o_BE κ l Z n0 R y bytes ml ret Ef fin) {x y : Int32} (z : Int32) (hd : decode bytes pc = .ok (.iushr, 1)) (hz : XT.ushr x y = z) (K : o_Go κ Q h k n (pc + 1) Ls (.int z :: St)) : o_Go κ Q h k n pc Ls (.int y :: .int x :: St) := o_iushr B hd (hz.symm ▸ K)
theorem o_idiv_c (B : o_BE κ l Z n0 R y bytes ml ret Ef fin) {x y : Int32} (z : Int32) (hd : decode bytes pc = .ok (.idiv, 1)) (hy : y ≠ 0) (hz : x / y = z) (K : o_Go κ Q h k n (pc + 1) Ls (.int z :: St)) : o_Go κ Q h k n pc Ls (.int y :: .int x :: St) := o_idiv B hd hy (hz.symm ▸ K)
theorem o_irem_c (B : o_BE κ l Z n0 R y bytes ml ret Ef fin) {x y : Int32} (z : Int32) (hd : decode bytes pc = .ok (.irem, 1)) (hy : y ≠ 0) (hz : x % y = z) (K : o_Go κ Q h k n (pc + 1) Ls (.int z :: St)) : o_Go κ Q h k n pc Ls (.int y :: .int x :: St) := o_irem B hd hy (hz.symm ▸ K)
theorem o_arraylen (B : o_BE κ l Z n0 R y bytes ml ret Ef fin) {ty : FieldType} {a : Addr} {vs : List Value} (z : Int32) (hd : decode bytes pc = .ok (.arraylength, 1)) (A : o_AR Z h a ty vs) (hz : Int32.ofNat vs.length = z) (K : o_Go κ Q h k n (pc + 1) Ls (.int z :: St)) : o_Go κ Q h k n pc Ls (.ref a :: St) := o_arraylength B hd A (hz.symm ▸ K)
/-- an array of references: as o_AR, and P holds of its class -/
def o_RR (Z : State) (h : Heap) (a : Addr) (ty : FieldType) (P : ClassId → Prop) (vs : List Value) : Prop := ∃ c : Cell, Arr Z h a c ty ∧ c.slots = vs.toArray ∧ vs.length < 2 ^ 31 ∧ P c.cls
section RR
variable {Z : State} {h h' : Heap} {a b y : Addr} {ty : FieldType} {P : ClassId → Prop} {vs : List Value} {sl i : Nat} {v : Value} {ws : List Addr} {C : String}
theorem o_RR.ar (A : o_RR Z h a ty P vs) : o_AR Z h a ty vs := by obtain ⟨c, A, e, q, -⟩ := A; exact ⟨c, A, e, q⟩
theorem o_RR.lt (A : o_RR Z h a ty P vs) : a < h.size := A.ar.lt
theorem o_RR.ext (A : o_RR Z h a ty P vs) (E : Ext h h') : o_RR Z h' a ty P vs := by obtain ⟨c, A, r⟩ := A; exact ⟨c, A.ext E, r⟩
theorem o_RR.other (A : o_RR Z h a ty P vs) (W : Wr h h' b sl v) (q : a ≠ b) : o_RR Z h' a ty P vs := by obtain ⟨c, A, r⟩ := A; exact ⟨c, A.other W q, r⟩
theorem o_RR.keep (A : o_RR Z h a ty P vs) (K : Keep h h' ws) (q : a ∉ ws) : o_RR Z h' a ty P vs := by obtain ⟨c, A, r⟩ := A; exact ⟨c, ⟨K.2.1 a c A.1 q, A.2⟩, r⟩
theorem o_RR.same (A : o_RR Z h a ty P vs) (W : Wr h h' a i v) : o_RR Z h' a ty P (vs.set i v) := by
  obtain ⟨c, A, e, q, r⟩ := A
  exact ⟨_, A.same W, by simp [Cell.setSlot, e], by simpa using q, r⟩
theorem o_stoA (A : o_RR Z h a (.array ty) (fun k => OvrA Z k ty C) vs) (E : Exa Z h y C) : Sto Z h a (.ref y) := by
  obtain ⟨c, A, -, -, O⟩ := A; exact Sto.ofVA A rfl O (Ins.self E)
theorem o_stoR (A : o_RR Z h a (.object C) (fun k => Ovr Z k C) vs) (I : Ins Z h y C true) : Sto Z h a (.ref y) := by
  obtain ⟨c, A, -, -, O⟩ := A; exact Sto.ofV A rfl O I
end RR
theorem o_aastore (B : o_BE κ l Z n0 R y bytes ml ret Ef fin) {ty : FieldType} {P : ClassId → Prop} {a : Addr} {vs : List Value} {j : Int32} {v : Value} (i : Nat) (hty : ty.isReference = true) (hd : decode bytes pc = .ok (.aastore, 1)) (A : o_RR Z h a ty P vs) (hj : j = Int32.ofNat i) (hi : i < vs.length) (F : Sto Z h a v) (ge : n0 ≤ a) (K : ∀ h', Wr h h' a i v → o_Go κ Q h' k n (pc + 1) Ls St) : o_Go κ Q h k n pc Ls (v :: .int j :: .ref a :: St) := by
  obtain ⟨p, e, s, m, args, below, meth, c, s0, rfl, hs0, hx, hZ, hby, hml, hown, hret, hlk, hnm⟩ := B
  intro T locs X N eT
  obtain ⟨cl, A, es, q, -⟩ := A
  obtain ⟨h1, h2⟩ := o_in es q hj hi
  obtain ⟨T', h', X', e', W, st'⟩ := stR X hx hZ eT A h1 hty F (g := o_F Ef m pc Ls.toArray (v :: .int j :: .ref a :: St)) rfl rfl (hb hby hd)
  have W' := W
  rw [h2] at W'
  obtain ⟨s₂, o, st, r⟩ := K h' W' T' _ X' (Fr.snoc X' N ge) e'
  exact ⟨s₂, o, st' _ st, r⟩
theorem o_newarrayE (B : o_BE κ l Z n0 R y bytes ml ret Ef fin) {aty : ArrayType} {cnt : Int32} {ad : String} (cN cap : Nat) (had : "[" ++ (newarray.typeOf aty).toString = ad) (hd : decode bytes pc = .ok (.newarray aty, 2)) (w : (Cond.arrayClass (newarray.typeOf aty)).before a0 Z = true) (hcnt : cnt = Int32.ofNat cN) (hcap : cN ≤ cap) (hbig : cap * 8 ≤ 536870912) (hc : k + 1 ≤ R.cells) (hl : n + cap ≤ R.slots)
    (K : ∀ h', Ext h h' → h.size < h'.size → o_AR Z h' h.size (newarray.typeOf aty) (List.replicate cN (defaultValue (newarray.typeOf aty))) → Exa Z h' h.size ad → o_Go κ Q h' (k + 1) (n + cap) (pc + 2) Ls (.ref h.size :: St)) : o_Go κ Q h k n pc Ls (.int cnt :: St) := by
  obtain ⟨p, e, s, m, args, below, meth, c, s0, rfl, hs0, hx, hZ, hby, hml, hown, hret, hlk, hnm⟩ := B
  intro T locs X N eT
  obtain ⟨h1, h2⟩ := o_nat (i := cN) (N := cN + 1) (by omega) (by omega)
  obtain ⟨T', h', cA, X', e', E, A, Ex, st'⟩ := newPE X hx hZ w eT (g := o_F Ef m pc Ls.toArray (.int cnt :: St)) rfl (hb hby hd) rfl (by rw [hcnt]; exact h2) (cap := cap) (by rw [hcnt, h1]; exact hcap) hbig hc hl had
  obtain ⟨s₂, o, st, r⟩ := K h' E A.lt ⟨_, A, by simp [newA, hcnt, h1], by simp; omega⟩ Ex T' _ X' N e'
  exact ⟨s₂, o, st' _ st, r⟩
theorem o_anewA (B : o_BE κ l Z n0 R y bytes ml ret Ef fin) {C ad : String} {ty : FieldType} {idx : Nat} {cnt : Int32} (cN cap : Nat) (hC : (FieldType.array ty).toString = C) (had : "[" ++ C = ad) (hd : decode bytes pc = .ok (.anewarray idx, 3)) (w1 : (Cond.classLink y.cls idx C).before a0 Z = true) (w2 : (Cond.arrayOver (.array ty)).before a0 Z = true) (hcnt : cnt = Int32.ofNat cN) (hcap : cN ≤ cap) (hbig : cap * 8 ≤ 536870912) (hc : k + 1 ≤ R.cells) (hl : n + cap ≤ R.slots)
    (K : ∀ h', Ext h h' → h.size < h'.size → o_RR Z h' h.size (.array ty) (fun k => OvrA Z k ty C) (List.replicate cN .null) → Exa Z h' h.size ad → o_Go κ Q h' (k + 1) (n + cap) (pc + 3) Ls (.ref h.size :: St)) : o_Go κ Q h k n pc Ls (.int cnt :: St) := by
  obtain ⟨p, e, s, m, args, below, meth, c, s0, rfl, hs0, hx, hZ, hby, hml, hown, hret, hlk, hnm⟩ := B
  intro T locs X N eT
  obtain ⟨h1, h2⟩ := o_nat (i := cN) (N := cN + 1) (by omega) (by omega)
  obtain ⟨T', h', cA, X', e', E, A, Ex, O, st'⟩ := newRA X hx hZ hown hC w1 w2 eT (g := o_F Ef m pc Ls.toArray (.int cnt :: St)) rfl (hb hby hd) rfl (by rw [hcnt]; exact h2) (cap := cap) (by rw [hcnt, h1]; exact hcap) hbig hc hl had
  obtain ⟨s₂, o, st, r⟩ := K h' E A.lt ⟨_, A, by simp [newA, hcnt, h1, defaultValue], by simp; omega, O⟩ Ex T' _ X' N e'
  exact ⟨s₂, o, st' _ st, r⟩
theorem o_anewR (B : o_BE κ l Z n0 R y bytes ml ret Ef fin) {C ad : String} {idx : Nat} {cnt : Int32} (cN cap : Nat) (had : "[" ++ (FieldType.object C).toString = ad) (hd : decode bytes pc = .ok (.anewarray idx, 3)) (w1 : (Cond.classLink y.cls idx C).before a0 Z = true) (w2 : (Cond.arrayOver (.object C)).before a0 Z = true) (hcnt : cnt = Int32.ofNat cN) (hcap : cN ≤ cap) (hbig : cap * 8 ≤ 536870912) (hc : k + 1 ≤ R.cells) (hl : n + cap ≤ R.slots)
    (K : ∀ h', Ext h h' → h.size < h'.size → o_RR Z h' h.size (.object C) (fun k => Ovr Z k C) (List.replicate cN .null) → Exa Z h' h.size ad → o_Go κ Q h' (k + 1) (n + cap) (pc + 3) Ls (.ref h.size :: St)) : o_Go κ Q h k n pc Ls (.int cnt :: St) := by
  obtain ⟨p, e, s, m, args, below, meth, c, s0, rfl, hs0, hx, hZ, hby, hml, hown, hret, hlk, hnm⟩ := B
  intro T locs X N eT
  obtain ⟨h1, h2⟩ := o_nat (i := cN) (N := cN + 1) (by omega) (by omega)
  obtain ⟨T', h', cA, X', e', E, A, Ex, O, st'⟩ := newRE X hx hZ hown w1 w2 eT (g := o_F Ef m pc Ls.toArray (.int cnt :: St)) rfl (hb hby hd) rfl (by rw [hcnt]; exact h2) (cap := cap) (by rw [hcnt, h1]; exact hcap) hbig hc hl had
  obtain ⟨s₂, o, st, r⟩ := K h' E A.lt ⟨_, A, by simp [newA, hcnt, h1, defaultValue], by simp; omega, O⟩ Ex T' _ X' N e'
  exact ⟨s₂, o, st' _ st, r⟩
theorem o_callS (B : o_BE κ l Z n0 R y bytes ml ret Ef fin) {yc : MethodName} {bc : ByteArray} {mc : Nat} {rc : Option FieldType} {rm : Room} {as rest : List Value} {Qc : Option Value → Heap → Nat → Nat → Prop} {idx : Nat} (W : Nat) (hd : decode bytes pc = .ok (.invokestatic idx, 3))
    (w1 : (Cond.methodLink y.cls idx yc).before a0 Z = true) (w2 : (Cond.static yc).before a0 Z = true) (w3 : (Cond.initialized yc.cls).before a0 Z = true) (w4 : (Cond.code yc bc mc rc).before a0 Z = true) (hy : yc.cls ≠ "java/lang/invoke/MethodHandle" ∧ yc.cls ≠ "java/lang/invoke/VarHandle") {ps : List FieldType} {r0 : Option FieldType} (pd : parseMethodDescriptor yc.desc = some ⟨ps, r0⟩) (hlen : as.length = ps.length)
    (hW : 2 * Ef.2 + (rest.map fun v => v.category).sum ≤ W) (hf : rm.frames + 1 ≤ R.frames) (hl : W + (mc + 11) + rm.locals ≤ R.locals) (hc : k + rm.cells ≤ R.cells) (hs : n + rm.slots ≤ R.slots) (hLs : Ls.length = ml)
    (C : o_C l Z n0 yc bc mc rc rm as h Qc) (K : ∀ v h' kc nc, Qc v h' kc nc → kc ≤ rm.cells → nc ≤ rm.slots → o_Go κ Q h' (k + kc) (n + nc) (pc + 3) Ls (v.toList ++ rest)) : o_Go κ Q h k n pc Ls (as.reverse ++ rest) := by
  obtain ⟨p, e, s, m, args, below, meth, c, s0, rfl, hs0, hx, hZ, hby, hml, hown, hret, hlk, hnm⟩ := B
  intro T locs X N eT
  obtain ⟨v, vm1, ⟨T', L', k', n'⟩, -, X', ⟨Lc, kc, nc, hQ, l', y', z', hkc, hnc⟩, st'⟩ := Jvm.LawKit.callS X hx (y := yc) hown (mvT hZ w1) (mvT hZ w2) (mvT hZ w3) (mvT hZ w4) hy (o_backX (W := W) (Q := fun v h L kc nc => Qc v h kc nc ∧ Fr n0 L) (C []) hZ w4 w3 hf hl) (g := o_F Ef m pc Ls.toArray (as.reverse ++ rest)) rfl (by rw [hml, ← hLs]; simp) (argsL := as) (rest := rest) (lenOf pd hlen) rfl (by simpa using hW) (hb hby hd) (fun _ _ => ⟨rfl, eT, hc, hs⟩)
  dsimp only [Pt.U, Pt.locs, Pt.cells, Pt.slots] at X' l' y' z' st' hQ
  subst l' y' z'
  obtain ⟨hq, Nc⟩ := hQ
  obtain ⟨s₂, o, st, r⟩ := K v T'.heap kc nc hq hkc hnc T' _ X' (Fr.app N Nc) rfl
  exact ⟨s₂, o, st' _ st, r⟩
theorem o_callN (B : o_BE κ l Z n0 R y bytes ml ret Ef fin) {yc : MethodName} {bc : ByteArray} {mc : Nat} {rm : Room} {as rest : List Value} {a : Addr} {Qc : Option Value → Heap → Nat → Nat → Prop} {idx : Nat} (W : Nat) (hd : decode bytes pc = .ok (.invokespecial idx, 3)) (hin : yc.name = "<init>")
    (w1 : (Cond.methodLink y.cls idx yc).before a0 Z = true) (w2 : (Cond.instanceMethod yc).before a0 Z = true) (w3 : (Cond.initialized yc.cls).before a0 Z = true) (w4 : (Cond.code yc bc mc none).before a0 Z = true) (hy : yc.cls ≠ "java/lang/invoke/MethodHandle" ∧ yc.cls ≠ "java/lang/invoke/VarHandle") {ps : List FieldType} {r0 : Option FieldType} (pd : parseMethodDescriptor yc.desc = some ⟨ps, r0⟩) (hlen : as.length = ps.length)
    (hW : 2 * Ef.2 + (rest.map fun v => v.category).sum ≤ W) (hf : rm.frames + 1 ≤ R.frames) (hl : W + (mc + 11) + rm.locals ≤ R.locals) (hc : k + rm.cells ≤ R.cells) (hs : n + rm.slots ≤ R.slots) (hLs : Ls.length = ml)
    (C : o_C l Z n0 yc bc mc none rm (.ref a :: as) h Qc) (K : ∀ v h' kc nc, Qc v h' kc nc → kc ≤ rm.cells → nc ≤ rm.slots → o_Go κ Q h' (k + kc) (n + nc) (pc + 3) Ls (v.toList ++ rest)) : o_Go κ Q h k n pc Ls (as.reverse ++ .ref a :: rest) := by
  obtain ⟨p, e, s, m, args, below, meth, c, s0, rfl, hs0, hx, hZ, hby, hml, hown, hret, hlk, hnm⟩ := B
  intro T locs X N eT
  obtain ⟨v, vm1, ⟨T', L', k', n'⟩, -, X', ⟨Lc, kc, nc, hQ, l', y', z', hkc, hnc⟩, st'⟩ := X.specialBack hx (y := yc) hin hown (mvT hZ w1) (mvT hZ w2) (mvT hZ w4) hy (o_backX (W := W) (Q := fun v h L kc nc => Qc v h kc nc ∧ Fr n0 L) (C []) hZ w4 w3 hf hl) (g := o_F Ef m pc Ls.toArray (as.reverse ++ .ref a :: rest)) rfl (by rw [hml, ← hLs]; simp) (Steps.refl _) (a := a) (argsL := as) (rest := rest) (lenOf pd hlen) rfl (by simpa using hW) (hb hby hd) (fun _ _ => ⟨rfl, eT, hc, hs⟩)
  dsimp only [Pt.U, Pt.locs, Pt.cells, Pt.slots] at X' l' y' z' st' hQ
  subst l' y' z'
  obtain ⟨hq, Nc⟩ := hQ
  obtain ⟨s₂, o, st, r⟩ := K v T'.heap kc nc hq hkc hnc T' _ X' (Fr.app N Nc) rfl
  exact ⟨s₂, o, st'.trans st, r⟩
theorem o_callV (B : o_BE κ l Z n0 R y bytes ml ret Ef fin) {yc : MethodName} {Cn : String} {bc : ByteArray} {mc : Nat} {rc : Option FieldType} {rm : Room} {as rest : List Value} {a : Addr} {Qc : Option Value → Heap → Nat → Nat → Prop} {idx : Nat} (W : Nat) (hd : decode bytes pc = .ok (.invokevirtual idx, 3))
    (w1 : (Cond.methodLink y.cls idx yc).before a0 Z = true) (w2 : (Cond.declares yc).before a0 Z = true) (w5 : (Cond.selects Cn yc yc).before a0 Z = true) (w6 : (Cond.instanceMethod yc).before a0 Z = true) (w3 : (Cond.initialized yc.cls).before a0 Z = true) (w4 : (Cond.code yc bc mc rc).before a0 Z = true) (hy : yc.cls ≠ "java/lang/invoke/MethodHandle" ∧ yc.cls ≠ "java/lang/invoke/VarHandle") {ps : List FieldType} {r0 : Option FieldType} (pd : parseMethodDescriptor yc.desc = some ⟨ps, r0⟩) (hlen : as.length = ps.length)
    (hW : 2 * Ef.2 + (rest.map fun v => v.category).sum ≤ W) (hf : rm.frames + 1 ≤ R.frames) (hl : W + (mc + 11) + rm.locals ≤ R.locals) (hc : k + rm.cells ≤ R.cells) (hs : n + rm.slots ≤ R.slots) (hLs : Ls.length = ml) (E : Exa Z h a Cn)
    (C : o_C l Z n0 yc bc mc rc rm (.ref a :: as) h Qc) (K : ∀ v h' kc nc, Qc v h' kc nc → kc ≤ rm.cells → nc ≤ rm.slots → o_Go κ Q h' (k + kc) (n + nc) (pc + 3) Ls (v.toList ++ rest)) : o_Go κ Q h k n pc Ls (as.reverse ++ .ref a :: rest) := by
  obtain ⟨p, e, s, m, args, below, meth, c, s0, rfl, hs0, hx, hZ, hby, hml, hown, hret, hlk, hnm⟩ := B
  intro T locs X N eT
  obtain ⟨cq, kq, qa, qb, qc⟩ := isOf hZ eT E
  obtain ⟨v, vm1, ⟨T', L', k', n'⟩, -, X', ⟨Lc, kc, nc, hQ, l', y', z', hkc, hnc⟩, st'⟩ := X.virtualBack hx (y := yc) (z := yc) hown (mvT hZ w1) (mvT hZ w2) (notFace_of_selects (args := #[]) (mvT hZ w5)) (mvT hZ w5) (mvT hZ w6) hy (o_backX (W := W) (Q := fun v h L kc nc => Qc v h kc nc ∧ Fr n0 L) (C []) hZ w4 w3 hf hl) qa qc (g := o_F Ef m pc Ls.toArray (as.reverse ++ .ref a :: rest)) rfl (by rw [hml, ← hLs]; simp) (Steps.refl _) (argsL := as) (rest := rest) (lenOf pd hlen) rfl (by simpa using hW) (hb hby hd) (fun _ _ => ⟨rfl, eT, hc, hs⟩)
  dsimp only [Pt.U, Pt.locs, Pt.cells, Pt.slots] at X' l' y' z' st' hQ
  subst l' y' z'
  obtain ⟨hq, Nc⟩ := hQ
  obtain ⟨s₂, o, st, r⟩ := K v T'.heap kc nc hq hkc hnc T' _ X' (Fr.app N Nc) rfl
  exact ⟨s₂, o, st'.trans st, r⟩
theorem o_callS0 (B : o_BE κ l Z n0 R y bytes ml ret Ef fin) {yc : MethodName} {bc : ByteArray} {mc : Nat} {rc : Option FieldType} {rm : Room} {rest : List Value} {Qc : Option Value → Heap → Nat → Nat → Prop} {idx : Nat} (W : Nat) (hd : decode bytes pc = .ok (.invokestatic idx, 3)) (w1 : (Cond.methodLink y.cls idx yc).before a0 Z = true) (w2 : (Cond.static yc).before a0 Z = true) (w3 : (Cond.initialized yc.cls).before a0 Z = true) (w4 : (Cond.code yc bc mc rc).before a0 Z = true) (hy : yc.cls ≠ "java/lang/invoke/MethodHandle" ∧ yc.cls ≠ "java/lang/invoke/VarHandle") {ps : List FieldType} {r0 : Option FieldType} (pd : parseMethodDescriptor yc.desc = some ⟨ps, r0⟩) (hlen : 0 = ps.length) (hW : 2 * Ef.2 + (rest.map fun v => v.category).sum ≤ W) (hf : rm.frames + 1 ≤ R.frames) (hl : W + (mc + 11) + rm.locals ≤ R.locals) (hc : k + rm.cells ≤ R.cells) (hs : n + rm.slots ≤ R.slots) (hLs : Ls.length = ml) (C : o_C l Z n0 yc bc mc rc rm [] h Qc) (K : ∀ v h' kc nc, Qc v h' kc nc → kc ≤ rm.cells → nc ≤ rm.slots → o_Go κ Q h' (k + kc) (n + nc) (pc + 3) Ls (v.toList ++ rest)) : o_Go κ Q h k n pc Ls (rest) := o_callS B W hd w1 w2 w3 w4 hy pd (as := []) hlen hW hf hl hc hs hLs C K
theorem o_callN0 (B : o_BE κ l Z n0 R y bytes ml ret Ef fin) {yc : MethodName} {bc : ByteArray} {mc : Nat} {rm : Room} {rest : List Value} {a : Addr} {Qc : Option Value → Heap → Nat → Nat → Prop} {idx : Nat} (W : Nat) (hd : decode bytes pc = .ok (.invokespecial idx, 3)) (hin : yc.name = "<init>") (w1 : (Cond.methodLink y.cls idx yc).before a0 Z = true) (w2 : (Cond.instanceMethod yc).before a0 Z = true) (w3 : (Cond.initialized yc.cls).before a0 Z = true) (w4 : (Cond.code yc bc mc none).before a0 Z = true) (hy : yc.cls ≠ "java/lang/invoke/MethodHandle" ∧ yc.cls ≠ "java/lang/invoke/VarHandle") {ps : List FieldType} {r0 : Option FieldType} (pd : parseMethodDescriptor yc.desc = some ⟨ps, r0⟩) (hlen : 0 = ps.length) (hW : 2 * Ef.2 + (rest.map fun v => v.category).sum ≤ W) (hf : rm.frames + 1 ≤ R.frames) (hl : W + (mc + 11) + rm.locals ≤ R.locals) (hc : k + rm.cells ≤ R.cells) (hs : n + rm.slots ≤ R.slots) (hLs : Ls.length = ml) (C : o_C l Z n0 yc bc mc none rm (.ref a :: []) h Qc) (K : ∀ v h' kc nc, Qc v h' kc nc → kc ≤ rm.cells → nc ≤ rm.slots → o_Go κ Q h' (k + kc) (n + nc) (pc + 3) Ls (v.toList ++ rest)) : o_Go κ Q h k n pc Ls (.ref a :: rest) := o_callN B W hd hin w1 w2 w3 w4 hy pd (as := []) hlen hW hf hl hc hs hLs C K
theorem o_callV0 (B : o_BE κ l Z n0 R y bytes ml ret Ef fin) {yc : MethodName} {Cn : String} {bc : ByteArray} {mc : Nat} {rc : Option FieldType} {rm : Room} {rest : List Value} {a : Addr} {Qc : Option Value → Heap → Nat → Nat → Prop} {idx : Nat} (W : Nat) (hd : decode bytes pc = .ok (.invokevirtual idx, 3)) (w1 : (Cond.methodLink y.cls idx yc).before a0 Z = true) (w2 : (Cond.declares yc).before a0 Z = true) (w5 : (Cond.selects Cn yc yc).before a0 Z = true) (w6 : (Cond.instanceMethod yc).before a0 Z = true) (w3 : (Cond.initialized yc.cls).before a0 Z = true) (w4 : (Cond.code yc bc mc rc).before a0 Z = true) (hy : yc.cls ≠ "java/lang/invoke/MethodHandle" ∧ yc.cls ≠ "java/lang/invoke/VarHandle") {ps : List FieldType} {r0 : Option FieldType} (pd : parseMethodDescriptor yc.desc = some ⟨ps, r0⟩) (hlen : 0 = ps.length) (hW : 2 * Ef.2 + (rest.map fun v => v.category).sum ≤ W) (hf : rm.frames + 1 ≤ R.frames) (hl : W + (mc + 11) + rm.locals ≤ R.locals) (hc : k + rm.cells ≤ R.cells) (hs : n + rm.slots ≤ R.slots) (hLs : Ls.length = ml) (E : Exa Z h a Cn) (C : o_C l Z n0 yc bc mc rc rm (.ref a :: []) h Qc) (K : ∀ v h' kc nc, Qc v h' kc nc → kc ≤ rm.cells → nc ≤ rm.slots → o_Go κ Q h' (k + kc) (n + nc) (pc + 3) Ls (v.toList ++ rest)) : o_Go κ Q h k n pc Ls (.ref a :: rest) := o_callV B W hd w1 w2 w5 w6 w3 w4 hy pd (as := []) hlen hW hf hl hc hs hLs E C K
theorem o_callS1 (B : o_BE κ l Z n0 R y bytes ml ret Ef fin) {yc : MethodName} {bc : ByteArray} {mc : Nat} {rc : Option FieldType} {rm : Room} {v0 : Value} {rest : List Value} {Qc : Option Value → Heap → Nat → Nat → Prop} {idx : Nat} (W : Nat) (hd : decode bytes pc = .ok (.invokestatic idx, 3)) (w1 : (Cond.methodLink y.cls idx yc).before a0 Z = true) (w2 : (Cond.static yc).before a0 Z = true) (w3 : (Cond.initialized yc.cls).before a0 Z = true) (w4 : (Cond.code yc bc mc rc).before a0 Z = true) (hy : yc.cls ≠ "java/lang/invoke/MethodHandle" ∧ yc.cls ≠ "java/lang/invoke/VarHandle") {ps : List FieldType} {r0 : Option FieldType} (pd : parseMethodDescriptor yc.desc = some ⟨ps, r0⟩) (hlen : 1 = ps.length) (hW : 2 * Ef.2 + (rest.map fun v => v.category).sum ≤ W) (hf : rm.frames + 1 ≤ R.frames) (hl : W + (mc + 11) + rm.locals ≤ R.locals) (hc : k + rm.cells ≤ R.cells) (hs : n + rm.slots ≤ R.slots) (hLs : Ls.length = ml) (C : o_C l Z n0 yc bc mc rc rm [v0] h Qc) (K : ∀ v h' kc nc, Qc v h' kc nc → kc ≤ rm.cells → nc ≤ rm.slots → o_Go κ Q h' (k + kc) (n + nc) (pc + 3) Ls (v.toList ++ rest)) : o_Go κ Q h k n pc Ls (v0 :: rest) := o_callS B W hd w1 w2 w3 w4 hy pd (as := [v0]) hlen hW hf hl hc hs hLs C K
theorem o_callN1 (B : o_BE κ l Z n0 R y bytes ml ret Ef fin) {yc : MethodName} {bc : ByteArray} {mc : Nat} {rm : Room} {v0 : Value} {rest : List Value} {a : Addr} {Qc : Option Value → Heap → Nat → Nat → Prop} {idx : Nat} (W : Nat) (hd : decode bytes pc = .ok (.invokespecial idx, 3)) (hin : yc.name = "<init>") (w1 : (Cond.methodLink y.cls idx yc).before a0 Z = true) (w2 : (Cond.instanceMethod yc).before a0 Z = true) (w3 : (Cond.initialized yc.cls).before a0 Z = true) (w4 : (Cond.code yc bc mc none).before a0 Z = true) (hy : yc.cls ≠ "java/lang/invoke/MethodHandle" ∧ yc.cls ≠ "java/lang/invoke/VarHandle") {ps : List FieldType} {r0 : Option FieldType} (pd : parseMethodDescriptor yc.desc = some ⟨ps, r0⟩) (hlen : 1 = ps.length) (hW : 2 * Ef.2 + (rest.map fun v => v.category).sum ≤ W) (hf : rm.frames + 1 ≤ R.frames) (hl : W + (mc + 11) + rm.locals ≤ R.locals) (hc : k + rm.cells ≤ R.cells) (hs : n + rm.slots ≤ R.slots) (hLs : Ls.length = ml) (C : o_C l Z n0 yc bc mc none rm (.ref a :: [v0]) h Qc) (K : ∀ v h' kc nc, Qc v h' kc nc → kc ≤ rm.cells → nc ≤ rm.slots → o_Go κ Q h' (k + kc) (n + nc) (pc + 3) Ls (v.toList ++ rest)) : o_Go κ Q h k n pc Ls (v0 :: .ref a :: rest) := o_callN B W hd hin w1 w2 w3 w4 hy pd (as := [v0]) hlen hW hf hl hc hs hLs C K
theorem o_callV1 (B : o_BE κ l Z n0 R y bytes ml ret Ef fin) {yc : MethodName} {Cn : String} {bc : ByteArray} {mc : Nat} {rc : Option FieldType} {rm : Room} {v0 : Value} {rest : List Value} {a : Addr} {Qc : Option Value → Heap → Nat → Nat → Prop} {idx : Nat} (W : Nat) (hd : decode bytes pc = .ok (.invokevirtual idx, 3)) (w1 : (Cond.methodLink y.cls idx yc).before a0 Z = true) (w2 : (Cond.declares yc).before a0 Z = true) (w5 : (Cond.selects Cn yc yc).before a0 Z = true) (w6 : (Cond.instanceMethod yc).before a0 Z = true) (w3 : (Cond.initialized yc.cls).before a0 Z = true) (w4 : (Cond.code yc bc mc rc).before a0 Z = true) (hy : yc.cls ≠ "java/lang/invoke/MethodHandle" ∧ yc.cls ≠ "java/lang/invoke/VarHandle") {ps : List FieldType} {r0 : Option FieldType} (pd : parseMethodDescriptor yc.desc = some ⟨ps, r0⟩) (hlen : 1 = ps.length) (hW : 2 * Ef.2 + (rest.map fun v => v.category).sum ≤ W) (hf : rm.frames + 1 ≤ R.frames) (hl : W + (mc + 11) + rm.locals ≤ R.locals) (hc : k + rm.cells ≤ R.cells) (hs : n + rm.slots ≤ R.slots) (hLs : Ls.length = ml) (E : Exa Z h a Cn) (C : o_C l Z n0 yc bc mc rc rm (.ref a :: [v0]) h Qc) (K : ∀ v h' kc nc, Qc v h' kc nc → kc ≤ rm.cells → nc ≤ rm.slots → o_Go κ Q h' (k + kc) (n + nc) (pc + 3) Ls (v.toList ++ rest)) : o_Go κ Q h k n pc Ls (v0 :: .ref a :: rest) := o_callV B W hd w1 w2 w5 w6 w3 w4 hy pd (as := [v0]) hlen hW hf hl hc hs hLs E C K
theorem o_callS2 (B : o_BE κ l Z n0 R y bytes ml ret Ef fin) {yc : MethodName} {bc : ByteArray} {mc : Nat} {rc : Option FieldType} {rm : Room} {v0 v1 : Value} {rest : List Value} {Qc : Option Value → Heap → Nat → Nat → Prop} {idx : Nat} (W : Nat) (hd : decode bytes pc = .ok (.invokestatic idx, 3)) (w1 : (Cond.methodLink y.cls idx yc).before a0 Z = true) (w2 : (Cond.static yc).before a0 Z = true) (w3 : (Cond.initialized yc.cls).before a0 Z = true) (w4 : (Cond.code yc bc mc rc).before a0 Z = true) (hy : yc.cls ≠ "java/lang/invoke/MethodHandle" ∧ yc.cls ≠ "java/lang/invoke/VarHandle") {ps : List FieldType} {r0 : Option FieldType} (pd : parseMethodDescriptor yc.desc = some ⟨ps, r0⟩) (hlen : 2 = ps.length) (hW : 2 * Ef.2 + (rest.map fun v => v.category).sum ≤ W) (hf : rm.frames + 1 ≤ R.frames) (hl : W + (mc + 11) + rm.locals ≤ R.locals) (hc : k + rm.cells ≤ R.cells) (hs : n + rm.slots ≤ R.slots) (hLs : Ls.length = ml) (C : o_C l Z n0 yc bc mc rc rm [v0, v1] h Qc) (K : ∀ v h' kc nc, Qc v h' kc nc → kc ≤ rm.cells → nc ≤ rm.slots → o_Go κ Q h' (k + kc) (n + nc) (pc + 3) Ls (v.toList ++ rest)) : o_Go κ Q h k n pc Ls (v1 :: v0 :: rest) := o_callS B W hd w1 w2 w3 w4 hy pd (as := [v0, v1]) hlen hW hf hl hc hs hLs C K
theorem o_callN2 (B : o_BE κ l Z n0 R y bytes ml ret Ef fin) {yc : MethodName} {bc : ByteArray} {mc : Nat} {rm : Room} {v0 v1 : Value} {rest : List Value} {a : Addr} {Qc : Option Value → Heap → Nat → Nat → Prop} {idx : Nat} (W : Nat) (hd : decode bytes pc = .ok (.invokespecial idx, 3)) (hin : yc.name = "<init>") (w1 : (Cond.methodLink y.cls idx yc).before a0 Z = true) (w2 : (Cond.instanceMethod yc).before a0 Z = true) (w3 : (Cond.initialized yc.cls).before a0 Z = true) (w4 : (Cond.code yc bc mc none).before a0 Z = true) (hy : yc.cls ≠ "java/lang/invoke/MethodHandle" ∧ yc.cls ≠ "java/lang/invoke/VarHandle") {ps : List FieldType} {r0 : Option FieldType} (pd : parseMethodDescriptor yc.desc = some ⟨ps, r0⟩) (hlen : 2 = ps.length) (hW : 2 * Ef.2 + (rest.map fun v => v.category).sum ≤ W) (hf : rm.frames + 1 ≤ R.frames) (hl : W + (mc + 11) + rm.locals ≤ R.locals) (hc : k + rm.cells ≤ R.cells) (hs : n + rm.slots ≤ R.slots) (hLs : Ls.length = ml) (C : o_C l Z n0 yc bc mc none rm (.ref a :: [v0, v1]) h Qc) (K : ∀ v h' kc nc, Qc v h' kc nc → kc ≤ rm.cells → nc ≤ rm.slots → o_Go κ Q h' (k + kc) (n + nc) (pc + 3) Ls (v.toList ++ rest)) : o_Go κ Q h k n pc Ls (v1 :: v0 :: .ref a :: rest) := o_callN B W hd hin w1 w2 w3 w4 hy pd (as := [v0, v1]) hlen hW hf hl hc hs hLs C K
theorem o_callV2 (B : o_BE κ l Z n0 R y bytes ml ret Ef fin) {yc : MethodName} {Cn : String} {bc : ByteArray} {mc : Nat} {rc : Option FieldType} {rm : Room} {v0 v1 : Value} {rest : List Value} {a : Addr} {Qc : Option Value → Heap → Nat → Nat → Prop} {idx : Nat} (W : Nat) (hd : decode bytes pc = .ok (.invokevirtual idx, 3)) (w1 : (Cond.methodLink y.cls idx yc).before a0 Z = true) (w2 : (Cond.declares yc).before a0 Z = true) (w5 : (Cond.selects Cn yc yc).before a0 Z = true) (w6 : (Cond.instanceMethod yc).before a0 Z = true) (w3 : (Cond.initialized yc.cls).before a0 Z = true) (w4 : (Cond.code yc bc mc rc).before a0 Z = true) (hy : yc.cls ≠ "java/lang/invoke/MethodHandle" ∧ yc.cls ≠ "java/lang/invoke/VarHandle") {ps : List FieldType} {r0 : Option FieldType} (pd : parseMethodDescriptor yc.desc = some ⟨ps, r0⟩) (hlen : 2 = ps.length) (hW : 2 * Ef.2 + (rest.map fun v => v.category).sum ≤ W) (hf : rm.frames + 1 ≤ R.frames) (hl : W + (mc + 11) + rm.locals ≤ R.locals) (hc : k + rm.cells ≤ R.cells) (hs : n + rm.slots ≤ R.slots) (hLs : Ls.length = ml) (E : Exa Z h a Cn) (C : o_C l Z n0 yc bc mc rc rm (.ref a :: [v0, v1]) h Qc) (K : ∀ v h' kc nc, Qc v h' kc nc → kc ≤ rm.cells → nc ≤ rm.slots → o_Go κ Q h' (k + kc) (n + nc) (pc + 3) Ls (v.toList ++ rest)) : o_Go κ Q h k n pc Ls (v1 :: v0 :: .ref a :: rest) := o_callV B W hd w1 w2 w5 w6 w3 w4 hy pd (as := [v0, v1]) hlen hW hf hl hc hs hLs E C K
theorem o_callS3 (B : o_BE κ l Z n0 R y bytes ml ret Ef fin) {yc : MethodName} {bc : ByteArray} {mc : Nat} {rc : Option FieldType} {rm : Room} {v0 v1 v2 : Value} {rest : List Value} {Qc : Option Value → Heap → Nat → Nat → Prop} {idx : Nat} (W : Nat) (hd : decode bytes pc = .ok (.invokestatic idx, 3)) (w1 : (Cond.methodLink y.cls idx yc).before a0 Z = true) (w2 : (Cond.static yc).before a0 Z = true) (w3 : (Cond.initialized yc.cls).before a0 Z = true) (w4 : (Cond.code yc bc mc rc).before a0 Z = true) (hy : yc.cls ≠ "java/lang/invoke/MethodHandle" ∧ yc.cls ≠ "java/lang/invoke/VarHandle") {ps : List FieldType} {r0 : Option FieldType} (pd : parseMethodDescriptor yc.desc = some ⟨ps, r0⟩) (hlen : 3 = ps.length) (hW : 2 * Ef.2 + (rest.map fun v => v.category).sum ≤ W) (hf : rm.frames + 1 ≤ R.frames) (hl : W + (mc + 11) + rm.locals ≤ R.locals) (hc : k + rm.cells ≤ R.cells) (hs : n + rm.slots ≤ R.slots) (hLs : Ls.length = ml) (C : o_C l Z n0 yc bc mc rc rm [v0, v1, v2] h Qc) (K : ∀ v h' kc nc, Qc v h' kc nc → kc ≤ rm.cells → nc ≤ rm.slots → o_Go κ Q h' (k + kc) (n + nc) (pc + 3) Ls (v.toList ++ rest)) : o_Go κ Q h k n pc Ls (v2 :: v1 :: v0 :: rest) := o_callS B W hd w1 w2 w3 w4 hy pd (as := [v0, v1, v2]) hlen hW hf hl hc hs hLs C K
theorem o_callN3 (B : o_BE κ l Z n0 R y bytes ml ret Ef fin) {yc : MethodName} {bc : ByteArray} {mc : Nat} {rm : Room} {v0 v1 v2 : Value} {rest : List Value} {a : Addr} {Qc : Option Value → Heap → Nat → Nat → Prop} {idx : Nat} (W : Nat) (hd : decode bytes pc = .ok (.invokespecial idx, 3)) (hin : yc.name = "<init>") (w1 : (Cond.methodLink y.cls idx yc).before a0 Z = true) (w2 : (Cond.instanceMethod yc).before a0 Z = true) (w3 : (Cond.initialized yc.cls).before a0 Z = true) (w4 : (Cond.code yc bc mc none).before a0 Z = true) (hy : yc.cls ≠ "java/lang/invoke/MethodHandle" ∧ yc.cls ≠ "java/lang/invoke/VarHandle") {ps : List FieldType} {r0 : Option FieldType} (pd : parseMethodDescriptor yc.desc = some ⟨ps, r0⟩) (hlen : 3 = ps.length) (hW : 2 * Ef.2 + (rest.map fun v => v.category).sum ≤ W) (hf : rm.frames + 1 ≤ R.frames) (hl : W + (mc + 11) + rm.locals ≤ R.locals) (hc : k + rm.cells ≤ R.cells) (hs : n + rm.slots ≤ R.slots) (hLs : Ls.length = ml) (C : o_C l Z n0 yc bc mc none rm (.ref a :: [v0, v1, v2]) h Qc) (K : ∀ v h' kc nc, Qc v h' kc nc → kc ≤ rm.cells → nc ≤ rm.slots → o_Go κ Q h' (k + kc) (n + nc) (pc + 3) Ls (v.toList ++ rest)) : o_Go κ Q h k n pc Ls (v2 :: v1 :: v0 :: .ref a :: rest) := o_callN B W hd hin w1 w2 w3 w4 hy pd (as := [v0, v1, v2]) hlen hW hf hl hc hs hLs C K
theorem o_callV3 (B : o_BE κ l Z n0 R y bytes ml ret Ef fin) {yc : MethodName} {Cn : String} {bc : ByteArray} {mc : Nat} {rc : Option FieldType} {rm : Room} {v0 v1 v2 : Value} {rest : List Value} {a : Addr} {Qc : Option Value → Heap → Nat → Nat → Prop} {idx : Nat} (W : Nat) (hd : decode bytes pc = .ok (.invokevirtual idx, 3)) (w1 : (Cond.methodLink y.cls idx yc).before a0 Z = true) (w2 : (Cond.declares yc).before a0 Z = true) (w5 : (Cond.selects Cn yc yc).before a0 Z = true) (w6 : (Cond.instanceMethod yc).before a0 Z = true) (w3 : (Cond.initialized yc.cls).before a0 Z = true) (w4 : (Cond.code yc bc mc rc).before a0 Z = true) (hy : yc.cls ≠ "java/lang/invoke/MethodHandle" ∧ yc.cls ≠ "java/lang/invoke/VarHandle") {ps : List FieldType} {r0 : Option FieldType} (pd : parseMethodDescriptor yc.desc = some ⟨ps, r0⟩) (hlen : 3 = ps.length) (hW : 2 * Ef.2 + (rest.map fun v => v.category).sum ≤ W) (hf : rm.frames + 1 ≤ R.frames) (hl : W + (mc + 11) + rm.locals ≤ R.locals) (hc : k + rm.cells ≤ R.cells) (hs : n + rm.slots ≤ R.slots) (hLs : Ls.length = ml) (E : Exa Z h a Cn) (C : o_C l Z n0 yc bc mc rc rm (.ref a :: [v0, v1, v2]) h Qc) (K : ∀ v h' kc nc, Qc v h' kc nc → kc ≤ rm.cells → nc ≤ rm.slots → o_Go κ Q h' (k + kc) (n + nc) (pc + 3) Ls (v.toList ++ rest)) : o_Go κ Q h k n pc Ls (v2 :: v1 :: v0 :: .ref a :: rest) := o_callV B W hd w1 w2 w5 w6 w3 w4 hy pd (as := [v0, v1, v2]) hlen hW hf hl hc hs hLs E C K
theorem o_callS4 (B : o_BE κ l Z n0 R y bytes ml ret Ef fin) {yc : MethodName} {bc : ByteArray} {mc : Nat} {rc : Option FieldType} {rm : Room} {v0 v1 v2 v3 : Value} {rest : List Value} {Qc : Option Value → Heap → Nat → Nat → Prop} {idx : Nat} (W : Nat) (hd : decode bytes pc = .ok (.invokestatic idx, 3)) (w1 : (Cond.methodLink y.cls idx yc).before a0 Z = true) (w2 : (Cond.static yc).before a0 Z = true) (w3 : (Cond.initialized yc.cls).before a0 Z = true) (w4 : (Cond.code yc bc mc rc).before a0 Z = true) (hy : yc.cls ≠ "java/lang/invoke/MethodHandle" ∧ yc.cls ≠ "java/lang/invoke/VarHandle") {ps : List FieldType} {r0 : Option FieldType} (pd : parseMethodDescriptor yc.desc = some ⟨ps, r0⟩) (hlen : 4 = ps.length) (hW : 2 * Ef.2 + (rest.map fun v => v.category).sum ≤ W) (hf : rm.frames + 1 ≤ R.frames) (hl : W + (mc + 11) + rm.locals ≤ R.locals) (hc : k + rm.cells ≤ R.cells) (hs : n + rm.slots ≤ R.slots) (hLs : Ls.length = ml) (C : o_C l Z n0 yc bc mc rc rm [v0, v1, v2, v3] h Qc) (K : ∀ v h' kc nc, Qc v h' kc nc → kc ≤ rm.cells → nc ≤ rm.slots → o_Go κ Q h' (k + kc) (n + nc) (pc + 3) Ls (v.toList ++ rest)) : o_Go κ Q h k n pc Ls (v3 :: v2 :: v1 :: v0 :: rest) := o_callS B W hd w1 w2 w3 w4 hy pd (as := [v0, v1, v2, v3]) hlen hW hf hl hc hs hLs C K
theorem o_callN4 (B : o_BE κ l Z n0 R y bytes ml ret Ef fin) {yc : MethodName} {bc : ByteArray} {mc : Nat} {rm : Room} {v0 v1 v2 v3 : Value} {rest : List Value} {a : Addr} {Qc : Option Value → Heap → Nat → Nat → Prop} {idx : Nat} (W : Nat) (hd : decode bytes pc = .ok (.invokespecial idx, 3)) (hin : yc.name = "<init>") (w1 : (Cond.methodLink y.cls idx yc).before a0 Z = true) (w2 : (Cond.instanceMethod yc).before a0 Z = true) (w3 : (Cond.initialized yc.cls).before a0 Z = true) (w4 : (Cond.code yc bc mc none).before a0 Z = true) (hy : yc.cls ≠ "java/lang/invoke/MethodHandle" ∧ yc.cls ≠ "java/lang/invoke/VarHandle") {ps : List FieldType} {r0 : Option FieldType} (pd : parseMethodDescriptor yc.desc = some ⟨ps, r0⟩) (hlen : 4 = ps.length) (hW : 2 * Ef.2 + (rest.map fun v => v.category).sum ≤ W) (hf : rm.frames + 1 ≤ R.frames) (hl : W + (mc + 11) + rm.locals ≤ R.locals) (hc : k + rm.cells ≤ R.cells) (hs : n + rm.slots ≤ R.slots) (hLs : Ls.length = ml) (C : o_C l Z n0 yc bc mc none rm (.ref a :: [v0, v1, v2, v3]) h Qc) (K : ∀ v h' kc nc, Qc v h' kc nc → kc ≤ rm.cells → nc ≤ rm.slots → o_Go κ Q h' (k + kc) (n + nc) (pc + 3) Ls (v.toList ++ rest)) : o_Go κ Q h k n pc Ls (v3 :: v2 :: v1 :: v0 :: .ref a :: rest) := o_callN B W hd hin w1 w2 w3 w4 hy pd (as := [v0, v1, v2, v3]) hlen hW hf hl hc hs hLs C K
theorem o_callV4 (B : o_BE κ l Z n0 R y bytes ml ret Ef fin) {yc : MethodName} {Cn : String} {bc : ByteArray} {mc : Nat} {rc : Option FieldType} {rm : Room} {v0 v1 v2 v3 : Value} {rest : List Value} {a : Addr} {Qc : Option Value → Heap → Nat → Nat → Prop} {idx : Nat} (W : Nat) (hd : decode bytes pc = .ok (.invokevirtual idx, 3)) (w1 : (Cond.methodLink y.cls idx yc).before a0 Z = true) (w2 : (Cond.declares yc).before a0 Z = true) (w5 : (Cond.selects Cn yc yc).before a0 Z = true) (w6 : (Cond.instanceMethod yc).before a0 Z = true) (w3 : (Cond.initialized yc.cls).before a0 Z = true) (w4 : (Cond.code yc bc mc rc).before a0 Z = true) (hy : yc.cls ≠ "java/lang/invoke/MethodHandle" ∧ yc.cls ≠ "java/lang/invoke/VarHandle") {ps : List FieldType} {r0 : Option FieldType} (pd : parseMethodDescriptor yc.desc = some ⟨ps, r0⟩) (hlen : 4 = ps.length) (hW : 2 * Ef.2 + (rest.map fun v => v.category).sum ≤ W) (hf : rm.frames + 1 ≤ R.frames) (hl : W + (mc + 11) + rm.locals ≤ R.locals) (hc : k + rm.cells ≤ R.cells) (hs : n + rm.slots ≤ R.slots) (hLs : Ls.length = ml) (E : Exa Z h a Cn) (C : o_C l Z n0 yc bc mc rc rm (.ref a :: [v0, v1, v2, v3]) h Qc) (K : ∀ v h' kc nc, Qc v h' kc nc → kc ≤ rm.cells → nc ≤ rm.slots → o_Go κ Q h' (k + kc) (n + nc) (pc + 3) Ls (v.toList ++ rest)) : o_Go κ Q h k n pc Ls (v3 :: v2 :: v1 :: v0 :: .ref a :: rest) := o_callV B W hd w1 w2 w5 w6 w3 w4 hy pd (as := [v0, v1, v2, v3]) hlen hW hf hl hc hs hLs E C K
theorem o_callS5 (B : o_BE κ l Z n0 R y bytes ml ret Ef fin) {yc : MethodName} {bc : ByteArray} {mc : Nat} {rc : Option FieldType} {rm : Room} {v0 v1 v2 v3 v4 : Value} {rest : List Value} {Qc : Option Value → Heap → Nat → Nat → Prop} {idx : Nat} (W : Nat) (hd : decode bytes pc = .ok (.invokestatic idx, 3)) (w1 : (Cond.methodLink y.cls idx yc).before a0 Z = true) (w2 : (Cond.static yc).before a0 Z = true) (w3 : (Cond.initialized yc.cls).before a0 Z = true) (w4 : (Cond.code yc bc mc rc).before a0 Z = true) (hy : yc.cls ≠ "java/lang/invoke/MethodHandle" ∧ yc.cls ≠ "java/lang/invoke/VarHandle") {ps : List FieldType} {r0 : Option FieldType} (pd : parseMethodDescriptor yc.desc = some ⟨ps, r0⟩) (hlen : 5 = ps.length) (hW : 2 * Ef.2 + (rest.map fun v => v.category).sum ≤ W) (hf : rm.frames + 1 ≤ R.frames) (hl : W + (mc + 11) + rm.locals ≤ R.locals) (hc : k + rm.cells ≤ R.cells) (hs : n + rm.slots ≤ R.slots) (hLs : Ls.length = ml) (C : o_C l Z n0 yc bc mc rc rm [v0, v1, v2, v3, v4] h Qc) (K : ∀ v h' kc nc, Qc v h' kc nc → kc ≤ rm.cells → nc ≤ rm.slots → o_Go κ Q h' (k + kc) (n + nc) (pc + 3) Ls (v.toList ++ rest)) : o_Go κ Q h k n pc Ls (v4 :: v3 :: v2 :: v1 :: v0 :: rest) := o_callS B W hd w1 w2 w3 w4 hy pd (as := [v0, v1, v2, v3, v4]) hlen hW hf hl hc hs hLs C K
theorem o_callN5 (B : o_BE κ l Z n0 R y bytes ml ret Ef fin) {yc : MethodName} {bc : ByteArray} {mc : Nat} {rm : Room} {v0 v1 v2 v3 v4 : Value} {rest : List Value} {a : Addr} {Qc : Option Value → Heap → Nat → Nat → Prop} {idx : Nat} (W : Nat) (hd : decode bytes pc = .ok (.invokespecial idx, 3)) (hin : yc.name = "<init>") (w1 : (Cond.methodLink y.cls idx yc).before a0 Z = true) (w2 : (Cond.instanceMethod yc).before a0 Z = true) (w3 : (Cond.initialized yc.cls).before a0 Z = true) (w4 : (Cond.code yc bc mc none).before a0 Z = true) (hy : yc.cls ≠ "java/lang/invoke/MethodHandle" ∧ yc.cls ≠ "java/lang/invoke/VarHandle") {ps : List FieldType} {r0 : Option FieldType} (pd : parseMethodDescriptor yc.desc = some ⟨ps, r0⟩) (hlen : 5 = ps.length) (hW : 2 * Ef.2 + (rest.map fun v => v.category).sum ≤ W) (hf : rm.frames + 1 ≤ R.frames) (hl : W + (mc + 11) + rm.locals ≤ R.locals) (hc : k + rm.cells ≤ R.cells) (hs : n + rm.slots ≤ R.slots) (hLs : Ls.length = ml) (C : o_C l Z n0 yc bc mc none rm (.ref a :: [v0, v1, v2, v3, v4]) h Qc) (K : ∀ v h' kc nc, Qc v h' kc nc → kc ≤ rm.cells → nc ≤ rm.slots → o_Go κ Q h' (k + kc) (n + nc) (pc + 3) Ls (v.toList ++ rest)) : o_Go κ Q h k n pc Ls (v4 :: v3 :: v2 :: v1 :: v0 :: .ref a :: rest) := o_callN B W hd hin w1 w2 w3 w4 hy pd (as := [v0, v1, v2, v3, v4]) hlen hW hf hl hc hs hLs C K
theorem o_callV5 (B : o_BE κ l Z n0 R y bytes ml ret Ef fin) {yc : MethodName} {Cn : String} {bc : ByteArray} {mc : Nat} {rc : Option FieldType} {rm : Room} {v0 v1 v2 v3 v4 : Value} {rest : List Value} {a : Addr} {Qc : Option Value → Heap → Nat → Nat → Prop} {idx : Nat} (W : Nat) (hd : decode bytes pc = .ok (.invokevirtual idx, 3)) (w1 : (Cond.methodLink y.cls idx yc).before a0 Z = true) (w2 : (Cond.declares yc).before a0 Z = true) (w5 : (Cond.selects Cn yc yc).before a0 Z = true) (w6 : (Cond.instanceMethod yc).before a0 Z = true) (w3 : (Cond.initialized yc.cls).before a0 Z = true) (w4 : (Cond.code yc bc mc rc).before a0 Z = true) (hy : yc.cls ≠ "java/lang/invoke/MethodHandle" ∧ yc.cls ≠ "java/lang/invoke/VarHandle") {ps : List FieldType} {r0 : Option FieldType} (pd : parseMethodDescriptor yc.desc = some ⟨ps, r0⟩) (hlen : 5 = ps.length) (hW : 2 * Ef.2 + (rest.map fun v => v.category).sum ≤ W) (hf : rm.frames + 1 ≤ R.frames) (hl : W + (mc + 11) + rm.locals ≤ R.locals) (hc : k + rm.cells ≤ R.cells) (hs : n + rm.slots ≤ R.slots) (hLs : Ls.length = ml) (E : Exa Z h a Cn) (C : o_C l Z n0 yc bc mc rc rm (.ref a :: [v0, v1, v2, v3, v4]) h Qc) (K : ∀ v h' kc nc, Qc v h' kc nc → kc ≤ rm.cells → nc ≤ rm.slots → o_Go κ Q h' (k + kc) (n + nc) (pc + 3) Ls (v.toList ++ rest)) : o_Go κ Q h k n pc Ls (v4 :: v3 :: v2 :: v1 :: v0 :: .ref a :: rest) := o_callV B W hd w1 w2 w5 w6 w3 w4 hy pd (as := [v0, v1, v2, v3, v4]) hlen hW hf hl hc hs hLs E C K
theorem o_callS6 (B : o_BE κ l Z n0 R y bytes ml ret Ef fin) {yc : MethodName} {bc : ByteArray} {mc : Nat} {rc : Option FieldType} {rm : Room} {v0 v1 v2 v3 v4 v5 : Value} {rest : List Value} {Qc : Option Value → Heap → Nat → Nat → Prop} {idx : Nat} (W : Nat) (hd : decode bytes pc = .ok (.invokestatic idx, 3)) (w1 : (Cond.methodLink y.cls idx yc).before a0 Z = true) (w2 : (Cond.static yc).before a0 Z = true) (w3 : (Cond.initialized yc.cls).before a0 Z = true) (w4 : (Cond.code yc bc mc rc).before a0 Z = true) (hy : yc.cls ≠ "java/lang/invoke/MethodHandle" ∧ yc.cls ≠ "java/lang/invoke/VarHandle") {ps : List FieldType} {r0 : Option FieldType} (pd : parseMethodDescriptor yc.desc = some ⟨ps, r0⟩) (hlen : 6 = ps.length) (hW : 2 * Ef.2 + (rest.map fun v => v.category).sum ≤ W) (hf : rm.frames + 1 ≤ R.frames) (hl : W + (mc + 11) + rm.locals ≤ R.locals) (hc : k + rm.cells ≤ R.cells) (hs : n + rm.slots ≤ R.slots) (hLs : Ls.length = ml) (C : o_C l Z n0 yc bc mc rc rm [v0, v1, v2, v3, v4, v5] h Qc) (K : ∀ v h' kc nc, Qc v h' kc nc → kc ≤ rm.cells → nc ≤ rm.slots → o_Go κ Q h' (k + kc) (n + nc) (pc + 3) Ls (v.toList ++ rest)) : o_Go κ Q h k n pc Ls (v5 :: v4 :: v3 :: v2 :: v1 :: v0 :: rest) := o_callS B W hd w1 w2 w3 w4 hy pd (as := [v0, v1, v2, v3, v4, v5]) hlen hW hf hl hc hs hLs C K
theorem o_callN6 (B : o_BE κ l Z n0 R y bytes ml ret Ef fin) {yc : MethodName} {bc : ByteArray} {mc : Nat} {rm : Room} {v0 v1 v2 v3 v4 v5 : Value} {rest : List Value} {a : Addr} {Qc : Option Value → Heap → Nat → Nat → Prop} {idx : Nat} (W : Nat) (hd : decode bytes pc = .ok (.invokespecial idx, 3)) (hin : yc.name = "<init>") (w1 : (Cond.methodLink y.cls idx yc).before a0 Z = true) (w2 : (Cond.instanceMethod yc).before a0 Z = true) (w3 : (Cond.initialized yc.cls).before a0 Z = true) (w4 : (Cond.code yc bc mc none).before a0 Z = true) (hy : yc.cls ≠ "java/lang/invoke/MethodHandle" ∧ yc.cls ≠ "java/lang/invoke/VarHandle") {ps : List FieldType} {r0 : Option FieldType} (pd : parseMethodDescriptor yc.desc = some ⟨ps, r0⟩) (hlen : 6 = ps.length) (hW : 2 * Ef.2 + (rest.map fun v => v.category).sum ≤ W) (hf : rm.frames + 1 ≤ R.frames) (hl : W + (mc + 11) + rm.locals ≤ R.locals) (hc : k + rm.cells ≤ R.cells) (hs : n + rm.slots ≤ R.slots) (hLs : Ls.length = ml) (C : o_C l Z n0 yc bc mc none rm (.ref a :: [v0, v1, v2, v3, v4, v5]) h Qc) (K : ∀ v h' kc nc, Qc v h' kc nc → kc ≤ rm.cells → nc ≤ rm.slots → o_Go κ Q h' (k + kc) (n + nc) (pc + 3) Ls (v.toList ++ rest)) : o_Go κ Q h k n pc Ls (v5 :: v4 :: v3 :: v2 :: v1 :: v0 :: .ref a :: rest) := o_callN B W hd hin w1 w2 w3 w4 hy pd (as := [v0, v1, v2, v3, v4, v5]) hlen hW hf hl hc hs hLs C K
theorem o_callV6 (B : o_BE κ l Z n0 R y bytes ml ret Ef fin) {yc : MethodName} {Cn : String} {bc : ByteArray} {mc : Nat} {rc : Option FieldType} {rm : Room} {v0 v1 v2 v3 v4 v5 : Value} {rest : List Value} {a : Addr} {Qc : Option Value → Heap → Nat → Nat → Prop} {idx : Nat} (W : Nat) (hd : decode bytes pc = .ok (.invokevirtual idx, 3)) (w1 : (Cond.methodLink y.cls idx yc).before a0 Z = true) (w2 : (Cond.declares yc).before a0 Z = true) (w5 : (Cond.selects Cn yc yc).before a0 Z = true) (w6 : (Cond.instanceMethod yc).before a0 Z = true) (w3 : (Cond.initialized yc.cls).before a0 Z = true) (w4 : (Cond.code yc bc mc rc).before a0 Z = true) (hy : yc.cls ≠ "java/lang/invoke/MethodHandle" ∧ yc.cls ≠ "java/lang/invoke/VarHandle") {ps : List FieldType} {r0 : Option FieldType} (pd : parseMethodDescriptor yc.desc = some ⟨ps, r0⟩) (hlen : 6 = ps.length) (hW : 2 * Ef.2 + (rest.map fun v => v.category).sum ≤ W) (hf : rm.frames + 1 ≤ R.frames) (hl : W + (mc + 11) + rm.locals ≤ R.locals) (hc : k + rm.cells ≤ R.cells) (hs : n + rm.slots ≤ R.slots) (hLs : Ls.length = ml) (E : Exa Z h a Cn) (C : o_C l Z n0 yc bc mc rc rm (.ref a :: [v0, v1, v2, v3, v4, v5]) h Qc) (K : ∀ v h' kc nc, Qc v h' kc nc → kc ≤ rm.cells → nc ≤ rm.slots → o_Go κ Q h' (k + kc) (n + nc) (pc + 3) Ls (v.toList ++ rest)) : o_Go κ Q h k n pc Ls (v5 :: v4 :: v3 :: v2 :: v1 :: v0 :: .ref a :: rest) := o_callV B W hd w1 w2 w5 w6 w3 w4 hy pd (as := [v0, v1, v2, v3, v4, v5]) hlen hW hf hl hc hs hLs E C K
theorem o_callS7 (B : o_BE κ l Z n0 R y bytes ml ret Ef fin) {yc : MethodName} {bc : ByteArray} {mc : Nat} {rc : Option FieldType} {rm : Room} {v0 v1 v2 v3 v4 v5 v6 : Value} {rest : List Value} {Qc : Option Value → Heap → Nat → Nat → Prop} {idx : Nat} (W : Nat) (hd : decode bytes pc = .ok (.invokestatic idx, 3)) (w1 : (Cond.methodLink y.cls idx yc).before a0 Z = true) (w2 : (Cond.static yc).before a0 Z = true) (w3 : (Cond.initialized yc.cls).before a0 Z = true) (w4 : (Cond.code yc bc mc rc).before a0 Z = true) (hy : yc.cls ≠ "java/lang/invoke/MethodHandle" ∧ yc.cls ≠ "java/lang/invoke/VarHandle") {ps : List FieldType} {r0 : Option FieldType} (pd : parseMethodDescriptor yc.desc = some ⟨ps, r0⟩) (hlen : 7 = ps.length) (hW : 2 * Ef.2 + (rest.map fun v => v.category).sum ≤ W) (hf : rm.frames + 1 ≤ R.frames) (hl : W + (mc + 11) + rm.locals ≤ R.locals) (hc : k + rm.cells ≤ R.cells) (hs : n + rm.slots ≤ R.slots) (hLs : Ls.length = ml) (C : o_C l Z n0 yc bc mc rc rm [v0, v1, v2, v3, v4, v5, v6] h Qc) (K : ∀ v h' kc nc, Qc v h' kc nc → kc ≤ rm.cells → nc ≤ rm.slots → o_Go κ Q h' (k + kc) (n + nc) (pc + 3) Ls (v.toList ++ rest)) : o_Go κ Q h k n pc Ls (v6 :: v5 :: v4 :: v3 :: v2 :: v1 :: v0 :: rest) := o_callS B W hd w1 w2 w3 w4 hy pd (as := [v0, v1, v2, v3, v4, v5, v6]) hlen hW hf hl hc hs hLs C K
theorem o_callN7 (B : o_BE κ l Z n0 R y bytes ml ret Ef fin) {yc : MethodName} {bc : ByteArray} {mc : Nat} {rm : Room} {v0 v1 v2 v3 v4 v5 v6 : Value} {rest : List Value} {a : Addr} {Qc : Option Value → Heap → Nat → Nat → Prop} {idx : Nat} (W : Nat) (hd : decode bytes pc = .ok (.invokespecial idx, 3)) (hin : yc.name = "<init>") (w1 : (Cond.methodLink y.cls idx yc).before a0 Z = true) (w2 : (Cond.instanceMethod yc).before a0 Z = true) (w3 : (Cond.initialized yc.cls).before a0 Z = true) (w4 : (Cond.code yc bc mc none).before a0 Z = true) (hy : yc.cls ≠ "java/lang/invoke/MethodHandle" ∧ yc.cls ≠ "java/lang/invoke/VarHandle") {ps : List FieldType} {r0 : Option FieldType} (pd : parseMethodDescriptor yc.desc = some ⟨ps, r0⟩) (hlen : 7 = ps.length) (hW : 2 * Ef.2 + (rest.map fun v => v.category).sum ≤ W) (hf : rm.frames + 1 ≤ R.frames) (hl : W + (mc + 11) + rm.locals ≤ R.locals) (hc : k + rm.cells ≤ R.cells) (hs : n + rm.slots ≤ R.slots) (hLs : Ls.length = ml) (C : o_C l Z n0 yc bc mc none rm (.ref a :: [v0, v1, v2, v3, v4, v5, v6]) h Qc) (K : ∀ v h' kc nc, Qc v h' kc nc → kc ≤ rm.cells → nc ≤ rm.slots → o_Go κ Q h' (k + kc) (n + nc) (pc + 3) Ls (v.toList ++ rest)) : o_Go κ Q h k n pc Ls (v6 :: v5 :: v4 :: v3 :: v2 :: v1 :: v0 :: .ref a :: rest) := o_callN B W hd hin w1 w2 w3 w4 hy pd (as := [v0, v1, v2, v3, v4, v5, v6]) hlen hW hf hl hc hs hLs C K
theorem o_callV7 (B : o_BE κ l Z n0 R y bytes ml ret Ef fin) {yc : MethodName} {Cn : String} {bc : ByteArray} {mc : Nat} {rc : Option FieldType} {rm : Room} {v0 v1 v2 v3 v4 v5 v6 : Value} {rest : List Value} {a : Addr} {Qc : Option Value → Heap → Nat → Nat → Prop} {idx : Nat} (W : Nat) (hd : decode bytes pc = .ok (.invokevirtual idx, 3)) (w1 : (Cond.methodLink y.cls idx yc).before a0 Z = true) (w2 : (Cond.declares yc).before a0 Z = true) (w5 : (Cond.selects Cn yc yc).before a0 Z = true) (w6 : (Cond.instanceMethod yc).before a0 Z = true) (w3 : (Cond.initialized yc.cls).before a0 Z = true) (w4 : (Cond.code yc bc mc rc).before a0 Z = true) (hy : yc.cls ≠ "java/lang/invoke/MethodHandle" ∧ yc.cls ≠ "java/lang/invoke/VarHandle") {ps : List FieldType} {r0 : Option FieldType} (pd : parseMethodDescriptor yc.desc = some ⟨ps, r0⟩) (hlen : 7 = ps.length) (hW : 2 * Ef.2 + (rest.map fun v => v.category).sum ≤ W) (hf : rm.frames + 1 ≤ R.frames) (hl : W + (mc + 11) + rm.locals ≤ R.locals) (hc : k + rm.cells ≤ R.cells) (hs : n + rm.slots ≤ R.slots) (hLs : Ls.length = ml) (E : Exa Z h a Cn) (C : o_C l Z n0 yc bc mc rc rm (.ref a :: [v0, v1, v2, v3, v4, v5, v6]) h Qc) (K : ∀ v h' kc nc, Qc v h' kc nc → kc ≤ rm.cells → nc ≤ rm.slots → o_Go κ Q h' (k + kc) (n + nc) (pc + 3) Ls (v.toList ++ rest)) : o_Go κ Q h k n pc Ls (v6 :: v5 :: v4 :: v3 :: v2 :: v1 :: v0 :: .ref a :: rest) := o_callV B W hd w1 w2 w5 w6 w3 w4 hy pd (as := [v0, v1, v2, v3, v4, v5, v6]) hlen hW hf hl hc hs hLs E C K
theorem o_cast (B : o_BE κ l Z n0 R y bytes ml ret Ef fin) {Kc : String} {idx : Nat} {a : Addr} (hd : decode bytes pc = .ok (.checkcast idx, 3)) (w : (Cond.classLink y.cls idx Kc).before a0 Z = true) (F : Ins Z h a Kc true) (K : o_Go κ Q h k n (pc + 3) Ls (.ref a :: St)) : o_Go κ Q h k n pc Ls (.ref a :: St) := by
  obtain ⟨p, e, s, m, args, below, meth, c, s0, rfl, hs0, hx, hZ, hby, hml, hown, hret, hlk, hnm⟩ := B
  intro T locs X N eT
  obtain ⟨T', X', e', st'⟩ := castY X hx hZ hown w eT F (g := o_F Ef m pc Ls.toArray (.ref a :: St)) rfl rfl (hb hby hd)
  obtain ⟨s₂, o, st, r⟩ := K T' locs X' N e'
  exact ⟨s₂, o, st' _ st, r⟩
/-- the heap's size at the invocation -/
def o_sz (κ : o_K) : Nat := match κ with
  | (p, l, e, R, s, m, args, below, meth, c, Z, n0, s0, Ef) => s.heap.size
theorem o_bound (B : o_BE κ l Z n0 R y bytes ml ret Ef fin) (H : h.size ≤ o_sz κ + k → o_Go κ Q h k n pc Ls St) : o_Go κ Q h k n pc Ls St := by
  obtain ⟨p, e, s, m, args, below, meth, c, s0, rfl, hs0, hx, hZ, hby, hml, hown, hret, hlk, hnm⟩ := B
  intro T locs X N eT
  exact H (by rw [← eT]; exact X.same.2.2.1) T locs X N eT
theorem o_bodyZ {rm : Room} {as : List Value} (hpn : plainFor y = true) (hef : argsToLocals as.toArray ml = Ls.toArray) (H : ∀ κ, o_Bo κ l Z n0 rm y bytes ml ret → o_sz κ = h.size → o_Go κ Q h 0 0 0 Ls []) : o_C l Z n0 y bytes ml ret rm as h Q := by
  intro ws
  refine MetFree.of_bodySF hpn hisR ?_
  intro p e s m args below meth c s₁ Bd hml0 hP hK
  obtain ⟨rfl, hZ, hh⟩ := hP
  have X0 : Stand p l e rm s m as.toArray below meth c s₁ [] 0 0 := Stand.of_body Bd
  have e0 : s₁.heap = h := by rw [← hh, Bd.state]; rfl
  have hown := findClass_of_methodNamed Bd.named
  have hnm := (name_of_methodNamed Bd.named Bd.method).1
  obtain ⟨s₂, o, st, r1, r2, v, L, kc, nc, rfl, ⟨q, N⟩, hkn, fe⟩ := H (p, l, e, rm, s, m, as.toArray, below, meth, c, Z, n0, s, ([], 0)) ⟨p, e, s, m, _, below, meth, c, s, rfl, fun _ => rfl, Bd.exec, hZ, Bd.bytes, hml0, hown, Bd.returns, Bd.notSynchronized, hnm⟩ (show s.heap.size = h.size by rw [hh]) s₁ [] X0 (Fr.nil _) e0
  refine ⟨s₂, _, ?_, r1, r2, v, L, kc, nc, rfl, ⟨q, N⟩, hkn, fe⟩
  exact castTop (g' := mkF m 0 Ls.toArray []) (by unfold entryFrame; rw [hef]) st
/-- a field by an entry that stands resolved -/
theorem o_getR (B : o_BE κ l Z n0 R y bytes ml ret Ef fin) {O nm d : String} {idx : Nat} {a : Addr} {v : Value} (hd : decode bytes pc = .ok (.getfield idx, 3)) (w : (Cond.fieldRef y.cls idx O nm d).before a0 Z = true) (F : Fld Z h a O nm d v) (K : o_Go κ Q h k n (pc + 3) Ls (v :: St)) : o_Go κ Q h k n pc Ls (.ref a :: St) := by
  obtain ⟨p, e, s, m, args, below, meth, c, s0, rfl, hs0, hx, hZ, hby, hml, hown, hret, hlk, hnm⟩ := B
  intro T locs X N eT
  have hT : Z.Warmed39 T.vm := wtrans hZ X.warmed
  have w' := Cond.fieldRef_warmed39 hT w
  have hcur : (Z.setVm T.vm).vm.findClass y.cls = some m.cls := by
    rw [show (Z.setVm T.vm).vm = T.vm from rfl, X.warmed.alike.findClass]; exact hown
  obtain ⟨cf', k', i', f', hi', hready⟩ := Cond.fieldRef_spec hcur w'
  obtain ⟨cell, cf, k0, i0, f, h1, h2, h3, h4, -, -, h7⟩ := F
  obtain ⟨k2, hi, -⟩ := State.fieldFound?_setVm (s := Z) hT.alike h2
  cases hi.symm.trans hi'
  obtain ⟨s₂, o, st, r⟩ := K T locs X N eT
  refine ⟨s₂, o, ?_, r⟩
  have hdg : decode c.code (o_F Ef m pc Ls.toArray (.ref a :: St)).pc = .ok (.getfield idx, 3) := hb hby hd
  show Steps p.tables e below (T.setTop (o_F Ef m pc Ls.toArray (.ref a :: St))) s₂
  jvm_step X.here [hx, hdg, getfield.wp_ready (e := e) (s := T) (f := o_F Ef m pc Ls.toArray (.ref a :: St)) X.here.top hready h3 rfl (show T.heap[a]? = some cell by rw [eT]; exact h1) h4 h7]
  exact st
/-- a field of a nest mate -/
theorem o_getN (B : o_BE κ l Z n0 R y bytes ml ret Ef fin) {O nm d host : String} {idx : Nat} {a : Addr} {v : Value} (hd : decode bytes pc = .ok (.getfield idx, 3)) (w : (Cond.fieldLinkNest y.cls idx O nm d host).before a0 Z = true) (F : Fld Z h a O nm d v) (K : o_Go κ Q h k n (pc + 3) Ls (v :: St)) : o_Go κ Q h k n pc Ls (.ref a :: St) := by
  obtain ⟨p, e, s, m, args, below, meth, c, s0, rfl, hs0, hx, hZ, hby, hml, hown, hret, hlk, hnm⟩ := B
  intro T locs X N eT
  obtain ⟨T', X', e', st'⟩ := getF X hx hZ hown (host := host) (Or.inr w) Via.refl eT F (g := o_F Ef m pc Ls.toArray (.ref a :: St)) rfl rfl (hb hby hd)
  obtain ⟨s₂, o, st, r⟩ := K T' locs X' N e'
  exact ⟨s₂, o, st' _ st, r⟩
theorem o_pop2L (B : o_BE κ l Z n0 R y bytes ml ret Ef fin) {x : Int64} (hd : decode bytes pc = .ok (.pop2, 1)) (K : o_Go κ Q h k n (pc + 1) Ls St) : o_Go κ Q h k n pc Ls (.long x :: St) := o_sim B (fun p e m below c T target X hx hby st => by
  have hdg : decode c.code (o_F Ef m pc Ls.toArray (.long x :: St)).pc = .ok (.pop2, 1) := hb hby hd
  jvm_step X [X.top, hx, hdg, Value.category]
  exact st) K
/-- a constructor by an entry that stands resolved -/
theorem o_callR (B : o_BE κ l Z n0 R y bytes ml ret Ef fin) {yc : MethodName} {bc : ByteArray} {mc : Nat} {rm : Room} {as rest : List Value} {a : Addr} {Qc : Option Value → Heap → Nat → Nat → Prop} {idx : Nat} (W : Nat) (hd : decode bytes pc = .ok (.invokespecial idx, 3)) (hin : yc.name = "<init>")
    (w1 : (Cond.methodRef y.cls idx yc).before a0 Z = true) (w2 : (Cond.instanceMethod yc).before a0 Z = true) (w3 : (Cond.initialized yc.cls).before a0 Z = true) (w4 : (Cond.code yc bc mc none).before a0 Z = true) (hy : yc.cls ≠ "java/lang/invoke/MethodHandle" ∧ yc.cls ≠ "java/lang/invoke/VarHandle") {ps : List FieldType} {r0 : Option FieldType} (pd : parseMethodDescriptor yc.desc = some ⟨ps, r0⟩) (hlen : as.length = ps.length)
    (hW : 2 * Ef.2 + (rest.map fun v => v.category).sum ≤ W) (hf : rm.frames + 1 ≤ R.frames) (hl : W + (mc + 11) + rm.locals ≤ R.locals) (hc : k + rm.cells ≤ R.cells) (hs : n + rm.slots ≤ R.slots) (hLs : Ls.length = ml)
    (C : o_C l Z n0 yc bc mc none rm (.ref a :: as) h Qc) (K : ∀ v h' kc nc, Qc v h' kc nc → kc ≤ rm.cells → nc ≤ rm.slots → o_Go κ Q h' (k + kc) (n + nc) (pc + 3) Ls (v.toList ++ rest)) : o_Go κ Q h k n pc Ls (as.reverse ++ .ref a :: rest) := by
  obtain ⟨p, e, s, m, args, below, meth, c, s0, rfl, hs0, hx, hZ, hby, hml, hown, hret, hlk, hnm⟩ := B
  intro T locs X N eT
  have hT : Z.Warmed39 T.vm := wtrans hZ X.warmed
  obtain ⟨mk, methM, hnamed, hmethM, hstM, habM⟩ := Cond.instanceMethod_spec w2
  have w1' := Cond.methodRef_warmed39 hT hnamed hy w1
  have hcur : (Z.setVm T.vm).vm.findClass y.cls = some m.cls := by
    rw [show (Z.setVm T.vm).vm = T.vm from rfl, X.warmed.alike.findClass]; exact hown
  have hnamedT : (Z.setVm T.vm).methodNamed? yc = some mk := by rw [State.methodNamed?_setVm hT.alike]; exact hnamed
  have hmethT : (Z.setVm T.vm).vm.method? mk = some methM := by rw [show (Z.setVm T.vm).vm = T.vm from rfl, hT.alike.method?]; exact hmethM
  obtain ⟨m', c', hfm, hready, hfc, hnr⟩ := Cond.methodRef_named e hcur w1'
  cases hfm.symm.trans (State.methodFound?_of_named hnamedT hy)
  cases hfc.symm.trans (findClass_of_methodNamed hnamedT)
  obtain ⟨kO, hkO, hnO⟩ := className_of_methodNamed hnamedT
  obtain ⟨hnm1, hds1⟩ := name_of_methodNamed hnamedT hmethT
  have hfound : lookupSpecial T.vm mk.cls "<init>" methM.desc = .method mk := by
    rw [hds1, ← hin]; exact lookupSpecial_of_named (s := Z.setVm T.vm) hnamedT hmethT hstM
  obtain ⟨methC, cC, hmC, -, -, -, -, -, -, hsigC⟩ := Cond.code_spec hnamed w4
  cases hmethM.symm.trans hmC
  have hln : as.length = methM.sig.parameters.length := by
    have q := Option.some.inj (pd.symm.trans hsigC); rw [← q]; exact hlen
  have hTn : T.methodNamed? yc = some mk := hnamedT
  obtain ⟨v, ⟨T', L', k', n'⟩, X', ⟨Lc, kc, nc, hQ, l', y', z', hkc, hnc⟩, hsteps⟩ := (o_backX (args := args) (W := W) (Q := fun v h L kc nc => Qc v h kc nc ∧ Fr n0 L) (C []) hZ w4 w3 hf hl) m meth c ⟨T, locs, k, n⟩ (o_F Ef m pc Ls.toArray rest) (.invokespecial idx) mk (.ref a :: as).toArray X rfl (by rw [hml, ← hLs]; simp) (hb hby hd) (by simpa using hW) hTn ⟨rfl, eT, hc, hs⟩
  dsimp only [Pt.U, Pt.locs, Pt.cells, Pt.slots] at X' l' y' z' hsteps hQ
  subst l' y' z'
  obtain ⟨hq, Nc⟩ := hQ
  obtain ⟨s₂, o, st, r⟩ := K v T'.heap kc nc hq hkc hnc T' _ X' (Fr.app N Nc) rfl
  refine ⟨s₂, o, ?_, r⟩
  have hdg : decode c.code (o_F Ef m pc Ls.toArray (as.reverse ++ .ref a :: rest)).pc = .ok (.invokespecial idx, 3) := hb hby hd
  show Steps p.tables e below (T.setTop (o_F Ef m pc Ls.toArray (as.reverse ++ .ref a :: rest))) s₂
  jvm_step X.here [hx, hdg, invokespecial.wp_init (e := e) (s := T) (k := kO) (meth := methM) (m := mk) (a := a) (args := as) (rest := rest) (f := o_F Ef m pc Ls.toArray (as.reverse ++ .ref a :: rest)) X.here.top hnr hready hkO hmethT (by rw [hnm1]; exact hin) hstM habM hfound hln rfl]
  intro acts
  rw [doInvoke_state]
  exact hsteps.trans st
/-- a private method by invokevirtual -/
theorem o_callP (B : o_BE κ l Z n0 R y bytes ml ret Ef fin) {yc : MethodName} {kk : Nat} {bc : ByteArray} {mc : Nat} {rc : Option FieldType} {rm : Room} {as rest : List Value} {a : Addr} {Qc : Option Value → Heap → Nat → Nat → Prop} {idx : Nat} (W : Nat) (hd : decode bytes pc = .ok (.invokevirtual idx, 3))
    (w1 : (Cond.methodLink y.cls idx yc).before a0 Z = true) (w2 : (Cond.instanceMethod yc).before a0 Z = true) (wp : (Cond.privateMethod yc).before a0 Z = true) (wi : (Cond.instantiable yc.cls kk).before a0 Z = true) (w3 : (Cond.initialized yc.cls).before a0 Z = true) (w4 : (Cond.code yc bc mc rc).before a0 Z = true) (hy : yc.cls ≠ "java/lang/invoke/MethodHandle" ∧ yc.cls ≠ "java/lang/invoke/VarHandle") {ps : List FieldType} {r0 : Option FieldType} (pd : parseMethodDescriptor yc.desc = some ⟨ps, r0⟩) (hlen : as.length = ps.length)
    (hW : 2 * Ef.2 + (rest.map fun v => v.category).sum ≤ W) (hf : rm.frames + 1 ≤ R.frames) (hl : W + (mc + 11) + rm.locals ≤ R.locals) (hc : k + rm.cells ≤ R.cells) (hs : n + rm.slots ≤ R.slots) (hLs : Ls.length = ml) {Cn : String} (E : Exa Z h a Cn)
    (C : o_C l Z n0 yc bc mc rc rm (.ref a :: as) h Qc) (K : ∀ v h' kc nc, Qc v h' kc nc → kc ≤ rm.cells → nc ≤ rm.slots → o_Go κ Q h' (k + kc) (n + nc) (pc + 3) Ls (v.toList ++ rest)) : o_Go κ Q h k n pc Ls (as.reverse ++ .ref a :: rest) := by
  obtain ⟨p, e, s, m, args, below, meth, c, s0, rfl, hs0, hx, hZ, hby, hml, hown, hret, hlk, hnm⟩ := B
  intro T locs X N eT
  obtain ⟨cl, hcl, hst⟩ := E.cell
  obtain ⟨ci, ki, q1, q2, q3, q4, -⟩ := Cond.instantiable_spec (mv (args := args) hZ wi)
  have hni : ki.isInterface = false := (Bool.or_eq_false_iff.mp q4).1
  have hpriv := Cond.privateMethod_at (mvP (args := args) hZ wp)
  have hinst : (Cond.instanceMethod yc).before args s = true := mvT hZ w2
  have hsel := selects_self_of_private q1 q2 hni hpriv hinst hy
  obtain ⟨v, vm1, ⟨T', L', k', n'⟩, -, X', ⟨Lc, kc, nc, hQ, l', y', z', hkc, hnc⟩, st'⟩ := X.privateBack hx (y := yc) hown (mvT hZ w1) hinst hsel hpriv (mvT hZ w4) hy (o_backX (W := W) (Q := fun v h L kc nc => Qc v h kc nc ∧ Fr n0 L) (C []) hZ w4 w3 hf hl) (g := o_F Ef m pc Ls.toArray (as.reverse ++ .ref a :: rest)) rfl (by rw [hml, ← hLs]; simp) (Steps.refl _) (show T.heap[a]? = some cl by rw [eT]; exact hcl) hst (argsL := as) (rest := rest) (lenOf pd hlen) rfl (by simpa using hW) (hb hby hd) (fun _ _ => ⟨rfl, eT, hc, hs⟩)
  dsimp only [Pt.U, Pt.locs, Pt.cells, Pt.slots] at X' l' y' z' st' hQ
  subst l' y' z'
  obtain ⟨hq, Nc⟩ := hQ
  obtain ⟨s₂, o, st, r⟩ := K v T'.heap kc nc hq hkc hnc T' _ X' (Fr.app N Nc) rfl
  exact ⟨s₂, o, st'.trans st, r⟩
/-- one cell's monitor is changed -/
def o_Mo (h h' : Heap) (a : Addr) : Prop := Mon h h' ∧ ∀ b, b ≠ a → h'[b]? = h[b]?
theorem o_Mo.keep {h' : Heap} {a : Addr} (M : o_Mo h h' a) : Keep h h' [a] := ⟨Nat.le_of_eq M.1.1.symm, fun x c q r => by rw [M.2 x (fun z => r (by simp [z]))]; exact q, fun x c q => by obtain ⟨mo, q'⟩ := M.1.2 x c q; exact ⟨_, q', rfl, rfl, rfl⟩⟩
/-- κ' : κ within the monitor of a -/
def o_Sub (κ κ' : o_K) (a : Addr) : Prop := ∃ (p : Program) (l : Launch) (e : Env) (R : Room) (s : State) (m : MethodId) (args : Array Value) (below : List Frame) (meth : Method) (c : Code) (Z : State) (n0 : Nat) (s0 : State) (Ef : List Addr × Nat) (cell : Cell),
  κ = (p, l, e, R, s, m, args, below, meth, c, Z, n0, s0, Ef) ∧ κ' = (p, l, e, R, s.setCell a (cell.withEntry s.cur), m, args, below, meth, c, Z, n0, s0, ([a], 1)) ∧ s.heap[a]? = some cell ∧ cell.monitor = {} ∧ cell.vm = .none
theorem o_enter (B : o_BE κ l Z n0 R y bytes ml ret ([], 0) fin) {a : Addr} (O : o_old κ a) (U : Unt h a) (hd : decode bytes pc = .ok (.monitorenter, 1)) (hcl : y.name ≠ "<clinit>") (hroom : 2 + (St.map fun v => v.category).sum ≤ R.locals) (hLs : Ls.length = ml)
    (K : ∀ κ' h', o_BE κ' l Z n0 R y bytes ml ret ([a], 1) false → o_Sub κ κ' a → o_Mo h h' a → o_Go κ' Q h' k n (pc + 1) Ls St) : o_Go κ Q h k n pc Ls (.ref a :: St) := by
  obtain ⟨p, e, s, m, args, below, meth, c, s0, rfl, hs0, hx, hZ, hby, hml, hown, hret, hlk, hnm⟩ := B
  intro T locs X N eT
  have O' : a < s.heap.size := O
  have hs : s.heap[a]? = some s.heap[a] := by simp [O']
  obtain ⟨cT, hT, e2, -⟩ := X.cellAt hs
  obtain ⟨cu, u1, u2, u3⟩ := U
  rw [← eT, hT] at u1
  cases u1
  have hmo : (s.heap[a]).monitor = {} := by rw [e2] at u3; exact u3
  have hvm : (s.heap[a]).vm = .none := by rw [e2] at u2; exact u2
  have hcur : T.cur = s.cur := X.cur_eq
  have hsy : meth.isSynchronized = false := by
    have q := hlk
    unfold Method.locks at q
    rw [hnm] at q
    simpa [hcl] using q
  obtain ⟨X', st'⟩ := X.monitorenterAt hx (g := o_F ([], 0) m pc Ls.toArray (.ref a :: St)) rfl (by rw [hml, ← hLs]; simp) rfl (hb hby hd) hs hT (Or.inl (by rw [u3])) hsy (by simpa using hroom)
  rw [hcur] at X' st'
  have hlt : a < T.heap.size := (Array.getElem?_eq_some_iff.mp hT).1
  obtain ⟨s₂, o, st, r⟩ := K (p, l, e, R, s.setCell a ((s.heap[a]).withEntry s.cur), m, args, below, meth, c, Z, n0, s0, ([a], 1)) (T.setCell a (cT.withEntry s.cur)).heap ⟨p, e, _, m, args, below, meth, c, s0, rfl, (fun q => by cases q), hx, hZ, hby, hml, hown, hret, hlk, hnm⟩ ⟨p, l, e, R, s, m, args, below, meth, c, Z, n0, s0, _, _, rfl, rfl, hs, hmo, hvm⟩
    ⟨by rw [← eT]; exact mon_set hT _, fun b hb => by rw [← eT]; exact State.heap_setCell_other (fun z => hb z.symm)⟩ (T.setCell a (cT.withEntry s.cur)) locs X' N rfl
  exact ⟨s₂, o, st' _ st, r⟩
theorem o_exit {κ' : o_K} {a : Addr} (S : o_Sub κ κ' a) (B : o_BE κ l Z n0 R y bytes ml ret ([], 0) fin) (hd : decode bytes pc = .ok (.monitorexit, 1))
    (K : ∀ κ'' h', o_BE κ'' l Z n0 R y bytes ml ret ([], 1) fin → o_Mo h h' a → Unt h' a → o_Go κ'' Q h' k n (pc + 1) Ls St) : o_Go κ' Q h k n pc Ls (.ref a :: St) := by
  obtain ⟨p, e, s, m, args, below, meth, c, s0, rfl, hs0, hx, hZ, hby, hml, hown, hret, hlk, hnm⟩ := B
  obtain ⟨p', l', e', R', s', m', args', below', meth', c', Z', n0', s0', Ef', cell, ek, rfl, hs, hmo, hvm⟩ := S
  cases ek
  intro T locs X N eT
  have hlt : a < s.heap.size := (Array.getElem?_eq_some_iff.mp hs).1
  have hs' : (s.setCell a (cell.withEntry s.cur)).heap[a]? = some (cell.withEntry s.cur) := by
    show (s.heap.setIfInBounds a (cell.withEntry s.cur))[a]? = _
    simp [hlt]
  obtain ⟨cT, hT, e2, -⟩ := X.cellAt hs'
  have hcur : T.cur = s.cur := X.cur_eq
  have hent : cell.enterable s.cur := Or.inl (by rw [hmo]; exact ⟨rfl, rfl⟩)
  have hmT : cT.monitor = (cell.withEntry s.cur).monitor := by rw [e2]
  have how : cT.monitor.owner = some T.cur := by rw [hmT, hcur]; rfl
  obtain ⟨X', st'⟩ := X.monitorexitAt hx (g := o_F ([a], 1) m pc Ls.toArray (.ref a :: St)) rfl (more := []) rfl (hb hby hd) hs hent hT how rfl
  have hltT : a < T.heap.size := (Array.getElem?_eq_some_iff.mp hT).1
  have hleft : cT.left = { cT with monitor := cell.monitor } := by
    have q := Cell.left_withSlots (cell.withEntry s.cur) cT.slots
    rw [← e2, Cell.left_withEntry' hent] at q
    rw [q, e2]; rfl
  obtain ⟨s₂, o, st, r⟩ := K (p, l, e, R, s, m, args, below, meth, c, Z, n0, s0, ([], 1)) (T.setCell a cT.left).heap ⟨p, e, s, m, args, below, meth, c, s0, rfl, hs0, hx, hZ, hby, hml, hown, hret, hlk, hnm⟩
    ⟨by rw [← eT, hleft]; exact mon_set hT _, fun b hb => by rw [← eT]; exact State.heap_setCell_other (fun z => hb z.symm)⟩ ⟨cT.left, by show (T.heap.setIfInBounds a _)[a]? = _; simp [hltT], by rw [hleft, e2]; exact hvm, by rw [hleft]; exact hmo⟩ (T.setCell a cT.left) locs X' N rfl
  exact ⟨s₂, o, st' _ st, r⟩
theorem o_lreturnE {mr : Nat} (B : o_BE κ l Z n0 R y bytes ml (some .long) ([], mr) true) {x : Int64} (hd : decode bytes pc = .ok (.lreturn, 1)) (hk : k ≤ R.cells) (hn : n ≤ R.slots) (q : Q (some (.long x)) h k n) : o_Go κ Q h k n pc Ls (.long x :: St) := by
  obtain ⟨p, e, s, m, args, below, meth, c, s0, rfl, hs0, hx, hZ, hby, hml, hown, hret, hlk, hnm⟩ := B
  cases hs0 rfl
  intro T locs X N eT
  obtain ⟨fs, hr, hrun, hended, hW, hsame⟩ := X.leave (v := some (.long x)) (fun hh => by rw [hret] at hh; cases hh) hlk
  refine ⟨T.setFrames fs, _, ?_, hrun, hended, _, _, k, n, rfl, ⟨?_, N⟩, ⟨hk, hn⟩, ⟨_, rfl⟩, hW, hsame⟩
  · have hdg : decode c.code pc = .ok (.lreturn, 1) := hb hby hd
    have hm' : T.vm.method? m = some meth := X.method'
    show Steps p.tables e below (T.setTop { method := m, pc := pc, locals := Ls.toArray, stack := .long x :: St, locked := none, entered := [], monitorRoom := mr }) _
    jvm_step X.here [X.here.top, hx, hdg, hm', hret, narrow]
    first | (intro acts; rw [hr _ acts rfl rfl rfl]) | rw [hr _ _ rfl rfl rfl]
    exact Steps.refl _
  · have e1 : (T.setFrames fs).heap = h := eT
    rw [e1]; exact q
/-- the contract of a method with an exception table -/
def o_CH (l : Launch) (Z : State) (n0 : Nat) (y : MethodName) (bytes : ByteArray) (ml : Nat) (ret : Option FieldType) (hs : List (Nat × Nat × Nat × Nat)) (rm : Room) (as : List Value) (h : Heap) (Q : Option Value → Heap → Nat → Nat → Prop) : Prop :=
  ∀ ws : List Jvm.Cond, MetFree l y (head1 (Jvm.Cond.codeWith y bytes ml ret hs :: ws) rm) (fun a U => a = as.toArray ∧ Z.Warmed39 U.vm ∧ U.heap = h) (fun _ _ _ _ _ => True) (fun _ U o U' => ∃ v L kc nc, o = .returned v ∧ (Q v U'.heap kc nc ∧ Fr n0 L) ∧ (kc ≤ rm.cells ∧ nc ≤ rm.slots) ∧ FrameEnd U o U' L kc nc)
theorem o_bodyH {hs : List (Nat × Nat × Nat × Nat)} {rm : Room} {as : List Value} (hpn : plainFor y = true) (hef : argsToLocals as.toArray ml = Ls.toArray) (H : ∀ κ, o_Bo κ l Z n0 rm y bytes ml ret → (∀ a, a < h.size → o_old κ a) → o_Go κ Q h 0 0 0 Ls []) : o_CH l Z n0 y bytes ml ret hs rm as h Q := by
  intro ws
  refine MetFree.of_bodySF hpn hisWith ?_
  intro p e s m args below meth c s₁ Bd hml0 hP hK
  obtain ⟨rfl, hZ, hh⟩ := hP
  have X0 : Stand p l e rm s m as.toArray below meth c s₁ [] 0 0 := Stand.of_body Bd
  have e0 : s₁.heap = h := by rw [← hh, Bd.state]; rfl
  have hown := findClass_of_methodNamed Bd.named
  have hnm := (name_of_methodNamed Bd.named Bd.method).1
  obtain ⟨s₂, o, st, r1, r2, v, L, kc, nc, rfl, ⟨q, N⟩, hkn, fe⟩ := H (p, l, e, rm, s, m, as.toArray, below, meth, c, Z, n0, s, ([], 0)) ⟨p, e, s, m, _, below, meth, c, s, rfl, fun _ => rfl, Bd.exec, hZ, Bd.bytes, hml0, hown, Bd.returns, Bd.notSynchronized, hnm⟩ (fun a ha => show a < s.heap.size by rw [hh]; exact ha) s₁ [] X0 (Fr.nil _) e0
  refine ⟨s₂, _, ?_, r1, r2, v, L, kc, nc, rfl, ⟨q, N⟩, hkn, fe⟩
  exact castTop (g' := mkF m 0 Ls.toArray []) (by unfold entryFrame; rw [hef]) st
theorem o_callVH (B : o_BE κ l Z n0 R y bytes ml ret Ef fin) {yc : MethodName} {Cn : String} {bc : ByteArray} {mc : Nat} {rc : Option FieldType} {hsd : List (Nat × Nat × Nat × Nat)} {rm : Room} {as rest : List Value} {a : Addr} {Qc : Option Value → Heap → Nat → Nat → Prop} {idx : Nat} (W : Nat) (hd : decode bytes pc = .ok (.invokevirtual idx, 3))
    (w1 : (Cond.methodLink y.cls idx yc).before a0 Z = true) (w2 : (Cond.declares yc).before a0 Z = true) (w5 : (Cond.selects Cn yc yc).before a0 Z = true) (w6 : (Cond.instanceMethod yc).before a0 Z = true) (w3 : (Cond.initialized yc.cls).before a0 Z = true) (w4 : (Cond.codeWith yc bc mc rc hsd).before a0 Z = true) (hy : yc.cls ≠ "java/lang/invoke/MethodHandle" ∧ yc.cls ≠ "java/lang/invoke/VarHandle") {ps : List FieldType} {r0 : Option FieldType} (pd : parseMethodDescriptor yc.desc = some ⟨ps, r0⟩) (hlen : as.length = ps.length)
    (hW : 2 * Ef.2 + (rest.map fun v => v.category).sum ≤ W) (hf : rm.frames + 1 ≤ R.frames) (hl : W + (mc + 11) + rm.locals ≤ R.locals) (hc : k + rm.cells ≤ R.cells) (hs : n + rm.slots ≤ R.slots) (hLs : Ls.length = ml) (E : Exa Z h a Cn)
    (C : o_CH l Z n0 yc bc mc rc hsd rm (.ref a :: as) h Qc) (K : ∀ v h' kc nc, Qc v h' kc nc → kc ≤ rm.cells → nc ≤ rm.slots → o_Go κ Q h' (k + kc) (n + nc) (pc + 3) Ls (v.toList ++ rest)) : o_Go κ Q h k n pc Ls (as.reverse ++ .ref a :: rest) := by
  obtain ⟨p, e, s, m, args, below, meth, c, s0, rfl, hs0, hx, hZ, hby, hml, hown, hret, hlk, hnm⟩ := B
  intro T locs X N eT
  obtain ⟨cq, kq, qa, qb, qc⟩ := isOf hZ eT E
  obtain ⟨v, vm1, ⟨T', L', k', n'⟩, -, X', ⟨Lc, kc, nc, hQ, l', y', z', hkc, hnc⟩, st'⟩ := X.virtualBack hx (y := yc) (z := yc) hown (mvT hZ w1) (mvT hZ w2) (notFace_of_selects (args := #[]) (mvT hZ w5)) (mvT hZ w5) (mvT hZ w6) hy (o_backXH (W := W) (Q := fun v h L kc nc => Qc v h kc nc ∧ Fr n0 L) (C []) hZ w4 w3 hf hl) qa qc (g := o_F Ef m pc Ls.toArray (as.reverse ++ .ref a :: rest)) rfl (by rw [hml, ← hLs]; simp) (Steps.refl _) (argsL := as) (rest := rest) (lenOf pd hlen) rfl (by simpa using hW) (hb hby hd) (fun _ _ => ⟨rfl, eT, hc, hs⟩)
  dsimp only [Pt.U, Pt.locs, Pt.cells, Pt.slots] at X' l' y' z' st' hQ
  subst l' y' z'
  obtain ⟨hq, Nc⟩ := hQ
  obtain ⟨s₂, o, st, r⟩ := K v T'.heap kc nc hq hkc hnc T' _ X' (Fr.app N Nc) rfl
  exact ⟨s₂, o, st'.trans st, r⟩
theorem o_callR0 (B : o_BE κ l Z n0 R y bytes ml ret Ef fin) {yc : MethodName} {bc : ByteArray} {mc : Nat} {rm : Room} {rest : List Value} {a : Addr} {Qc : Option Value → Heap → Nat → Nat → Prop} {idx : Nat} (W : Nat) (hd : decode bytes pc = .ok (.invokespecial idx, 3)) (hin : yc.name = "<init>")
    (w1 : (Cond.methodRef y.cls idx yc).before a0 Z = true) (w2 : (Cond.instanceMethod yc).before a0 Z = true) (w3 : (Cond.initialized yc.cls).before a0 Z = true) (w4 : (Cond.code yc bc mc none).before a0 Z = true) (hy : yc.cls ≠ "java/lang/invoke/MethodHandle" ∧ yc.cls ≠ "java/lang/invoke/VarHandle") {ps : List FieldType} {r0 : Option FieldType} (pd : parseMethodDescriptor yc.desc = some ⟨ps, r0⟩) (hlen : 0 = ps.length)
    (hW : 2 * Ef.2 + (rest.map fun v => v.category).sum ≤ W) (hf : rm.frames + 1 ≤ R.frames) (hl : W + (mc + 11) + rm.locals ≤ R.locals) (hc : k + rm.cells ≤ R.cells) (hs : n + rm.slots ≤ R.slots) (hLs : Ls.length = ml)
    (C : o_C l Z n0 yc bc mc none rm (.ref a :: []) h Qc) (K : ∀ v h' kc nc, Qc v h' kc nc → kc ≤ rm.cells → nc ≤ rm.slots → o_Go κ Q h' (k + kc) (n + nc) (pc + 3) Ls (v.toList ++ rest)) : o_Go κ Q h k n pc Ls (.ref a :: rest) := o_callR B W hd hin w1 w2 w3 w4 hy pd (as := []) hlen hW hf hl hc hs hLs C K
theorem o_callR1 (B : o_BE κ l Z n0 R y bytes ml ret Ef fin) {yc : MethodName} {bc : ByteArray} {mc : Nat} {rm : Room} {v0 : Value} {rest : List Value} {a : Addr} {Qc : Option Value → Heap → Nat → Nat → Prop} {idx : Nat} (W : Nat) (hd : decode bytes pc = .ok (.invokespecial idx, 3)) (hin : yc.name = "<init>")
    (w1 : (Cond.methodRef y.cls idx yc).before a0 Z = true) (w2 : (Cond.instanceMethod yc).before a0 Z = true) (w3 : (Cond.initialized yc.cls).before a0 Z = true) (w4 : (Cond.code yc bc mc none).before a0 Z = true) (hy : yc.cls ≠ "java/lang/invoke/MethodHandle" ∧ yc.cls ≠ "java/lang/invoke/VarHandle") {ps : List FieldType} {r0 : Option FieldType} (pd : parseMethodDescriptor yc.desc = some ⟨ps, r0⟩) (hlen : 1 = ps.length)
    (hW : 2 * Ef.2 + (rest.map fun v => v.category).sum ≤ W) (hf : rm.frames + 1 ≤ R.frames) (hl : W + (mc + 11) + rm.locals ≤ R.locals) (hc : k + rm.cells ≤ R.cells) (hs : n + rm.slots ≤ R.slots) (hLs : Ls.length = ml)
    (C : o_C l Z n0 yc bc mc none rm (.ref a :: [v0]) h Qc) (K : ∀ v h' kc nc, Qc v h' kc nc → kc ≤ rm.cells → nc ≤ rm.slots → o_Go κ Q h' (k + kc) (n + nc) (pc + 3) Ls (v.toList ++ rest)) : o_Go κ Q h k n pc Ls (v0 :: .ref a :: rest) := o_callR B W hd hin w1 w2 w3 w4 hy pd (as := [v0]) hlen hW hf hl hc hs hLs C K
theorem o_callR2 (B : o_BE κ l Z n0 R y bytes ml ret Ef fin) {yc : MethodName} {bc : ByteArray} {mc : Nat} {rm : Room} {v0 v1 : Value} {rest : List Value} {a : Addr} {Qc : Option Value → Heap → Nat → Nat → Prop} {idx : Nat} (W : Nat) (hd : decode bytes pc = .ok (.invokespecial idx, 3)) (hin : yc.name = "<init>")
    (w1 : (Cond.methodRef y.cls idx yc).before a0 Z = true) (w2 : (Cond.instanceMethod yc).before a0 Z = true) (w3 : (Cond.initialized yc.cls).before a0 Z = true) (w4 : (Cond.code yc bc mc none).before a0 Z = true) (hy : yc.cls ≠ "java/lang/invoke/MethodHandle" ∧ yc.cls ≠ "java/lang/invoke/VarHandle") {ps : List FieldType} {r0 : Option FieldType} (pd : parseMethodDescriptor yc.desc = some ⟨ps, r0⟩) (hlen : 2 = ps.length)
    (hW : 2 * Ef.2 + (rest.map fun v => v.category).sum ≤ W) (hf : rm.frames + 1 ≤ R.frames) (hl : W + (mc + 11) + rm.locals ≤ R.locals) (hc : k + rm.cells ≤ R.cells) (hs : n + rm.slots ≤ R.slots) (hLs : Ls.length = ml)
    (C : o_C l Z n0 yc bc mc none rm (.ref a :: [v0, v1]) h Qc) (K : ∀ v h' kc nc, Qc v h' kc nc → kc ≤ rm.cells → nc ≤ rm.slots → o_Go κ Q h' (k + kc) (n + nc) (pc + 3) Ls (v.toList ++ rest)) : o_Go κ Q h k n pc Ls (v1 :: v0 :: .ref a :: rest) := o_callR B W hd hin w1 w2 w3 w4 hy pd (as := [v0, v1]) hlen hW hf hl hc hs hLs C K
theorem o_callR3 (B : o_BE κ l Z n0 R y bytes ml ret Ef fin) {yc : MethodName} {bc : ByteArray} {mc : Nat} {rm : Room} {v0 v1 v2 : Value} {rest : List Value} {a : Addr} {Qc : Option Value → Heap → Nat → Nat → Prop} {idx : Nat} (W : Nat) (hd : decode bytes pc = .ok (.invokespecial idx, 3)) (hin : yc.name = "<init>")
    (w1 : (Cond.methodRef y.cls idx yc).before a0 Z = true) (w2 : (Cond.instanceMethod yc).before a0 Z = true) (w3 : (Cond.initialized yc.cls).before a0 Z = true) (w4 : (Cond.code yc bc mc none).before a0 Z = true) (hy : yc.cls ≠ "java/lang/invoke/MethodHandle" ∧ yc.cls ≠ "java/lang/invoke/VarHandle") {ps : List FieldType} {r0 : Option FieldType} (pd : parseMethodDescriptor yc.desc = some ⟨ps, r0⟩) (hlen : 3 = ps.length)
    (hW : 2 * Ef.2 + (rest.map fun v => v.category).sum ≤ W) (hf : rm.frames + 1 ≤ R.frames) (hl : W + (mc + 11) + rm.locals ≤ R.locals) (hc : k + rm.cells ≤ R.cells) (hs : n + rm.slots ≤ R.slots) (hLs : Ls.length = ml)
    (C : o_C l Z n0 yc bc mc none rm (.ref a :: [v0, v1, v2]) h Qc) (K : ∀ v h' kc nc, Qc v h' kc nc → kc ≤ rm.cells → nc ≤ rm.slots → o_Go κ Q h' (k + kc) (n + nc) (pc + 3) Ls (v.toList ++ rest)) : o_Go κ Q h k n pc Ls (v2 :: v1 :: v0 :: .ref a :: rest) := o_callR B W hd hin w1 w2 w3 w4 hy pd (as := [v0, v1, v2]) hlen hW hf hl hc hs hLs C K
theorem o_callP0 (B : o_BE κ l Z n0 R y bytes ml ret Ef fin) {yc : MethodName} {kk : Nat} {bc : ByteArray} {mc : Nat} {rc : Option FieldType} {rm : Room} {rest : List Value} {a : Addr} {Qc : Option Value → Heap → Nat → Nat → Prop} {idx : Nat} (W : Nat) (hd : decode bytes pc = .ok (.invokevirtual idx, 3))
    (w1 : (Cond.methodLink y.cls idx yc).before a0 Z = true) (w2 : (Cond.instanceMethod yc).before a0 Z = true) (wp : (Cond.privateMethod yc).before a0 Z = true) (wi : (Cond.instantiable yc.cls kk).before a0 Z = true) (w3 : (Cond.initialized yc.cls).before a0 Z = true) (w4 : (Cond.code yc bc mc rc).before a0 Z = true) (hy : yc.cls ≠ "java/lang/invoke/MethodHandle" ∧ yc.cls ≠ "java/lang/invoke/VarHandle") {ps : List FieldType} {r0 : Option FieldType} (pd : parseMethodDescriptor yc.desc = some ⟨ps, r0⟩) (hlen : 0 = ps.length)
    (hW : 2 * Ef.2 + (rest.map fun v => v.category).sum ≤ W) (hf : rm.frames + 1 ≤ R.frames) (hl : W + (mc + 11) + rm.locals ≤ R.locals) (hc : k + rm.cells ≤ R.cells) (hs : n + rm.slots ≤ R.slots) (hLs : Ls.length = ml) {Cn : String} (E : Exa Z h a Cn)
    (C : o_C l Z n0 yc bc mc rc rm (.ref a :: []) h Qc) (K : ∀ v h' kc nc, Qc v h' kc nc → kc ≤ rm.cells → nc ≤ rm.slots → o_Go κ Q h' (k + kc) (n + nc) (pc + 3) Ls (v.toList ++ rest)) : o_Go κ Q h k n pc Ls (.ref a :: rest) := o_callP B W hd w1 w2 wp wi w3 w4 hy pd (as := []) hlen hW hf hl hc hs hLs E C K
theorem o_callP1 (B : o_BE κ l Z n0 R y bytes ml ret Ef fin) {yc : MethodName} {kk : Nat} {bc : ByteArray} {mc : Nat} {rc : Option FieldType} {rm : Room} {v0 : Value} {rest : List Value} {a : Addr} {Qc : Option Value → Heap → Nat → Nat → Prop} {idx : Nat} (W : Nat) (hd : decode bytes pc = .ok (.invokevirtual idx, 3))
    (w1 : (Cond.methodLink y.cls idx yc).before a0 Z = true) (w2 : (Cond.instanceMethod yc).before a0 Z = true) (wp : (Cond.privateMethod yc).before a0 Z = true) (wi : (Cond.instantiable yc.cls kk).before a0 Z = true) (w3 : (Cond.initialized yc.cls).before a0 Z = true) (w4 : (Cond.code yc bc mc rc).before a0 Z = true) (hy : yc.cls ≠ "java/lang/invoke/MethodHandle" ∧ yc.cls ≠ "java/lang/invoke/VarHandle") {ps : List FieldType} {r0 : Option FieldType} (pd : parseMethodDescriptor yc.desc = some ⟨ps, r0⟩) (hlen : 1 = ps.length)
    (hW : 2 * Ef.2 + (rest.map fun v => v.category).sum ≤ W) (hf : rm.frames + 1 ≤ R.frames) (hl : W + (mc + 11) + rm.locals ≤ R.locals) (hc : k + rm.cells ≤ R.cells) (hs : n + rm.slots ≤ R.slots) (hLs : Ls.length = ml) {Cn : String} (E : Exa Z h a Cn)
    (C : o_C l Z n0 yc bc mc rc rm (.ref a :: [v0]) h Qc) (K : ∀ v h' kc nc, Qc v h' kc nc → kc ≤ rm.cells → nc ≤ rm.slots → o_Go κ Q h' (k + kc) (n + nc) (pc + 3) Ls (v.toList ++ rest)) : o_Go κ Q h k n pc Ls (v0 :: .ref a :: rest) := o_callP B W hd w1 w2 wp wi w3 w4 hy pd (as := [v0]) hlen hW hf hl hc hs hLs E C K
theorem o_callP2 (B : o_BE κ l Z n0 R y bytes ml ret Ef fin) {yc : MethodName} {kk : Nat} {bc : ByteArray} {mc : Nat} {rc : Option FieldType} {rm : Room} {v0 v1 : Value} {rest : List Value} {a : Addr} {Qc : Option Value → Heap → Nat → Nat → Prop} {idx : Nat} (W : Nat) (hd : decode bytes pc = .ok (.invokevirtual idx, 3))
    (w1 : (Cond.methodLink y.cls idx yc).before a0 Z = true) (w2 : (Cond.instanceMethod yc).before a0 Z = true) (wp : (Cond.privateMethod yc).before a0 Z = true) (wi : (Cond.instantiable yc.cls kk).before a0 Z = true) (w3 : (Cond.initialized yc.cls).before a0 Z = true) (w4 : (Cond.code yc bc mc rc).before a0 Z = true) (hy : yc.cls ≠ "java/lang/invoke/MethodHandle" ∧ yc.cls ≠ "java/lang/invoke/VarHandle") {ps : List FieldType} {r0 : Option FieldType} (pd : parseMethodDescriptor yc.desc = some ⟨ps, r0⟩) (hlen : 2 = ps.length)
    (hW : 2 * Ef.2 + (rest.map fun v => v.category).sum ≤ W) (hf : rm.frames + 1 ≤ R.frames) (hl : W + (mc + 11) + rm.locals ≤ R.locals) (hc : k + rm.cells ≤ R.cells) (hs : n + rm.slots ≤ R.slots) (hLs : Ls.length = ml) {Cn : String} (E : Exa Z h a Cn)
    (C : o_C l Z n0 yc bc mc rc rm (.ref a :: [v0, v1]) h Qc) (K : ∀ v h' kc nc, Qc v h' kc nc → kc ≤ rm.cells → nc ≤ rm.slots → o_Go κ Q h' (k + kc) (n + nc) (pc + 3) Ls (v.toList ++ rest)) : o_Go κ Q h k n pc Ls (v1 :: v0 :: .ref a :: rest) := o_callP B W hd w1 w2 wp wi w3 w4 hy pd (as := [v0, v1]) hlen hW hf hl hc hs hLs E C K
theorem o_callP3 (B : o_BE κ l Z n0 R y bytes ml ret Ef fin) {yc : MethodName} {kk : Nat} {bc : ByteArray} {mc : Nat} {rc : Option FieldType} {rm : Room} {v0 v1 v2 : Value} {rest : List Value} {a : Addr} {Qc : Option Value → Heap → Nat → Nat → Prop} {idx : Nat} (W : Nat) (hd : decode bytes pc = .ok (.invokevirtual idx, 3))
    (w1 : (Cond.methodLink y.cls idx yc).before a0 Z = true) (w2 : (Cond.instanceMethod yc).before a0 Z = true) (wp : (Cond.privateMethod yc).before a0 Z = true) (wi : (Cond.instantiable yc.cls kk).before a0 Z = true) (w3 : (Cond.initialized yc.cls).before a0 Z = true) (w4 : (Cond.code yc bc mc rc).before a0 Z = true) (hy : yc.cls ≠ "java/lang/invoke/MethodHandle" ∧ yc.cls ≠ "java/lang/invoke/VarHandle") {ps : List FieldType} {r0 : Option FieldType} (pd : parseMethodDescriptor yc.desc = some ⟨ps, r0⟩) (hlen : 3 = ps.length)
    (hW : 2 * Ef.2 + (rest.map fun v => v.category).sum ≤ W) (hf : rm.frames + 1 ≤ R.frames) (hl : W + (mc + 11) + rm.locals ≤ R.locals) (hc : k + rm.cells ≤ R.cells) (hs : n + rm.slots ≤ R.slots) (hLs : Ls.length = ml) {Cn : String} (E : Exa Z h a Cn)
    (C : o_C l Z n0 yc bc mc rc rm (.ref a :: [v0, v1, v2]) h Qc) (K : ∀ v h' kc nc, Qc v h' kc nc → kc ≤ rm.cells → nc ≤ rm.slots → o_Go κ Q h' (k + kc) (n + nc) (pc + 3) Ls (v.toList ++ rest)) : o_Go κ Q h k n pc Ls (v2 :: v1 :: v0 :: .ref a :: rest) := o_callP B W hd w1 w2 wp wi w3 w4 hy pd (as := [v0, v1, v2]) hlen hW hf hl hc hs hLs E C K
theorem o_callVH0 (B : o_BE κ l Z n0 R y bytes ml ret Ef fin) {yc : MethodName} {Cn : String} {bc : ByteArray} {mc : Nat} {rc : Option FieldType} {hsd : List (Nat × Nat × Nat × Nat)} {rm : Room} {rest : List Value} {a : Addr} {Qc : Option Value → Heap → Nat → Nat → Prop} {idx : Nat} (W : Nat) (hd : decode bytes pc = .ok (.invokevirtual idx, 3))
    (w1 : (Cond.methodLink y.cls idx yc).before a0 Z = true) (w2 : (Cond.declares yc).before a0 Z = true) (w5 : (Cond.selects Cn yc yc).before a0 Z = true) (w6 : (Cond.instanceMethod yc).before a0 Z = true) (w3 : (Cond.initialized yc.cls).before a0 Z = true) (w4 : (Cond.codeWith yc bc mc rc hsd).before a0 Z = true) (hy : yc.cls ≠ "java/lang/invoke/MethodHandle" ∧ yc.cls ≠ "java/lang/invoke/VarHandle") {ps : List FieldType} {r0 : Option FieldType} (pd : parseMethodDescriptor yc.desc = some ⟨ps, r0⟩) (hlen : 0 = ps.length)
    (hW : 2 * Ef.2 + (rest.map fun v => v.category).sum ≤ W) (hf : rm.frames + 1 ≤ R.frames) (hl : W + (mc + 11) + rm.locals ≤ R.locals) (hc : k + rm.cells ≤ R.cells) (hs : n + rm.slots ≤ R.slots) (hLs : Ls.length = ml) (E : Exa Z h a Cn)
    (C : o_CH l Z n0 yc bc mc rc hsd rm (.ref a :: []) h Qc) (K : ∀ v h' kc nc, Qc v h' kc nc → kc ≤ rm.cells → nc ≤ rm.slots → o_Go κ Q h' (k + kc) (n + nc) (pc + 3) Ls (v.toList ++ rest)) : o_Go κ Q h k n pc Ls (.ref a :: rest) := o_callVH B W hd w1 w2 w5 w6 w3 w4 hy pd (as := []) hlen hW hf hl hc hs hLs E C K
theorem o_callVH1 (B : o_BE κ l Z n0 R y bytes ml ret Ef fin) {yc : MethodName} {Cn : String} {bc : ByteArray} {mc : Nat} {rc : Option FieldType} {hsd : List (Nat × Nat × Nat × Nat)} {rm : Room} {v0 : Value} {rest : List Value} {a : Addr} {Qc : Option Value → Heap → Nat → Nat → Prop} {idx : Nat} (W : Nat) (hd : decode bytes pc = .ok (.invokevirtual idx, 3))
    (w1 : (Cond.methodLink y.cls idx yc).before a0 Z = true) (w2 : (Cond.declares yc).before a0 Z = true) (w5 : (Cond.selects Cn yc yc).before a0 Z = true) (w6 : (Cond.instanceMethod yc).before a0 Z = true) (w3 : (Cond.initialized yc.cls).before a0 Z = true) (w4 : (Cond.codeWith yc bc mc rc hsd).before a0 Z = true) (hy : yc.cls ≠ "java/lang/invoke/MethodHandle" ∧ yc.cls ≠ "java/lang/invoke/VarHandle") {ps : List FieldType} {r0 : Option FieldType} (pd : parseMethodDescriptor yc.desc = some ⟨ps, r0⟩) (hlen : 1 = ps.length)
    (hW : 2 * Ef.2 + (rest.map fun v => v.category).sum ≤ W) (hf : rm.frames + 1 ≤ R.frames) (hl : W + (mc + 11) + rm.locals ≤ R.locals) (hc : k + rm.cells ≤ R.cells) (hs : n + rm.slots ≤ R.slots) (hLs : Ls.length = ml) (E : Exa Z h a Cn)
    (C : o_CH l Z n0 yc bc mc rc hsd rm (.ref a :: [v0]) h Qc) (K : ∀ v h' kc nc, Qc v h' kc nc → kc ≤ rm.cells → nc ≤ rm.slots → o_Go κ Q h' (k + kc) (n + nc) (pc + 3) Ls (v.toList ++ rest)) : o_Go κ Q h k n pc Ls (v0 :: .ref a :: rest) := o_callVH B W hd w1 w2 w5 w6 w3 w4 hy pd (as := [v0]) hlen hW hf hl hc hs hLs E C K
theorem o_callVH2 (B : o_BE κ l Z n0 R y bytes ml ret Ef fin) {yc : MethodName} {Cn : String} {bc : ByteArray} {mc : Nat} {rc : Option FieldType} {hsd : List (Nat × Nat × Nat × Nat)} {rm : Room} {v0 v1 : Value} {rest : List Value} {a : Addr} {Qc : Option Value → Heap → Nat → Nat → Prop} {idx : Nat} (W : Nat) (hd : decode bytes pc = .ok (.invokevirtual idx, 3))
    (w1 : (Cond.methodLink y.cls idx yc).before a0 Z = true) (w2 : (Cond.declares yc).before a0 Z = true) (w5 : (Cond.selects Cn yc yc).before a0 Z = true) (w6 : (Cond.instanceMethod yc).before a0 Z = true) (w3 : (Cond.initialized yc.cls).before a0 Z = true) (w4 : (Cond.codeWith yc bc mc rc hsd).before a0 Z = true) (hy : yc.cls ≠ "java/lang/invoke/MethodHandle" ∧ yc.cls ≠ "java/lang/invoke/VarHandle") {ps : List FieldType} {r0 : Option FieldType} (pd : parseMethodDescriptor yc.desc = some ⟨ps, r0⟩) (hlen : 2 = ps.length)
    (hW : 2 * Ef.2 + (rest.map fun v => v.category).sum ≤ W) (hf : rm.frames + 1 ≤ R.frames) (hl : W + (mc + 11) + rm.locals ≤ R.locals) (hc : k + rm.cells ≤ R.cells) (hs : n + rm.slots ≤ R.slots) (hLs : Ls.length = ml) (E : Exa Z h a Cn)
    (C : o_CH l Z n0 yc bc mc rc hsd rm (.ref a :: [v0, v1]) h Qc) (K : ∀ v h' kc nc, Qc v h' kc nc → kc ≤ rm.cells → nc ≤ rm.slots → o_Go κ Q h' (k + kc) (n + nc) (pc + 3) Ls (v.toList ++ rest)) : o_Go κ Q h k n pc Ls (v1 :: v0 :: .ref a :: rest) := o_callVH B W hd w1 w2 w5 w6 w3 w4 hy pd (as := [v0, v1]) hlen hW hf hl hc hs hLs E C K
theorem o_callVH3 (B : o_BE κ l Z n0 R y bytes ml ret Ef fin) {yc : MethodName} {Cn : String} {bc : ByteArray} {mc : Nat} {rc : Option FieldType} {hsd : List (Nat × Nat × Nat × Nat)} {rm : Room} {v0 v1 v2 : Value} {rest : List Value} {a : Addr} {Qc : Option Value → Heap → Nat → Nat → Prop} {idx : Nat} (W : Nat) (hd : decode bytes pc = .ok (.invokevirtual idx, 3))
    (w1 : (Cond.methodLink y.cls idx yc).before a0 Z = true) (w2 : (Cond.declares yc).before a0 Z = true) (w5 : (Cond.selects Cn yc yc).before a0 Z = true) (w6 : (Cond.instanceMethod yc).before a0 Z = true) (w3 : (Cond.initialized yc.cls).before a0 Z = true) (w4 : (Cond.codeWith yc bc mc rc hsd).before a0 Z = true) (hy : yc.cls ≠ "java/lang/invoke/MethodHandle" ∧ yc.cls ≠ "java/lang/invoke/VarHandle") {ps : List FieldType} {r0 : Option FieldType} (pd : parseMethodDescriptor yc.desc = some ⟨ps, r0⟩) (hlen : 3 = ps.length)
    (hW : 2 * Ef.2 + (rest.map fun v => v.category).sum ≤ W) (hf : rm.frames + 1 ≤ R.frames) (hl : W + (mc + 11) + rm.locals ≤ R.locals) (hc : k + rm.cells ≤ R.cells) (hs : n + rm.slots ≤ R.slots) (hLs : Ls.length = ml) (E : Exa Z h a Cn)
    (C : o_CH l Z n0 yc bc mc rc hsd rm (.ref a :: [v0, v1, v2]) h Qc) (K : ∀ v h' kc nc, Qc v h' kc nc → kc ≤ rm.cells → nc ≤ rm.slots → o_Go κ Q h' (k + kc) (n + nc) (pc + 3) Ls (v.toList ++ rest)) : o_Go κ Q h k n pc Ls (v2 :: v1 :: v0 :: .ref a :: rest) := o_callVH B W hd w1 w2 w5 w6 w3 w4 hy pd (as := [v0, v1, v2]) hlen hW hf hl hc hs hLs E C K
theorem o_nat2 {i : Nat} (hi : i < 2 ^ 31) : (Int32.ofNat i).toNatClampNeg = i ∧ ¬ (Int32.ofNat i < 0) := by
  have e : (Int32.ofNat i).toInt = i := Int32.toInt_ofNat_of_lt hi
  refine ⟨by simp only [Int32.toNatClampNeg, e]; rfl, ?_⟩
  rw [Int32.lt_iff_toInt_lt, e]; show ¬ (i : Int) < 0; omega
theorem o_arv {a : Addr} {L : List Int32} (A : o_IA Z h a L) : ∃ k, Arv Z h a k .int (Int32.ofNat L.length) (L.map Value.int) (.int 0) := by
  obtain ⟨c, A, es, q⟩ := A
  rw [List.length_map] at q
  obtain ⟨h1, h2⟩ := o_nat2 (i := L.length) (by omega)
  refine ⟨c.cls, c, A, rfl, by rw [h1, es]; simp, h2, fun i hi => ?_, fun i hi => ?_⟩
  · rw [es] at hi ⊢
    simp at hi
    simp [hi, List.getD_eq_getElem?_getD]
  · rw [es] at hi
    simp at hi
    simp [hi, List.getD_eq_getElem?_getD, fits]
theorem o_arv_back {a : Addr} {k : ClassId} {z : Int32} {L : List Int32} (A : Arv Z h a k .int z (L.map Value.int) (.int 0)) (hz : z.toNatClampNeg = L.length) (hL : L.length < 2 ^ 31) : o_IA Z h a L := by
  obtain ⟨c, A, -, sz, -, H, -⟩ := A
  refine ⟨c, A, ?_, by simpa using hL⟩
  apply Array.ext
  · rw [sz, hz]; simp
  · intro i h1 h2
    have q := H i h1
    simp at h2
    rw [Array.getElem?_eq_getElem h1] at q
    have q' := Option.some.inj q
    rw [q']
    simp [List.getD_eq_getElem?_getD, h2]
/-- System.arraycopy(a, 0, b, 0, m) on int arrays -/
theorem o_arraycopy (B : o_BE κ l Z n0 R y bytes ml ret Ef fin) {a b : Addr} {L M : List Int32} {idx W : Nat} (m : Nat) (hd : decode bytes pc = .ok (.invokestatic idx, 3)) (w1 : (Cond.methodLink y.cls idx Jvm.Stand.acN).before a0 Z = true) (w2 : (Cond.native Jvm.Stand.acN).before a0 Z = true) (w3 : (Cond.static Jvm.Stand.acN).before a0 Z = true) (w4 : (Cond.initialized "java/lang/System").before a0 Z = true)
    (A : o_IA Z h a L) (A' : o_IA Z h b M) (h1 : m ≤ L.length) (h2 : m ≤ M.length) (ge : n0 ≤ b) (hf : 1 ≤ R.frames) (hW : 2 * Ef.2 + (St.map fun v => v.category).sum ≤ W) (hlo : W + (nativeFrameWords "java/lang/System" "arraycopy" 5 + 11) ≤ R.locals) (hLs : Ls.length = ml)
    (K : ∀ h', Keep h h' [b] → o_IA Z h' b (L.take m ++ M.drop m) → o_Go κ Q h' k n (pc + 3) Ls St) : o_Go κ Q h k n pc Ls (.int (Int32.ofNat m) :: .int 0 :: .ref b :: .int 0 :: .ref a :: St) := by
  obtain ⟨p, e, s, m_, args, below, meth, c, s0, rfl, hs0, hx, hZ, hby, hml, hown, hret, hlk, hnm⟩ := B
  intro T locs X N eT
  have qL := A.len
  have qM := A'.len
  obtain ⟨k1, V1⟩ := o_arv A
  obtain ⟨k2, V2⟩ := o_arv A'
  obtain ⟨e1, e2⟩ := o_nat2 (i := m) (by omega)
  obtain ⟨e3, -⟩ := o_nat2 (i := L.length) (by omega)
  obtain ⟨e4, -⟩ := o_nat2 (i := M.length) (by omega)
  have z0 : (0 : Int32).toNatClampNeg = 0 := rfl
  obtain ⟨T', h', L', X', e', N', K', V', st'⟩ := cpA X hx hZ hown w1 w2 w3 w4 eT V1 V2 (us := (L.take m).map Value.int) (Or.inl ⟨rfl, rfl⟩) (sp := 0) (dp := 0) (nn := Int32.ofNat m) (by decide) (by decide) e2 (by rw [z0, e1, e3]; omega) (by rw [z0, e1, e4]; omega) (by
    rw [e1, z0]
    apply List.ext_getElem?
    intro i
    by_cases hi : i < m
    · have : i < L.length := by omega
      simp [hi, List.getD_eq_getElem?_getD, this, List.getElem?_take]
    · simp [hi, List.getElem?_take]) (by rw [z0, e1]; simp; omega) N ge (g := o_F Ef m_ pc Ls.toArray (.int (Int32.ofNat m) :: .int 0 :: .ref b :: .int 0 :: .ref a :: St)) rfl (by rw [hml, ← hLs]; simp) rfl (hb hby hd) hf (by simpa using hW) hlo
  rw [e1, z0] at V'
  have V2' : Arv Z h' b k2 .int (Int32.ofNat M.length) ((L.take m ++ M.drop m).map Value.int) (.int 0) := by simpa using V'
  obtain ⟨s₂, o, st, r⟩ := K h' K' (o_arv_back V2' (by rw [e4]; simp; omega) (by simp; omega)) T' _ X' N' e'
  exact ⟨s₂, o, st' _ st, r⟩
theorem o_tableswitch (B : o_BE κ l Z n0 R y bytes ml ret Ef fin) {dflt low high : Int} {offs : Array Int} {len : Nat} {x : Int32} {off : Int} {pc' : Nat} (hd : decode bytes pc = .ok (.tableswitch dflt low high offs, len)) (hin : ¬ (x.toInt < low ∨ x.toInt > high)) (ho : offs[(x.toInt - low).toNat]? = some off) (hoff : 0 ≤ (pc : Int) + off) (hp : ((pc : Int) + off).toNat = pc') (K : o_Go κ Q h k n pc' Ls St) : o_Go κ Q h k n pc Ls (.int x :: St) := by
  obtain ⟨p, e, s, m_, args, below, meth, c, s0, rfl, hs0, hx, hZ, hby, hml, hown, hret, hlk, hnm⟩ := B
  intro T locs X N eT
  subst hp
  obtain ⟨s₂, o, st, r⟩ := K T locs X N eT
  exact ⟨s₂, o, X.tableswitchIn hx (g := o_F Ef m_ pc Ls.toArray (.int x :: St)) rfl rfl (hb hby hd) hin ho hoff _ st, r⟩
/-- a call through a subclass's name: the class owner declares it -/
theorem o_callU (B : o_BE κ l Z n0 R y bytes ml ret Ef fin) {xc yc : MethodName} {owner Cn : String} {bc : ByteArray} {mc : Nat} {rc : Option FieldType} {rm : Room} {as rest : List Value} {a : Addr} {Qc : Option Value → Heap → Nat → Nat → Prop} {idx : Nat} (W : Nat) (hd : decode bytes pc = .ok (.invokevirtual idx, 3))
    (w1 : (Cond.methodLink y.cls idx xc).before a0 Z = true) (ws : (Cond.sameMethod xc.cls owner xc.name xc.desc).before a0 Z = true) (w2 : (Cond.declares ⟨owner, xc.name, xc.desc⟩).before a0 Z = true) (w5 : (Cond.selects Cn xc yc).before a0 Z = true) (w6 : (Cond.instanceMethod yc).before a0 Z = true) (w3 : (Cond.initialized yc.cls).before a0 Z = true) (w4 : (Cond.code yc bc mc rc).before a0 Z = true) (hy : owner ≠ "java/lang/invoke/MethodHandle" ∧ owner ≠ "java/lang/invoke/VarHandle") {ps : List FieldType} {r0 : Option FieldType} (pd : parseMethodDescriptor xc.desc = some ⟨ps, r0⟩) (hlen : as.length = ps.length)
    (hW : 2 * Ef.2 + (rest.map fun v => v.category).sum ≤ W) (hf : rm.frames + 1 ≤ R.frames) (hl : W + (mc + 11) + rm.locals ≤ R.locals) (hc : k + rm.cells ≤ R.cells) (hs : n + rm.slots ≤ R.slots) (hLs : Ls.length = ml) (E : Exa Z h a Cn)
    (C : o_C l Z n0 yc bc mc rc rm (.ref a :: as) h Qc) (K : ∀ v h' kc nc, Qc v h' kc nc → kc ≤ rm.cells → nc ≤ rm.slots → o_Go κ Q h' (k + kc) (n + nc) (pc + 3) Ls (v.toList ++ rest)) : o_Go κ Q h k n pc Ls (as.reverse ++ .ref a :: rest) := by
  obtain ⟨p, e, s, m_, args, below, meth, c, s0, rfl, hs0, hx, hZ, hby, hml, hown, hret, hlk, hnm⟩ := B
  intro T locs X N eT
  obtain ⟨cq, kq, qa, qb, qc⟩ := isOf hZ eT E
  obtain ⟨v, vm1, ⟨T', L', k', n'⟩, -, X', ⟨Lc, kc, nc, hQ, l', y', z', hkc, hnc⟩, st'⟩ := X.virtualBackUp hx (x := xc) (y := yc) hown (mvT hZ w1) (mvT hZ ws) (mvT hZ w2) hy (mvT hZ w5) (mvT hZ w6) (o_backX (W := W) (Q := fun v h L kc nc => Qc v h kc nc ∧ Fr n0 L) (C []) hZ w4 w3 hf hl) qa qc (g := o_F Ef m_ pc Ls.toArray (as.reverse ++ .ref a :: rest)) rfl (by rw [hml, ← hLs]; simp) (Steps.refl _) (argsL := as) (rest := rest) (lenOf pd hlen) rfl (by simpa using hW) (hb hby hd) (fun _ _ => ⟨rfl, eT, hc, hs⟩)
  dsimp only [Pt.U, Pt.locs, Pt.cells, Pt.slots] at X' l' y' z' st' hQ
  subst l' y' z'
  obtain ⟨hq, Nc⟩ := hQ
  obtain ⟨s₂, o, st, r⟩ := K v T'.heap kc nc hq hkc hnc T' _ X' (Fr.app N Nc) rfl
  exact ⟨s₂, o, st'.trans st, r⟩
theorem o_callU0 (B : o_BE κ l Z n0 R y bytes ml ret Ef fin) {xc yc : MethodName} {owner Cn : String} {bc : ByteArray} {mc : Nat} {rc : Option FieldType} {rm : Room} {rest : List Value} {a : Addr} {Qc : Option Value → Heap → Nat → Nat → Prop} {idx : Nat} (W : Nat) (hd : decode bytes pc = .ok (.invokevirtual idx, 3))
    (w1 : (Cond.methodLink y.cls idx xc).before a0 Z = true) (ws : (Cond.sameMethod xc.cls owner xc.name xc.desc).before a0 Z = true) (w2 : (Cond.declares ⟨owner, xc.name, xc.desc⟩).before a0 Z = true) (w5 : (Cond.selects Cn xc yc).before a0 Z = true) (w6 : (Cond.instanceMethod yc).before a0 Z = true) (w3 : (Cond.initialized yc.cls).before a0 Z = true) (w4 : (Cond.code yc bc mc rc).before a0 Z = true) (hy : owner ≠ "java/lang/invoke/MethodHandle" ∧ owner ≠ "java/lang/invoke/VarHandle") {ps : List FieldType} {r0 : Option FieldType} (pd : parseMethodDescriptor xc.desc = some ⟨ps, r0⟩) (hlen : 0 = ps.length)
    (hW : 2 * Ef.2 + (rest.map fun v => v.category).sum ≤ W) (hf : rm.frames + 1 ≤ R.frames) (hl : W + (mc + 11) + rm.locals ≤ R.locals) (hc : k + rm.cells ≤ R.cells) (hs : n + rm.slots ≤ R.slots) (hLs : Ls.length = ml) (E : Exa Z h a Cn)
    (C : o_C l Z n0 yc bc mc rc rm (.ref a :: []) h Qc) (K : ∀ v h' kc nc, Qc v h' kc nc → kc ≤ rm.cells → nc ≤ rm.slots → o_Go κ Q h' (k + kc) (n + nc) (pc + 3) Ls (v.toList ++ rest)) : o_Go κ Q h k n pc Ls (.ref a :: rest) := o_callU B W hd w1 ws w2 w5 w6 w3 w4 hy pd (as := []) hlen hW hf hl hc hs hLs E C K
end Fw
theorem own_i32n (a : Nat) (h : a < 2 ^ 32) : (Int32.ofNat a).toBitVec.toNat = a := by
  show (BitVec.ofNat 32 a).toNat = a
  rw [BitVec.toNat_ofNat]; exact Nat.mod_eq_of_lt h
theorem own_i64n (a : Nat) (h : a < 2 ^ 64) : (Int64.ofNat a).toBitVec.toNat = a := by
  show (BitVec.ofNat 64 a).toNat = a
  rw [BitVec.toNat_ofNat]; exact Nat.mod_eq_of_lt h
theorem own_pow {j : Nat} (hj : j ≤ 30) : 2 ^ j ≤ 2 ^ 30 ∧ 0 < 2 ^ j := ⟨Nat.pow_le_pow_right (by decide) hj, Nat.two_pow_pos j⟩
theorem own_and (x : Int32) {j : Nat} (hj : j ≤ 30) : x &&& Int32.ofNat (2 ^ j - 1) = Int32.ofNat (x.toBitVec.toNat % 2 ^ j) := by
  obtain ⟨p1, p2⟩ := own_pow hj
  have m := Nat.mod_lt x.toBitVec.toNat p2
  apply Int32.toBitVec_inj.mp; apply BitVec.eq_of_toNat_eq
  rw [Int32.toBitVec_and, BitVec.toNat_and, own_i32n _ (by omega), own_i32n _ (by omega), Nat.and_two_pow_sub_one_eq_mod]
theorem own_andL (x : Int64) {j : Nat} (hj : j ≤ 30) : x &&& Int64.ofNat (2 ^ j - 1) = Int64.ofNat (x.toBitVec.toNat % 2 ^ j) := by
  obtain ⟨p1, p2⟩ := own_pow hj
  have m := Nat.mod_lt x.toBitVec.toNat p2
  apply Int64.toBitVec_inj.mp; apply BitVec.eq_of_toNat_eq
  rw [Int64.toBitVec_and, BitVec.toNat_and, own_i64n _ (by omega), own_i64n _ (by omega), Nat.and_two_pow_sub_one_eq_mod]
theorem own_sub1 {j : Nat} (hj : j ≤ 30) : Int32.ofNat (2 ^ j) - 1 = Int32.ofNat (2 ^ j - 1) := by
  obtain ⟨p1, p2⟩ := own_pow hj
  have e : 2 ^ j = (2 ^ j - 1) + 1 := by omega
  have e2 : Int32.ofNat (2 ^ j) = Int32.ofNat (2 ^ j - 1) + 1 := by
    rw [show (1 : Int32) = Int32.ofNat 1 from rfl, ← Int32.ofNat_add, ← e]
  rw [e2, Int32.add_sub_cancel]
theorem own_toInt {a : Nat} (h : a < 2 ^ 31) : (Int32.ofNat a).toInt = a := Int32.toInt_ofNat_of_lt h
theorem own_one (x : Nat) : Int32.ofNat x + 1 = Int32.ofNat (x + 1) := (Int32.ofNat_add x 1).symm
theorem own_step {x j : Nat} (hj : j ≤ 30) (hx : x < 2 ^ j) : (Int32.ofNat x + 1) &&& Int32.ofNat (2 ^ j - 1) = Int32.ofNat ((x + 1) % 2 ^ j) := by
  obtain ⟨p1, p2⟩ := own_pow hj
  rw [own_one, own_and _ hj, own_i32n _ (by omega)]
theorem own_wide {a : Nat} (h : a < 2 ^ 31) : (Int32.ofNat a).toInt64 = Int64.ofNat a := by
  apply Int64.toInt_inj.mp
  rw [Int32.toInt_toInt64, own_toInt h, Int64.toInt_ofNat_of_lt (by omega)]
theorem own_narrow {a : Nat} (h : a < 2 ^ 31) : (Int64.ofNat a).toInt32 = Int32.ofNat a := by
  apply Int32.toBitVec_inj.mp; apply BitVec.eq_of_toNat_eq
  show ((Int64.ofNat a).toBitVec.signExtend 32).toNat = _
  rw [BitVec.signExtend_eq_setWidth_of_le _ (by decide), BitVec.toNat_setWidth, own_i64n _ (by omega), own_i32n _ (by omega)]
  exact Nat.mod_eq_of_lt (by omega)
theorem own_s1 (key : Int64) {j : Nat} (hj : j ≤ 30) : (key &&& (Int32.ofNat (2 ^ j - 1)).toInt64).toInt32 = Int32.ofNat (key.toBitVec.toNat % 2 ^ j) := by
  obtain ⟨p1, p2⟩ := own_pow hj
  have m := Nat.mod_lt key.toBitVec.toNat p2
  rw [own_wide (by omega), own_andL _ hj, own_narrow (by omega)]
theorem own_s2 (key : Int64) {j : Nat} (hj : j ≤ 30) : key.toInt32 &&& Int32.ofNat (2 ^ j - 1) = Int32.ofNat (key.toBitVec.toNat % 2 ^ j) := by
  rw [own_and _ hj]
  have e : key.toInt32.toBitVec.toNat = key.toBitVec.toNat % 2 ^ 32 := by
    show (key.toBitVec.signExtend 32).toNat = _
    rw [BitVec.signExtend_eq_setWidth_of_le _ (by decide), BitVec.toNat_setWidth]
  rw [e, Nat.mod_mod_of_dvd _ (Nat.pow_dvd_pow 2 (by omega : j ≤ 32))]
theorem own_rem {a b : Nat} (ha : a < 2 ^ 31) (hb : b < 2 ^ 31) : Int32.ofNat a % Int32.ofNat b = Int32.ofNat (a % b) := by
  have hm : a % b ≤ a := Nat.mod_le a b
  apply Int32.toInt_inj.mp
  rw [Int32.toInt_mod, own_toInt ha, own_toInt hb, own_toInt (by omega)]
  exact (Int.ofNat_tmod a b).symm
theorem own_ne0 {a : Nat} (h0 : 0 < a) (ha : a < 2 ^ 31) : Int32.ofNat a ≠ 0 := fun q => by
  have := congrArg Int32.toInt q
  rw [own_toInt ha] at this
  have z : (0 : Int32).toInt = 0 := rfl
  omega
theorem own_nn {a : Nat} (ha : a < 2 ^ 31) : ¬ Int32.ofNat a < 0 := by
  rw [Int32.lt_iff_toInt_lt, own_toInt ha]
  have z : (0 : Int32).toInt = 0 := rfl
  omega
theorem own_ltn {a b : Nat} (ha : a < 2 ^ 31) (hb : b < 2 ^ 31) : Int32.ofNat a < Int32.ofNat b ↔ a < b := by
  rw [Int32.lt_iff_toInt_lt, own_toInt ha, own_toInt hb]; omega
theorem own_inj {a b : Nat} (ha : a < 2 ^ 31) (hb : b < 2 ^ 31) : Int32.ofNat a = Int32.ofNat b ↔ a = b := by
  rw [← Int32.toInt_inj, own_toInt ha, own_toInt hb]; omega
theorem own_least {p : Nat → Prop} (hd : ∀ d, p d ∨ ¬ p d) : ∀ n, (∃ d, d < n ∧ p d) → ∃ d0, d0 < n ∧ p d0 ∧ ∀ d, d < d0 → ¬ p d
  | 0, ⟨d, h, _⟩ => absurd h (Nat.not_lt_zero d)
  | n + 1, ⟨d, h, q⟩ => by
    by_cases e : ∃ d, d < n ∧ p d
    · obtain ⟨d0, h1, h2, h3⟩ := own_least hd n e
      exact ⟨d0, by omega, h2, h3⟩
    · have hdn : d = n := by
        have : ¬ d < n := fun x => e ⟨d, x, q⟩
        omega
      subst hdn
      exact ⟨d, by omega, q, fun x hx px => e ⟨x, hx, px⟩⟩
/-- the mask of a variable -/
def own_w : Nat → BitVec 8
  | 0 => 0xAA#8
  | 1 => 0xCC#8
  | _ => 0xF0#8
/-- where the variable is true: hi, else lo -/
def own_ite (v : Nat) (hi lo : BitVec 8) : BitVec 8 := (hi &&& own_w v) ||| (lo &&& ~~~ own_w v)
def own_op (op : Nat) (a b : BitVec 8) : BitVec 8 := match op with
  | 0 => a &&& b
  | 1 => a ||| b
  | 2 => ~~~ a ||| b
  | _ => ~~~ (a ^^^ b)
theorem own_ite_same (v : Nat) (m : BitVec 8) : own_ite v m m = m := by
  unfold own_ite
  apply BitVec.eq_of_getLsbD_eq
  intro i hi
  simp only [BitVec.getLsbD_or, BitVec.getLsbD_and, BitVec.getLsbD_not, hi, decide_true, Bool.true_and]
  cases m.getLsbD i <;> cases (own_w v).getLsbD i <;> rfl
theorem own_op_ite (op v : Nat) (a b c d : BitVec 8) : own_op op (own_ite v a b) (own_ite v c d) = own_ite v (own_op op a c) (own_op op b d) := by
  unfold own_ite own_op
  apply BitVec.eq_of_getLsbD_eq
  intro i hi
  split <;> simp only [BitVec.getLsbD_or, BitVec.getLsbD_and, BitVec.getLsbD_not, BitVec.getLsbD_xor, hi, decide_true, Bool.true_and] <;>
    (generalize a.getLsbD i = a'; generalize b.getLsbD i = b'; generalize c.getLsbD i = c'; generalize d.getLsbD i = d'; generalize (own_w v).getLsbD i = w'; revert a' b' c' d' w'; decide)
/-- m does not depend on the variables k, k + 1, .. -/
def own_ind (k : Nat) (m : BitVec 8) : Bool := match k with
  | 0 => m == 0#8 || m == 255#8
  | 1 => m == 0#8 || m == 255#8 || m == 0xAA#8 || m == 0x55#8
  | 2 => m >>> 4 == (m &&& 15#8)
  | _ => true
theorem own_all8 {p : BitVec 8 → Bool} (h : (List.range 256).all (fun i => p (BitVec.ofNat 8 i)) = true) (m : BitVec 8) : p m = true := by
  have q := List.all_eq_true.mp h m.toNat (List.mem_range.mpr m.isLt)
  rwa [BitVec.ofNat_toNat, BitVec.setWidth_eq] at q
theorem own_ind_up {k k' : Nat} (h : k ≤ k') {m : BitVec 8} (q : own_ind k m = true) : own_ind k' m = true := by
  have a01 := own_all8 (p := fun m => !own_ind 0 m || own_ind 1 m) (by decide +kernel) m
  have a12 := own_all8 (p := fun m => !own_ind 1 m || own_ind 2 m) (by decide +kernel) m
  have s01 : own_ind 0 m = true → own_ind 1 m = true := fun z => by simpa [z] using a01
  have s12 : own_ind 1 m = true → own_ind 2 m = true := fun z => by simpa [z] using a12
  by_cases h3 : 3 ≤ k'
  · obtain ⟨n, rfl⟩ : ∃ n, k' = n + 3 := ⟨k' - 3, by omega⟩
    rfl
  · have hc : (k = 0 ∧ k' = 0) ∨ (k = 0 ∧ k' = 1) ∨ (k = 0 ∧ k' = 2) ∨ (k = 1 ∧ k' = 1) ∨ (k = 1 ∧ k' = 2) ∨ (k = 2 ∧ k' = 2) := by omega
    rcases hc with ⟨rfl, rfl⟩ | ⟨rfl, rfl⟩ | ⟨rfl, rfl⟩ | ⟨rfl, rfl⟩ | ⟨rfl, rfl⟩ | ⟨rfl, rfl⟩
    · exact q
    · exact s01 q
    · exact s12 (s01 q)
    · exact q
    · exact s12 q
    · exact q
theorem own_ind0 {m : BitVec 8} (q : own_ind 0 m = true) : m = 0#8 ∨ m = 255#8 := by simpa [own_ind] using q
theorem own_ind1 {m : BitVec 8} (q : own_ind 1 m = true) : m = 0#8 ∨ m = 255#8 ∨ m = 0xAA#8 ∨ m = 0x55#8 := by
  simp [own_ind] at q; rcases q with ((q | q) | q) | q <;> simp [q]
theorem own_ind2 {m : BitVec 8} (q : own_ind 2 m = true) : ∃ a : Fin 16, m = BitVec.ofNat 8 (17 * a.val) := by
  have a := own_all8 (p := fun m => !own_ind 2 m || (List.range 16).any (fun a => m == BitVec.ofNat 8 (17 * a))) (by decide +kernel) m
  simp only [q, Bool.not_true, Bool.false_or, List.any_eq_true, List.mem_range, beq_iff_eq] at a
  obtain ⟨x, hx, e⟩ := a
  exact ⟨⟨x, hx⟩, e⟩
theorem own_nonz {v : Nat} (hv : v < 3) {m : BitVec 8} (q : own_ind v m = true) (z : m ≠ 0#8) : m &&& own_w v ≠ 0#8 ∧ m &&& ~~~ own_w v ≠ 0#8 := by
  have a := own_all8 (p := fun m => (List.range 3).all fun v => !own_ind v m || m == 0#8 || (m &&& own_w v != 0#8 && m &&& ~~~ own_w v != 0#8)) (by decide +kernel) m
  have b := List.all_eq_true.mp a v (List.mem_range.mpr hv)
  simpa [q, z] using b
theorem own_ite_nz {v : Nat} (hv : v < 3) {hi lo : BitVec 8} (q1 : own_ind v hi = true) (q2 : own_ind v lo = true) (z : hi ≠ 0#8 ∨ lo ≠ 0#8) : own_ite v hi lo ≠ 0#8 := by
  intro e
  unfold own_ite at e
  have e1 : hi &&& own_w v = 0#8 := by
    apply BitVec.eq_of_getLsbD_eq; intro i hi'
    have := congrArg (fun x => x.getLsbD i) e
    simp only [BitVec.getLsbD_or, BitVec.getLsbD_zero, Bool.or_eq_false_iff] at this
    rw [this.1]; simp
  have e2 : lo &&& ~~~ own_w v = 0#8 := by
    apply BitVec.eq_of_getLsbD_eq; intro i hi'
    have := congrArg (fun x => x.getLsbD i) e
    simp only [BitVec.getLsbD_or, BitVec.getLsbD_zero, Bool.or_eq_false_iff] at this
    rw [this.2]; simp
  rcases z with z | z
  · exact (own_nonz hv q1 z).1 e1
  · exact (own_nonz hv q2 z).2 e2
theorem own_ite_ind {v : Nat} {hi lo : BitVec 8} (q1 : own_ind v hi = true) (q2 : own_ind v lo = true) : own_ind (v + 1) (own_ite v hi lo) = true := by
  match v with
  | 0 => rcases own_ind0 q1 with rfl | rfl <;> rcases own_ind0 q2 with rfl | rfl <;> decide
  | 1 => rcases own_ind1 q1 with rfl | rfl | rfl | rfl <;> rcases own_ind1 q2 with rfl | rfl | rfl | rfl <;> decide
  | n + 2 => rfl
/-- the lowest place of a mask -/
def own_low (m : BitVec 8) : Nat := if m.getLsbD 0 then 0 else if m.getLsbD 1 then 1 else if m.getLsbD 2 then 2 else if m.getLsbD 3 then 3 else if m.getLsbD 4 then 4 else if m.getLsbD 5 then 5 else if m.getLsbD 6 then 6 else 7
theorem own_low_lt {v : Nat} (hv : v < 4) {m : BitVec 8} (q : own_ind v m = true) (z : m ≠ 0#8) : own_low m < 2 ^ v := by
  have a := own_all8 (p := fun m => (List.range 4).all fun v => !own_ind v m || m == 0#8 || decide (own_low m < 2 ^ v)) (by decide +kernel) m
  have b := List.all_eq_true.mp a v (List.mem_range.mpr hv)
  simpa [q, z] using b
theorem own_low_hi {v : Nat} (hv : v < 3) {m : BitVec 8} (q : own_ind v m = true) (z : m ≠ 0#8) : own_low (own_ite v m 0#8) = 2 ^ v + own_low m := by
  have a := own_all8 (p := fun m => (List.range 3).all fun v => !own_ind v m || m == 0#8 || decide (own_low (own_ite v m 0#8) = 2 ^ v + own_low m)) (by decide +kernel) m
  have b := List.all_eq_true.mp a v (List.mem_range.mpr hv)
  simpa [q, z] using b
theorem own_low_lo {v : Nat} (hv : v < 3) {hi lo : BitVec 8} (q1 : own_ind v hi = true) (q2 : own_ind v lo = true) (z : lo ≠ 0#8) : own_low (own_ite v hi lo) = own_low lo := by
  match v, hv with
  | 0, _ => revert z; rcases own_ind0 q1 with rfl | rfl <;> rcases own_ind0 q2 with rfl | rfl <;> decide
  | 1, _ => revert z; rcases own_ind1 q1 with rfl | rfl | rfl | rfl <;> rcases own_ind1 q2 with rfl | rfl | rfl | rfl <;> decide
  | 2, _ =>
    obtain ⟨a, rfl⟩ := own_ind2 q1
    obtain ⟨b, rfl⟩ := own_ind2 q2
    have all : ∀ a b : Fin 16, BitVec.ofNat 8 (17 * b.val) ≠ 0#8 → own_low (own_ite 2 (BitVec.ofNat 8 (17 * a.val)) (BitVec.ofNat 8 (17 * b.val))) = own_low (BitVec.ofNat 8 (17 * b.val)) := by decide +kernel
    exact all a b z
/-- the level of a node: 0 for the two leaves, else the variable and one more -/
def own_lv (V : Nat → Nat) (i : Nat) : Nat := if i < 2 then 0 else V i + 1
/-- a node: its variable, its children, its mask -/
def own_nd (V Lo Hi : Nat → Nat) (M : Nat → BitVec 8) (i : Nat) : Prop :=
  V i < 3 ∧ Lo i < i ∧ Hi i < i ∧ Lo i ≠ Hi i ∧ own_lv V (Lo i) ≤ V i ∧ own_lv V (Hi i) ≤ V i ∧ M i = own_ite (V i) (M (Hi i)) (M (Lo i)) ∧ own_ind (V i + 1) (M i) = true ∧ M i ≠ 0#8
def own_B (nn : Nat) (V Lo Hi : Nat → Nat) (M : Nat → BitVec 8) : Prop :=
  2 ≤ nn ∧ M 0 = 0#8 ∧ M 1 = 255#8 ∧ ∀ i, 2 ≤ i → i < nn → own_nd V Lo Hi M i
section Bd
variable {nn : Nat} {V Lo Hi : Nat → Nat} {M : Nat → BitVec 8} {i : Nat}
theorem own_B.ind (B : own_B nn V Lo Hi M) (hi : i < nn) : own_ind (own_lv V i) (M i) = true := by
  unfold own_lv
  by_cases h : i < 2
  · rw [if_pos h]
    have : i = 0 ∨ i = 1 := by omega
    rcases this with rfl | rfl
    · rw [B.2.1]; decide
    · rw [B.2.2.1]; decide
  · rw [if_neg h]; exact (B.2.2.2 i (by omega) hi).2.2.2.2.2.2.2.1
theorem own_B.nz (B : own_B nn V Lo Hi M) (hi : i < nn) (h : i ≠ 0) : M i ≠ 0#8 := by
  by_cases h1 : i = 1
  · subst h1; rw [B.2.2.1]; decide
  · exact (B.2.2.2 i (by omega) hi).2.2.2.2.2.2.2.2
theorem own_B.lv3 (B : own_B nn V Lo Hi M) (hi : i < nn) : own_lv V i ≤ 3 := by
  unfold own_lv
  by_cases h : i < 2
  · rw [if_pos h]; omega
  · rw [if_neg h]; have := (B.2.2.2 i (by omega) hi).1; omega
/-- one value more -/
def own_up {α : Type} (f : Nat → α) (k : Nat) (x : α) : Nat → α := fun i => if i = k then x else f i
theorem own_up_eq {α : Type} (f : Nat → α) (k : Nat) (x : α) : own_up f k x k = x := by simp [own_up]
theorem own_up_ne {α : Type} (f : Nat → α) {k i : Nat} (x : α) (h : i ≠ k) : own_up f k x i = f i := by simp [own_up, h]
theorem own_lv_up {v : Nat} (hi : i < nn) : own_lv (own_up V nn v) i = own_lv V i := by
  unfold own_lv; rw [own_up_ne _ _ (by omega)]
/-- a new node -/
theorem own_B.add (B : own_B nn V Lo Hi M) {v lo hi : Nat} (hv : v < 3) (hl : lo < nn) (hh : hi < nn) (ne : lo ≠ hi) (l1 : own_lv V lo ≤ v) (l2 : own_lv V hi ≤ v) :
    own_B (nn + 1) (own_up V nn v) (own_up Lo nn lo) (own_up Hi nn hi) (own_up M nn (own_ite v (M hi) (M lo))) := by
  obtain ⟨b1, b2, b3, b4⟩ := B
  have B : own_B nn V Lo Hi M := ⟨b1, b2, b3, b4⟩
  refine ⟨by omega, by rw [own_up_ne _ _ (by omega)]; exact b2, by rw [own_up_ne _ _ (by omega)]; exact b3, fun i h1 h2 => ?_⟩
  by_cases e : i = nn
  · subst e
    unfold own_nd
    rw [own_up_eq, own_up_eq, own_up_eq, own_up_eq, own_lv_up hl, own_lv_up hh, own_up_ne M _ (show hi ≠ i by omega), own_up_ne M _ (show lo ≠ i by omega)]
    have i1 := own_ind_up l1 (B.ind hl)
    have i2 := own_ind_up l2 (B.ind hh)
    refine ⟨hv, hl, hh, ne, l1, l2, rfl, own_ite_ind i2 i1, own_ite_nz hv i2 i1 ?_⟩
    by_cases z : hi = 0
    · exact Or.inr (B.nz hl (by omega))
    · exact Or.inl (B.nz hh z)
  · obtain ⟨c1, c2, c3, c4, c5, c6, c7, c8, c9⟩ := b4 i h1 (by omega)
    unfold own_nd
    rw [own_up_ne V _ e, own_up_ne Lo _ e, own_up_ne Hi _ e, own_up_ne M _ e, own_lv_up (show Lo i < nn by omega), own_lv_up (show Hi i < nn by omega), own_up_ne M _ (show Hi i ≠ nn by omega), own_up_ne M _ (show Lo i ≠ nn by omega)]
    exact ⟨c1, c2, c3, c4, c5, c6, c7, c8, c9⟩
end Bd
/-- the nodes: their number, variables, children, masks, and how many are of a variable above 0 -/
abbrev own_Nd : Type := Nat × (Nat → Nat) × (Nat → Nat) × (Nat → Nat) × (Nat → BitVec 8) × Nat
abbrev own_ct (N : own_Nd) : Nat := N.1
abbrev own_V (N : own_Nd) : Nat → Nat := N.2.1
abbrev own_Lo (N : own_Nd) : Nat → Nat := N.2.2.1
abbrev own_Hi (N : own_Nd) : Nat → Nat := N.2.2.2.1
abbrev own_M (N : own_Nd) : Nat → BitVec 8 := N.2.2.2.2.1
abbrev own_b (N : own_Nd) : Nat := N.2.2.2.2.2
abbrev own_l (N : own_Nd) (i : Nat) : Nat := own_lv (own_V N) i
def own_add (N : own_Nd) (v lo hi : Nat) : own_Nd :=
  (own_ct N + 1, own_up (own_V N) (own_ct N) v, own_up (own_Lo N) (own_ct N) lo, own_up (own_Hi N) (own_ct N) hi, own_up (own_M N) (own_ct N) (own_ite v (own_M N hi) (own_M N lo)), own_b N + (if v = 0 then 0 else 1))
def own_BN (N : own_Nd) : Prop := own_B (own_ct N) (own_V N) (own_Lo N) (own_Hi N) (own_M N)
def own_Ext (N N' : own_Nd) : Prop := own_ct N ≤ own_ct N' ∧ ∀ i, i < own_ct N → own_V N' i = own_V N i ∧ own_Lo N' i = own_Lo N i ∧ own_Hi N' i = own_Hi N i ∧ own_M N' i = own_M N i
section Nd
variable {N N' N'' : own_Nd} {v lo hi i j d s : Nat}
theorem own_Ext.refl (N : own_Nd) : own_Ext N N := ⟨Nat.le_refl _, fun _ _ => ⟨rfl, rfl, rfl, rfl⟩⟩
theorem own_Ext.trans (E : own_Ext N N') (E' : own_Ext N' N'') : own_Ext N N'' := ⟨Nat.le_trans E.1 E'.1, fun i hi => by
  obtain ⟨a, b, c, d⟩ := E.2 i hi
  obtain ⟨a', b', c', d'⟩ := E'.2 i (Nat.lt_of_lt_of_le hi E.1)
  exact ⟨a'.trans a, b'.trans b, c'.trans c, d'.trans d⟩⟩
theorem own_Ext.l (E : own_Ext N N') (hi : i < own_ct N) : own_l N' i = own_l N i := by
  unfold own_l own_lv; rw [(E.2 i hi).1]
theorem own_Ext.add (N : own_Nd) (v lo hi : Nat) : own_Ext N (own_add N v lo hi) := ⟨Nat.le_succ _, fun i h => by
  have e : i ≠ own_ct N := by omega
  exact ⟨own_up_ne _ _ e, own_up_ne _ _ e, own_up_ne _ _ e, own_up_ne _ _ e⟩⟩
theorem own_BN.add (B : own_BN N) (hv : v < 3) (hl : lo < own_ct N) (hh : hi < own_ct N) (ne : lo ≠ hi) (l1 : own_l N lo ≤ v) (l2 : own_l N hi ≤ v) : own_BN (own_add N v lo hi) := own_B.add B hv hl hh ne l1 l2
theorem own_add_M (N : own_Nd) (v lo hi : Nat) : own_M (own_add N v lo hi) (own_ct N) = own_ite v (own_M N hi) (own_M N lo) := own_up_eq _ _ _
theorem own_add_V (N : own_Nd) (v lo hi : Nat) : own_V (own_add N v lo hi) (own_ct N) = v := own_up_eq _ _ _
theorem own_add_Lo (N : own_Nd) (v lo hi : Nat) : own_Lo (own_add N v lo hi) (own_ct N) = lo := own_up_eq _ _ _
theorem own_add_Hi (N : own_Nd) (v lo hi : Nat) : own_Hi (own_add N v lo hi) (own_ct N) = hi := own_up_eq _ _ _
theorem own_add_l (B : own_BN N) (v lo hi : Nat) : own_l (own_add N v lo hi) (own_ct N) = v + 1 := by
  unfold own_l own_lv
  rw [if_neg (by have := B.1; omega), own_add_V]
/-- at most two nodes are of variable 0 -/
def own_Cn (N : own_Nd) : Prop := ∃ f1 f2, f1 ≤ 1 ∧ f2 ≤ 1 ∧ own_ct N = 2 + f1 + f2 + own_b N ∧ (f1 ≠ 0 → ∃ i, 2 ≤ i ∧ i < own_ct N ∧ own_V N i = 0 ∧ own_Lo N i = 0 ∧ own_Hi N i = 1) ∧ (f2 ≠ 0 → ∃ i, 2 ≤ i ∧ i < own_ct N ∧ own_V N i = 0 ∧ own_Lo N i = 1 ∧ own_Hi N i = 0)
def own_none (N : own_Nd) (v lo hi : Nat) : Prop := ∀ i, 2 ≤ i → i < own_ct N → ¬ (own_V N i = v ∧ own_Lo N i = lo ∧ own_Hi N i = hi)
theorem own_Cn.le (C : own_Cn N) : own_ct N ≤ 4 + own_b N := by obtain ⟨f1, f2, a, b, c, -⟩ := C; omega
theorem own_Cn.add (C : own_Cn N) (B : own_BN N) (no : own_none N v lo hi) (ne : lo ≠ hi) (h0 : v = 0 → lo < 2 ∧ hi < 2) : own_Cn (own_add N v lo hi) := by
  obtain ⟨f1, f2, a1, a2, e, g1, g2⟩ := C
  have b2 : 2 ≤ own_ct N := B.1
  have X := own_Ext.add N v lo hi
  have up : ∀ {x y : Nat}, (∃ i, 2 ≤ i ∧ i < own_ct N ∧ own_V N i = 0 ∧ own_Lo N i = x ∧ own_Hi N i = y) → ∃ i, 2 ≤ i ∧ i < own_ct (own_add N v lo hi) ∧ own_V (own_add N v lo hi) i = 0 ∧ own_Lo (own_add N v lo hi) i = x ∧ own_Hi (own_add N v lo hi) i = y := by
    rintro x y ⟨i, q1, q2, q3, q4, q5⟩
    obtain ⟨r1, r2, r3, -⟩ := X.2 i q2
    exact ⟨i, q1, Nat.lt_succ_of_lt q2, by rw [r1, q3], by rw [r2, q4], by rw [r3, q5]⟩
  have enn : own_ct (own_add N v lo hi) = own_ct N + 1 := rfl
  by_cases hv : v = 0
  · subst hv
    obtain ⟨l2, h2⟩ := h0 rfl
    have eb : own_b (own_add N 0 lo hi) = own_b N := rfl
    by_cases hl : lo = 0
    · have hh : hi = 1 := by clear g1 g2 up; omega
      subst hl hh
      have z : f1 = 0 := Classical.byContradiction fun q => by
        obtain ⟨i, q1, q2, q3⟩ := g1 q
        exact no i q1 q2 q3
      exact ⟨1, f2, Nat.le_refl _, a2, by rw [enn, eb]; clear g1 g2 up; omega, fun _ => ⟨own_ct N, b2, Nat.lt_succ_self _, own_add_V .., own_add_Lo .., own_add_Hi ..⟩, fun q => up (g2 q)⟩
    · have hl' : lo = 1 := by clear g1 g2 up; omega
      have hh : hi = 0 := by clear g1 g2 up; omega
      subst hl' hh
      have z : f2 = 0 := Classical.byContradiction fun q => by
        obtain ⟨i, q1, q2, q3⟩ := g2 q
        exact no i q1 q2 q3
      exact ⟨f1, 1, a1, Nat.le_refl _, by rw [enn, eb]; clear g1 g2 up; omega, fun q => up (g1 q), fun _ => ⟨own_ct N, b2, Nat.lt_succ_self _, own_add_V .., own_add_Lo .., own_add_Hi ..⟩⟩
  · have eb : own_b (own_add N v lo hi) = own_b N + 1 := by show own_b N + (if v = 0 then 0 else 1) = _; rw [if_neg hv]
    exact ⟨f1, f2, a1, a2, by rw [enn, eb]; clear g1 g2 up; omega, fun q => up (g1 q), fun q => up (g2 q)⟩
end Nd
/-- the hash of a node's parts, as Java has it -/
def own_hash (a b : Int32) : Int32 := a * (-1640531535) + b
def own_nz : List Int32 → Nat
  | [] => 0
  | x :: r => own_nz r + (if x = 0 then 0 else 1)
theorem own_nz_set (x : Int32) : ∀ (G : List Int32) (i : Nat), own_nz (G.set i x) ≤ own_nz G + 1
  | [], _ => by simp [own_nz]
  | y :: r, 0 => by simp only [List.set, own_nz]; split <;> split <;> omega
  | y :: r, i + 1 => by have := own_nz_set x r i; simp only [List.set, own_nz]; omega
theorem own_nz_free : ∀ G : List Int32, own_nz G < G.length → ∃ i, i < G.length ∧ G[i]? = some 0
  | [], h => by simp [own_nz] at h
  | y :: r, h => by
    by_cases e : y = 0
    · exact ⟨0, by simp, by rw [e]; rfl⟩
    · simp only [own_nz, e, if_false, List.length_cons] at h
      obtain ⟨i, h1, h2⟩ := own_nz_free r (by omega)
      exact ⟨i + 1, by simp; omega, by simpa using h2⟩
theorem own_nz_rep : ∀ n, own_nz (List.replicate n 0) = 0
  | 0 => rfl
  | n + 1 => by simp [List.replicate, own_nz, own_nz_rep n]
/-- the d-th place from S on, round the table -/
abbrev own_pl (j S d : Nat) : Nat := (S + d) % 2 ^ j
/-- node i is found from S before any free place -/
def own_Fd (U : List Int32) (j S i : Nat) : Prop := ∃ d, U[own_pl j S d]? = some (Int32.ofNat i) ∧ ∀ d', d' < d → U[own_pl j S d']? ≠ some 0
/-- the table U of 2 ^ j places holds the nodes below m; H: where the search for a node begins -/
def own_T (H : Nat → Nat → Nat → Nat) (U : List Int32) (j : Nat) (N : own_Nd) (m : Nat) : Prop :=
  U.length = 2 ^ j ∧ own_nz U ≤ m - 2 ∧ (∀ i, 2 ≤ i → i < m → own_Fd U j (H (own_V N i) (own_Lo N i) (own_Hi N i)) i) ∧ ∀ s, s < 2 ^ j → ∃ i, U[s]? = some (Int32.ofNat i) ∧ (i = 0 ∨ (2 ≤ i ∧ i < m))
theorem own_T.new (H : Nat → Nat → Nat → Nat) (j : Nat) (N : own_Nd) : own_T H (List.replicate (2 ^ j) 0) j N 2 :=
  ⟨by simp, by rw [own_nz_rep]; omega, fun i h1 h2 => absurd h2 (by omega), fun s hs => ⟨0, by rw [List.getElem?_replicate, if_pos hs]; rfl, Or.inl rfl⟩⟩
theorem own_T.ext {H : Nat → Nat → Nat → Nat} {U : List Int32} {j m : Nat} {N N' : own_Nd} (T : own_T H U j N m) (E : own_Ext N N') (hm : m ≤ own_ct N) : own_T H U j N' m := by
  obtain ⟨a, b, c, d⟩ := T
  exact ⟨a, b, fun i h1 h2 => by obtain ⟨e1, e2, e3, -⟩ := E.2 i (by omega); rw [e1, e2, e3]; exact c i h1 h2, d⟩
theorem own_T.ins {H : Nat → Nat → Nat → Nat} {U : List Int32} {j m d0 : Nat} {N : own_Nd} (T : own_T H U j N m) (h2 : 2 ≤ m) (hm : m < 2 ^ 31) (hz : U[own_pl j (H (own_V N m) (own_Lo N m) (own_Hi N m)) d0]? = some 0) (hn : ∀ d, d < d0 → U[own_pl j (H (own_V N m) (own_Lo N m) (own_Hi N m)) d]? ≠ some 0) :
    own_T H (U.set (own_pl j (H (own_V N m) (own_Lo N m) (own_Hi N m)) d0) (Int32.ofNat m)) j N (m + 1) := by
  obtain ⟨a, b, c, d⟩ := T
  generalize eS : own_pl j (H (own_V N m) (own_Lo N m) (own_Hi N m)) d0 = s at hz ⊢
  have hs : s < U.length := (List.getElem?_eq_some_iff.mp hz).1
  have nz : Int32.ofNat m ≠ 0 := own_ne0 (by omega) hm
  have keep0 : ∀ p : Nat, U[p]? ≠ some 0 → (U.set s (Int32.ofNat m))[p]? ≠ some 0 := by
    intro p q
    by_cases e : s = p
    · subst e; rw [List.getElem?_set_self hs]; intro z; exact nz (Option.some.inj z)
    · rw [List.getElem?_set_ne e]; exact q
  refine ⟨by rw [List.length_set]; exact a, ?_, fun i h1 h3 => ?_, fun p hp => ?_⟩
  · have := own_nz_set (Int32.ofNat m) U s; omega
  · by_cases e : i = m
    · subst e
      exact ⟨d0, by rw [eS, List.getElem?_set_self hs], fun d' hd => keep0 _ (hn d' hd)⟩
    · obtain ⟨d1, q1, q2⟩ := c i h1 (by omega)
      refine ⟨d1, ?_, fun d' hd => keep0 _ (q2 d' hd)⟩
      rw [List.getElem?_set_ne]
      · exact q1
      · intro z
        rw [← z, hz] at q1
        exact own_ne0 (a := i) (by omega) (by omega) (Option.some.inj q1).symm
  · by_cases e : s = p
    · subst e; exact ⟨m, List.getElem?_set_self hs, Or.inr ⟨h2, by omega⟩⟩
    · obtain ⟨i, q1, q2⟩ := d p hp
      exact ⟨i, by rw [List.getElem?_set_ne e]; exact q1, q2.imp id fun q => ⟨q.1, by omega⟩⟩
/-- the search stops at place p: it is free, or a node of these parts lies there -/
def own_Stp (U : List Int32) (N : own_Nd) (v lo hi p : Nat) : Prop := ∃ i, i < 2 ^ 31 ∧ U[p]? = some (Int32.ofNat i) ∧ (i = 0 ∨ (own_V N i = v ∧ own_Lo N i = lo ∧ own_Hi N i = hi))
theorem own_T.find {H : Nat → Nat → Nat → Nat} {U : List Int32} {j m : Nat} {N : own_Nd} (T : own_T H U j N m) (hm : m < 2 ^ j) (v lo hi S : Nat) : ∃ d0, own_Stp U N v lo hi (own_pl j S d0) ∧ ∀ d, d < d0 → ¬ own_Stp U N v lo hi (own_pl j S d) := by
  have pp : 0 < 2 ^ j := Nat.two_pow_pos j
  obtain ⟨F, f1, f2⟩ := own_nz_free U (by have := T.1; have := T.2.1; omega)
  rw [T.1] at f1
  have hS := Nat.mod_lt S pp
  obtain ⟨d0, -, q1, q2⟩ := own_least (p := fun d => own_Stp U N v lo hi (own_pl j S d)) (fun d => Classical.em _) (2 ^ j) ⟨(F + 2 ^ j - S % 2 ^ j) % 2 ^ j, Nat.mod_lt _ pp, by
    show own_Stp U N v lo hi ((S + (F + 2 ^ j - S % 2 ^ j) % 2 ^ j) % 2 ^ j)
    rw [Nat.add_mod_mod, ← Nat.mod_add_mod, show S % 2 ^ j + (F + 2 ^ j - S % 2 ^ j) = F + 2 ^ j by omega, Nat.add_mod_right, Nat.mod_eq_of_lt f1]
    exact ⟨0, by decide, f2, Or.inl rfl⟩⟩
  exact ⟨d0, q1, q2⟩
theorem own_T.none {H : Nat → Nat → Nat → Nat} {U : List Int32} {j d0 : Nat} {N : own_Nd} {v lo hi : Nat} (T : own_T H U j N (own_ct N)) (hm : own_ct N < 2 ^ 31) (hz : U[own_pl j (H v lo hi) d0]? = some 0) (hn : ∀ d, d < d0 → ¬ own_Stp U N v lo hi (own_pl j (H v lo hi) d)) : own_none N v lo hi := by
  intro i h1 h2 ⟨e1, e2, e3⟩
  obtain ⟨d, q1, q2⟩ := T.2.2.1 i h1 h2
  rw [e1, e2, e3] at q1 q2
  by_cases l : d < d0
  · exact hn d l ⟨i, by omega, q1, Or.inr ⟨e1, e2, e3⟩⟩
  · by_cases e : d = d0
    · subst e
      rw [hz] at q1
      exact own_ne0 (a := i) (by omega) (by omega) (Option.some.inj q1).symm
    · exact q2 d0 (by omega) hz
/-- a cache's place: nothing known, or a true result -/
def own_Ce (N : own_Nd) (C1 C2 C3 C4 : List Int32) (s : Nat) : Prop :=
  C4[s]? = some (-2147483648) ∨ ∃ op f g r, C1[s]? = some (Int32.ofNat op) ∧ C2[s]? = some (Int32.ofNat f) ∧ C3[s]? = some (Int32.ofNat g) ∧ C4[s]? = some (Int32.ofNat r) ∧ op < 4 ∧ f < own_ct N ∧ g < own_ct N ∧ r < own_ct N ∧ own_M N r = own_op op (own_M N f) (own_M N g) ∧ own_l N r ≤ max (own_l N f) (own_l N g)
theorem own_Ce.ext {N N' : own_Nd} {C1 C2 C3 C4 : List Int32} {s : Nat} (C : own_Ce N C1 C2 C3 C4 s) (E : own_Ext N N') : own_Ce N' C1 C2 C3 C4 s := by
  rcases C with C | ⟨op, f, g, r, a1, a2, a3, a4, a5, a6, a7, a8, a9, a10⟩
  · exact Or.inl C
  · refine Or.inr ⟨op, f, g, r, a1, a2, a3, a4, a5, Nat.lt_of_lt_of_le a6 E.1, Nat.lt_of_lt_of_le a7 E.1, Nat.lt_of_lt_of_le a8 E.1, ?_, ?_⟩
    · rw [(E.2 r a8).2.2.2, (E.2 f a6).2.2.2, (E.2 g a7).2.2.2]; exact a9
    · rw [E.l a8, E.l a6, E.l a7]; exact a10
def own_mix (h : Int32) : Int32 :=
  let a := h ^^^ XT.ushr h 16
  let b := a * (-2048144789)
  let c := b ^^^ XT.ushr b 13
  let d := c * (-1028477387)
  d ^^^ XT.ushr d 16
/-- where the search for a node begins -/
def own_H (v lo hi : Nat) : Nat := (own_mix (own_hash (own_hash (Int32.ofNat v) (Int32.ofNat lo)) (Int32.ofNat hi))).toBitVec.toNat
theorem own_T.free {H : Nat → Nat → Nat → Nat} {U : List Int32} {j m : Nat} {N : own_Nd} (T : own_T H U j N m) (hm : m < 2 ^ j) (S : Nat) : ∃ d0, U[own_pl j S d0]? = some 0 ∧ ∀ d, d < d0 → U[own_pl j S d]? ≠ some 0 := by
  have pp : 0 < 2 ^ j := Nat.two_pow_pos j
  obtain ⟨F, f1, f2⟩ := own_nz_free U (by have := T.1; have := T.2.1; omega)
  rw [T.1] at f1
  have hS := Nat.mod_lt S pp
  obtain ⟨d0, -, q1, q2⟩ := own_least (p := fun d => U[own_pl j S d]? = some 0) (fun d => Classical.em _) (2 ^ j) ⟨(F + 2 ^ j - S % 2 ^ j) % 2 ^ j, Nat.mod_lt _ pp, by
    show U[(S + (F + 2 ^ j - S % 2 ^ j) % 2 ^ j) % 2 ^ j]? = some 0
    rw [Nat.add_mod_mod, ← Nat.mod_add_mod, show S % 2 ^ j + (F + 2 ^ j - S % 2 ^ j) = F + 2 ^ j by omega, Nat.add_mod_right, Nat.mod_eq_of_lt f1]
    exact f2⟩
  exact ⟨d0, q1, q2⟩
/-- the arrays hold the nodes -/
def own_R (N : own_Nd) (D L H : List Int32) : Prop := D[0]? = some (-1 : Int32) ∧ D[1]? = some (-1 : Int32) ∧ ∀ i : Nat, 2 ≤ i → i < own_ct N → D[i]? = some (Int32.ofNat (own_V N i)) ∧ L[i]? = some (Int32.ofNat (own_Lo N i)) ∧ H[i]? = some (Int32.ofNat (own_Hi N i))
theorem own_mapI {L : List Int32} {i : Nat} {x : Int32} (q : L[i]? = some x) : (L.map Value.int)[i]? = some (.int x) := by rw [List.getElem?_map, q]; rfl
theorem own_mltI {L : List Int32} {i : Nat} (q : i < L.length) : i < (L.map Value.int).length := by rw [List.length_map]; exact q
/-- the connectives on truth values -/
def own_opB (op : Nat) (x y : Bool) : Bool := match op with
  | 0 => x && y
  | 1 => x || y
  | 2 => !x || y
  | _ => x == y
theorem own_op_bit (op : Nat) (a b : BitVec 8) {i : Nat} (hi : i < 8) : (own_op op a b).getLsbD i = own_opB op (a.getLsbD i) (b.getLsbD i) := by
  unfold own_op own_opB
  split <;> simp only [BitVec.getLsbD_or, BitVec.getLsbD_and, BitVec.getLsbD_not, BitVec.getLsbD_xor, hi, decide_true, Bool.true_and]
  cases a.getLsbD i <;> cases b.getLsbD i <;> rfl
theorem own_op_gen (op : Nat) (a b r : BitVec 8) (H : ∀ i, i < 8 → own_opB op (a.getLsbD i) (b.getLsbD i) = r.getLsbD i) : own_op op a b = r := by
  apply BitVec.eq_of_getLsbD_eq
  intro i hi
  rw [own_op_bit op a b hi]; exact H i hi
def own_c8 (b : Bool) : BitVec 8 := if b then 255#8 else 0#8
theorem own_c8_bit (b : Bool) {i : Nat} (hi : i < 8) : (own_c8 b).getLsbD i = b := by
  have all : ∀ (b : Bool) (i : Fin 8), (own_c8 b).getLsbD i.val = b := by decide
  exact all b ⟨i, hi⟩
theorem own_op_cc (op : Nat) (x y : Bool) : own_op op (own_c8 x) (own_c8 y) = own_c8 (own_opB op x y) := own_op_gen _ _ _ _ fun i hi => by rw [own_c8_bit _ hi, own_c8_bit _ hi, own_c8_bit _ hi]
theorem own_op_s (op : Nat) (m r : BitVec 8) (H : ∀ i, i < 8 → r.getLsbD i = if m.getLsbD i then own_opB op true true else own_opB op false false) : own_op op m m = r := own_op_gen _ _ _ _ fun i hi => by
  rw [H i hi]; cases m.getLsbD i <;> rfl
theorem own_op_l (op : Nat) (x : Bool) (m r : BitVec 8) (H : ∀ i, i < 8 → r.getLsbD i = if m.getLsbD i then own_opB op x true else own_opB op x false) : own_op op (own_c8 x) m = r := own_op_gen _ _ _ _ fun i hi => by
  rw [H i hi, own_c8_bit _ hi]; cases m.getLsbD i <;> rfl
theorem own_op_r (op : Nat) (x : Bool) (m r : BitVec 8) (H : ∀ i, i < 8 → r.getLsbD i = if m.getLsbD i then own_opB op true x else own_opB op false x) : own_op op m (own_c8 x) = r := own_op_gen _ _ _ _ fun i hi => by
  rw [H i hi, own_c8_bit _ hi]; cases m.getLsbD i <;> rfl
/-- a truth value as Java has it -/
def own_bi (b : Bool) : Int32 := cond b 1 0
/-- what follows() answers -/
def own_fo (z o : Bool) (s : Int32) : Int32 := if z = o then own_bi o else if o then s else -2147483648
def own_opL (op : Nat) (x y : Int64) : Int64 := match op with
  | 0 => x &&& y
  | 1 => x ||| y
  | 2 => (x ^^^ -1) ||| y
  | _ => (x ^^^ y) ^^^ -1
def own_bl (b : Bool) : Int64 := cond b 1 0
theorem own_opL_bit {op : Nat} (h : op < 4) (x y : Bool) : (own_opL op (own_bl x) (own_bl y) &&& 1 = 0) ↔ own_opB op x y = false := by
  have all : ∀ (op : Fin 4) (x y : Bool), (own_opL op.val (own_bl x) (own_bl y) &&& 1 = 0) ↔ own_opB op.val x y = false := by decide
  exact all ⟨op, h⟩ x y
/-- the answer of shortcut() and cached(): nothing, or a true result -/
def own_Sr (N : own_Nd) (op f g : Nat) (x : Int32) : Prop := x = -2147483648 ∨ ∃ r, x = Int32.ofNat r ∧ r < own_ct N ∧ own_M N r = own_op op (own_M N f) (own_M N g) ∧ own_l N r ≤ max (own_l N f) (own_l N g)
theorem own_BN.c8 {N : own_Nd} (B : own_BN N) (b : Bool) : ∃ r, own_bi b = Int32.ofNat r ∧ r < own_ct N ∧ own_M N r = own_c8 b ∧ own_l N r = 0 := by
  cases b
  · exact ⟨0, rfl, by have := B.1; omega, B.2.1, rfl⟩
  · exact ⟨1, rfl, by have := B.1; omega, B.2.2.1, rfl⟩
theorem own_Sr.fo {N : own_Nd} {op f g s : Nat} (B : own_BN N) (hs : s < own_ct N) (z o : Bool) (e : ∀ r : BitVec 8, (∀ i, i < 8 → r.getLsbD i = if (own_M N s).getLsbD i then o else z) → own_op op (own_M N f) (own_M N g) = r) (hl : own_l N s ≤ max (own_l N f) (own_l N g)) : own_Sr N op f g (own_fo z o (Int32.ofNat s)) := by
  unfold own_fo
  by_cases q : z = o
  · rw [if_pos q]
    obtain ⟨r, e1, e2, e3, e4⟩ := B.c8 o
    exact Or.inr ⟨r, e1, e2, by rw [e3]; exact (e _ fun i hi => by rw [own_c8_bit _ hi, q]; split <;> rfl).symm, by omega⟩
  · rw [if_neg q]
    by_cases p : o = true
    · rw [if_pos p]
      have z0 : z = false := by cases z <;> simp_all
      exact Or.inr ⟨s, rfl, hs, (e _ fun i hi => by rw [p, z0]; cases (own_M N s).getLsbD i <;> rfl).symm, hl⟩
    · rw [if_neg p]; exact Or.inl rfl
theorem own_Sr.cc {N : own_Nd} {op f g : Nat} {x y : Bool} (B : own_BN N) (ef : own_M N f = own_c8 x) (eg : own_M N g = own_c8 y) : own_Sr N op f g (own_bi (own_opB op x y)) := by
  obtain ⟨r, e1, e2, e3, e4⟩ := B.c8 (own_opB op x y)
  exact Or.inr ⟨r, e1, e2, by rw [e3, ef, eg, own_op_cc], by omega⟩
theorem own_bi_unk (b : Bool) : own_bi b ≠ -2147483648 := by cases b <;> decide
/-- a level as Java has it -/
def own_jv : Nat → Int32
  | 0 => -1
  | n + 1 => Int32.ofNat n
theorem own_jv_lt {a b : Nat} (ha : a ≤ 3) (hb : b ≤ 3) : own_jv a < own_jv b ↔ a < b := by
  have all : ∀ a b : Fin 4, own_jv a.val < own_jv b.val ↔ a.val < b.val := by decide
  exact all ⟨a, by omega⟩ ⟨b, by omega⟩
theorem own_jv_eq {a b : Nat} (ha : a ≤ 3) (hb : b ≤ 3) : own_jv a = own_jv b ↔ a = b := by
  have all : ∀ a b : Fin 4, own_jv a.val = own_jv b.val ↔ a.val = b.val := by decide
  exact all ⟨a, by omega⟩ ⟨b, by omega⟩
theorem own_jv_max {a b : Nat} (ha : a ≤ 3) (hb : b ≤ 3) : (if own_jv a < own_jv b then own_jv b else own_jv a) = own_jv (max a b) := by
  by_cases q : a < b
  · rw [if_pos ((own_jv_lt ha hb).mpr q), Nat.max_eq_right (by omega)]
  · rw [if_neg (fun z => q ((own_jv_lt ha hb).mp z)), Nat.max_eq_left (by omega)]
theorem own_jv_suc {t : Nat} (h : 1 ≤ t) : own_jv t = Int32.ofNat (t - 1) := by
  obtain ⟨n, rfl⟩ : ∃ n, t = n + 1 := ⟨t - 1, by omega⟩
  rfl
/-- the child of f on one side, if f is of the level T -/
def own_ch (C : Nat → Nat) (N : own_Nd) (T f : Nat) : Nat := if own_l N f = T then C f else f
section Ch
variable {N : own_Nd} {T f : Nat}
theorem own_l_two (h : 1 ≤ own_l N f) : 2 ≤ f := Classical.byContradiction fun z => by unfold own_l own_lv at h; rw [if_pos (by omega)] at h; omega
theorem own_l_V (h : 2 ≤ f) : own_l N f = own_V N f + 1 := by unfold own_l own_lv; rw [if_neg (by omega)]
theorem own_chL (B : own_BN N) (hf : f < own_ct N) (h1 : 1 ≤ T) (hT : own_l N f ≤ T) : own_ch (own_Lo N) N T f < own_ct N ∧ own_l N (own_ch (own_Lo N) N T f) ≤ T - 1 := by
  unfold own_ch
  by_cases e : own_l N f = T
  · rw [if_pos e]
    have f2 := own_l_two (N := N) (f := f) (by omega)
    obtain ⟨b1, b2, b3, b4, b5, b6, -⟩ := B.2.2.2 f f2 hf
    have := own_l_V (N := N) f2
    exact ⟨by omega, by show own_lv _ _ ≤ _; omega⟩
  · rw [if_neg e]; exact ⟨hf, by omega⟩
theorem own_chH (B : own_BN N) (hf : f < own_ct N) (h1 : 1 ≤ T) (hT : own_l N f ≤ T) : own_ch (own_Hi N) N T f < own_ct N ∧ own_l N (own_ch (own_Hi N) N T f) ≤ T - 1 := by
  unfold own_ch
  by_cases e : own_l N f = T
  · rw [if_pos e]
    have f2 := own_l_two (N := N) (f := f) (by omega)
    obtain ⟨b1, b2, b3, b4, b5, b6, -⟩ := B.2.2.2 f f2 hf
    have := own_l_V (N := N) f2
    exact ⟨by omega, by show own_lv _ _ ≤ _; omega⟩
  · rw [if_neg e]; exact ⟨hf, by omega⟩
theorem own_chM (B : own_BN N) (hf : f < own_ct N) (h1 : 1 ≤ T) : own_M N f = own_ite (T - 1) (own_M N (own_ch (own_Hi N) N T f)) (own_M N (own_ch (own_Lo N) N T f)) := by
  unfold own_ch
  by_cases e : own_l N f = T
  · rw [if_pos e, if_pos e]
    have f2 := own_l_two (N := N) (f := f) (by omega)
    obtain ⟨b1, b2, b3, b4, b5, b6, b7, -⟩ := B.2.2.2 f f2 hf
    have := own_l_V (N := N) f2
    rw [show T - 1 = own_V N f by omega]; exact b7
  · rw [if_neg e, if_neg e, own_ite_same]
end Ch
/-- how many nodes above variable 0 one pair of level L may need -/
def own_cnt : Nat → Nat
  | 0 => 0
  | n + 1 => 2 * own_cnt n + (if n = 0 then 0 else 1)
theorem own_cnt3 : own_cnt 3 = 3 := rfl
/-- a mask as Java has it -/
def own_mi (m : BitVec 8) : Int32 := Int32.ofBitVec (m.setWidth 32)
theorem own_mi_ext {x : Int32} {m : BitVec 8} (H : ∀ i, i < 32 → x.toBitVec.getLsbD i = m.getLsbD i) : x = own_mi m := by
  apply Int32.toBitVec_inj.mp
  apply BitVec.eq_of_getLsbD_eq
  intro i hi
  rw [H i hi]
  show _ = (m.setWidth 32).getLsbD i
  simp [BitVec.getLsbD_setWidth, hi]
theorem own_mi_bit (m : BitVec 8) {i : Nat} (hi : i < 32) : (own_mi m).toBitVec.getLsbD i = m.getLsbD i := by
  show (m.setWidth 32).getLsbD i = _
  simp [BitVec.getLsbD_setWidth, hi]
theorem own_255 {i : Nat} (hi : i < 32) : (255 : Int32).toBitVec.getLsbD i = decide (i < 8) := by
  have all : ∀ i : Fin 32, (255 : Int32).toBitVec.getLsbD i.val = decide (i.val < 8) := by decide
  exact all ⟨i, hi⟩
theorem own_m1b {i : Nat} (hi : i < 32) : (-1 : Int32).toBitVec.getLsbD i = true := by
  have all : ∀ i : Fin 32, (-1 : Int32).toBitVec.getLsbD i.val = true := by decide
  exact all ⟨i, hi⟩
def own_tab (c : Nat) (a b : Int32) : Int32 := match c with
  | 0 => a &&& b
  | 1 => a ||| b
  | 2 => ((a ^^^ -1) ||| b) &&& 255
  | _ => ((a ^^^ b) ^^^ -1) &&& 255
theorem own_tab_eq (c : Nat) (a b : BitVec 8) : own_tab c (own_mi a) (own_mi b) = own_mi (own_op c a b) := by
  apply own_mi_ext
  intro i hi
  unfold own_tab own_op
  split <;> simp only [Int32.toBitVec_and, Int32.toBitVec_or, Int32.toBitVec_xor, BitVec.getLsbD_or, BitVec.getLsbD_and, BitVec.getLsbD_xor, BitVec.getLsbD_not, own_mi_bit _ hi, own_255 hi, own_m1b hi]
  · by_cases q : i < 8
    · simp [q]
    · have z : b.getLsbD i = false := BitVec.getLsbD_of_ge _ _ (by omega)
      simp [q, z]
  · by_cases q : i < 8
    · simp [q]
    · simp [q]
theorem own_mi_place (m : BitVec 8) (k : Fin 8) : (own_mi m &&& Int32.ofNat (2 ^ k.val) = 0) ↔ m.getLsbD k.val = false := by
  have a := own_all8 (p := fun m => (List.range 8).all fun k => decide ((own_mi m &&& Int32.ofNat (2 ^ k) = 0) ↔ m.getLsbD k = false)) (by decide +kernel) m
  have b := List.all_eq_true.mp a k.val (List.mem_range.mpr k.isLt)
  exact of_decide_eq_true b
theorem own_mi_zero (m : BitVec 8) : own_mi m = 0 ↔ m = 0#8 := by
  have a := own_all8 (p := fun m => decide (own_mi m = 0 ↔ m = 0#8)) (by decide +kernel) m
  exact of_decide_eq_true a
/-- digit i of a as Java has it -/
def own_bt (a i : Nat) : Int32 := if a.testBit i then 1 else 0
theorem own_bt_add {a v i : Nat} (ha : a < 8) (hv : v < 3) (hi : i < 4) (q : a % 2 ^ (v + 1) = 0) : own_bt (a + 2 ^ v) i = if i = v then 1 else own_bt a i := by
  have all : ∀ (a : Fin 8) (v : Fin 3) (i : Fin 4), a.val % 2 ^ (v.val + 1) = 0 → own_bt (a.val + 2 ^ v.val) i.val = if i.val = v.val then 1 else own_bt a.val i.val := by decide
  exact all ⟨a, ha⟩ ⟨v, hv⟩ ⟨i, hi⟩ q
theorem own_low8 (m : BitVec 8) : own_low m < 8 := by unfold own_low; repeat' split
                                                      all_goals omega
theorem own_bi1 {b : Bool} (h : ¬ own_bi b = 0) : own_bi b = 1 := by cases b <;> first | rfl | exact absurd rfl h
theorem own_Ce.sr {N : own_Nd} {C1 C2 C3 C4 : List Int32} {s op f g : Nat} {x : Int32} (C : own_Ce N C1 C2 C3 C4 s) (h31 : own_ct N < 2 ^ 31) (hop : op < 4) (hf : f < own_ct N) (hg : g < own_ct N) (e1 : C1[s]? = some (Int32.ofNat op)) (e2 : C2[s]? = some (Int32.ofNat f)) (e3 : C3[s]? = some (Int32.ofNat g)) (e4 : C4[s]? = some x) : own_Sr N op f g x := by
  rcases C with C | ⟨op', f', g', r, a1, a2, a3, a4, a5, a6, a7, a8, a9, a10⟩
  · exact Or.inl (Option.some.inj (e4.symm.trans C))
  · obtain rfl : op = op' := (own_inj (by omega) (by omega)).mp (Option.some.inj (e1.symm.trans a1))
    obtain rfl : f = f' := (own_inj (by omega) (by omega)).mp (Option.some.inj (e2.symm.trans a2))
    obtain rfl : g = g' := (own_inj (by omega) (by omega)).mp (Option.some.inj (e3.symm.trans a3))
    exact Or.inr ⟨r, Option.some.inj (e4.symm.trans a4), a8, a9, a10⟩
abbrev own_DD : String := "com/example/perdure/perdure/check/DecisionDiagrams"
abbrev own_PS : String := "com/example/perdure/perdure/check/DecisionDiagrams$PairSet"
abbrev own_CO : String := "com/example/perdure/perdure/model/Connective"
/-- the arrays' fields -/
def own_fn (i : Fin 12) : String := match i.val with
  | 0 => "decided"
  | 1 => "low"
  | 2 => "high"
  | 3 => "unique"
  | 4 => "cachedOperation"
  | 5 => "cachedLeft"
  | 6 => "cachedRight"
  | 7 => "cachedResult"
  | 8 => "pendingLeft"
  | 9 => "pendingRight"
  | 10 => "pendingStage"
  | _ => "results"
theorem own_laid {Z : State} {a0 : Array Value} (hw : ∀ d ∈ tables_1, d.before a0 Z = true) : ∀ i : Fin 12, Laid Z a0 own_DD own_DD (own_fn i) "[I"
  | ⟨0, _⟩ => (Or.inl (hw _ (List.mem_of_getElem? (i := 29) rfl)))
  | ⟨1, _⟩ => (Or.inl (hw _ (List.mem_of_getElem? (i := 31) rfl)))
  | ⟨2, _⟩ => (Or.inl (hw _ (List.mem_of_getElem? (i := 33) rfl)))
  | ⟨3, _⟩ => (Or.inl (hw _ (List.mem_of_getElem? (i := 37) rfl)))
  | ⟨4, _⟩ => (Or.inl (hw _ (List.mem_of_getElem? (i := 43) rfl)))
  | ⟨5, _⟩ => (Or.inl (hw _ (List.mem_of_getElem? (i := 45) rfl)))
  | ⟨6, _⟩ => (Or.inl (hw _ (List.mem_of_getElem? (i := 47) rfl)))
  | ⟨7, _⟩ => (Or.inl (hw _ (List.mem_of_getElem? (i := 49) rfl)))
  | ⟨8, _⟩ => (Or.inr (hw _ (List.mem_of_getElem? (i := 64) rfl)))
  | ⟨9, _⟩ => (Or.inr (hw _ (List.mem_of_getElem? (i := 66) rfl)))
  | ⟨10, _⟩ => (Or.inr (hw _ (List.mem_of_getElem? (i := 68) rfl)))
  | ⟨11, _⟩ => (Or.inr (hw _ (List.mem_of_getElem? (i := 70) rfl)))
theorem own_fn_inj : ∀ i j : Fin 12, i ≠ j → own_fn i ≠ own_fn j := by decide
theorem own_sne {Z : State} {a0 : Array Value} (hw : ∀ d ∈ tables_1, d.before a0 Z = true) {i j : Fin 12} (ne : i ≠ j) : Jvm.RoadKit.slotOf Z own_DD (own_fn i) "[I" ≠ Jvm.RoadKit.slotOf Z own_DD (own_fn j) "[I" := slot_ne (C := own_DD) (own_laid hw i) (own_laid hw j) (own_fn_inj i j ne) (by decide : parseFieldDescriptor "[I" = some (.array .int)) (by decide : parseFieldDescriptor "[I" = some (.array .int))
theorem own_fn_nodes : ∀ i : Fin 12, own_fn i ≠ "nodes" := by decide
theorem own_sn_nodes {Z : State} {a0 : Array Value} (hw : ∀ d ∈ tables_1, d.before a0 Z = true) (i : Fin 12) : Jvm.RoadKit.slotOf Z own_DD (own_fn i) "[I" ≠ Jvm.RoadKit.slotOf Z own_DD "nodes" "I" := slot_ne (C := own_DD) (own_laid hw i) (Or.inl (hw _ (List.mem_of_getElem? (i := 35) rfl))) (own_fn_nodes i) (by decide : parseFieldDescriptor "[I" = some (.array .int)) (by decide : parseFieldDescriptor "I" = some .int)
theorem own_fn_variables : ∀ i : Fin 12, own_fn i ≠ "variables" := by decide
theorem own_sn_variables {Z : State} {a0 : Array Value} (hw : ∀ d ∈ tables_1, d.before a0 Z = true) (i : Fin 12) : Jvm.RoadKit.slotOf Z own_DD (own_fn i) "[I" ≠ Jvm.RoadKit.slotOf Z own_DD "variables" "I" := slot_ne (C := own_DD) (own_laid hw i) (Or.inr (hw _ (List.mem_of_getElem? (i := 27) rfl))) (own_fn_variables i) (by decide : parseFieldDescriptor "[I" = some (.array .int)) (by decide : parseFieldDescriptor "I" = some .int)
theorem own_fn_solePairs : ∀ i : Fin 12, own_fn i ≠ "solePairs" := by decide
theorem own_sn_solePairs {Z : State} {a0 : Array Value} (hw : ∀ d ∈ tables_1, d.before a0 Z = true) (i : Fin 12) : Jvm.RoadKit.slotOf Z own_DD (own_fn i) "[I" ≠ Jvm.RoadKit.slotOf Z own_DD "solePairs" "[J" := slot_ne (C := own_DD) (own_laid hw i) (Or.inl (hw _ (List.mem_of_getElem? (i := 56) rfl))) (own_fn_solePairs i) (by decide : parseFieldDescriptor "[I" = some (.array .int)) (by decide : parseFieldDescriptor "[J" = some (.array .long))
theorem own_fn_soleLabels : ∀ i : Fin 12, own_fn i ≠ "soleLabels" := by decide
theorem own_sn_soleLabels {Z : State} {a0 : Array Value} (hw : ∀ d ∈ tables_1, d.before a0 Z = true) (i : Fin 12) : Jvm.RoadKit.slotOf Z own_DD (own_fn i) "[I" ≠ Jvm.RoadKit.slotOf Z own_DD "soleLabels" "[I" := slot_ne (C := own_DD) (own_laid hw i) (Or.inl (hw _ (List.mem_of_getElem? (i := 58) rfl))) (own_fn_soleLabels i) (by decide : parseFieldDescriptor "[I" = some (.array .int)) (by decide : parseFieldDescriptor "[I" = some (.array .int))
theorem own_fn_unwalkedSets : ∀ i : Fin 12, own_fn i ≠ "unwalkedSets" := by decide
theorem own_sn_unwalkedSets {Z : State} {a0 : Array Value} (hw : ∀ d ∈ tables_1, d.before a0 Z = true) (i : Fin 12) : Jvm.RoadKit.slotOf Z own_DD (own_fn i) "[I" ≠ Jvm.RoadKit.slotOf Z own_DD "unwalkedSets" "[I" := slot_ne (C := own_DD) (own_laid hw i) (Or.inr (hw _ (List.mem_of_getElem? (i := 72) rfl))) (own_fn_unwalkedSets i) (by decide : parseFieldDescriptor "[I" = some (.array .int)) (by decide : parseFieldDescriptor "[I" = some (.array .int))
theorem own_fn_unwalkedLabellings : ∀ i : Fin 12, own_fn i ≠ "unwalkedLabellings" := by decide
theorem own_sn_unwalkedLabellings {Z : State} {a0 : Array Value} (hw : ∀ d ∈ tables_1, d.before a0 Z = true) (i : Fin 12) : Jvm.RoadKit.slotOf Z own_DD (own_fn i) "[I" ≠ Jvm.RoadKit.slotOf Z own_DD "unwalkedLabellings" "[I" := slot_ne (C := own_DD) (own_laid hw i) (Or.inr (hw _ (List.mem_of_getElem? (i := 74) rfl))) (own_fn_unwalkedLabellings i) (by decide : parseFieldDescriptor "[I" = some (.array .int)) (by decide : parseFieldDescriptor "[I" = some (.array .int))
theorem own_fn_walked : ∀ i : Fin 12, own_fn i ≠ "walked" := by decide
theorem own_sn_walked {Z : State} {a0 : Array Value} (hw : ∀ d ∈ tables_1, d.before a0 Z = true) (i : Fin 12) : Jvm.RoadKit.slotOf Z own_DD (own_fn i) "[I" ≠ Jvm.RoadKit.slotOf Z own_DD "walked" "Lcom/example/perdure/perdure/check/DecisionDiagrams$PairSet;" := slot_ne (C := own_DD) (own_laid hw i) (Or.inr (hw _ (List.mem_of_getElem? (i := 25) rfl))) (own_fn_walked i) (by decide : parseFieldDescriptor "[I" = some (.array .int)) (by decide : parseFieldDescriptor "Lcom/example/perdure/perdure/check/DecisionDiagrams$PairSet;" = some (.object "com/example/perdure/perdure/check/DecisionDiagrams$PairSet"))
def own_upF {α : Type} (f : Fin 12 → α) (k : Fin 12) (x : α) : Fin 12 → α := fun i => if i = k then x else f i
theorem own_upF_eq {α : Type} (f : Fin 12 → α) (k : Fin 12) (x : α) : own_upF f k x k = x := by simp [own_upF]
theorem own_upF_ne {α : Type} (f : Fin 12 → α) {k i : Fin 12} (x : α) (h : i ≠ k) : own_upF f k x i = f i := by simp [own_upF, h]
theorem own_upF_up {α : Type} (f : Fin 12 → α) (k : Fin 12) (x y : α) : own_upF (own_upF f k x) k y = own_upF f k y := by funext i; by_cases e : i = k <;> simp [own_upF, e]
/-- the diagrams at o -/
def own_D (Z : State) (n0 : Nat) (h : Heap) (o : Addr) (A : Fin 12 → Addr) (X : Fin 12 → List Int32) (nn nv : Nat) : Prop :=
  n0 ≤ o ∧ Exa Z h o own_DD ∧ (∀ i, Fld Z h o own_DD (own_fn i) "[I" (.ref (A i))) ∧ Fld Z h o own_DD "nodes" "I" (.int (Int32.ofNat nn)) ∧ Fld Z h o own_DD "variables" "I" (.int (Int32.ofNat nv)) ∧ (∀ i, o_IA Z h (A i) (X i)) ∧ (∀ i j, i ≠ j → A i ≠ A j) ∧ (∀ i, A i ≠ o) ∧ (∀ i, n0 ≤ A i) ∧ (∃ u, Fld Z h o own_DD "solePairs" "[J" (u)) ∧ ∃ u, Fld Z h o own_DD "soleLabels" "[I" (u)
section Dd
variable {Z : State} {a0 : Array Value} {n0 : Nat} {h h' : Heap} {o b : Addr} {A : Fin 12 → Addr} {X : Fin 12 → List Int32} {nn nv k : Nat} {i : Fin 12} {x : Int32} {v : Value} {L : List Int32} {ws : List Addr}
theorem own_D.go (D : own_D Z n0 h o A X nn nv) : n0 ≤ o := D.1
theorem own_D.E (D : own_D Z n0 h o A X nn nv) : Exa Z h o own_DD := D.2.1
theorem own_D.N (D : own_D Z n0 h o A X nn nv) : Fld Z h o own_DD "nodes" "I" (.int (Int32.ofNat nn)) := D.2.2.2.1
theorem own_D.VN (D : own_D Z n0 h o A X nn nv) : Fld Z h o own_DD "variables" "I" (.int (Int32.ofNat nv)) := D.2.2.2.2.1
theorem own_D.F (D : own_D Z n0 h o A X nn nv) (i : Fin 12) : Fld Z h o own_DD (own_fn i) "[I" (.ref (A i)) := D.2.2.1 i
theorem own_D.Ar (D : own_D Z n0 h o A X nn nv) (i : Fin 12) : o_IA Z h (A i) (X i) := D.2.2.2.2.2.1 i
theorem own_D.ne (D : own_D Z n0 h o A X nn nv) {i j : Fin 12} (q : i ≠ j) : A i ≠ A j := D.2.2.2.2.2.2.1 i j q
theorem own_D.no (D : own_D Z n0 h o A X nn nv) (i : Fin 12) : A i ≠ o := D.2.2.2.2.2.2.2.1 i
theorem own_D.ge (D : own_D Z n0 h o A X nn nv) (i : Fin 12) : n0 ≤ A i := D.2.2.2.2.2.2.2.2.1 i
theorem own_D.S1 (D : own_D Z n0 h o A X nn nv) : ∃ u, Fld Z h o own_DD "solePairs" "[J" (u) := D.2.2.2.2.2.2.2.2.2.1
theorem own_D.S2 (D : own_D Z n0 h o A X nn nv) : ∃ u, Fld Z h o own_DD "soleLabels" "[I" (u) := D.2.2.2.2.2.2.2.2.2.2
theorem own_D.f0 (D : own_D Z n0 h o A X nn nv) : Fld Z h o own_DD "decided" "[I" (.ref (A 0)) := D.F 0
theorem own_D.f1 (D : own_D Z n0 h o A X nn nv) : Fld Z h o own_DD "low" "[I" (.ref (A 1)) := D.F 1
theorem own_D.f2 (D : own_D Z n0 h o A X nn nv) : Fld Z h o own_DD "high" "[I" (.ref (A 2)) := D.F 2
theorem own_D.f3 (D : own_D Z n0 h o A X nn nv) : Fld Z h o own_DD "unique" "[I" (.ref (A 3)) := D.F 3
theorem own_D.f4 (D : own_D Z n0 h o A X nn nv) : Fld Z h o own_DD "cachedOperation" "[I" (.ref (A 4)) := D.F 4
theorem own_D.f5 (D : own_D Z n0 h o A X nn nv) : Fld Z h o own_DD "cachedLeft" "[I" (.ref (A 5)) := D.F 5
theorem own_D.f6 (D : own_D Z n0 h o A X nn nv) : Fld Z h o own_DD "cachedRight" "[I" (.ref (A 6)) := D.F 6
theorem own_D.f7 (D : own_D Z n0 h o A X nn nv) : Fld Z h o own_DD "cachedResult" "[I" (.ref (A 7)) := D.F 7
theorem own_D.f8 (D : own_D Z n0 h o A X nn nv) : Fld Z h o own_DD "pendingLeft" "[I" (.ref (A 8)) := D.F 8
theorem own_D.f9 (D : own_D Z n0 h o A X nn nv) : Fld Z h o own_DD "pendingRight" "[I" (.ref (A 9)) := D.F 9
theorem own_D.f10 (D : own_D Z n0 h o A X nn nv) : Fld Z h o own_DD "pendingStage" "[I" (.ref (A 10)) := D.F 10
theorem own_D.f11 (D : own_D Z n0 h o A X nn nv) : Fld Z h o own_DD "results" "[I" (.ref (A 11)) := D.F 11
theorem own_D.ext (D : own_D Z n0 h o A X nn nv) (E : Ext h h') : own_D Z n0 h' o A X nn nv := by
  obtain ⟨a1, a2, a3, a4, a5, a6, a7, a8, a9, ⟨u, a10⟩, w, a11⟩ := D
  exact ⟨a1, a2.ext E, fun i => (a3 i).ext E, a4.ext E, a5.ext E, fun i => (a6 i).ext E, a7, a8, a9, ⟨u, a10.ext E⟩, w, a11.ext E⟩
theorem own_D.keep (D : own_D Z n0 h o A X nn nv) (K : Keep h h' ws) (q1 : o ∉ ws) (q2 : ∀ i, A i ∉ ws) : own_D Z n0 h' o A X nn nv := by
  obtain ⟨a1, a2, a3, a4, a5, a6, a7, a8, a9, ⟨u, a10⟩, w, a11⟩ := D
  exact ⟨a1, a2.keep K, fun i => (a3 i).keep K q1, a4.keep K q1, a5.keep K q1, fun i => (a6 i).keep K (q2 i), a7, a8, a9, ⟨u, a10.keep K q1⟩, w, a11.keep K q1⟩
theorem own_D.other (D : own_D Z n0 h o A X nn nv) (W : Wr h h' b k v) (q1 : b ≠ o) (q2 : ∀ i, b ≠ A i) : own_D Z n0 h' o A X nn nv := D.keep (Keep.of_wr W) (by simpa using Ne.symm q1) (fun i => by simpa using Ne.symm (q2 i))
theorem own_D.wr (D : own_D Z n0 h o A X nn nv) (i : Fin 12) (W : Wr h h' (A i) k (.int x)) : own_D Z n0 h' o A (own_upF X i ((X i).set k x)) nn nv := by
  have no := D.no i
  have ne := fun j (q : j ≠ i) => D.ne q
  obtain ⟨a1, a2, a3, a4, a5, a6, a7, a8, a9, ⟨u, a10⟩, w, a11⟩ := D
  refine ⟨a1, a2.wr W, fun j => (a3 j).other W (Or.inl (Ne.symm no)), a4.other W (Or.inl (Ne.symm no)), a5.other W (Or.inl (Ne.symm no)), fun j => ?_, a7, a8, a9, ⟨u, a10.other W (Or.inl (Ne.symm no))⟩, w, a11.other W (Or.inl (Ne.symm no))⟩
  by_cases e : j = i
  · subst e; rw [own_upF_eq]; exact o_IA.same (a6 j) W
  · rw [own_upF_ne _ _ e]; exact o_AR.other (a6 j) W (ne j e)
theorem own_D.re (D : own_D Z n0 h o A X nn nv) (i : Fin 12) (K : Keep h h' [A i]) (B : o_IA Z h' (A i) L) : own_D Z n0 h' o A (own_upF X i L) nn nv := by
  have no := D.no i
  have ne := fun j (q : j ≠ i) => D.ne q
  have q : o ∉ [A i] := by simpa using Ne.symm no
  obtain ⟨a1, a2, a3, a4, a5, a6, a7, a8, a9, ⟨u, a10⟩, w, a11⟩ := D
  refine ⟨a1, a2.keep K, fun j => (a3 j).keep K q, a4.keep K q, a5.keep K q, fun j => ?_, a7, a8, a9, ⟨u, a10.keep K q⟩, w, a11.keep K q⟩
  by_cases e : j = i
  · subst e; rw [own_upF_eq]; exact B
  · rw [own_upF_ne _ _ e]; exact o_AR.keep (a6 j) K (by simpa using ne j e)
theorem own_D.put (hw : ∀ d ∈ tables_1, d.before a0 Z = true) (D : own_D Z n0 h o A X nn nv) (i : Fin 12) (B : o_IA Z h b L) (g : n0 ≤ b) (q1 : b ≠ o) (q2 : ∀ j, b ≠ A j) (W : Wr h h' o (Jvm.RoadKit.slotOf Z own_DD (own_fn i) "[I") (.ref b)) : own_D Z n0 h' o (own_upF A i b) (own_upF X i L) nn nv := by
  have no := D.no
  obtain ⟨a1, a2, a3, a4, a5, a6, a7, a8, a9, ⟨u, a10⟩, w, a11⟩ := D
  refine ⟨a1, a2.wr W, fun j => ?_, a4.other W (Or.inr (Ne.symm (own_sn_nodes hw i))), a5.other W (Or.inr (Ne.symm (own_sn_variables hw i))), fun j => ?_, fun j j' q => ?_, fun j => ?_, fun j => ?_, ⟨u, a10.other W (Or.inr (Ne.symm (own_sn_solePairs hw i)))⟩, w, a11.other W (Or.inr (Ne.symm (own_sn_soleLabels hw i)))⟩
  · by_cases e : j = i
    · subst e; rw [own_upF_eq]; exact (a3 j).same W
    · rw [own_upF_ne _ _ e]; exact (a3 j).other W (Or.inr (own_sne hw e))
  · by_cases e : j = i
    · subst e; rw [own_upF_eq, own_upF_eq]; exact o_AR.other B W q1
    · rw [own_upF_ne _ _ e, own_upF_ne _ _ e]; exact o_AR.other (a6 j) W (no j)
  · by_cases e : j = i
    · subst e; rw [own_upF_eq, own_upF_ne _ _ (Ne.symm q)]; exact q2 j'
    · by_cases e' : j' = i
      · subst e'; rw [own_upF_eq, own_upF_ne _ _ e]; exact Ne.symm (q2 j)
      · rw [own_upF_ne _ _ e, own_upF_ne _ _ e']; exact a7 j j' q
  · by_cases e : j = i
    · subst e; rw [own_upF_eq]; exact q1
    · rw [own_upF_ne _ _ e]; exact a8 j
  · by_cases e : j = i
    · subst e; rw [own_upF_eq]; exact g
    · rw [own_upF_ne _ _ e]; exact a9 j
theorem own_D.nodes (hw : ∀ d ∈ tables_1, d.before a0 Z = true) {m : Nat} (D : own_D Z n0 h o A X nn nv) (W : Wr h h' o (Jvm.RoadKit.slotOf Z own_DD "nodes" "I") (.int (Int32.ofNat m))) : own_D Z n0 h' o A X m nv := by
  have no := D.no
  obtain ⟨a1, a2, a3, a4, a5, a6, a7, a8, a9, ⟨u, a10⟩, w, a11⟩ := D
  exact ⟨a1, a2.wr W, fun j => (a3 j).other W (Or.inr (own_sn_nodes hw j)), a4.same W, a5.other W (Or.inr (slot_ne (C := own_DD) (Or.inr (hw _ (List.mem_of_getElem? (i := 27) rfl))) (Or.inl (hw _ (List.mem_of_getElem? (i := 35) rfl))) (by decide) (by decide : parseFieldDescriptor "I" = some .int) (by decide : parseFieldDescriptor "I" = some .int))), fun j => o_AR.other (a6 j) W (no j), a7, a8, a9, ⟨u, a10.other W (Or.inr (slot_ne (C := own_DD) (Or.inl (hw _ (List.mem_of_getElem? (i := 56) rfl))) (Or.inl (hw _ (List.mem_of_getElem? (i := 35) rfl))) (by decide) (by decide : parseFieldDescriptor "[J" = some (.array .long)) (by decide : parseFieldDescriptor "I" = some .int)))⟩, w, a11.other W (Or.inr (slot_ne (C := own_DD) (Or.inl (hw _ (List.mem_of_getElem? (i := 58) rfl))) (Or.inl (hw _ (List.mem_of_getElem? (i := 35) rfl))) (by decide) (by decide : parseFieldDescriptor "[I" = some (.array .int)) (by decide : parseFieldDescriptor "I" = some .int)))⟩
theorem own_D.sole1 (hw : ∀ d ∈ tables_1, d.before a0 Z = true) (D : own_D Z n0 h o A X nn nv) (W : Wr h h' o (Jvm.RoadKit.slotOf Z own_DD "solePairs" "[J") v) : own_D Z n0 h' o A X nn nv := by
  have no := D.no
  obtain ⟨a1, a2, a3, a4, a5, a6, a7, a8, a9, ⟨u, a10⟩, w, a11⟩ := D
  exact ⟨a1, a2.wr W, fun j => (a3 j).other W (Or.inr (own_sn_solePairs hw j)), a4.other W (Or.inr (slot_ne (C := own_DD) (Or.inl (hw _ (List.mem_of_getElem? (i := 35) rfl))) (Or.inl (hw _ (List.mem_of_getElem? (i := 56) rfl))) (by decide) (by decide : parseFieldDescriptor "I" = some .int) (by decide : parseFieldDescriptor "[J" = some (.array .long)))), a5.other W (Or.inr (slot_ne (C := own_DD) (Or.inr (hw _ (List.mem_of_getElem? (i := 27) rfl))) (Or.inl (hw _ (List.mem_of_getElem? (i := 56) rfl))) (by decide) (by decide : parseFieldDescriptor "I" = some .int) (by decide : parseFieldDescriptor "[J" = some (.array .long)))), fun j => o_AR.other (a6 j) W (no j), a7, a8, a9, ⟨_, a10.same W⟩, w, a11.other W (Or.inr (slot_ne (C := own_DD) (Or.inl (hw _ (List.mem_of_getElem? (i := 58) rfl))) (Or.inl (hw _ (List.mem_of_getElem? (i := 56) rfl))) (by decide) (by decide : parseFieldDescriptor "[I" = some (.array .int)) (by decide : parseFieldDescriptor "[J" = some (.array .long))))⟩
theorem own_D.sole2 (hw : ∀ d ∈ tables_1, d.before a0 Z = true) (D : own_D Z n0 h o A X nn nv) (W : Wr h h' o (Jvm.RoadKit.slotOf Z own_DD "soleLabels" "[I") v) : own_D Z n0 h' o A X nn nv := by
  have no := D.no
  obtain ⟨a1, a2, a3, a4, a5, a6, a7, a8, a9, ⟨u, a10⟩, w, a11⟩ := D
  exact ⟨a1, a2.wr W, fun j => (a3 j).other W (Or.inr (own_sn_soleLabels hw j)), a4.other W (Or.inr (slot_ne (C := own_DD) (Or.inl (hw _ (List.mem_of_getElem? (i := 35) rfl))) (Or.inl (hw _ (List.mem_of_getElem? (i := 58) rfl))) (by decide) (by decide : parseFieldDescriptor "I" = some .int) (by decide : parseFieldDescriptor "[I" = some (.array .int)))), a5.other W (Or.inr (slot_ne (C := own_DD) (Or.inr (hw _ (List.mem_of_getElem? (i := 27) rfl))) (Or.inl (hw _ (List.mem_of_getElem? (i := 58) rfl))) (by decide) (by decide : parseFieldDescriptor "I" = some .int) (by decide : parseFieldDescriptor "[I" = some (.array .int)))), fun j => o_AR.other (a6 j) W (no j), a7, a8, a9, ⟨u, a10.other W (Or.inr (slot_ne (C := own_DD) (Or.inl (hw _ (List.mem_of_getElem? (i := 56) rfl))) (Or.inl (hw _ (List.mem_of_getElem? (i := 58) rfl))) (by decide) (by decide : parseFieldDescriptor "[J" = some (.array .long)) (by decide : parseFieldDescriptor "[I" = some (.array .int))))⟩, _, a11.same W⟩
end Dd
theorem pn0 : plainFor Jvm.Pilot.@@N@@.x = true := by first | exact plainFor_of_name (by first | (simp [x, plainName, overriddenIn]; done) | decide +kernel) | decide +kernel
theorem d1_0 : decode prog_26_method_1_code 0 = .ok (.aload_n 0, 1) := by decide +kernel
theorem d1_1 : decode prog_26_method_1_code 1 = .ok (.invokespecial 3, 3) := by decide +kernel
theorem d1_4 : decode prog_26_method_1_code 4 = .ok (.aload_n 0, 1) := by decide +kernel
theorem d1_5 : decode prog_26_method_1_code 5 = .ok (.new 9, 3) := by decide +kernel
theorem d1_8 : decode prog_26_method_1_code 8 = .ok (.dup, 1) := by decide +kernel
theorem d1_9 : decode prog_26_method_1_code 9 = .ok (.invokespecial 11, 3) := by decide +kernel
theorem d1_12 : decode prog_26_method_1_code 12 = .ok (.putfield 12, 3) := by decide +kernel
theorem d1_15 : decode prog_26_method_1_code 15 = .ok (.aload_n 0, 1) := by decide +kernel
theorem d1_16 : decode prog_26_method_1_code 16 = .ok (.iload_n 1, 1) := by decide +kernel
theorem d1_17 : decode prog_26_method_1_code 17 = .ok (.putfield 18, 3) := by decide +kernel
theorem d1_20 : decode prog_26_method_1_code 20 = .ok (.aload_n 0, 1) := by decide +kernel
theorem d1_21 : decode prog_26_method_1_code 21 = .ok (.iconst 4, 1) := by decide +kernel
theorem d1_22 : decode prog_26_method_1_code 22 = .ok (.newarray .int, 2) := by decide +kernel
theorem d1_24 : decode prog_26_method_1_code 24 = .ok (.dup, 1) := by decide +kernel
theorem d1_25 : decode prog_26_method_1_code 25 = .ok (.iconst 0, 1) := by decide +kernel
theorem d1_26 : decode prog_26_method_1_code 26 = .ok (.iconst (-1), 1) := by decide +kernel
theorem d1_27 : decode prog_26_method_1_code 27 = .ok (.iastore, 1) := by decide +kernel
theorem d1_28 : decode prog_26_method_1_code 28 = .ok (.dup, 1) := by decide +kernel
theorem d1_29 : decode prog_26_method_1_code 29 = .ok (.iconst 1, 1) := by decide +kernel
theorem d1_30 : decode prog_26_method_1_code 30 = .ok (.iconst (-1), 1) := by decide +kernel
theorem d1_31 : decode prog_26_method_1_code 31 = .ok (.iastore, 1) := by decide +kernel
theorem d1_32 : decode prog_26_method_1_code 32 = .ok (.dup, 1) := by decide +kernel
theorem d1_33 : decode prog_26_method_1_code 33 = .ok (.iconst 2, 1) := by decide +kernel
theorem d1_34 : decode prog_26_method_1_code 34 = .ok (.iconst 0, 1) := by decide +kernel
theorem d1_35 : decode prog_26_method_1_code 35 = .ok (.iastore, 1) := by decide +kernel
theorem d1_36 : decode prog_26_method_1_code 36 = .ok (.dup, 1) := by decide +kernel
theorem d1_37 : decode prog_26_method_1_code 37 = .ok (.iconst 3, 1) := by decide +kernel
theorem d1_38 : decode prog_26_method_1_code 38 = .ok (.iconst 0, 1) := by decide +kernel
theorem d1_39 : decode prog_26_method_1_code 39 = .ok (.iastore, 1) := by decide +kernel
theorem d1_40 : decode prog_26_method_1_code 40 = .ok (.putfield 22, 3) := by decide +kernel
theorem d1_43 : decode prog_26_method_1_code 43 = .ok (.aload_n 0, 1) := by decide +kernel
theorem d1_44 : decode prog_26_method_1_code 44 = .ok (.iconst 4, 1) := by decide +kernel
theorem d1_45 : decode prog_26_method_1_code 45 = .ok (.newarray .int, 2) := by decide +kernel
theorem d1_47 : decode prog_26_method_1_code 47 = .ok (.dup, 1) := by decide +kernel
theorem d1_48 : decode prog_26_method_1_code 48 = .ok (.iconst 0, 1) := by decide +kernel
theorem d1_49 : decode prog_26_method_1_code 49 = .ok (.iconst 0, 1) := by decide +kernel
theorem d1_50 : decode prog_26_method_1_code 50 = .ok (.iastore, 1) := by decide +kernel
theorem d1_51 : decode prog_26_method_1_code 51 = .ok (.dup, 1) := by decide +kernel
theorem d1_52 : decode prog_26_method_1_code 52 = .ok (.iconst 1, 1) := by decide +kernel
theorem d1_53 : decode prog_26_method_1_code 53 = .ok (.iconst 1, 1) := by decide +kernel
theorem d1_54 : decode prog_26_method_1_code 54 = .ok (.iastore, 1) := by decide +kernel
theorem d1_55 : decode prog_26_method_1_code 55 = .ok (.dup, 1) := by decide +kernel
theorem d1_56 : decode prog_26_method_1_code 56 = .ok (.iconst 2, 1) := by decide +kernel
theorem d1_57 : decode prog_26_method_1_code 57 = .ok (.iconst 0, 1) := by decide +kernel
theorem d1_58 : decode prog_26_method_1_code 58 = .ok (.iastore, 1) := by decide +kernel
theorem d1_59 : decode prog_26_method_1_code 59 = .ok (.dup, 1) := by decide +kernel
theorem d1_60 : decode prog_26_method_1_code 60 = .ok (.iconst 3, 1) := by decide +kernel
theorem d1_61 : decode prog_26_method_1_code 61 = .ok (.iconst 0, 1) := by decide +kernel
theorem d1_62 : decode prog_26_method_1_code 62 = .ok (.iastore, 1) := by decide +kernel
theorem d1_63 : decode prog_26_method_1_code 63 = .ok (.putfield 26, 3) := by decide +kernel
theorem d1_66 : decode prog_26_method_1_code 66 = .ok (.aload_n 0, 1) := by decide +kernel
theorem d1_67 : decode prog_26_method_1_code 67 = .ok (.iconst 4, 1) := by decide +kernel
theorem d1_68 : decode prog_26_method_1_code 68 = .ok (.newarray .int, 2) := by decide +kernel
theorem d1_70 : decode prog_26_method_1_code 70 = .ok (.dup, 1) := by decide +kernel
theorem d1_71 : decode prog_26_method_1_code 71 = .ok (.iconst 0, 1) := by decide +kernel
theorem d1_72 : decode prog_26_method_1_code 72 = .ok (.iconst 0, 1) := by decide +kernel
theorem d1_73 : decode prog_26_method_1_code 73 = .ok (.iastore, 1) := by decide +kernel
theorem d1_74 : decode prog_26_method_1_code 74 = .ok (.dup, 1) := by decide +kernel
theorem d1_75 : decode prog_26_method_1_code 75 = .ok (.iconst 1, 1) := by decide +kernel
theorem d1_76 : decode prog_26_method_1_code 76 = .ok (.iconst 1, 1) := by decide +kernel
theorem d1_77 : decode prog_26_method_1_code 77 = .ok (.iastore, 1) := by decide +kernel
theorem d1_78 : decode prog_26_method_1_code 78 = .ok (.dup, 1) := by decide +kernel
theorem d1_79 : decode prog_26_method_1_code 79 = .ok (.iconst 2, 1) := by decide +kernel
theorem d1_80 : decode prog_26_method_1_code 80 = .ok (.iconst 0, 1) := by decide +kernel
theorem d1_81 : decode prog_26_method_1_code 81 = .ok (.iastore, 1) := by decide +kernel
theorem d1_82 : decode prog_26_method_1_code 82 = .ok (.dup, 1) := by decide +kernel
theorem d1_83 : decode prog_26_method_1_code 83 = .ok (.iconst 3, 1) := by decide +kernel
theorem d1_84 : decode prog_26_method_1_code 84 = .ok (.iconst 0, 1) := by decide +kernel
theorem d1_85 : decode prog_26_method_1_code 85 = .ok (.iastore, 1) := by decide +kernel
theorem d1_86 : decode prog_26_method_1_code 86 = .ok (.putfield 29, 3) := by decide +kernel
theorem d1_89 : decode prog_26_method_1_code 89 = .ok (.aload_n 0, 1) := by decide +kernel
theorem d1_90 : decode prog_26_method_1_code 90 = .ok (.iconst 2, 1) := by decide +kernel
theorem d1_91 : decode prog_26_method_1_code 91 = .ok (.putfield 32, 3) := by decide +kernel
theorem d1_94 : decode prog_26_method_1_code 94 = .ok (.aload_n 0, 1) := by decide +kernel
theorem d1_95 : decode prog_26_method_1_code 95 = .ok (.bipush 8, 2) := by decide +kernel
theorem d1_97 : decode prog_26_method_1_code 97 = .ok (.newarray .int, 2) := by decide +kernel
theorem d1_99 : decode prog_26_method_1_code 99 = .ok (.putfield 35, 3) := by decide +kernel
theorem d1_102 : decode prog_26_method_1_code 102 = .ok (.aload_n 0, 1) := by decide +kernel
theorem d1_103 : decode prog_26_method_1_code 103 = .ok (.aload_n 0, 1) := by decide +kernel
theorem d1_104 : decode prog_26_method_1_code 104 = .ok (.getfield 35, 3) := by decide +kernel
theorem d1_107 : decode prog_26_method_1_code 107 = .ok (.arraylength, 1) := by decide +kernel
theorem d1_108 : decode prog_26_method_1_code 108 = .ok (.invokevirtual 38, 3) := by decide +kernel
theorem d1_111 : decode prog_26_method_1_code 111 = .ok (.aload_n 0, 1) := by decide +kernel
theorem d1_112 : decode prog_26_method_1_code 112 = .ok (.iload_n 1, 1) := by decide +kernel
theorem d1_113 : decode prog_26_method_1_code 113 = .ok (.iconst 1, 1) := by decide +kernel
theorem d1_114 : decode prog_26_method_1_code 114 = .ok (.iadd, 1) := by decide +kernel
theorem d1_115 : decode prog_26_method_1_code 115 = .ok (.newarray .int, 2) := by decide +kernel
theorem d1_117 : decode prog_26_method_1_code 117 = .ok (.putfield 42, 3) := by decide +kernel
theorem d1_120 : decode prog_26_method_1_code 120 = .ok (.aload_n 0, 1) := by decide +kernel
theorem d1_121 : decode prog_26_method_1_code 121 = .ok (.iload_n 1, 1) := by decide +kernel
theorem d1_122 : decode prog_26_method_1_code 122 = .ok (.iconst 1, 1) := by decide +kernel
theorem d1_123 : decode prog_26_method_1_code 123 = .ok (.iadd, 1) := by decide +kernel
theorem d1_124 : decode prog_26_method_1_code 124 = .ok (.newarray .int, 2) := by decide +kernel
theorem d1_126 : decode prog_26_method_1_code 126 = .ok (.putfield 45, 3) := by decide +kernel
theorem d1_129 : decode prog_26_method_1_code 129 = .ok (.aload_n 0, 1) := by decide +kernel
theorem d1_130 : decode prog_26_method_1_code 130 = .ok (.iload_n 1, 1) := by decide +kernel
theorem d1_131 : decode prog_26_method_1_code 131 = .ok (.iconst 1, 1) := by decide +kernel
theorem d1_132 : decode prog_26_method_1_code 132 = .ok (.iadd, 1) := by decide +kernel
theorem d1_133 : decode prog_26_method_1_code 133 = .ok (.newarray .int, 2) := by decide +kernel
theorem d1_135 : decode prog_26_method_1_code 135 = .ok (.putfield 48, 3) := by decide +kernel
theorem d1_138 : decode prog_26_method_1_code 138 = .ok (.aload_n 0, 1) := by decide +kernel
theorem d1_139 : decode prog_26_method_1_code 139 = .ok (.iload_n 1, 1) := by decide +kernel
theorem d1_140 : decode prog_26_method_1_code 140 = .ok (.iconst 2, 1) := by decide +kernel
theorem d1_141 : decode prog_26_method_1_code 141 = .ok (.iadd, 1) := by decide +kernel
theorem d1_142 : decode prog_26_method_1_code 142 = .ok (.newarray .int, 2) := by decide +kernel
theorem d1_144 : decode prog_26_method_1_code 144 = .ok (.putfield 51, 3) := by decide +kernel
theorem d1_147 : decode prog_26_method_1_code 147 = .ok (.aload_n 0, 1) := by decide +kernel
theorem d1_148 : decode prog_26_method_1_code 148 = .ok (.iload_n 1, 1) := by decide +kernel
theorem d1_149 : decode prog_26_method_1_code 149 = .ok (.iconst 1, 1) := by decide +kernel
theorem d1_150 : decode prog_26_method_1_code 150 = .ok (.iadd, 1) := by decide +kernel
theorem d1_151 : decode prog_26_method_1_code 151 = .ok (.newarray .int, 2) := by decide +kernel
theorem d1_153 : decode prog_26_method_1_code 153 = .ok (.putfield 54, 3) := by decide +kernel
theorem d1_156 : decode prog_26_method_1_code 156 = .ok (.aload_n 0, 1) := by decide +kernel
theorem d1_157 : decode prog_26_method_1_code 157 = .ok (.iload_n 1, 1) := by decide +kernel
theorem d1_158 : decode prog_26_method_1_code 158 = .ok (.iconst 1, 1) := by decide +kernel
theorem d1_159 : decode prog_26_method_1_code 159 = .ok (.iadd, 1) := by decide +kernel
theorem d1_160 : decode prog_26_method_1_code 160 = .ok (.newarray .int, 2) := by decide +kernel
theorem d1_162 : decode prog_26_method_1_code 162 = .ok (.putfield 57, 3) := by decide +kernel
theorem d1_165 : decode prog_26_method_1_code 165 = .ok (.return_, 1) := by decide +kernel
abbrev oy1 : MethodName := ⟨"com/example/perdure/perdure/check/DecisionDiagrams", "<init>", "(I)V"⟩
theorem pn1 : plainFor oy1 = true := by first | exact plainFor_of_name (by first | (simp [plainName, overriddenIn]; done) | decide +kernel) | decide +kernel
theorem pd1 : parseMethodDescriptor oy1.desc = some ⟨[.int], none⟩ := by decide +kernel
theorem d3_0 : decode prog_27_method_1_code 0 = .ok (.aload_n 0, 1) := by decide +kernel
theorem d3_1 : decode prog_27_method_1_code 1 = .ok (.invokespecial 1, 3) := by decide +kernel
theorem d3_4 : decode prog_27_method_1_code 4 = .ok (.aload_n 0, 1) := by decide +kernel
theorem d3_5 : decode prog_27_method_1_code 5 = .ok (.bipush 16, 2) := by decide +kernel
theorem d3_7 : decode prog_27_method_1_code 7 = .ok (.newarray .long, 2) := by decide +kernel
theorem d3_9 : decode prog_27_method_1_code 9 = .ok (.putfield 7, 3) := by decide +kernel
theorem d3_12 : decode prog_27_method_1_code 12 = .ok (.aload_n 0, 1) := by decide +kernel
theorem d3_13 : decode prog_27_method_1_code 13 = .ok (.bipush 16, 2) := by decide +kernel
theorem d3_15 : decode prog_27_method_1_code 15 = .ok (.newarray .int, 2) := by decide +kernel
theorem d3_17 : decode prog_27_method_1_code 17 = .ok (.putfield 13, 3) := by decide +kernel
theorem d3_20 : decode prog_27_method_1_code 20 = .ok (.aload_n 0, 1) := by decide +kernel
theorem d3_21 : decode prog_27_method_1_code 21 = .ok (.iconst 1, 1) := by decide +kernel
theorem d3_22 : decode prog_27_method_1_code 22 = .ok (.putfield 17, 3) := by decide +kernel
theorem d3_25 : decode prog_27_method_1_code 25 = .ok (.return_, 1) := by decide +kernel
abbrev oy3 : MethodName := ⟨"com/example/perdure/perdure/check/DecisionDiagrams$PairSet", "<init>", "()V"⟩
theorem pn3 : plainFor oy3 = true := by first | exact plainFor_of_name (by first | (simp [plainName, overriddenIn]; done) | decide +kernel) | decide +kernel
theorem pd3 : parseMethodDescriptor oy3.desc = some ⟨[], none⟩ := by decide +kernel
theorem d4_0 : decode prog_26_method_25_code 0 = .ok (.aload_n 0, 1) := by decide +kernel
theorem d4_1 : decode prog_26_method_25_code 1 = .ok (.iload_n 1, 1) := by decide +kernel
theorem d4_2 : decode prog_26_method_25_code 2 = .ok (.newarray .int, 2) := by decide +kernel
theorem d4_4 : decode prog_26_method_25_code 4 = .ok (.putfield 136, 3) := by decide +kernel
theorem d4_7 : decode prog_26_method_25_code 7 = .ok (.aload_n 0, 1) := by decide +kernel
theorem d4_8 : decode prog_26_method_25_code 8 = .ok (.iload_n 1, 1) := by decide +kernel
theorem d4_9 : decode prog_26_method_25_code 9 = .ok (.newarray .int, 2) := by decide +kernel
theorem d4_11 : decode prog_26_method_25_code 11 = .ok (.putfield 139, 3) := by decide +kernel
theorem d4_14 : decode prog_26_method_25_code 14 = .ok (.aload_n 0, 1) := by decide +kernel
theorem d4_15 : decode prog_26_method_25_code 15 = .ok (.iload_n 1, 1) := by decide +kernel
theorem d4_16 : decode prog_26_method_25_code 16 = .ok (.newarray .int, 2) := by decide +kernel
theorem d4_18 : decode prog_26_method_25_code 18 = .ok (.putfield 142, 3) := by decide +kernel
theorem d4_21 : decode prog_26_method_25_code 21 = .ok (.aload_n 0, 1) := by decide +kernel
theorem d4_22 : decode prog_26_method_25_code 22 = .ok (.iload_n 1, 1) := by decide +kernel
theorem d4_23 : decode prog_26_method_25_code 23 = .ok (.newarray .int, 2) := by decide +kernel
theorem d4_25 : decode prog_26_method_25_code 25 = .ok (.putfield 145, 3) := by decide +kernel
theorem d4_28 : decode prog_26_method_25_code 28 = .ok (.aload_n 0, 1) := by decide +kernel
theorem d4_29 : decode prog_26_method_25_code 29 = .ok (.getfield 145, 3) := by decide +kernel
theorem d4_32 : decode prog_26_method_25_code 32 = .ok (.ldc 129, 2) := by decide +kernel
theorem d4_34 : decode prog_26_method_25_code 34 = .ok (.invokestatic 209, 3) := by decide +kernel
theorem d4_37 : decode prog_26_method_25_code 37 = .ok (.aload_n 0, 1) := by decide +kernel
theorem d4_38 : decode prog_26_method_25_code 38 = .ok (.iload_n 1, 1) := by decide +kernel
theorem d4_39 : decode prog_26_method_25_code 39 = .ok (.newarray .long, 2) := by decide +kernel
theorem d4_41 : decode prog_26_method_25_code 41 = .ok (.putfield 101, 3) := by decide +kernel
theorem d4_44 : decode prog_26_method_25_code 44 = .ok (.aload_n 0, 1) := by decide +kernel
theorem d4_45 : decode prog_26_method_25_code 45 = .ok (.iload_n 1, 1) := by decide +kernel
theorem d4_46 : decode prog_26_method_25_code 46 = .ok (.newarray .int, 2) := by decide +kernel
theorem d4_48 : decode prog_26_method_25_code 48 = .ok (.putfield 108, 3) := by decide +kernel
theorem d4_51 : decode prog_26_method_25_code 51 = .ok (.aload_n 0, 1) := by decide +kernel
theorem d4_52 : decode prog_26_method_25_code 52 = .ok (.getfield 101, 3) := by decide +kernel
theorem d4_55 : decode prog_26_method_25_code 55 = .ok (.ldc2_w 213, 3) := by decide +kernel
theorem d4_58 : decode prog_26_method_25_code 58 = .ok (.invokestatic 215, 3) := by decide +kernel
theorem d4_61 : decode prog_26_method_25_code 61 = .ok (.return_, 1) := by decide +kernel
abbrev oy4 : MethodName := ⟨"com/example/perdure/perdure/check/DecisionDiagrams", "resizeCache", "(I)V"⟩
theorem pn4 : plainFor oy4 = true := by first | exact plainFor_of_name (by first | (simp [plainName, overriddenIn]; done) | decide +kernel) | decide +kernel
theorem pd4 : parseMethodDescriptor oy4.desc = some ⟨[.int], none⟩ := by decide +kernel
theorem d5_0 : decode jdk_65_method_103_code 0 = .ok (.iconst 0, 1) := by decide +kernel
theorem d5_1 : decode jdk_65_method_103_code 1 = .ok (.istore_n 2, 1) := by decide +kernel
theorem d5_2 : decode jdk_65_method_103_code 2 = .ok (.aload_n 0, 1) := by decide +kernel
theorem d5_3 : decode jdk_65_method_103_code 3 = .ok (.arraylength, 1) := by decide +kernel
theorem d5_4 : decode jdk_65_method_103_code 4 = .ok (.istore_n 3, 1) := by decide +kernel
theorem d5_5 : decode jdk_65_method_103_code 5 = .ok (.iload_n 2, 1) := by decide +kernel
theorem d5_6 : decode jdk_65_method_103_code 6 = .ok (.iload_n 3, 1) := by decide +kernel
theorem d5_7 : decode jdk_65_method_103_code 7 = .ok (.if_icmp .ge 13, 3) := by decide +kernel
theorem d5_10 : decode jdk_65_method_103_code 10 = .ok (.aload_n 0, 1) := by decide +kernel
theorem d5_11 : decode jdk_65_method_103_code 11 = .ok (.iload_n 2, 1) := by decide +kernel
theorem d5_12 : decode jdk_65_method_103_code 12 = .ok (.iload_n 1, 1) := by decide +kernel
theorem d5_13 : decode jdk_65_method_103_code 13 = .ok (.iastore, 1) := by decide +kernel
theorem d5_14 : decode jdk_65_method_103_code 14 = .ok (.iinc 2 1, 3) := by decide +kernel
theorem d5_17 : decode jdk_65_method_103_code 17 = .ok (.goto (-12), 3) := by decide +kernel
theorem d5_20 : decode jdk_65_method_103_code 20 = .ok (.return_, 1) := by decide +kernel
abbrev oy5 : MethodName := ⟨"java/util/Arrays", "fill", "([II)V"⟩
theorem pn5 : plainFor oy5 = true := by first | exact plainFor_of_name (by first | (simp [plainName, overriddenIn]; done) | decide +kernel) | decide +kernel
theorem pd5 : parseMethodDescriptor oy5.desc = some ⟨[(.array .int), .int], none⟩ := by decide +kernel
theorem d6_0 : decode jdk_65_method_101_code 0 = .ok (.iconst 0, 1) := by decide +kernel
theorem d6_1 : decode jdk_65_method_101_code 1 = .ok (.istore_n 3, 1) := by decide +kernel
theorem d6_2 : decode jdk_65_method_101_code 2 = .ok (.aload_n 0, 1) := by decide +kernel
theorem d6_3 : decode jdk_65_method_101_code 3 = .ok (.arraylength, 1) := by decide +kernel
theorem d6_4 : decode jdk_65_method_101_code 4 = .ok (.istore 4, 2) := by decide +kernel
theorem d6_6 : decode jdk_65_method_101_code 6 = .ok (.iload_n 3, 1) := by decide +kernel
theorem d6_7 : decode jdk_65_method_101_code 7 = .ok (.iload 4, 2) := by decide +kernel
theorem d6_9 : decode jdk_65_method_101_code 9 = .ok (.if_icmp .ge 13, 3) := by decide +kernel
theorem d6_12 : decode jdk_65_method_101_code 12 = .ok (.aload_n 0, 1) := by decide +kernel
theorem d6_13 : decode jdk_65_method_101_code 13 = .ok (.iload_n 3, 1) := by decide +kernel
theorem d6_14 : decode jdk_65_method_101_code 14 = .ok (.lload_n 1, 1) := by decide +kernel
theorem d6_15 : decode jdk_65_method_101_code 15 = .ok (.lastore, 1) := by decide +kernel
theorem d6_16 : decode jdk_65_method_101_code 16 = .ok (.iinc 3 1, 3) := by decide +kernel
theorem d6_19 : decode jdk_65_method_101_code 19 = .ok (.goto (-13), 3) := by decide +kernel
theorem d6_22 : decode jdk_65_method_101_code 22 = .ok (.return_, 1) := by decide +kernel
abbrev oy6 : MethodName := ⟨"java/util/Arrays", "fill", "([JJ)V"⟩
theorem pn6 : plainFor oy6 = true := by first | exact plainFor_of_name (by first | (simp [plainName, overriddenIn]; done) | decide +kernel) | decide +kernel
theorem pd6 : parseMethodDescriptor oy6.desc = some ⟨[(.array .long), .long], none⟩ := by decide +kernel
theorem d7_0 : decode prog_26_method_2_code 0 = .ok (.aload_n 0, 1) := by decide +kernel
theorem d7_1 : decode prog_26_method_2_code 1 = .ok (.iload_n 1, 1) := by decide +kernel
theorem d7_2 : decode prog_26_method_2_code 2 = .ok (.iconst 0, 1) := by decide +kernel
theorem d7_3 : decode prog_26_method_2_code 3 = .ok (.iconst 1, 1) := by decide +kernel
theorem d7_4 : decode prog_26_method_2_code 4 = .ok (.invokevirtual 60, 3) := by decide +kernel
theorem d7_7 : decode prog_26_method_2_code 7 = .ok (.ireturn, 1) := by decide +kernel
abbrev oy7 : MethodName := ⟨"com/example/perdure/perdure/check/DecisionDiagrams", "variable", "(I)I"⟩
theorem pn7 : plainFor oy7 = true := by first | exact plainFor_of_name (by first | (simp [plainName, overriddenIn]; done) | decide +kernel) | decide +kernel
theorem pd7 : parseMethodDescriptor oy7.desc = some ⟨[.int], some .int⟩ := by decide +kernel
theorem d8_0 : decode prog_26_method_22_code 0 = .ok (.iload_n 2, 1) := by decide +kernel
theorem d8_1 : decode prog_26_method_22_code 1 = .ok (.iload_n 3, 1) := by decide +kernel
theorem d8_2 : decode prog_26_method_22_code 2 = .ok (.if_icmp .ne 5, 3) := by decide +kernel
theorem d8_5 : decode prog_26_method_22_code 5 = .ok (.iload_n 2, 1) := by decide +kernel
theorem d8_6 : decode prog_26_method_22_code 6 = .ok (.ireturn, 1) := by decide +kernel
theorem d8_7 : decode prog_26_method_22_code 7 = .ok (.aload_n 0, 1) := by decide +kernel
theorem d8_8 : decode prog_26_method_22_code 8 = .ok (.getfield 35, 3) := by decide +kernel
theorem d8_11 : decode prog_26_method_22_code 11 = .ok (.arraylength, 1) := by decide +kernel
theorem d8_12 : decode prog_26_method_22_code 12 = .ok (.iconst 1, 1) := by decide +kernel
theorem d8_13 : decode prog_26_method_22_code 13 = .ok (.isub, 1) := by decide +kernel
theorem d8_14 : decode prog_26_method_22_code 14 = .ok (.istore 4, 2) := by decide +kernel
theorem d8_16 : decode prog_26_method_22_code 16 = .ok (.iload_n 1, 1) := by decide +kernel
theorem d8_17 : decode prog_26_method_22_code 17 = .ok (.iload_n 2, 1) := by decide +kernel
theorem d8_18 : decode prog_26_method_22_code 18 = .ok (.iload_n 3, 1) := by decide +kernel
theorem d8_19 : decode prog_26_method_22_code 19 = .ok (.aload_n 0, 1) := by decide +kernel
theorem d8_20 : decode prog_26_method_22_code 20 = .ok (.getfield 35, 3) := by decide +kernel
theorem d8_23 : decode prog_26_method_22_code 23 = .ok (.arraylength, 1) := by decide +kernel
theorem d8_24 : decode prog_26_method_22_code 24 = .ok (.invokestatic 188, 3) := by decide +kernel
theorem d8_27 : decode prog_26_method_22_code 27 = .ok (.istore 5, 2) := by decide +kernel
theorem d8_29 : decode prog_26_method_22_code 29 = .ok (.aload_n 0, 1) := by decide +kernel
theorem d8_30 : decode prog_26_method_22_code 30 = .ok (.getfield 35, 3) := by decide +kernel
theorem d8_33 : decode prog_26_method_22_code 33 = .ok (.iload 5, 2) := by decide +kernel
theorem d8_35 : decode prog_26_method_22_code 35 = .ok (.iaload, 1) := by decide +kernel
theorem d8_36 : decode prog_26_method_22_code 36 = .ok (.ifCond .eq 60, 3) := by decide +kernel
theorem d8_39 : decode prog_26_method_22_code 39 = .ok (.aload_n 0, 1) := by decide +kernel
theorem d8_40 : decode prog_26_method_22_code 40 = .ok (.getfield 35, 3) := by decide +kernel
theorem d8_43 : decode prog_26_method_22_code 43 = .ok (.iload 5, 2) := by decide +kernel
theorem d8_45 : decode prog_26_method_22_code 45 = .ok (.iaload, 1) := by decide +kernel
theorem d8_46 : decode prog_26_method_22_code 46 = .ok (.istore 6, 2) := by decide +kernel
theorem d8_48 : decode prog_26_method_22_code 48 = .ok (.aload_n 0, 1) := by decide +kernel
theorem d8_49 : decode prog_26_method_22_code 49 = .ok (.getfield 22, 3) := by decide +kernel
theorem d8_52 : decode prog_26_method_22_code 52 = .ok (.iload 6, 2) := by decide +kernel
theorem d8_54 : decode prog_26_method_22_code 54 = .ok (.iaload, 1) := by decide +kernel
theorem d8_55 : decode prog_26_method_22_code 55 = .ok (.iload_n 1, 1) := by decide +kernel
theorem d8_56 : decode prog_26_method_22_code 56 = .ok (.if_icmp .ne 28, 3) := by decide +kernel
theorem d8_59 : decode prog_26_method_22_code 59 = .ok (.aload_n 0, 1) := by decide +kernel
theorem d8_60 : decode prog_26_method_22_code 60 = .ok (.getfield 26, 3) := by decide +kernel
theorem d8_63 : decode prog_26_method_22_code 63 = .ok (.iload 6, 2) := by decide +kernel
theorem d8_65 : decode prog_26_method_22_code 65 = .ok (.iaload, 1) := by decide +kernel
theorem d8_66 : decode prog_26_method_22_code 66 = .ok (.iload_n 2, 1) := by decide +kernel
theorem d8_67 : decode prog_26_method_22_code 67 = .ok (.if_icmp .ne 17, 3) := by decide +kernel
theorem d8_70 : decode prog_26_method_22_code 70 = .ok (.aload_n 0, 1) := by decide +kernel
theorem d8_71 : decode prog_26_method_22_code 71 = .ok (.getfield 29, 3) := by decide +kernel
theorem d8_74 : decode prog_26_method_22_code 74 = .ok (.iload 6, 2) := by decide +kernel
theorem d8_76 : decode prog_26_method_22_code 76 = .ok (.iaload, 1) := by decide +kernel
theorem d8_77 : decode prog_26_method_22_code 77 = .ok (.iload_n 3, 1) := by decide +kernel
theorem d8_78 : decode prog_26_method_22_code 78 = .ok (.if_icmp .ne 6, 3) := by decide +kernel
theorem d8_81 : decode prog_26_method_22_code 81 = .ok (.iload 6, 2) := by decide +kernel
theorem d8_83 : decode prog_26_method_22_code 83 = .ok (.ireturn, 1) := by decide +kernel
theorem d8_84 : decode prog_26_method_22_code 84 = .ok (.iload 5, 2) := by decide +kernel
theorem d8_86 : decode prog_26_method_22_code 86 = .ok (.iconst 1, 1) := by decide +kernel
theorem d8_87 : decode prog_26_method_22_code 87 = .ok (.iadd, 1) := by decide +kernel
theorem d8_88 : decode prog_26_method_22_code 88 = .ok (.iload 4, 2) := by decide +kernel
theorem d8_90 : decode prog_26_method_22_code 90 = .ok (.iand, 1) := by decide +kernel
theorem d8_91 : decode prog_26_method_22_code 91 = .ok (.istore 5, 2) := by decide +kernel
theorem d8_93 : decode prog_26_method_22_code 93 = .ok (.goto (-64), 3) := by decide +kernel
theorem d8_96 : decode prog_26_method_22_code 96 = .ok (.aload_n 0, 1) := by decide +kernel
theorem d8_97 : decode prog_26_method_22_code 97 = .ok (.getfield 32, 3) := by decide +kernel
theorem d8_100 : decode prog_26_method_22_code 100 = .ok (.aload_n 0, 1) := by decide +kernel
theorem d8_101 : decode prog_26_method_22_code 101 = .ok (.getfield 22, 3) := by decide +kernel
theorem d8_104 : decode prog_26_method_22_code 104 = .ok (.arraylength, 1) := by decide +kernel
theorem d8_105 : decode prog_26_method_22_code 105 = .ok (.if_icmp .ne 58, 3) := by decide +kernel
theorem d8_108 : decode prog_26_method_22_code 108 = .ok (.aload_n 0, 1) := by decide +kernel
theorem d8_109 : decode prog_26_method_22_code 109 = .ok (.getfield 32, 3) := by decide +kernel
theorem d8_112 : decode prog_26_method_22_code 112 = .ok (.aload_n 0, 1) := by decide +kernel
theorem d8_113 : decode prog_26_method_22_code 113 = .ok (.getfield 32, 3) := by decide +kernel
theorem d8_116 : decode prog_26_method_22_code 116 = .ok (.i2l, 1) := by decide +kernel
theorem d8_117 : decode prog_26_method_22_code 117 = .ok (.lconst 1, 1) := by decide +kernel
theorem d8_118 : decode prog_26_method_22_code 118 = .ok (.ladd, 1) := by decide +kernel
theorem d8_119 : decode prog_26_method_22_code 119 = .ok (.invokestatic 192, 3) := by decide +kernel
theorem d8_122 : decode prog_26_method_22_code 122 = .ok (.istore 6, 2) := by decide +kernel
theorem d8_124 : decode prog_26_method_22_code 124 = .ok (.aload_n 0, 1) := by decide +kernel
theorem d8_125 : decode prog_26_method_22_code 125 = .ok (.aload_n 0, 1) := by decide +kernel
theorem d8_126 : decode prog_26_method_22_code 126 = .ok (.getfield 22, 3) := by decide +kernel
theorem d8_129 : decode prog_26_method_22_code 129 = .ok (.iload 6, 2) := by decide +kernel
theorem d8_131 : decode prog_26_method_22_code 131 = .ok (.invokestatic 196, 3) := by decide +kernel
theorem d8_134 : decode prog_26_method_22_code 134 = .ok (.putfield 22, 3) := by decide +kernel
theorem d8_137 : decode prog_26_method_22_code 137 = .ok (.aload_n 0, 1) := by decide +kernel
theorem d8_138 : decode prog_26_method_22_code 138 = .ok (.aload_n 0, 1) := by decide +kernel
theorem d8_139 : decode prog_26_method_22_code 139 = .ok (.getfield 26, 3) := by decide +kernel
theorem d8_142 : decode prog_26_method_22_code 142 = .ok (.iload 6, 2) := by decide +kernel
theorem d8_144 : decode prog_26_method_22_code 144 = .ok (.invokestatic 196, 3) := by decide +kernel
theorem d8_147 : decode prog_26_method_22_code 147 = .ok (.putfield 26, 3) := by decide +kernel
theorem d8_150 : decode prog_26_method_22_code 150 = .ok (.aload_n 0, 1) := by decide +kernel
theorem d8_151 : decode prog_26_method_22_code 151 = .ok (.aload_n 0, 1) := by decide +kernel
theorem d8_152 : decode prog_26_method_22_code 152 = .ok (.getfield 29, 3) := by decide +kernel
theorem d8_155 : decode prog_26_method_22_code 155 = .ok (.iload 6, 2) := by decide +kernel
theorem d8_157 : decode prog_26_method_22_code 157 = .ok (.invokestatic 196, 3) := by decide +kernel
theorem d8_160 : decode prog_26_method_22_code 160 = .ok (.putfield 29, 3) := by decide +kernel
theorem d8_163 : decode prog_26_method_22_code 163 = .ok (.aload_n 0, 1) := by decide +kernel
theorem d8_164 : decode prog_26_method_22_code 164 = .ok (.dup, 1) := by decide +kernel
theorem d8_165 : decode prog_26_method_22_code 165 = .ok (.getfield 32, 3) := by decide +kernel
theorem d8_168 : decode prog_26_method_22_code 168 = .ok (.dup_x1, 1) := by decide +kernel
theorem d8_169 : decode prog_26_method_22_code 169 = .ok (.iconst 1, 1) := by decide +kernel
theorem d8_170 : decode prog_26_method_22_code 170 = .ok (.iadd, 1) := by decide +kernel
theorem d8_171 : decode prog_26_method_22_code 171 = .ok (.putfield 32, 3) := by decide +kernel
theorem d8_174 : decode prog_26_method_22_code 174 = .ok (.istore 6, 2) := by decide +kernel
theorem d8_176 : decode prog_26_method_22_code 176 = .ok (.aload_n 0, 1) := by decide +kernel
theorem d8_177 : decode prog_26_method_22_code 177 = .ok (.getfield 22, 3) := by decide +kernel
theorem d8_180 : decode prog_26_method_22_code 180 = .ok (.iload 6, 2) := by decide +kernel
theorem d8_182 : decode prog_26_method_22_code 182 = .ok (.iload_n 1, 1) := by decide +kernel
theorem d8_183 : decode prog_26_method_22_code 183 = .ok (.iastore, 1) := by decide +kernel
theorem d8_184 : decode prog_26_method_22_code 184 = .ok (.aload_n 0, 1) := by decide +kernel
theorem d8_185 : decode prog_26_method_22_code 185 = .ok (.getfield 26, 3) := by decide +kernel
theorem d8_188 : decode prog_26_method_22_code 188 = .ok (.iload 6, 2) := by decide +kernel
theorem d8_190 : decode prog_26_method_22_code 190 = .ok (.iload_n 2, 1) := by decide +kernel
theorem d8_191 : decode prog_26_method_22_code 191 = .ok (.iastore, 1) := by decide +kernel
theorem d8_192 : decode prog_26_method_22_code 192 = .ok (.aload_n 0, 1) := by decide +kernel
theorem d8_193 : decode prog_26_method_22_code 193 = .ok (.getfield 29, 3) := by decide +kernel
theorem d8_196 : decode prog_26_method_22_code 196 = .ok (.iload 6, 2) := by decide +kernel
theorem d8_198 : decode prog_26_method_22_code 198 = .ok (.iload_n 3, 1) := by decide +kernel
theorem d8_199 : decode prog_26_method_22_code 199 = .ok (.iastore, 1) := by decide +kernel
theorem d8_200 : decode prog_26_method_22_code 200 = .ok (.aload_n 0, 1) := by decide +kernel
theorem d8_201 : decode prog_26_method_22_code 201 = .ok (.getfield 35, 3) := by decide +kernel
theorem d8_204 : decode prog_26_method_22_code 204 = .ok (.iload 5, 2) := by decide +kernel
theorem d8_206 : decode prog_26_method_22_code 206 = .ok (.iload 6, 2) := by decide +kernel
theorem d8_208 : decode prog_26_method_22_code 208 = .ok (.iastore, 1) := by decide +kernel
theorem d8_209 : decode prog_26_method_22_code 209 = .ok (.ldc2_w 200, 3) := by decide +kernel
theorem d8_212 : decode prog_26_method_22_code 212 = .ok (.aload_n 0, 1) := by decide +kernel
theorem d8_213 : decode prog_26_method_22_code 213 = .ok (.getfield 32, 3) := by decide +kernel
theorem d8_216 : decode prog_26_method_22_code 216 = .ok (.i2l, 1) := by decide +kernel
theorem d8_217 : decode prog_26_method_22_code 217 = .ok (.lmul, 1) := by decide +kernel
theorem d8_218 : decode prog_26_method_22_code 218 = .ok (.aload_n 0, 1) := by decide +kernel
theorem d8_219 : decode prog_26_method_22_code 219 = .ok (.getfield 35, 3) := by decide +kernel
theorem d8_222 : decode prog_26_method_22_code 222 = .ok (.arraylength, 1) := by decide +kernel
theorem d8_223 : decode prog_26_method_22_code 223 = .ok (.i2l, 1) := by decide +kernel
theorem d8_224 : decode prog_26_method_22_code 224 = .ok (.lcmp, 1) := by decide +kernel
theorem d8_225 : decode prog_26_method_22_code 225 = .ok (.ifCond .le 7, 3) := by decide +kernel
theorem d8_228 : decode prog_26_method_22_code 228 = .ok (.aload_n 0, 1) := by decide +kernel
theorem d8_229 : decode prog_26_method_22_code 229 = .ok (.invokevirtual 202, 3) := by decide +kernel
theorem d8_232 : decode prog_26_method_22_code 232 = .ok (.iload 6, 2) := by decide +kernel
theorem d8_234 : decode prog_26_method_22_code 234 = .ok (.ireturn, 1) := by decide +kernel
abbrev oy8 : MethodName := ⟨"com/example/perdure/perdure/check/DecisionDiagrams", "node", "(III)I"⟩
theorem pn8 : plainFor oy8 = true := by first | exact plainFor_of_name (by first | (simp [plainName, overriddenIn]; done) | decide +kernel) | decide +kernel
theorem pd8 : parseMethodDescriptor oy8.desc = some ⟨[.int, .int, .int], some .int⟩ := by decide +kernel
theorem d9_0 : decode prog_26_method_23_code 0 = .ok (.iload_n 0, 1) := by decide +kernel
theorem d9_1 : decode prog_26_method_23_code 1 = .ok (.iload_n 1, 1) := by decide +kernel
theorem d9_2 : decode prog_26_method_23_code 2 = .ok (.invokestatic 95, 3) := by decide +kernel
theorem d9_5 : decode prog_26_method_23_code 5 = .ok (.iload_n 2, 1) := by decide +kernel
theorem d9_6 : decode prog_26_method_23_code 6 = .ok (.invokestatic 95, 3) := by decide +kernel
theorem d9_9 : decode prog_26_method_23_code 9 = .ok (.iload_n 3, 1) := by decide +kernel
theorem d9_10 : decode prog_26_method_23_code 10 = .ok (.invokestatic 105, 3) := by decide +kernel
theorem d9_13 : decode prog_26_method_23_code 13 = .ok (.ireturn, 1) := by decide +kernel
abbrev oy9 : MethodName := ⟨"com/example/perdure/perdure/check/DecisionDiagrams", "uniqueSlot", "(IIII)I"⟩
theorem pn9 : plainFor oy9 = true := by first | exact plainFor_of_name (by first | (simp [plainName, overriddenIn]; done) | decide +kernel) | decide +kernel
theorem pd9 : parseMethodDescriptor oy9.desc = some ⟨[.int, .int, .int, .int], some .int⟩ := by decide +kernel
theorem d10_0 : decode prog_53_method_3_code 0 = .ok (.iload_n 0, 1) := by decide +kernel
theorem d10_1 : decode prog_53_method_3_code 1 = .ok (.ldc 33, 2) := by decide +kernel
theorem d10_3 : decode prog_53_method_3_code 3 = .ok (.imul, 1) := by decide +kernel
theorem d10_4 : decode prog_53_method_3_code 4 = .ok (.iload_n 1, 1) := by decide +kernel
theorem d10_5 : decode prog_53_method_3_code 5 = .ok (.iadd, 1) := by decide +kernel
theorem d10_6 : decode prog_53_method_3_code 6 = .ok (.ireturn, 1) := by decide +kernel
abbrev oy10 : MethodName := ⟨"com/example/perdure/perdure/check/Tables", "hash", "(II)I"⟩
theorem pn10 : plainFor oy10 = true := by first | exact plainFor_of_name (by first | (simp [plainName, overriddenIn]; done) | decide +kernel) | decide +kernel
theorem pd10 : parseMethodDescriptor oy10.desc = some ⟨[.int, .int], some .int⟩ := by decide +kernel
theorem d11_0 : decode prog_53_method_4_code 0 = .ok (.iload_n 0, 1) := by decide +kernel
theorem d11_1 : decode prog_53_method_4_code 1 = .ok (.iload_n 0, 1) := by decide +kernel
theorem d11_2 : decode prog_53_method_4_code 2 = .ok (.bipush 16, 2) := by decide +kernel
theorem d11_4 : decode prog_53_method_4_code 4 = .ok (.iushr, 1) := by decide +kernel
theorem d11_5 : decode prog_53_method_4_code 5 = .ok (.ixor, 1) := by decide +kernel
theorem d11_6 : decode prog_53_method_4_code 6 = .ok (.istore_n 2, 1) := by decide +kernel
theorem d11_7 : decode prog_53_method_4_code 7 = .ok (.iload_n 2, 1) := by decide +kernel
theorem d11_8 : decode prog_53_method_4_code 8 = .ok (.ldc 34, 2) := by decide +kernel
theorem d11_10 : decode prog_53_method_4_code 10 = .ok (.imul, 1) := by decide +kernel
theorem d11_11 : decode prog_53_method_4_code 11 = .ok (.istore_n 2, 1) := by decide +kernel
theorem d11_12 : decode prog_53_method_4_code 12 = .ok (.iload_n 2, 1) := by decide +kernel
theorem d11_13 : decode prog_53_method_4_code 13 = .ok (.iload_n 2, 1) := by decide +kernel
theorem d11_14 : decode prog_53_method_4_code 14 = .ok (.bipush 13, 2) := by decide +kernel
theorem d11_16 : decode prog_53_method_4_code 16 = .ok (.iushr, 1) := by decide +kernel
theorem d11_17 : decode prog_53_method_4_code 17 = .ok (.ixor, 1) := by decide +kernel
theorem d11_18 : decode prog_53_method_4_code 18 = .ok (.istore_n 2, 1) := by decide +kernel
theorem d11_19 : decode prog_53_method_4_code 19 = .ok (.iload_n 2, 1) := by decide +kernel
theorem d11_20 : decode prog_53_method_4_code 20 = .ok (.ldc 35, 2) := by decide +kernel
theorem d11_22 : decode prog_53_method_4_code 22 = .ok (.imul, 1) := by decide +kernel
theorem d11_23 : decode prog_53_method_4_code 23 = .ok (.istore_n 2, 1) := by decide +kernel
theorem d11_24 : decode prog_53_method_4_code 24 = .ok (.iload_n 2, 1) := by decide +kernel
theorem d11_25 : decode prog_53_method_4_code 25 = .ok (.iload_n 2, 1) := by decide +kernel
theorem d11_26 : decode prog_53_method_4_code 26 = .ok (.bipush 16, 2) := by decide +kernel
theorem d11_28 : decode prog_53_method_4_code 28 = .ok (.iushr, 1) := by decide +kernel
theorem d11_29 : decode prog_53_method_4_code 29 = .ok (.ixor, 1) := by decide +kernel
theorem d11_30 : decode prog_53_method_4_code 30 = .ok (.istore_n 2, 1) := by decide +kernel
theorem d11_31 : decode prog_53_method_4_code 31 = .ok (.iload_n 2, 1) := by decide +kernel
theorem d11_32 : decode prog_53_method_4_code 32 = .ok (.iload_n 1, 1) := by decide +kernel
theorem d11_33 : decode prog_53_method_4_code 33 = .ok (.iconst 1, 1) := by decide +kernel
theorem d11_34 : decode prog_53_method_4_code 34 = .ok (.isub, 1) := by decide +kernel
theorem d11_35 : decode prog_53_method_4_code 35 = .ok (.iand, 1) := by decide +kernel
theorem d11_36 : decode prog_53_method_4_code 36 = .ok (.ireturn, 1) := by decide +kernel
abbrev oy11 : MethodName := ⟨"com/example/perdure/perdure/check/Tables", "slot", "(II)I"⟩
theorem pn11 : plainFor oy11 = true := by first | exact plainFor_of_name (by first | (simp [plainName, overriddenIn]; done) | decide +kernel) | decide +kernel
theorem pd11 : parseMethodDescriptor oy11.desc = some ⟨[.int, .int], some .int⟩ := by decide +kernel
theorem d12_0 : decode prog_53_method_2_code 0 = .ok (.lload_n 1, 1) := by decide +kernel
theorem d12_1 : decode prog_53_method_2_code 1 = .ok (.ldc2_w 11, 3) := by decide +kernel
theorem d12_4 : decode prog_53_method_2_code 4 = .ok (.lcmp, 1) := by decide +kernel
theorem d12_5 : decode prog_53_method_2_code 5 = .ok (.ifCond .le 17, 3) := by decide +kernel
theorem d12_8 : decode prog_53_method_2_code 8 = .ok (.new 13, 3) := by decide +kernel
theorem d12_11 : decode prog_53_method_2_code 11 = .ok (.dup, 1) := by decide +kernel
theorem d12_12 : decode prog_53_method_2_code 12 = .ok (.lload_n 1, 1) := by decide +kernel
theorem d12_13 : decode prog_53_method_2_code 13 = .ok (.invokedynamic 15, 5) := by decide +kernel
theorem d12_18 : decode prog_53_method_2_code 18 = .ok (.invokespecial 19, 3) := by decide +kernel
theorem d12_21 : decode prog_53_method_2_code 21 = .ok (.athrow, 1) := by decide +kernel
theorem d12_22 : decode prog_53_method_2_code 22 = .ok (.ldc2_w 22, 3) := by decide +kernel
theorem d12_25 : decode prog_53_method_2_code 25 = .ok (.iload_n 0, 1) := by decide +kernel
theorem d12_26 : decode prog_53_method_2_code 26 = .ok (.i2l, 1) := by decide +kernel
theorem d12_27 : decode prog_53_method_2_code 27 = .ok (.lmul, 1) := by decide +kernel
theorem d12_28 : decode prog_53_method_2_code 28 = .ok (.lload_n 1, 1) := by decide +kernel
theorem d12_29 : decode prog_53_method_2_code 29 = .ok (.invokestatic 24, 3) := by decide +kernel
theorem d12_32 : decode prog_53_method_2_code 32 = .ok (.ldc2_w 11, 3) := by decide +kernel
theorem d12_35 : decode prog_53_method_2_code 35 = .ok (.invokestatic 30, 3) := by decide +kernel
theorem d12_38 : decode prog_53_method_2_code 38 = .ok (.l2i, 1) := by decide +kernel
theorem d12_39 : decode prog_53_method_2_code 39 = .ok (.ireturn, 1) := by decide +kernel
abbrev oy12 : MethodName := ⟨"com/example/perdure/perdure/check/Tables", "grown", "(IJ)I"⟩
theorem pn12 : plainFor oy12 = true := by first | exact plainFor_of_name (by first | (simp [plainName, overriddenIn]; done) | decide +kernel) | decide +kernel
theorem pd12 : parseMethodDescriptor oy12.desc = some ⟨[.int, .long], some .int⟩ := by decide +kernel
theorem d13_0 : decode jdk_29_method_66_code 0 = .ok (.lload_n 0, 1) := by decide +kernel
theorem d13_1 : decode jdk_29_method_66_code 1 = .ok (.lload_n 2, 1) := by decide +kernel
theorem d13_2 : decode jdk_29_method_66_code 2 = .ok (.lcmp, 1) := by decide +kernel
theorem d13_3 : decode jdk_29_method_66_code 3 = .ok (.ifCond .lt 7, 3) := by decide +kernel
theorem d13_6 : decode jdk_29_method_66_code 6 = .ok (.lload_n 0, 1) := by decide +kernel
theorem d13_7 : decode jdk_29_method_66_code 7 = .ok (.goto 4, 3) := by decide +kernel
theorem d13_10 : decode jdk_29_method_66_code 10 = .ok (.lload_n 2, 1) := by decide +kernel
theorem d13_11 : decode jdk_29_method_66_code 11 = .ok (.lreturn, 1) := by decide +kernel
abbrev oy13 : MethodName := ⟨"java/lang/Math", "max", "(JJ)J"⟩
theorem pn13 : plainFor oy13 = true := by first | exact plainFor_of_name (by first | (simp [plainName, overriddenIn]; done) | decide +kernel) | decide +kernel
theorem pd13 : parseMethodDescriptor oy13.desc = some ⟨[.long, .long], some .long⟩ := by decide +kernel
theorem d14_0 : decode jdk_29_method_70_code 0 = .ok (.lload_n 0, 1) := by decide +kernel
theorem d14_1 : decode jdk_29_method_70_code 1 = .ok (.lload_n 2, 1) := by decide +kernel
theorem d14_2 : decode jdk_29_method_70_code 2 = .ok (.lcmp, 1) := by decide +kernel
theorem d14_3 : decode jdk_29_method_70_code 3 = .ok (.ifCond .gt 7, 3) := by decide +kernel
theorem d14_6 : decode jdk_29_method_70_code 6 = .ok (.lload_n 0, 1) := by decide +kernel
theorem d14_7 : decode jdk_29_method_70_code 7 = .ok (.goto 4, 3) := by decide +kernel
theorem d14_10 : decode jdk_29_method_70_code 10 = .ok (.lload_n 2, 1) := by decide +kernel
theorem d14_11 : decode jdk_29_method_70_code 11 = .ok (.lreturn, 1) := by decide +kernel
abbrev oy14 : MethodName := ⟨"java/lang/Math", "min", "(JJ)J"⟩
theorem pn14 : plainFor oy14 = true := by first | exact plainFor_of_name (by first | (simp [plainName, overriddenIn]; done) | decide +kernel) | decide +kernel
theorem pd14 : parseMethodDescriptor oy14.desc = some ⟨[.long, .long], some .long⟩ := by decide +kernel
theorem d15_0 : decode jdk_65_method_123_code 0 = .ok (.iload_n 1, 1) := by decide +kernel
theorem d15_1 : decode jdk_65_method_123_code 1 = .ok (.aload_n 0, 1) := by decide +kernel
theorem d15_2 : decode jdk_65_method_123_code 2 = .ok (.arraylength, 1) := by decide +kernel
theorem d15_3 : decode jdk_65_method_123_code 3 = .ok (.if_icmp .ne 11, 3) := by decide +kernel
theorem d15_6 : decode jdk_65_method_123_code 6 = .ok (.aload_n 0, 1) := by decide +kernel
theorem d15_7 : decode jdk_65_method_123_code 7 = .ok (.invokevirtual 316, 3) := by decide +kernel
theorem d15_10 : decode jdk_65_method_123_code 10 = .ok (.checkcast 317, 3) := by decide +kernel
theorem d15_13 : decode jdk_65_method_123_code 13 = .ok (.areturn, 1) := by decide +kernel
theorem d15_14 : decode jdk_65_method_123_code 14 = .ok (.iload_n 1, 1) := by decide +kernel
theorem d15_15 : decode jdk_65_method_123_code 15 = .ok (.newarray .int, 2) := by decide +kernel
theorem d15_17 : decode jdk_65_method_123_code 17 = .ok (.astore_n 2, 1) := by decide +kernel
theorem d15_18 : decode jdk_65_method_123_code 18 = .ok (.aload_n 0, 1) := by decide +kernel
theorem d15_19 : decode jdk_65_method_123_code 19 = .ok (.iconst 0, 1) := by decide +kernel
theorem d15_20 : decode jdk_65_method_123_code 20 = .ok (.aload_n 2, 1) := by decide +kernel
theorem d15_21 : decode jdk_65_method_123_code 21 = .ok (.iconst 0, 1) := by decide +kernel
theorem d15_22 : decode jdk_65_method_123_code 22 = .ok (.aload_n 0, 1) := by decide +kernel
theorem d15_23 : decode jdk_65_method_123_code 23 = .ok (.arraylength, 1) := by decide +kernel
theorem d15_24 : decode jdk_65_method_123_code 24 = .ok (.iload_n 1, 1) := by decide +kernel
theorem d15_25 : decode jdk_65_method_123_code 25 = .ok (.invokestatic 304, 3) := by decide +kernel
theorem d15_28 : decode jdk_65_method_123_code 28 = .ok (.invokestatic 150, 3) := by decide +kernel
theorem d15_31 : decode jdk_65_method_123_code 31 = .ok (.aload_n 2, 1) := by decide +kernel
theorem d15_32 : decode jdk_65_method_123_code 32 = .ok (.areturn, 1) := by decide +kernel
abbrev oy15 : MethodName := ⟨"java/util/Arrays", "copyOf", "([II)[I"⟩
theorem pn15 : plainFor oy15 = true := by first | exact plainFor_of_name (by first | (simp [plainName, overriddenIn]; done) | decide +kernel) | decide +kernel
theorem pd15 : parseMethodDescriptor oy15.desc = some ⟨[(.array .int), .int], some (.array .int)⟩ := by decide +kernel
theorem d16_0 : decode jdk_29_method_69_code 0 = .ok (.iload_n 0, 1) := by decide +kernel
theorem d16_1 : decode jdk_29_method_69_code 1 = .ok (.iload_n 1, 1) := by decide +kernel
theorem d16_2 : decode jdk_29_method_69_code 2 = .ok (.if_icmp .gt 7, 3) := by decide +kernel
theorem d16_5 : decode jdk_29_method_69_code 5 = .ok (.iload_n 0, 1) := by decide +kernel
theorem d16_6 : decode jdk_29_method_69_code 6 = .ok (.goto 4, 3) := by decide +kernel
theorem d16_9 : decode jdk_29_method_69_code 9 = .ok (.iload_n 1, 1) := by decide +kernel
theorem d16_10 : decode jdk_29_method_69_code 10 = .ok (.ireturn, 1) := by decide +kernel
abbrev oy16 : MethodName := ⟨"java/lang/Math", "min", "(II)I"⟩
theorem pn16 : plainFor oy16 = true := by first | exact plainFor_of_name (by first | (simp [plainName, overriddenIn]; done) | decide +kernel) | decide +kernel
theorem pd16 : parseMethodDescriptor oy16.desc = some ⟨[.int, .int], some .int⟩ := by decide +kernel
theorem d17_0 : decode prog_26_method_24_code 0 = .ok (.aload_n 0, 1) := by decide +kernel
theorem d17_1 : decode prog_26_method_24_code 1 = .ok (.aload_n 0, 1) := by decide +kernel
theorem d17_2 : decode prog_26_method_24_code 2 = .ok (.getfield 35, 3) := by decide +kernel
theorem d17_5 : decode prog_26_method_24_code 5 = .ok (.arraylength, 1) := by decide +kernel
theorem d17_6 : decode prog_26_method_24_code 6 = .ok (.ldc2_w 200, 3) := by decide +kernel
theorem d17_9 : decode prog_26_method_24_code 9 = .ok (.aload_n 0, 1) := by decide +kernel
theorem d17_10 : decode prog_26_method_24_code 10 = .ok (.getfield 35, 3) := by decide +kernel
theorem d17_13 : decode prog_26_method_24_code 13 = .ok (.arraylength, 1) := by decide +kernel
theorem d17_14 : decode prog_26_method_24_code 14 = .ok (.i2l, 1) := by decide +kernel
theorem d17_15 : decode prog_26_method_24_code 15 = .ok (.lmul, 1) := by decide +kernel
theorem d17_16 : decode prog_26_method_24_code 16 = .ok (.invokestatic 192, 3) := by decide +kernel
theorem d17_19 : decode prog_26_method_24_code 19 = .ok (.newarray .int, 2) := by decide +kernel
theorem d17_21 : decode prog_26_method_24_code 21 = .ok (.putfield 35, 3) := by decide +kernel
theorem d17_24 : decode prog_26_method_24_code 24 = .ok (.aload_n 0, 1) := by decide +kernel
theorem d17_25 : decode prog_26_method_24_code 25 = .ok (.getfield 35, 3) := by decide +kernel
theorem d17_28 : decode prog_26_method_24_code 28 = .ok (.arraylength, 1) := by decide +kernel
theorem d17_29 : decode prog_26_method_24_code 29 = .ok (.iconst 1, 1) := by decide +kernel
theorem d17_30 : decode prog_26_method_24_code 30 = .ok (.isub, 1) := by decide +kernel
theorem d17_31 : decode prog_26_method_24_code 31 = .ok (.istore_n 1, 1) := by decide +kernel
theorem d17_32 : decode prog_26_method_24_code 32 = .ok (.iconst 2, 1) := by decide +kernel
theorem d17_33 : decode prog_26_method_24_code 33 = .ok (.istore_n 2, 1) := by decide +kernel
theorem d17_34 : decode prog_26_method_24_code 34 = .ok (.iload_n 2, 1) := by decide +kernel
theorem d17_35 : decode prog_26_method_24_code 35 = .ok (.aload_n 0, 1) := by decide +kernel
theorem d17_36 : decode prog_26_method_24_code 36 = .ok (.getfield 32, 3) := by decide +kernel
theorem d17_39 : decode prog_26_method_24_code 39 = .ok (.if_icmp .ge 61, 3) := by decide +kernel
theorem d17_42 : decode prog_26_method_24_code 42 = .ok (.aload_n 0, 1) := by decide +kernel
theorem d17_43 : decode prog_26_method_24_code 43 = .ok (.getfield 22, 3) := by decide +kernel
theorem d17_46 : decode prog_26_method_24_code 46 = .ok (.iload_n 2, 1) := by decide +kernel
theorem d17_47 : decode prog_26_method_24_code 47 = .ok (.iaload, 1) := by decide +kernel
theorem d17_48 : decode prog_26_method_24_code 48 = .ok (.aload_n 0, 1) := by decide +kernel
theorem d17_49 : decode prog_26_method_24_code 49 = .ok (.getfield 26, 3) := by decide +kernel
theorem d17_52 : decode prog_26_method_24_code 52 = .ok (.iload_n 2, 1) := by decide +kernel
theorem d17_53 : decode prog_26_method_24_code 53 = .ok (.iaload, 1) := by decide +kernel
theorem d17_54 : decode prog_26_method_24_code 54 = .ok (.aload_n 0, 1) := by decide +kernel
theorem d17_55 : decode prog_26_method_24_code 55 = .ok (.getfield 29, 3) := by decide +kernel
theorem d17_58 : decode prog_26_method_24_code 58 = .ok (.iload_n 2, 1) := by decide +kernel
theorem d17_59 : decode prog_26_method_24_code 59 = .ok (.iaload, 1) := by decide +kernel
theorem d17_60 : decode prog_26_method_24_code 60 = .ok (.aload_n 0, 1) := by decide +kernel
theorem d17_61 : decode prog_26_method_24_code 61 = .ok (.getfield 35, 3) := by decide +kernel
theorem d17_64 : decode prog_26_method_24_code 64 = .ok (.arraylength, 1) := by decide +kernel
theorem d17_65 : decode prog_26_method_24_code 65 = .ok (.invokestatic 188, 3) := by decide +kernel
theorem d17_68 : decode prog_26_method_24_code 68 = .ok (.istore_n 3, 1) := by decide +kernel
theorem d17_69 : decode prog_26_method_24_code 69 = .ok (.aload_n 0, 1) := by decide +kernel
theorem d17_70 : decode prog_26_method_24_code 70 = .ok (.getfield 35, 3) := by decide +kernel
theorem d17_73 : decode prog_26_method_24_code 73 = .ok (.iload_n 3, 1) := by decide +kernel
theorem d17_74 : decode prog_26_method_24_code 74 = .ok (.iaload, 1) := by decide +kernel
theorem d17_75 : decode prog_26_method_24_code 75 = .ok (.ifCond .eq 12, 3) := by decide +kernel
theorem d17_78 : decode prog_26_method_24_code 78 = .ok (.iload_n 3, 1) := by decide +kernel
theorem d17_79 : decode prog_26_method_24_code 79 = .ok (.iconst 1, 1) := by decide +kernel
theorem d17_80 : decode prog_26_method_24_code 80 = .ok (.iadd, 1) := by decide +kernel
theorem d17_81 : decode prog_26_method_24_code 81 = .ok (.iload_n 1, 1) := by decide +kernel
theorem d17_82 : decode prog_26_method_24_code 82 = .ok (.iand, 1) := by decide +kernel
theorem d17_83 : decode prog_26_method_24_code 83 = .ok (.istore_n 3, 1) := by decide +kernel
theorem d17_84 : decode prog_26_method_24_code 84 = .ok (.goto (-15), 3) := by decide +kernel
theorem d17_87 : decode prog_26_method_24_code 87 = .ok (.aload_n 0, 1) := by decide +kernel
theorem d17_88 : decode prog_26_method_24_code 88 = .ok (.getfield 35, 3) := by decide +kernel
theorem d17_91 : decode prog_26_method_24_code 91 = .ok (.iload_n 3, 1) := by decide +kernel
theorem d17_92 : decode prog_26_method_24_code 92 = .ok (.iload_n 2, 1) := by decide +kernel
theorem d17_93 : decode prog_26_method_24_code 93 = .ok (.iastore, 1) := by decide +kernel
theorem d17_94 : decode prog_26_method_24_code 94 = .ok (.iinc 2 1, 3) := by decide +kernel
theorem d17_97 : decode prog_26_method_24_code 97 = .ok (.goto (-63), 3) := by decide +kernel
theorem d17_100 : decode prog_26_method_24_code 100 = .ok (.aload_n 0, 1) := by decide +kernel
theorem d17_101 : decode prog_26_method_24_code 101 = .ok (.getfield 145, 3) := by decide +kernel
theorem d17_104 : decode prog_26_method_24_code 104 = .ok (.arraylength, 1) := by decide +kernel
theorem d17_105 : decode prog_26_method_24_code 105 = .ok (.aload_n 0, 1) := by decide +kernel
theorem d17_106 : decode prog_26_method_24_code 106 = .ok (.getfield 35, 3) := by decide +kernel
theorem d17_109 : decode prog_26_method_24_code 109 = .ok (.arraylength, 1) := by decide +kernel
theorem d17_110 : decode prog_26_method_24_code 110 = .ok (.ldc 205, 2) := by decide +kernel
theorem d17_112 : decode prog_26_method_24_code 112 = .ok (.invokestatic 206, 3) := by decide +kernel
theorem d17_115 : decode prog_26_method_24_code 115 = .ok (.if_icmp .ge 17, 3) := by decide +kernel
theorem d17_118 : decode prog_26_method_24_code 118 = .ok (.aload_n 0, 1) := by decide +kernel
theorem d17_119 : decode prog_26_method_24_code 119 = .ok (.aload_n 0, 1) := by decide +kernel
theorem d17_120 : decode prog_26_method_24_code 120 = .ok (.getfield 35, 3) := by decide +kernel
theorem d17_123 : decode prog_26_method_24_code 123 = .ok (.arraylength, 1) := by decide +kernel
theorem d17_124 : decode prog_26_method_24_code 124 = .ok (.ldc 205, 2) := by decide +kernel
theorem d17_126 : decode prog_26_method_24_code 126 = .ok (.invokestatic 206, 3) := by decide +kernel
theorem d17_129 : decode prog_26_method_24_code 129 = .ok (.invokevirtual 38, 3) := by decide +kernel
theorem d17_132 : decode prog_26_method_24_code 132 = .ok (.return_, 1) := by decide +kernel
abbrev oy17 : MethodName := ⟨"com/example/perdure/perdure/check/DecisionDiagrams", "rehash", "()V"⟩
theorem pn17 : plainFor oy17 = true := by first | exact plainFor_of_name (by first | (simp [plainName, overriddenIn]; done) | decide +kernel) | decide +kernel
theorem pd17 : parseMethodDescriptor oy17.desc = some ⟨[], none⟩ := by decide +kernel
theorem d18_0 : decode method_3_code 0 = .ok (.iload 4, 2) := by decide +kernel
theorem d18_2 : decode method_3_code 2 = .ok (.iconst 3, 1) := by decide +kernel
theorem d18_3 : decode method_3_code 3 = .ok (.iand, 1) := by decide +kernel
theorem d18_4 : decode method_3_code 4 = .ok (.istore 5, 2) := by decide +kernel
theorem d18_6 : decode method_3_code 6 = .ok (.iload 4, 2) := by decide +kernel
theorem d18_8 : decode method_3_code 8 = .ok (.iconst 2, 1) := by decide +kernel
theorem d18_9 : decode method_3_code 9 = .ok (.iushr, 1) := by decide +kernel
theorem d18_10 : decode method_3_code 10 = .ok (.bipush 15, 2) := by decide +kernel
theorem d18_12 : decode method_3_code 12 = .ok (.iand, 1) := by decide +kernel
theorem d18_13 : decode method_3_code 13 = .ok (.iload_n 3, 1) := by decide +kernel
theorem d18_14 : decode method_3_code 14 = .ok (.irem, 1) := by decide +kernel
theorem d18_15 : decode method_3_code 15 = .ok (.istore 6, 2) := by decide +kernel
theorem d18_17 : decode method_3_code 17 = .ok (.iload 4, 2) := by decide +kernel
theorem d18_19 : decode method_3_code 19 = .ok (.bipush 6, 2) := by decide +kernel
theorem d18_21 : decode method_3_code 21 = .ok (.iushr, 1) := by decide +kernel
theorem d18_22 : decode method_3_code 22 = .ok (.bipush 15, 2) := by decide +kernel
theorem d18_24 : decode method_3_code 24 = .ok (.iand, 1) := by decide +kernel
theorem d18_25 : decode method_3_code 25 = .ok (.iload_n 3, 1) := by decide +kernel
theorem d18_26 : decode method_3_code 26 = .ok (.irem, 1) := by decide +kernel
theorem d18_27 : decode method_3_code 27 = .ok (.istore 7, 2) := by decide +kernel
theorem d18_29 : decode method_3_code 29 = .ok (.aload_n 1, 1) := by decide +kernel
theorem d18_30 : decode method_3_code 30 = .ok (.iload_n 3, 1) := by decide +kernel
theorem d18_31 : decode method_3_code 31 = .ok (.aload_n 0, 1) := by decide +kernel
theorem d18_32 : decode method_3_code 32 = .ok (.iload 5, 2) := by decide +kernel
theorem d18_34 : decode method_3_code 34 = .ok (.invokestatic 31, 3) := by decide +kernel
theorem d18_37 : decode method_3_code 37 = .ok (.aload_n 1, 1) := by decide +kernel
theorem d18_38 : decode method_3_code 38 = .ok (.iload 6, 2) := by decide +kernel
theorem d18_40 : decode method_3_code 40 = .ok (.iaload, 1) := by decide +kernel
theorem d18_41 : decode method_3_code 41 = .ok (.aload_n 1, 1) := by decide +kernel
theorem d18_42 : decode method_3_code 42 = .ok (.iload 7, 2) := by decide +kernel
theorem d18_44 : decode method_3_code 44 = .ok (.iaload, 1) := by decide +kernel
theorem d18_45 : decode method_3_code 45 = .ok (.invokevirtual 35, 3) := by decide +kernel
theorem d18_48 : decode method_3_code 48 = .ok (.iastore, 1) := by decide +kernel
theorem d18_49 : decode method_3_code 49 = .ok (.aload_n 2, 1) := by decide +kernel
theorem d18_50 : decode method_3_code 50 = .ok (.iload_n 3, 1) := by decide +kernel
theorem d18_51 : decode method_3_code 51 = .ok (.iload 5, 2) := by decide +kernel
theorem d18_53 : decode method_3_code 53 = .ok (.aload_n 2, 1) := by decide +kernel
theorem d18_54 : decode method_3_code 54 = .ok (.iload 6, 2) := by decide +kernel
theorem d18_56 : decode method_3_code 56 = .ok (.iaload, 1) := by decide +kernel
theorem d18_57 : decode method_3_code 57 = .ok (.aload_n 2, 1) := by decide +kernel
theorem d18_58 : decode method_3_code 58 = .ok (.iload 7, 2) := by decide +kernel
theorem d18_60 : decode method_3_code 60 = .ok (.iaload, 1) := by decide +kernel
theorem d18_61 : decode method_3_code 61 = .ok (.invokestatic 39, 3) := by decide +kernel
theorem d18_64 : decode method_3_code 64 = .ok (.iastore, 1) := by decide +kernel
theorem d18_65 : decode method_3_code 65 = .ok (.return_, 1) := by decide +kernel
abbrev oy18 : MethodName := ⟨"com/example/perdure/perdure/check/DecisionDiagramsLeastPinLaw", "step", "(Lcom/example/perdure/perdure/check/DecisionDiagrams;[I[III)V"⟩
theorem pn18 : plainFor oy18 = true := by first | exact plainFor_of_name (by first | (simp [plainName, overriddenIn]; done) | decide +kernel) | decide +kernel
theorem pd18 : parseMethodDescriptor oy18.desc = some ⟨[(.object "com/example/perdure/perdure/check/DecisionDiagrams"), (.array .int), (.array .int), .int, .int], none⟩ := by decide +kernel
theorem d19_0 : decode method_4_code 0 = .ok (.iload_n 0, 1) := by decide +kernel
theorem d19_1 : decode method_4_code 1 = .ok (.ifCond .ne 7, 3) := by decide +kernel
theorem d19_4 : decode method_4_code 4 = .ok (.getstatic 43, 3) := by decide +kernel
theorem d19_7 : decode method_4_code 7 = .ok (.areturn, 1) := by decide +kernel
theorem d19_8 : decode method_4_code 8 = .ok (.iload_n 0, 1) := by decide +kernel
theorem d19_9 : decode method_4_code 9 = .ok (.iconst 1, 1) := by decide +kernel
theorem d19_10 : decode method_4_code 10 = .ok (.if_icmp .ne 7, 3) := by decide +kernel
theorem d19_13 : decode method_4_code 13 = .ok (.getstatic 49, 3) := by decide +kernel
theorem d19_16 : decode method_4_code 16 = .ok (.areturn, 1) := by decide +kernel
theorem d19_17 : decode method_4_code 17 = .ok (.iload_n 0, 1) := by decide +kernel
theorem d19_18 : decode method_4_code 18 = .ok (.iconst 2, 1) := by decide +kernel
theorem d19_19 : decode method_4_code 19 = .ok (.if_icmp .ne 7, 3) := by decide +kernel
theorem d19_22 : decode method_4_code 22 = .ok (.getstatic 52, 3) := by decide +kernel
theorem d19_25 : decode method_4_code 25 = .ok (.areturn, 1) := by decide +kernel
theorem d19_26 : decode method_4_code 26 = .ok (.getstatic 55, 3) := by decide +kernel
theorem d19_29 : decode method_4_code 29 = .ok (.areturn, 1) := by decide +kernel
abbrev oy19 : MethodName := ⟨"com/example/perdure/perdure/check/DecisionDiagramsLeastPinLaw", "connective", "(I)Lcom/example/perdure/perdure/model/Connective;"⟩
theorem pn19 : plainFor oy19 = true := by first | exact plainFor_of_name (by first | (simp [plainName, overriddenIn]; done) | decide +kernel) | decide +kernel
theorem pd19 : parseMethodDescriptor oy19.desc = some ⟨[.int], some (.object "com/example/perdure/perdure/model/Connective")⟩ := by decide +kernel
theorem d20_0 : decode prog_26_method_6_code 0 = .ok (.aload_n 0, 1) := by decide +kernel
theorem d20_1 : decode prog_26_method_6_code 1 = .ok (.aload_n 1, 1) := by decide +kernel
theorem d20_2 : decode prog_26_method_6_code 2 = .ok (.invokevirtual 80, 3) := by decide +kernel
theorem d20_5 : decode prog_26_method_6_code 5 = .ok (.iload_n 2, 1) := by decide +kernel
theorem d20_6 : decode prog_26_method_6_code 6 = .ok (.iload_n 3, 1) := by decide +kernel
theorem d20_7 : decode prog_26_method_6_code 7 = .ok (.invokevirtual 84, 3) := by decide +kernel
theorem d20_10 : decode prog_26_method_6_code 10 = .ok (.ireturn, 1) := by decide +kernel
abbrev oy20 : MethodName := ⟨"com/example/perdure/perdure/check/DecisionDiagrams", "apply", "(Lcom/example/perdure/perdure/model/Connective;II)I"⟩
theorem pn20 : plainFor oy20 = true := by first | exact plainFor_of_name (by first | (simp [plainName, overriddenIn]; done) | decide +kernel) | decide +kernel
theorem pd20 : parseMethodDescriptor oy20.desc = some ⟨[(.object "com/example/perdure/perdure/model/Connective"), .int, .int], some .int⟩ := by decide +kernel
theorem d21_0 : decode jdk_37_method_2_code 0 = .ok (.aload_n 0, 1) := by decide +kernel
theorem d21_1 : decode jdk_37_method_2_code 1 = .ok (.getfield 7, 3) := by decide +kernel
theorem d21_4 : decode jdk_37_method_2_code 4 = .ok (.ireturn, 1) := by decide +kernel
abbrev oy21 : MethodName := ⟨"java/lang/Enum", "ordinal", "()I"⟩
theorem pn21 : plainFor oy21 = true := by first | exact plainFor_of_name (by first | (simp [plainName, overriddenIn]; done) | decide +kernel) | decide +kernel
theorem pd21 : parseMethodDescriptor oy21.desc = some ⟨[], some .int⟩ := by decide +kernel
theorem d22_0 : decode prog_26_method_9_code 0 = .ok (.iload_n 1, 1) := by decide +kernel
theorem d22_1 : decode prog_26_method_9_code 1 = .ok (.iload_n 2, 1) := by decide +kernel
theorem d22_2 : decode prog_26_method_9_code 2 = .ok (.iload_n 3, 1) := by decide +kernel
theorem d22_3 : decode prog_26_method_9_code 3 = .ok (.invokestatic 126, 3) := by decide +kernel
theorem d22_6 : decode prog_26_method_9_code 6 = .ok (.istore 4, 2) := by decide +kernel
theorem d22_8 : decode prog_26_method_9_code 8 = .ok (.iload 4, 2) := by decide +kernel
theorem d22_10 : decode prog_26_method_9_code 10 = .ok (.ldc 129, 2) := by decide +kernel
theorem d22_12 : decode prog_26_method_9_code 12 = .ok (.if_icmp .eq 6, 3) := by decide +kernel
theorem d22_15 : decode prog_26_method_9_code 15 = .ok (.iload 4, 2) := by decide +kernel
theorem d22_17 : decode prog_26_method_9_code 17 = .ok (.ireturn, 1) := by decide +kernel
theorem d22_18 : decode prog_26_method_9_code 18 = .ok (.iconst 0, 1) := by decide +kernel
theorem d22_19 : decode prog_26_method_9_code 19 = .ok (.istore 5, 2) := by decide +kernel
theorem d22_21 : decode prog_26_method_9_code 21 = .ok (.iconst 0, 1) := by decide +kernel
theorem d22_22 : decode prog_26_method_9_code 22 = .ok (.istore 6, 2) := by decide +kernel
theorem d22_24 : decode prog_26_method_9_code 24 = .ok (.aload_n 0, 1) := by decide +kernel
theorem d22_25 : decode prog_26_method_9_code 25 = .ok (.getfield 42, 3) := by decide +kernel
theorem d22_28 : decode prog_26_method_9_code 28 = .ok (.iconst 0, 1) := by decide +kernel
theorem d22_29 : decode prog_26_method_9_code 29 = .ok (.iload_n 2, 1) := by decide +kernel
theorem d22_30 : decode prog_26_method_9_code 30 = .ok (.iastore, 1) := by decide +kernel
theorem d22_31 : decode prog_26_method_9_code 31 = .ok (.aload_n 0, 1) := by decide +kernel
theorem d22_32 : decode prog_26_method_9_code 32 = .ok (.getfield 45, 3) := by decide +kernel
theorem d22_35 : decode prog_26_method_9_code 35 = .ok (.iconst 0, 1) := by decide +kernel
theorem d22_36 : decode prog_26_method_9_code 36 = .ok (.iload_n 3, 1) := by decide +kernel
theorem d22_37 : decode prog_26_method_9_code 37 = .ok (.iastore, 1) := by decide +kernel
theorem d22_38 : decode prog_26_method_9_code 38 = .ok (.aload_n 0, 1) := by decide +kernel
theorem d22_39 : decode prog_26_method_9_code 39 = .ok (.getfield 48, 3) := by decide +kernel
theorem d22_42 : decode prog_26_method_9_code 42 = .ok (.iconst 0, 1) := by decide +kernel
theorem d22_43 : decode prog_26_method_9_code 43 = .ok (.iconst 0, 1) := by decide +kernel
theorem d22_44 : decode prog_26_method_9_code 44 = .ok (.iastore, 1) := by decide +kernel
theorem d22_45 : decode prog_26_method_9_code 45 = .ok (.iinc 5 1, 3) := by decide +kernel
theorem d22_48 : decode prog_26_method_9_code 48 = .ok (.iload 5, 2) := by decide +kernel
theorem d22_50 : decode prog_26_method_9_code 50 = .ok (.ifCond .le 382, 3) := by decide +kernel
theorem d22_53 : decode prog_26_method_9_code 53 = .ok (.iload 5, 2) := by decide +kernel
theorem d22_55 : decode prog_26_method_9_code 55 = .ok (.iconst 1, 1) := by decide +kernel
theorem d22_56 : decode prog_26_method_9_code 56 = .ok (.isub, 1) := by decide +kernel
theorem d22_57 : decode prog_26_method_9_code 57 = .ok (.istore 7, 2) := by decide +kernel
theorem d22_59 : decode prog_26_method_9_code 59 = .ok (.aload_n 0, 1) := by decide +kernel
theorem d22_60 : decode prog_26_method_9_code 60 = .ok (.getfield 42, 3) := by decide +kernel
theorem d22_63 : decode prog_26_method_9_code 63 = .ok (.iload 7, 2) := by decide +kernel
theorem d22_65 : decode prog_26_method_9_code 65 = .ok (.iaload, 1) := by decide +kernel
theorem d22_66 : decode prog_26_method_9_code 66 = .ok (.istore 8, 2) := by decide +kernel
theorem d22_68 : decode prog_26_method_9_code 68 = .ok (.aload_n 0, 1) := by decide +kernel
theorem d22_69 : decode prog_26_method_9_code 69 = .ok (.getfield 45, 3) := by decide +kernel
theorem d22_72 : decode prog_26_method_9_code 72 = .ok (.iload 7, 2) := by decide +kernel
theorem d22_74 : decode prog_26_method_9_code 74 = .ok (.iaload, 1) := by decide +kernel
theorem d22_75 : decode prog_26_method_9_code 75 = .ok (.istore 9, 2) := by decide +kernel
theorem d22_77 : decode prog_26_method_9_code 77 = .ok (.aload_n 0, 1) := by decide +kernel
theorem d22_78 : decode prog_26_method_9_code 78 = .ok (.iload 8, 2) := by decide +kernel
theorem d22_80 : decode prog_26_method_9_code 80 = .ok (.invokevirtual 114, 3) := by decide +kernel
theorem d22_83 : decode prog_26_method_9_code 83 = .ok (.aload_n 0, 1) := by decide +kernel
theorem d22_84 : decode prog_26_method_9_code 84 = .ok (.iload 9, 2) := by decide +kernel
theorem d22_86 : decode prog_26_method_9_code 86 = .ok (.invokevirtual 114, 3) := by decide +kernel
theorem d22_89 : decode prog_26_method_9_code 89 = .ok (.invokestatic 117, 3) := by decide +kernel
theorem d22_92 : decode prog_26_method_9_code 92 = .ok (.istore 10, 2) := by decide +kernel
theorem d22_94 : decode prog_26_method_9_code 94 = .ok (.aload_n 0, 1) := by decide +kernel
theorem d22_95 : decode prog_26_method_9_code 95 = .ok (.getfield 48, 3) := by decide +kernel
theorem d22_98 : decode prog_26_method_9_code 98 = .ok (.iload 7, 2) := by decide +kernel
theorem d22_100 : decode prog_26_method_9_code 100 = .ok (.iaload, 1) := by decide +kernel
theorem d22_101 : decode prog_26_method_9_code 101 = .ok (.ifCond .ne 138, 3) := by decide +kernel
theorem d22_104 : decode prog_26_method_9_code 104 = .ok (.iload_n 1, 1) := by decide +kernel
theorem d22_105 : decode prog_26_method_9_code 105 = .ok (.iload 8, 2) := by decide +kernel
theorem d22_107 : decode prog_26_method_9_code 107 = .ok (.iload 9, 2) := by decide +kernel
theorem d22_109 : decode prog_26_method_9_code 109 = .ok (.invokestatic 126, 3) := by decide +kernel
theorem d22_112 : decode prog_26_method_9_code 112 = .ok (.istore 11, 2) := by decide +kernel
theorem d22_114 : decode prog_26_method_9_code 114 = .ok (.iload 11, 2) := by decide +kernel
theorem d22_116 : decode prog_26_method_9_code 116 = .ok (.ldc 129, 2) := by decide +kernel
theorem d22_118 : decode prog_26_method_9_code 118 = .ok (.if_icmp .ne 14, 3) := by decide +kernel
theorem d22_121 : decode prog_26_method_9_code 121 = .ok (.aload_n 0, 1) := by decide +kernel
theorem d22_122 : decode prog_26_method_9_code 122 = .ok (.iload_n 1, 1) := by decide +kernel
theorem d22_123 : decode prog_26_method_9_code 123 = .ok (.iload 8, 2) := by decide +kernel
theorem d22_125 : decode prog_26_method_9_code 125 = .ok (.iload 9, 2) := by decide +kernel
theorem d22_127 : decode prog_26_method_9_code 127 = .ok (.invokevirtual 130, 3) := by decide +kernel
theorem d22_130 : decode prog_26_method_9_code 130 = .ok (.istore 11, 2) := by decide +kernel
theorem d22_132 : decode prog_26_method_9_code 132 = .ok (.iload 11, 2) := by decide +kernel
theorem d22_134 : decode prog_26_method_9_code 134 = .ok (.ldc 129, 2) := by decide +kernel
theorem d22_136 : decode prog_26_method_9_code 136 = .ok (.if_icmp .eq 21, 3) := by decide +kernel
theorem d22_139 : decode prog_26_method_9_code 139 = .ok (.aload_n 0, 1) := by decide +kernel
theorem d22_140 : decode prog_26_method_9_code 140 = .ok (.getfield 51, 3) := by decide +kernel
theorem d22_143 : decode prog_26_method_9_code 143 = .ok (.iload 6, 2) := by decide +kernel
theorem d22_145 : decode prog_26_method_9_code 145 = .ok (.iinc 6 1, 3) := by decide +kernel
theorem d22_148 : decode prog_26_method_9_code 148 = .ok (.iload 11, 2) := by decide +kernel
theorem d22_150 : decode prog_26_method_9_code 150 = .ok (.iastore, 1) := by decide +kernel
theorem d22_151 : decode prog_26_method_9_code 151 = .ok (.iinc 5 (-1), 3) := by decide +kernel
theorem d22_154 : decode prog_26_method_9_code 154 = .ok (.goto 82, 3) := by decide +kernel
theorem d22_157 : decode prog_26_method_9_code 157 = .ok (.aload_n 0, 1) := by decide +kernel
theorem d22_158 : decode prog_26_method_9_code 158 = .ok (.getfield 48, 3) := by decide +kernel
theorem d22_161 : decode prog_26_method_9_code 161 = .ok (.iload 7, 2) := by decide +kernel
theorem d22_163 : decode prog_26_method_9_code 163 = .ok (.iconst 1, 1) := by decide +kernel
theorem d22_164 : decode prog_26_method_9_code 164 = .ok (.iastore, 1) := by decide +kernel
theorem d22_165 : decode prog_26_method_9_code 165 = .ok (.aload_n 0, 1) := by decide +kernel
theorem d22_166 : decode prog_26_method_9_code 166 = .ok (.getfield 42, 3) := by decide +kernel
theorem d22_169 : decode prog_26_method_9_code 169 = .ok (.iload 5, 2) := by decide +kernel
theorem d22_171 : decode prog_26_method_9_code 171 = .ok (.aload_n 0, 1) := by decide +kernel
theorem d22_172 : decode prog_26_method_9_code 172 = .ok (.iload 8, 2) := by decide +kernel
theorem d22_174 : decode prog_26_method_9_code 174 = .ok (.invokevirtual 114, 3) := by decide +kernel
theorem d22_177 : decode prog_26_method_9_code 177 = .ok (.iload 10, 2) := by decide +kernel
theorem d22_179 : decode prog_26_method_9_code 179 = .ok (.if_icmp .ne 13, 3) := by decide +kernel
theorem d22_182 : decode prog_26_method_9_code 182 = .ok (.aload_n 0, 1) := by decide +kernel
theorem d22_183 : decode prog_26_method_9_code 183 = .ok (.getfield 26, 3) := by decide +kernel
theorem d22_186 : decode prog_26_method_9_code 186 = .ok (.iload 8, 2) := by decide +kernel
theorem d22_188 : decode prog_26_method_9_code 188 = .ok (.iaload, 1) := by decide +kernel
theorem d22_189 : decode prog_26_method_9_code 189 = .ok (.goto 5, 3) := by decide +kernel
theorem d22_192 : decode prog_26_method_9_code 192 = .ok (.iload 8, 2) := by decide +kernel
theorem d22_194 : decode prog_26_method_9_code 194 = .ok (.iastore, 1) := by decide +kernel
theorem d22_195 : decode prog_26_method_9_code 195 = .ok (.aload_n 0, 1) := by decide +kernel
theorem d22_196 : decode prog_26_method_9_code 196 = .ok (.getfield 45, 3) := by decide +kernel
theorem d22_199 : decode prog_26_method_9_code 199 = .ok (.iload 5, 2) := by decide +kernel
theorem d22_201 : decode prog_26_method_9_code 201 = .ok (.aload_n 0, 1) := by decide +kernel
theorem d22_202 : decode prog_26_method_9_code 202 = .ok (.iload 9, 2) := by decide +kernel
theorem d22_204 : decode prog_26_method_9_code 204 = .ok (.invokevirtual 114, 3) := by decide +kernel
theorem d22_207 : decode prog_26_method_9_code 207 = .ok (.iload 10, 2) := by decide +kernel
theorem d22_209 : decode prog_26_method_9_code 209 = .ok (.if_icmp .ne 13, 3) := by decide +kernel
theorem d22_212 : decode prog_26_method_9_code 212 = .ok (.aload_n 0, 1) := by decide +kernel
theorem d22_213 : decode prog_26_method_9_code 213 = .ok (.getfield 26, 3) := by decide +kernel
theorem d22_216 : decode prog_26_method_9_code 216 = .ok (.iload 9, 2) := by decide +kernel
theorem d22_218 : decode prog_26_method_9_code 218 = .ok (.iaload, 1) := by decide +kernel
theorem d22_219 : decode prog_26_method_9_code 219 = .ok (.goto 5, 3) := by decide +kernel
theorem d22_222 : decode prog_26_method_9_code 222 = .ok (.iload 9, 2) := by decide +kernel
theorem d22_224 : decode prog_26_method_9_code 224 = .ok (.iastore, 1) := by decide +kernel
theorem d22_225 : decode prog_26_method_9_code 225 = .ok (.aload_n 0, 1) := by decide +kernel
theorem d22_226 : decode prog_26_method_9_code 226 = .ok (.getfield 48, 3) := by decide +kernel
theorem d22_229 : decode prog_26_method_9_code 229 = .ok (.iload 5, 2) := by decide +kernel
theorem d22_231 : decode prog_26_method_9_code 231 = .ok (.iinc 5 1, 3) := by decide +kernel
theorem d22_234 : decode prog_26_method_9_code 234 = .ok (.iconst 0, 1) := by decide +kernel
theorem d22_235 : decode prog_26_method_9_code 235 = .ok (.iastore, 1) := by decide +kernel
theorem d22_236 : decode prog_26_method_9_code 236 = .ok (.goto 193, 3) := by decide +kernel
theorem d22_239 : decode prog_26_method_9_code 239 = .ok (.aload_n 0, 1) := by decide +kernel
theorem d22_240 : decode prog_26_method_9_code 240 = .ok (.getfield 48, 3) := by decide +kernel
theorem d22_243 : decode prog_26_method_9_code 243 = .ok (.iload 7, 2) := by decide +kernel
theorem d22_245 : decode prog_26_method_9_code 245 = .ok (.iaload, 1) := by decide +kernel
theorem d22_246 : decode prog_26_method_9_code 246 = .ok (.iconst 1, 1) := by decide +kernel
theorem d22_247 : decode prog_26_method_9_code 247 = .ok (.if_icmp .ne 85, 3) := by decide +kernel
theorem d22_250 : decode prog_26_method_9_code 250 = .ok (.aload_n 0, 1) := by decide +kernel
theorem d22_251 : decode prog_26_method_9_code 251 = .ok (.getfield 48, 3) := by decide +kernel
theorem d22_254 : decode prog_26_method_9_code 254 = .ok (.iload 7, 2) := by decide +kernel
theorem d22_256 : decode prog_26_method_9_code 256 = .ok (.iconst 2, 1) := by decide +kernel
theorem d22_257 : decode prog_26_method_9_code 257 = .ok (.iastore, 1) := by decide +kernel
theorem d22_258 : decode prog_26_method_9_code 258 = .ok (.aload_n 0, 1) := by decide +kernel
theorem d22_259 : decode prog_26_method_9_code 259 = .ok (.getfield 42, 3) := by decide +kernel
theorem d22_262 : decode prog_26_method_9_code 262 = .ok (.iload 5, 2) := by decide +kernel
theorem d22_264 : decode prog_26_method_9_code 264 = .ok (.aload_n 0, 1) := by decide +kernel
theorem d22_265 : decode prog_26_method_9_code 265 = .ok (.iload 8, 2) := by decide +kernel
theorem d22_267 : decode prog_26_method_9_code 267 = .ok (.invokevirtual 114, 3) := by decide +kernel
theorem d22_270 : decode prog_26_method_9_code 270 = .ok (.iload 10, 2) := by decide +kernel
theorem d22_272 : decode prog_26_method_9_code 272 = .ok (.if_icmp .ne 13, 3) := by decide +kernel
theorem d22_275 : decode prog_26_method_9_code 275 = .ok (.aload_n 0, 1) := by decide +kernel
theorem d22_276 : decode prog_26_method_9_code 276 = .ok (.getfield 29, 3) := by decide +kernel
theorem d22_279 : decode prog_26_method_9_code 279 = .ok (.iload 8, 2) := by decide +kernel
theorem d22_281 : decode prog_26_method_9_code 281 = .ok (.iaload, 1) := by decide +kernel
theorem d22_282 : decode prog_26_method_9_code 282 = .ok (.goto 5, 3) := by decide +kernel
theorem d22_285 : decode prog_26_method_9_code 285 = .ok (.iload 8, 2) := by decide +kernel
theorem d22_287 : decode prog_26_method_9_code 287 = .ok (.iastore, 1) := by decide +kernel
theorem d22_288 : decode prog_26_method_9_code 288 = .ok (.aload_n 0, 1) := by decide +kernel
theorem d22_289 : decode prog_26_method_9_code 289 = .ok (.getfield 45, 3) := by decide +kernel
theorem d22_292 : decode prog_26_method_9_code 292 = .ok (.iload 5, 2) := by decide +kernel
theorem d22_294 : decode prog_26_method_9_code 294 = .ok (.aload_n 0, 1) := by decide +kernel
theorem d22_295 : decode prog_26_method_9_code 295 = .ok (.iload 9, 2) := by decide +kernel
theorem d22_297 : decode prog_26_method_9_code 297 = .ok (.invokevirtual 114, 3) := by decide +kernel
theorem d22_300 : decode prog_26_method_9_code 300 = .ok (.iload 10, 2) := by decide +kernel
theorem d22_302 : decode prog_26_method_9_code 302 = .ok (.if_icmp .ne 13, 3) := by decide +kernel
theorem d22_305 : decode prog_26_method_9_code 305 = .ok (.aload_n 0, 1) := by decide +kernel
theorem d22_306 : decode prog_26_method_9_code 306 = .ok (.getfield 29, 3) := by decide +kernel
theorem d22_309 : decode prog_26_method_9_code 309 = .ok (.iload 9, 2) := by decide +kernel
theorem d22_311 : decode prog_26_method_9_code 311 = .ok (.iaload, 1) := by decide +kernel
theorem d22_312 : decode prog_26_method_9_code 312 = .ok (.goto 5, 3) := by decide +kernel
theorem d22_315 : decode prog_26_method_9_code 315 = .ok (.iload 9, 2) := by decide +kernel
theorem d22_317 : decode prog_26_method_9_code 317 = .ok (.iastore, 1) := by decide +kernel
theorem d22_318 : decode prog_26_method_9_code 318 = .ok (.aload_n 0, 1) := by decide +kernel
theorem d22_319 : decode prog_26_method_9_code 319 = .ok (.getfield 48, 3) := by decide +kernel
theorem d22_322 : decode prog_26_method_9_code 322 = .ok (.iload 5, 2) := by decide +kernel
theorem d22_324 : decode prog_26_method_9_code 324 = .ok (.iinc 5 1, 3) := by decide +kernel
theorem d22_327 : decode prog_26_method_9_code 327 = .ok (.iconst 0, 1) := by decide +kernel
theorem d22_328 : decode prog_26_method_9_code 328 = .ok (.iastore, 1) := by decide +kernel
theorem d22_329 : decode prog_26_method_9_code 329 = .ok (.goto 100, 3) := by decide +kernel
theorem d22_332 : decode prog_26_method_9_code 332 = .ok (.aload_n 0, 1) := by decide +kernel
theorem d22_333 : decode prog_26_method_9_code 333 = .ok (.getfield 51, 3) := by decide +kernel
theorem d22_336 : decode prog_26_method_9_code 336 = .ok (.iinc 6 (-1), 3) := by decide +kernel
theorem d22_339 : decode prog_26_method_9_code 339 = .ok (.iload 6, 2) := by decide +kernel
theorem d22_341 : decode prog_26_method_9_code 341 = .ok (.iaload, 1) := by decide +kernel
theorem d22_342 : decode prog_26_method_9_code 342 = .ok (.istore 11, 2) := by decide +kernel
theorem d22_344 : decode prog_26_method_9_code 344 = .ok (.aload_n 0, 1) := by decide +kernel
theorem d22_345 : decode prog_26_method_9_code 345 = .ok (.getfield 51, 3) := by decide +kernel
theorem d22_348 : decode prog_26_method_9_code 348 = .ok (.iinc 6 (-1), 3) := by decide +kernel
theorem d22_351 : decode prog_26_method_9_code 351 = .ok (.iload 6, 2) := by decide +kernel
theorem d22_353 : decode prog_26_method_9_code 353 = .ok (.iaload, 1) := by decide +kernel
theorem d22_354 : decode prog_26_method_9_code 354 = .ok (.istore 12, 2) := by decide +kernel
theorem d22_356 : decode prog_26_method_9_code 356 = .ok (.aload_n 0, 1) := by decide +kernel
theorem d22_357 : decode prog_26_method_9_code 357 = .ok (.iload 10, 2) := by decide +kernel
theorem d22_359 : decode prog_26_method_9_code 359 = .ok (.iload 12, 2) := by decide +kernel
theorem d22_361 : decode prog_26_method_9_code 361 = .ok (.iload 11, 2) := by decide +kernel
theorem d22_363 : decode prog_26_method_9_code 363 = .ok (.invokevirtual 60, 3) := by decide +kernel
theorem d22_366 : decode prog_26_method_9_code 366 = .ok (.istore 13, 2) := by decide +kernel
theorem d22_368 : decode prog_26_method_9_code 368 = .ok (.aload_n 0, 1) := by decide +kernel
theorem d22_369 : decode prog_26_method_9_code 369 = .ok (.iload_n 1, 1) := by decide +kernel
theorem d22_370 : decode prog_26_method_9_code 370 = .ok (.iload 8, 2) := by decide +kernel
theorem d22_372 : decode prog_26_method_9_code 372 = .ok (.iload 9, 2) := by decide +kernel
theorem d22_374 : decode prog_26_method_9_code 374 = .ok (.invokevirtual 133, 3) := by decide +kernel
theorem d22_377 : decode prog_26_method_9_code 377 = .ok (.istore 14, 2) := by decide +kernel
theorem d22_379 : decode prog_26_method_9_code 379 = .ok (.aload_n 0, 1) := by decide +kernel
theorem d22_380 : decode prog_26_method_9_code 380 = .ok (.getfield 136, 3) := by decide +kernel
theorem d22_383 : decode prog_26_method_9_code 383 = .ok (.iload 14, 2) := by decide +kernel
theorem d22_385 : decode prog_26_method_9_code 385 = .ok (.iload_n 1, 1) := by decide +kernel
theorem d22_386 : decode prog_26_method_9_code 386 = .ok (.iastore, 1) := by decide +kernel
theorem d22_387 : decode prog_26_method_9_code 387 = .ok (.aload_n 0, 1) := by decide +kernel
theorem d22_388 : decode prog_26_method_9_code 388 = .ok (.getfield 139, 3) := by decide +kernel
theorem d22_391 : decode prog_26_method_9_code 391 = .ok (.iload 14, 2) := by decide +kernel
theorem d22_393 : decode prog_26_method_9_code 393 = .ok (.iload 8, 2) := by decide +kernel
theorem d22_395 : decode prog_26_method_9_code 395 = .ok (.iastore, 1) := by decide +kernel
theorem d22_396 : decode prog_26_method_9_code 396 = .ok (.aload_n 0, 1) := by decide +kernel
theorem d22_397 : decode prog_26_method_9_code 397 = .ok (.getfield 142, 3) := by decide +kernel
theorem d22_400 : decode prog_26_method_9_code 400 = .ok (.iload 14, 2) := by decide +kernel
theorem d22_402 : decode prog_26_method_9_code 402 = .ok (.iload 9, 2) := by decide +kernel
theorem d22_404 : decode prog_26_method_9_code 404 = .ok (.iastore, 1) := by decide +kernel
theorem d22_405 : decode prog_26_method_9_code 405 = .ok (.aload_n 0, 1) := by decide +kernel
theorem d22_406 : decode prog_26_method_9_code 406 = .ok (.getfield 145, 3) := by decide +kernel
theorem d22_409 : decode prog_26_method_9_code 409 = .ok (.iload 14, 2) := by decide +kernel
theorem d22_411 : decode prog_26_method_9_code 411 = .ok (.iload 13, 2) := by decide +kernel
theorem d22_413 : decode prog_26_method_9_code 413 = .ok (.iastore, 1) := by decide +kernel
theorem d22_414 : decode prog_26_method_9_code 414 = .ok (.aload_n 0, 1) := by decide +kernel
theorem d22_415 : decode prog_26_method_9_code 415 = .ok (.getfield 51, 3) := by decide +kernel
theorem d22_418 : decode prog_26_method_9_code 418 = .ok (.iload 6, 2) := by decide +kernel
theorem d22_420 : decode prog_26_method_9_code 420 = .ok (.iinc 6 1, 3) := by decide +kernel
theorem d22_423 : decode prog_26_method_9_code 423 = .ok (.iload 13, 2) := by decide +kernel
theorem d22_425 : decode prog_26_method_9_code 425 = .ok (.iastore, 1) := by decide +kernel
theorem d22_426 : decode prog_26_method_9_code 426 = .ok (.iinc 5 (-1), 3) := by decide +kernel
theorem d22_429 : decode prog_26_method_9_code 429 = .ok (.goto (-381), 3) := by decide +kernel
theorem d22_432 : decode prog_26_method_9_code 432 = .ok (.aload_n 0, 1) := by decide +kernel
theorem d22_433 : decode prog_26_method_9_code 433 = .ok (.getfield 51, 3) := by decide +kernel
theorem d22_436 : decode prog_26_method_9_code 436 = .ok (.iconst 0, 1) := by decide +kernel
theorem d22_437 : decode prog_26_method_9_code 437 = .ok (.iaload, 1) := by decide +kernel
theorem d22_438 : decode prog_26_method_9_code 438 = .ok (.ireturn, 1) := by decide +kernel
abbrev oy22 : MethodName := ⟨"com/example/perdure/perdure/check/DecisionDiagrams", "combine", "(III)I"⟩
theorem pn22 : plainFor oy22 = true := by first | exact plainFor_of_name (by first | (simp [plainName, overriddenIn]; done) | decide +kernel) | decide +kernel
theorem pd22 : parseMethodDescriptor oy22.desc = some ⟨[.int, .int, .int], some .int⟩ := by decide +kernel
theorem d23_0 : decode prog_26_method_14_code 0 = .ok (.iload_n 0, 1) := by decide +kernel
theorem d23_1 : decode prog_26_method_14_code 1 = .ok (.ifCond .ge 10, 3) := by decide +kernel
theorem d23_4 : decode prog_26_method_14_code 4 = .ok (.iload_n 0, 1) := by decide +kernel
theorem d23_5 : decode prog_26_method_14_code 5 = .ok (.iload_n 1, 1) := by decide +kernel
theorem d23_6 : decode prog_26_method_14_code 6 = .ok (.iload_n 2, 1) := by decide +kernel
theorem d23_7 : decode prog_26_method_14_code 7 = .ok (.invokestatic 172, 3) := by decide +kernel
theorem d23_10 : decode prog_26_method_14_code 10 = .ok (.ireturn, 1) := by decide +kernel
theorem d23_11 : decode prog_26_method_14_code 11 = .ok (.getstatic 175, 3) := by decide +kernel
theorem d23_14 : decode prog_26_method_14_code 14 = .ok (.iload_n 0, 1) := by decide +kernel
theorem d23_15 : decode prog_26_method_14_code 15 = .ok (.aaload, 1) := by decide +kernel
theorem d23_16 : decode prog_26_method_14_code 16 = .ok (.astore_n 3, 1) := by decide +kernel
theorem d23_17 : decode prog_26_method_14_code 17 = .ok (.ldc 129, 2) := by decide +kernel
theorem d23_19 : decode prog_26_method_14_code 19 = .ok (.istore 4, 2) := by decide +kernel
theorem d23_21 : decode prog_26_method_14_code 21 = .ok (.iload_n 1, 1) := by decide +kernel
theorem d23_22 : decode prog_26_method_14_code 22 = .ok (.iconst 1, 1) := by decide +kernel
theorem d23_23 : decode prog_26_method_14_code 23 = .ok (.if_icmp .gt 45, 3) := by decide +kernel
theorem d23_26 : decode prog_26_method_14_code 26 = .ok (.iload_n 2, 1) := by decide +kernel
theorem d23_27 : decode prog_26_method_14_code 27 = .ok (.iconst 1, 1) := by decide +kernel
theorem d23_28 : decode prog_26_method_14_code 28 = .ok (.if_icmp .gt 40, 3) := by decide +kernel
theorem d23_31 : decode prog_26_method_14_code 31 = .ok (.aload_n 3, 1) := by decide +kernel
theorem d23_32 : decode prog_26_method_14_code 32 = .ok (.iload_n 1, 1) := by decide +kernel
theorem d23_33 : decode prog_26_method_14_code 33 = .ok (.iconst 1, 1) := by decide +kernel
theorem d23_34 : decode prog_26_method_14_code 34 = .ok (.if_icmp .ne 7, 3) := by decide +kernel
theorem d23_37 : decode prog_26_method_14_code 37 = .ok (.iconst 1, 1) := by decide +kernel
theorem d23_38 : decode prog_26_method_14_code 38 = .ok (.goto 4, 3) := by decide +kernel
theorem d23_41 : decode prog_26_method_14_code 41 = .ok (.iconst 0, 1) := by decide +kernel
theorem d23_42 : decode prog_26_method_14_code 42 = .ok (.iload_n 2, 1) := by decide +kernel
theorem d23_43 : decode prog_26_method_14_code 43 = .ok (.iconst 1, 1) := by decide +kernel
theorem d23_44 : decode prog_26_method_14_code 44 = .ok (.if_icmp .ne 7, 3) := by decide +kernel
theorem d23_47 : decode prog_26_method_14_code 47 = .ok (.iconst 1, 1) := by decide +kernel
theorem d23_48 : decode prog_26_method_14_code 48 = .ok (.goto 4, 3) := by decide +kernel
theorem d23_51 : decode prog_26_method_14_code 51 = .ok (.iconst 0, 1) := by decide +kernel
theorem d23_52 : decode prog_26_method_14_code 52 = .ok (.invokevirtual 179, 3) := by decide +kernel
theorem d23_55 : decode prog_26_method_14_code 55 = .ok (.ifCond .eq 7, 3) := by decide +kernel
theorem d23_58 : decode prog_26_method_14_code 58 = .ok (.iconst 1, 1) := by decide +kernel
theorem d23_59 : decode prog_26_method_14_code 59 = .ok (.goto 4, 3) := by decide +kernel
theorem d23_62 : decode prog_26_method_14_code 62 = .ok (.iconst 0, 1) := by decide +kernel
theorem d23_63 : decode prog_26_method_14_code 63 = .ok (.istore 4, 2) := by decide +kernel
theorem d23_65 : decode prog_26_method_14_code 65 = .ok (.goto 114, 3) := by decide +kernel
theorem d23_68 : decode prog_26_method_14_code 68 = .ok (.iload_n 1, 1) := by decide +kernel
theorem d23_69 : decode prog_26_method_14_code 69 = .ok (.iload_n 2, 1) := by decide +kernel
theorem d23_70 : decode prog_26_method_14_code 70 = .ok (.if_icmp .ne 24, 3) := by decide +kernel
theorem d23_73 : decode prog_26_method_14_code 73 = .ok (.aload_n 3, 1) := by decide +kernel
theorem d23_74 : decode prog_26_method_14_code 74 = .ok (.iconst 0, 1) := by decide +kernel
theorem d23_75 : decode prog_26_method_14_code 75 = .ok (.iconst 0, 1) := by decide +kernel
theorem d23_76 : decode prog_26_method_14_code 76 = .ok (.invokevirtual 179, 3) := by decide +kernel
theorem d23_79 : decode prog_26_method_14_code 79 = .ok (.aload_n 3, 1) := by decide +kernel
theorem d23_80 : decode prog_26_method_14_code 80 = .ok (.iconst 1, 1) := by decide +kernel
theorem d23_81 : decode prog_26_method_14_code 81 = .ok (.iconst 1, 1) := by decide +kernel
theorem d23_82 : decode prog_26_method_14_code 82 = .ok (.invokevirtual 179, 3) := by decide +kernel
theorem d23_85 : decode prog_26_method_14_code 85 = .ok (.iload_n 1, 1) := by decide +kernel
theorem d23_86 : decode prog_26_method_14_code 86 = .ok (.invokestatic 182, 3) := by decide +kernel
theorem d23_89 : decode prog_26_method_14_code 89 = .ok (.istore 4, 2) := by decide +kernel
theorem d23_91 : decode prog_26_method_14_code 91 = .ok (.goto 88, 3) := by decide +kernel
theorem d23_94 : decode prog_26_method_14_code 94 = .ok (.iload_n 1, 1) := by decide +kernel
theorem d23_95 : decode prog_26_method_14_code 95 = .ok (.iconst 1, 1) := by decide +kernel
theorem d23_96 : decode prog_26_method_14_code 96 = .ok (.if_icmp .gt 42, 3) := by decide +kernel
theorem d23_99 : decode prog_26_method_14_code 99 = .ok (.aload_n 3, 1) := by decide +kernel
theorem d23_100 : decode prog_26_method_14_code 100 = .ok (.iload_n 1, 1) := by decide +kernel
theorem d23_101 : decode prog_26_method_14_code 101 = .ok (.iconst 1, 1) := by decide +kernel
theorem d23_102 : decode prog_26_method_14_code 102 = .ok (.if_icmp .ne 7, 3) := by decide +kernel
theorem d23_105 : decode prog_26_method_14_code 105 = .ok (.iconst 1, 1) := by decide +kernel
theorem d23_106 : decode prog_26_method_14_code 106 = .ok (.goto 4, 3) := by decide +kernel
theorem d23_109 : decode prog_26_method_14_code 109 = .ok (.iconst 0, 1) := by decide +kernel
theorem d23_110 : decode prog_26_method_14_code 110 = .ok (.iconst 0, 1) := by decide +kernel
theorem d23_111 : decode prog_26_method_14_code 111 = .ok (.invokevirtual 179, 3) := by decide +kernel
theorem d23_114 : decode prog_26_method_14_code 114 = .ok (.aload_n 3, 1) := by decide +kernel
theorem d23_115 : decode prog_26_method_14_code 115 = .ok (.iload_n 1, 1) := by decide +kernel
theorem d23_116 : decode prog_26_method_14_code 116 = .ok (.iconst 1, 1) := by decide +kernel
theorem d23_117 : decode prog_26_method_14_code 117 = .ok (.if_icmp .ne 7, 3) := by decide +kernel
theorem d23_120 : decode prog_26_method_14_code 120 = .ok (.iconst 1, 1) := by decide +kernel
theorem d23_121 : decode prog_26_method_14_code 121 = .ok (.goto 4, 3) := by decide +kernel
theorem d23_124 : decode prog_26_method_14_code 124 = .ok (.iconst 0, 1) := by decide +kernel
theorem d23_125 : decode prog_26_method_14_code 125 = .ok (.iconst 1, 1) := by decide +kernel
theorem d23_126 : decode prog_26_method_14_code 126 = .ok (.invokevirtual 179, 3) := by decide +kernel
theorem d23_129 : decode prog_26_method_14_code 129 = .ok (.iload_n 2, 1) := by decide +kernel
theorem d23_130 : decode prog_26_method_14_code 130 = .ok (.invokestatic 182, 3) := by decide +kernel
theorem d23_133 : decode prog_26_method_14_code 133 = .ok (.istore 4, 2) := by decide +kernel
theorem d23_135 : decode prog_26_method_14_code 135 = .ok (.goto 44, 3) := by decide +kernel
theorem d23_138 : decode prog_26_method_14_code 138 = .ok (.iload_n 2, 1) := by decide +kernel
theorem d23_139 : decode prog_26_method_14_code 139 = .ok (.iconst 1, 1) := by decide +kernel
theorem d23_140 : decode prog_26_method_14_code 140 = .ok (.if_icmp .gt 39, 3) := by decide +kernel
theorem d23_143 : decode prog_26_method_14_code 143 = .ok (.aload_n 3, 1) := by decide +kernel
theorem d23_144 : decode prog_26_method_14_code 144 = .ok (.iconst 0, 1) := by decide +kernel
theorem d23_145 : decode prog_26_method_14_code 145 = .ok (.iload_n 2, 1) := by decide +kernel
theorem d23_146 : decode prog_26_method_14_code 146 = .ok (.iconst 1, 1) := by decide +kernel
theorem d23_147 : decode prog_26_method_14_code 147 = .ok (.if_icmp .ne 7, 3) := by decide +kernel
theorem d23_150 : decode prog_26_method_14_code 150 = .ok (.iconst 1, 1) := by decide +kernel
theorem d23_151 : decode prog_26_method_14_code 151 = .ok (.goto 4, 3) := by decide +kernel
theorem d23_154 : decode prog_26_method_14_code 154 = .ok (.iconst 0, 1) := by decide +kernel
theorem d23_155 : decode prog_26_method_14_code 155 = .ok (.invokevirtual 179, 3) := by decide +kernel
theorem d23_158 : decode prog_26_method_14_code 158 = .ok (.aload_n 3, 1) := by decide +kernel
theorem d23_159 : decode prog_26_method_14_code 159 = .ok (.iconst 1, 1) := by decide +kernel
theorem d23_160 : decode prog_26_method_14_code 160 = .ok (.iload_n 2, 1) := by decide +kernel
theorem d23_161 : decode prog_26_method_14_code 161 = .ok (.iconst 1, 1) := by decide +kernel
theorem d23_162 : decode prog_26_method_14_code 162 = .ok (.if_icmp .ne 7, 3) := by decide +kernel
theorem d23_165 : decode prog_26_method_14_code 165 = .ok (.iconst 1, 1) := by decide +kernel
theorem d23_166 : decode prog_26_method_14_code 166 = .ok (.goto 4, 3) := by decide +kernel
theorem d23_169 : decode prog_26_method_14_code 169 = .ok (.iconst 0, 1) := by decide +kernel
theorem d23_170 : decode prog_26_method_14_code 170 = .ok (.invokevirtual 179, 3) := by decide +kernel
theorem d23_173 : decode prog_26_method_14_code 173 = .ok (.iload_n 1, 1) := by decide +kernel
theorem d23_174 : decode prog_26_method_14_code 174 = .ok (.invokestatic 182, 3) := by decide +kernel
theorem d23_177 : decode prog_26_method_14_code 177 = .ok (.istore 4, 2) := by decide +kernel
theorem d23_179 : decode prog_26_method_14_code 179 = .ok (.iload 4, 2) := by decide +kernel
theorem d23_181 : decode prog_26_method_14_code 181 = .ok (.ireturn, 1) := by decide +kernel
abbrev oy23 : MethodName := ⟨"com/example/perdure/perdure/check/DecisionDiagrams", "shortcut", "(III)I"⟩
theorem pn23 : plainFor oy23 = true := by first | exact plainFor_of_name (by first | (simp [plainName, overriddenIn]; done) | decide +kernel) | decide +kernel
theorem pd23 : parseMethodDescriptor oy23.desc = some ⟨[.int, .int, .int], some .int⟩ := by decide +kernel
theorem d24_0 : decode prog_108_method_5_code 0 = .ok (.aload_n 0, 1) := by decide +kernel
theorem d24_1 : decode prog_108_method_5_code 1 = .ok (.iload_n 1, 1) := by decide +kernel
theorem d24_2 : decode prog_108_method_5_code 2 = .ok (.ifCond .eq 7, 3) := by decide +kernel
theorem d24_5 : decode prog_108_method_5_code 5 = .ok (.lconst 1, 1) := by decide +kernel
theorem d24_6 : decode prog_108_method_5_code 6 = .ok (.goto 4, 3) := by decide +kernel
theorem d24_9 : decode prog_108_method_5_code 9 = .ok (.lconst 0, 1) := by decide +kernel
theorem d24_10 : decode prog_108_method_5_code 10 = .ok (.iload_n 2, 1) := by decide +kernel
theorem d24_11 : decode prog_108_method_5_code 11 = .ok (.ifCond .eq 7, 3) := by decide +kernel
theorem d24_14 : decode prog_108_method_5_code 14 = .ok (.lconst 1, 1) := by decide +kernel
theorem d24_15 : decode prog_108_method_5_code 15 = .ok (.goto 4, 3) := by decide +kernel
theorem d24_18 : decode prog_108_method_5_code 18 = .ok (.lconst 0, 1) := by decide +kernel
theorem d24_19 : decode prog_108_method_5_code 19 = .ok (.invokevirtual 50, 3) := by decide +kernel
theorem d24_22 : decode prog_108_method_5_code 22 = .ok (.lconst 1, 1) := by decide +kernel
theorem d24_23 : decode prog_108_method_5_code 23 = .ok (.land, 1) := by decide +kernel
theorem d24_24 : decode prog_108_method_5_code 24 = .ok (.lconst 0, 1) := by decide +kernel
theorem d24_25 : decode prog_108_method_5_code 25 = .ok (.lcmp, 1) := by decide +kernel
theorem d24_26 : decode prog_108_method_5_code 26 = .ok (.ifCond .eq 7, 3) := by decide +kernel
theorem d24_29 : decode prog_108_method_5_code 29 = .ok (.iconst 1, 1) := by decide +kernel
theorem d24_30 : decode prog_108_method_5_code 30 = .ok (.goto 4, 3) := by decide +kernel
theorem d24_33 : decode prog_108_method_5_code 33 = .ok (.iconst 0, 1) := by decide +kernel
theorem d24_34 : decode prog_108_method_5_code 34 = .ok (.ireturn, 1) := by decide +kernel
abbrev oy24 : MethodName := ⟨"com/example/perdure/perdure/model/Connective", "apply", "(ZZ)Z"⟩
theorem pn24 : plainFor oy24 = true := by first | exact plainFor_of_name (by first | (simp [plainName, overriddenIn]; done) | decide +kernel) | decide +kernel
theorem pd24 : parseMethodDescriptor oy24.desc = some ⟨[.boolean, .boolean], some .boolean⟩ := by decide +kernel
theorem d25_0 : decode prog_108_method_4_code 0 = .ok (.aload_n 0, 1) := by decide +kernel
theorem d25_1 : decode prog_108_method_4_code 1 = .ok (.invokevirtual 39, 3) := by decide +kernel
theorem d25_4 : decode prog_108_method_4_code 4 = .ok (.tableswitch 32 0 3 #[42, 48, 54, 64], 32) := by decide +kernel
theorem d25_36 : decode prog_108_method_4_code 36 = .ok (.new 43, 3) := by decide +kernel
theorem d25_39 : decode prog_108_method_4_code 39 = .ok (.dup, 1) := by decide +kernel
theorem d25_40 : decode prog_108_method_4_code 40 = .ok (.aconst_null, 1) := by decide +kernel
theorem d25_41 : decode prog_108_method_4_code 41 = .ok (.aconst_null, 1) := by decide +kernel
theorem d25_42 : decode prog_108_method_4_code 42 = .ok (.invokespecial 45, 3) := by decide +kernel
theorem d25_45 : decode prog_108_method_4_code 45 = .ok (.athrow, 1) := by decide +kernel
theorem d25_46 : decode prog_108_method_4_code 46 = .ok (.lload_n 1, 1) := by decide +kernel
theorem d25_47 : decode prog_108_method_4_code 47 = .ok (.lload_n 3, 1) := by decide +kernel
theorem d25_48 : decode prog_108_method_4_code 48 = .ok (.land, 1) := by decide +kernel
theorem d25_49 : decode prog_108_method_4_code 49 = .ok (.goto 26, 3) := by decide +kernel
theorem d25_52 : decode prog_108_method_4_code 52 = .ok (.lload_n 1, 1) := by decide +kernel
theorem d25_53 : decode prog_108_method_4_code 53 = .ok (.lload_n 3, 1) := by decide +kernel
theorem d25_54 : decode prog_108_method_4_code 54 = .ok (.lor, 1) := by decide +kernel
theorem d25_55 : decode prog_108_method_4_code 55 = .ok (.goto 20, 3) := by decide +kernel
theorem d25_58 : decode prog_108_method_4_code 58 = .ok (.lload_n 1, 1) := by decide +kernel
theorem d25_59 : decode prog_108_method_4_code 59 = .ok (.ldc2_w 48, 3) := by decide +kernel
theorem d25_62 : decode prog_108_method_4_code 62 = .ok (.lxor, 1) := by decide +kernel
theorem d25_63 : decode prog_108_method_4_code 63 = .ok (.lload_n 3, 1) := by decide +kernel
theorem d25_64 : decode prog_108_method_4_code 64 = .ok (.lor, 1) := by decide +kernel
theorem d25_65 : decode prog_108_method_4_code 65 = .ok (.goto 10, 3) := by decide +kernel
theorem d25_68 : decode prog_108_method_4_code 68 = .ok (.lload_n 1, 1) := by decide +kernel
theorem d25_69 : decode prog_108_method_4_code 69 = .ok (.lload_n 3, 1) := by decide +kernel
theorem d25_70 : decode prog_108_method_4_code 70 = .ok (.lxor, 1) := by decide +kernel
theorem d25_71 : decode prog_108_method_4_code 71 = .ok (.ldc2_w 48, 3) := by decide +kernel
theorem d25_74 : decode prog_108_method_4_code 74 = .ok (.lxor, 1) := by decide +kernel
theorem d25_75 : decode prog_108_method_4_code 75 = .ok (.lreturn, 1) := by decide +kernel
abbrev oy25 : MethodName := ⟨"com/example/perdure/perdure/model/Connective", "applyToBits", "(JJ)J"⟩
theorem pn25 : plainFor oy25 = true := by first | exact plainFor_of_name (by first | (simp [plainName, overriddenIn]; done) | decide +kernel) | decide +kernel
theorem pd25 : parseMethodDescriptor oy25.desc = some ⟨[.long, .long], some .long⟩ := by decide +kernel
theorem d26_0 : decode method_5_code 0 = .ok (.iload_n 0, 1) := by decide +kernel
theorem d26_1 : decode method_5_code 1 = .ok (.ifCond .ne 7, 3) := by decide +kernel
theorem d26_4 : decode method_5_code 4 = .ok (.iload_n 1, 1) := by decide +kernel
theorem d26_5 : decode method_5_code 5 = .ok (.iload_n 2, 1) := by decide +kernel
theorem d26_6 : decode method_5_code 6 = .ok (.iand, 1) := by decide +kernel
theorem d26_7 : decode method_5_code 7 = .ok (.ireturn, 1) := by decide +kernel
theorem d26_8 : decode method_5_code 8 = .ok (.iload_n 0, 1) := by decide +kernel
theorem d26_9 : decode method_5_code 9 = .ok (.iconst 1, 1) := by decide +kernel
theorem d26_10 : decode method_5_code 10 = .ok (.if_icmp .ne 7, 3) := by decide +kernel
theorem d26_13 : decode method_5_code 13 = .ok (.iload_n 1, 1) := by decide +kernel
theorem d26_14 : decode method_5_code 14 = .ok (.iload_n 2, 1) := by decide +kernel
theorem d26_15 : decode method_5_code 15 = .ok (.ior, 1) := by decide +kernel
theorem d26_16 : decode method_5_code 16 = .ok (.ireturn, 1) := by decide +kernel
theorem d26_17 : decode method_5_code 17 = .ok (.iload_n 0, 1) := by decide +kernel
theorem d26_18 : decode method_5_code 18 = .ok (.iconst 2, 1) := by decide +kernel
theorem d26_19 : decode method_5_code 19 = .ok (.if_icmp .ne 13, 3) := by decide +kernel
theorem d26_22 : decode method_5_code 22 = .ok (.iload_n 1, 1) := by decide +kernel
theorem d26_23 : decode method_5_code 23 = .ok (.iconst (-1), 1) := by decide +kernel
theorem d26_24 : decode method_5_code 24 = .ok (.ixor, 1) := by decide +kernel
theorem d26_25 : decode method_5_code 25 = .ok (.iload_n 2, 1) := by decide +kernel
theorem d26_26 : decode method_5_code 26 = .ok (.ior, 1) := by decide +kernel
theorem d26_27 : decode method_5_code 27 = .ok (.sipush 255, 3) := by decide +kernel
theorem d26_30 : decode method_5_code 30 = .ok (.iand, 1) := by decide +kernel
theorem d26_31 : decode method_5_code 31 = .ok (.ireturn, 1) := by decide +kernel
theorem d26_32 : decode method_5_code 32 = .ok (.iload_n 1, 1) := by decide +kernel
theorem d26_33 : decode method_5_code 33 = .ok (.iload_n 2, 1) := by decide +kernel
theorem d26_34 : decode method_5_code 34 = .ok (.ixor, 1) := by decide +kernel
theorem d26_35 : decode method_5_code 35 = .ok (.iconst (-1), 1) := by decide +kernel
theorem d26_36 : decode method_5_code 36 = .ok (.ixor, 1) := by decide +kernel
theorem d26_37 : decode method_5_code 37 = .ok (.sipush 255, 3) := by decide +kernel
theorem d26_40 : decode method_5_code 40 = .ok (.iand, 1) := by decide +kernel
theorem d26_41 : decode method_5_code 41 = .ok (.ireturn, 1) := by decide +kernel
abbrev oy26 : MethodName := ⟨"com/example/perdure/perdure/check/DecisionDiagramsLeastPinLaw", "table", "(III)I"⟩
theorem pn26 : plainFor oy26 = true := by first | exact plainFor_of_name (by first | (simp [plainName, overriddenIn]; done) | decide +kernel) | decide +kernel
theorem pd26 : parseMethodDescriptor oy26.desc = some ⟨[.int, .int, .int], some .int⟩ := by decide +kernel
theorem d27_0 : decode prog_26_method_15_code 0 = .ok (.ldc 129, 2) := by decide +kernel
theorem d27_2 : decode prog_26_method_15_code 2 = .ok (.istore_n 3, 1) := by decide +kernel
theorem d27_3 : decode prog_26_method_15_code 3 = .ok (.iload_n 0, 1) := by decide +kernel
theorem d27_4 : decode prog_26_method_15_code 4 = .ok (.iload_n 1, 1) := by decide +kernel
theorem d27_5 : decode prog_26_method_15_code 5 = .ok (.if_icmp .ne 16, 3) := by decide +kernel
theorem d27_8 : decode prog_26_method_15_code 8 = .ok (.iload_n 1, 1) := by decide +kernel
theorem d27_9 : decode prog_26_method_15_code 9 = .ok (.ifCond .eq 7, 3) := by decide +kernel
theorem d27_12 : decode prog_26_method_15_code 12 = .ok (.iconst 1, 1) := by decide +kernel
theorem d27_13 : decode prog_26_method_15_code 13 = .ok (.goto 4, 3) := by decide +kernel
theorem d27_16 : decode prog_26_method_15_code 16 = .ok (.iconst 0, 1) := by decide +kernel
theorem d27_17 : decode prog_26_method_15_code 17 = .ok (.istore_n 3, 1) := by decide +kernel
theorem d27_18 : decode prog_26_method_15_code 18 = .ok (.goto 9, 3) := by decide +kernel
theorem d27_21 : decode prog_26_method_15_code 21 = .ok (.iload_n 1, 1) := by decide +kernel
theorem d27_22 : decode prog_26_method_15_code 22 = .ok (.ifCond .eq 5, 3) := by decide +kernel
theorem d27_25 : decode prog_26_method_15_code 25 = .ok (.iload_n 2, 1) := by decide +kernel
theorem d27_26 : decode prog_26_method_15_code 26 = .ok (.istore_n 3, 1) := by decide +kernel
theorem d27_27 : decode prog_26_method_15_code 27 = .ok (.iload_n 3, 1) := by decide +kernel
theorem d27_28 : decode prog_26_method_15_code 28 = .ok (.ireturn, 1) := by decide +kernel
abbrev oy27 : MethodName := ⟨"com/example/perdure/perdure/check/DecisionDiagrams", "follows", "(ZZI)I"⟩
theorem pn27 : plainFor oy27 = true := by first | exact plainFor_of_name (by first | (simp [plainName, overriddenIn]; done) | decide +kernel) | decide +kernel
theorem pd27 : parseMethodDescriptor oy27.desc = some ⟨[.boolean, .boolean, .int], some .int⟩ := by decide +kernel
theorem d28_0 : decode prog_26_method_21_code 0 = .ok (.iload_n 1, 1) := by decide +kernel
theorem d28_1 : decode prog_26_method_21_code 1 = .ok (.ifCond .ge 7, 3) := by decide +kernel
theorem d28_4 : decode prog_26_method_21_code 4 = .ok (.iconst (-1), 1) := by decide +kernel
theorem d28_5 : decode prog_26_method_21_code 5 = .ok (.goto 9, 3) := by decide +kernel
theorem d28_8 : decode prog_26_method_21_code 8 = .ok (.aload_n 0, 1) := by decide +kernel
theorem d28_9 : decode prog_26_method_21_code 9 = .ok (.getfield 22, 3) := by decide +kernel
theorem d28_12 : decode prog_26_method_21_code 12 = .ok (.iload_n 1, 1) := by decide +kernel
theorem d28_13 : decode prog_26_method_21_code 13 = .ok (.iaload, 1) := by decide +kernel
theorem d28_14 : decode prog_26_method_21_code 14 = .ok (.ireturn, 1) := by decide +kernel
abbrev oy28 : MethodName := ⟨"com/example/perdure/perdure/check/DecisionDiagrams", "level", "(I)I"⟩
theorem pn28 : plainFor oy28 = true := by first | exact plainFor_of_name (by first | (simp [plainName, overriddenIn]; done) | decide +kernel) | decide +kernel
theorem pd28 : parseMethodDescriptor oy28.desc = some ⟨[.int], some .int⟩ := by decide +kernel
theorem d29_0 : decode jdk_29_method_65_code 0 = .ok (.iload_n 0, 1) := by decide +kernel
theorem d29_1 : decode jdk_29_method_65_code 1 = .ok (.iload_n 1, 1) := by decide +kernel
theorem d29_2 : decode jdk_29_method_65_code 2 = .ok (.if_icmp .lt 7, 3) := by decide +kernel
theorem d29_5 : decode jdk_29_method_65_code 5 = .ok (.iload_n 0, 1) := by decide +kernel
theorem d29_6 : decode jdk_29_method_65_code 6 = .ok (.goto 4, 3) := by decide +kernel
theorem d29_9 : decode jdk_29_method_65_code 9 = .ok (.iload_n 1, 1) := by decide +kernel
theorem d29_10 : decode jdk_29_method_65_code 10 = .ok (.ireturn, 1) := by decide +kernel
abbrev oy29 : MethodName := ⟨"java/lang/Math", "max", "(II)I"⟩
theorem pn29 : plainFor oy29 = true := by first | exact plainFor_of_name (by first | (simp [plainName, overriddenIn]; done) | decide +kernel) | decide +kernel
theorem pd29 : parseMethodDescriptor oy29.desc = some ⟨[.int, .int], some .int⟩ := by decide +kernel
theorem d30_0 : decode prog_26_method_17_code 0 = .ok (.aload_n 0, 1) := by decide +kernel
theorem d30_1 : decode prog_26_method_17_code 1 = .ok (.iload_n 1, 1) := by decide +kernel
theorem d30_2 : decode prog_26_method_17_code 2 = .ok (.iload_n 2, 1) := by decide +kernel
theorem d30_3 : decode prog_26_method_17_code 3 = .ok (.iload_n 3, 1) := by decide +kernel
theorem d30_4 : decode prog_26_method_17_code 4 = .ok (.invokevirtual 133, 3) := by decide +kernel
theorem d30_7 : decode prog_26_method_17_code 7 = .ok (.istore 4, 2) := by decide +kernel
theorem d30_9 : decode prog_26_method_17_code 9 = .ok (.aload_n 0, 1) := by decide +kernel
theorem d30_10 : decode prog_26_method_17_code 10 = .ok (.getfield 136, 3) := by decide +kernel
theorem d30_13 : decode prog_26_method_17_code 13 = .ok (.iload 4, 2) := by decide +kernel
theorem d30_15 : decode prog_26_method_17_code 15 = .ok (.iaload, 1) := by decide +kernel
theorem d30_16 : decode prog_26_method_17_code 16 = .ok (.iload_n 1, 1) := by decide +kernel
theorem d30_17 : decode prog_26_method_17_code 17 = .ok (.if_icmp .ne 29, 3) := by decide +kernel
theorem d30_20 : decode prog_26_method_17_code 20 = .ok (.aload_n 0, 1) := by decide +kernel
theorem d30_21 : decode prog_26_method_17_code 21 = .ok (.getfield 139, 3) := by decide +kernel
theorem d30_24 : decode prog_26_method_17_code 24 = .ok (.iload 4, 2) := by decide +kernel
theorem d30_26 : decode prog_26_method_17_code 26 = .ok (.iaload, 1) := by decide +kernel
theorem d30_27 : decode prog_26_method_17_code 27 = .ok (.iload_n 2, 1) := by decide +kernel
theorem d30_28 : decode prog_26_method_17_code 28 = .ok (.if_icmp .ne 18, 3) := by decide +kernel
theorem d30_31 : decode prog_26_method_17_code 31 = .ok (.aload_n 0, 1) := by decide +kernel
theorem d30_32 : decode prog_26_method_17_code 32 = .ok (.getfield 142, 3) := by decide +kernel
theorem d30_35 : decode prog_26_method_17_code 35 = .ok (.iload 4, 2) := by decide +kernel
theorem d30_37 : decode prog_26_method_17_code 37 = .ok (.iaload, 1) := by decide +kernel
theorem d30_38 : decode prog_26_method_17_code 38 = .ok (.iload_n 3, 1) := by decide +kernel
theorem d30_39 : decode prog_26_method_17_code 39 = .ok (.if_icmp .ne 7, 3) := by decide +kernel
theorem d30_42 : decode prog_26_method_17_code 42 = .ok (.iconst 1, 1) := by decide +kernel
theorem d30_43 : decode prog_26_method_17_code 43 = .ok (.goto 4, 3) := by decide +kernel
theorem d30_46 : decode prog_26_method_17_code 46 = .ok (.iconst 0, 1) := by decide +kernel
theorem d30_47 : decode prog_26_method_17_code 47 = .ok (.istore 5, 2) := by decide +kernel
theorem d30_49 : decode prog_26_method_17_code 49 = .ok (.iload 5, 2) := by decide +kernel
theorem d30_51 : decode prog_26_method_17_code 51 = .ok (.ifCond .eq 13, 3) := by decide +kernel
theorem d30_54 : decode prog_26_method_17_code 54 = .ok (.aload_n 0, 1) := by decide +kernel
theorem d30_55 : decode prog_26_method_17_code 55 = .ok (.getfield 145, 3) := by decide +kernel
theorem d30_58 : decode prog_26_method_17_code 58 = .ok (.iload 4, 2) := by decide +kernel
theorem d30_60 : decode prog_26_method_17_code 60 = .ok (.iaload, 1) := by decide +kernel
theorem d30_61 : decode prog_26_method_17_code 61 = .ok (.goto 5, 3) := by decide +kernel
theorem d30_64 : decode prog_26_method_17_code 64 = .ok (.ldc 129, 2) := by decide +kernel
theorem d30_66 : decode prog_26_method_17_code 66 = .ok (.ireturn, 1) := by decide +kernel
abbrev oy30 : MethodName := ⟨"com/example/perdure/perdure/check/DecisionDiagrams", "cached", "(III)I"⟩
theorem pn30 : plainFor oy30 = true := by first | exact plainFor_of_name (by first | (simp [plainName, overriddenIn]; done) | decide +kernel) | decide +kernel
theorem pd30 : parseMethodDescriptor oy30.desc = some ⟨[.int, .int, .int], some .int⟩ := by decide +kernel
theorem d31_0 : decode prog_26_method_18_code 0 = .ok (.iload_n 1, 1) := by decide +kernel
theorem d31_1 : decode prog_26_method_18_code 1 = .ok (.iload_n 2, 1) := by decide +kernel
theorem d31_2 : decode prog_26_method_18_code 2 = .ok (.invokestatic 95, 3) := by decide +kernel
theorem d31_5 : decode prog_26_method_18_code 5 = .ok (.iload_n 3, 1) := by decide +kernel
theorem d31_6 : decode prog_26_method_18_code 6 = .ok (.invokestatic 95, 3) := by decide +kernel
theorem d31_9 : decode prog_26_method_18_code 9 = .ok (.aload_n 0, 1) := by decide +kernel
theorem d31_10 : decode prog_26_method_18_code 10 = .ok (.getfield 145, 3) := by decide +kernel
theorem d31_13 : decode prog_26_method_18_code 13 = .ok (.arraylength, 1) := by decide +kernel
theorem d31_14 : decode prog_26_method_18_code 14 = .ok (.invokestatic 105, 3) := by decide +kernel
theorem d31_17 : decode prog_26_method_18_code 17 = .ok (.ireturn, 1) := by decide +kernel
abbrev oy31 : MethodName := ⟨"com/example/perdure/perdure/check/DecisionDiagrams", "cacheSlot", "(III)I"⟩
theorem pn31 : plainFor oy31 = true := by first | exact plainFor_of_name (by first | (simp [plainName, overriddenIn]; done) | decide +kernel) | decide +kernel
theorem pd31 : parseMethodDescriptor oy31.desc = some ⟨[.int, .int, .int], some .int⟩ := by decide +kernel
theorem d32_0 : decode prog_26_method_10_code 0 = .ok (.aload_n 0, 1) := by decide +kernel
theorem d32_1 : decode prog_26_method_10_code 1 = .ok (.getfield 18, 3) := by decide +kernel
theorem d32_4 : decode prog_26_method_10_code 4 = .ok (.newarray .boolean, 2) := by decide +kernel
theorem d32_6 : decode prog_26_method_10_code 6 = .ok (.astore_n 2, 1) := by decide +kernel
theorem d32_7 : decode prog_26_method_10_code 7 = .ok (.iload_n 1, 1) := by decide +kernel
theorem d32_8 : decode prog_26_method_10_code 8 = .ok (.istore_n 3, 1) := by decide +kernel
theorem d32_9 : decode prog_26_method_10_code 9 = .ok (.iload_n 3, 1) := by decide +kernel
theorem d32_10 : decode prog_26_method_10_code 10 = .ok (.iconst 1, 1) := by decide +kernel
theorem d32_11 : decode prog_26_method_10_code 11 = .ok (.if_icmp .eq 41, 3) := by decide +kernel
theorem d32_14 : decode prog_26_method_10_code 14 = .ok (.aload_n 0, 1) := by decide +kernel
theorem d32_15 : decode prog_26_method_10_code 15 = .ok (.getfield 26, 3) := by decide +kernel
theorem d32_18 : decode prog_26_method_10_code 18 = .ok (.iload_n 3, 1) := by decide +kernel
theorem d32_19 : decode prog_26_method_10_code 19 = .ok (.iaload, 1) := by decide +kernel
theorem d32_20 : decode prog_26_method_10_code 20 = .ok (.ifCond .ne 22, 3) := by decide +kernel
theorem d32_23 : decode prog_26_method_10_code 23 = .ok (.aload_n 2, 1) := by decide +kernel
theorem d32_24 : decode prog_26_method_10_code 24 = .ok (.aload_n 0, 1) := by decide +kernel
theorem d32_25 : decode prog_26_method_10_code 25 = .ok (.getfield 22, 3) := by decide +kernel
theorem d32_28 : decode prog_26_method_10_code 28 = .ok (.iload_n 3, 1) := by decide +kernel
theorem d32_29 : decode prog_26_method_10_code 29 = .ok (.iaload, 1) := by decide +kernel
theorem d32_30 : decode prog_26_method_10_code 30 = .ok (.iconst 1, 1) := by decide +kernel
theorem d32_31 : decode prog_26_method_10_code 31 = .ok (.bastore, 1) := by decide +kernel
theorem d32_32 : decode prog_26_method_10_code 32 = .ok (.aload_n 0, 1) := by decide +kernel
theorem d32_33 : decode prog_26_method_10_code 33 = .ok (.getfield 29, 3) := by decide +kernel
theorem d32_36 : decode prog_26_method_10_code 36 = .ok (.iload_n 3, 1) := by decide +kernel
theorem d32_37 : decode prog_26_method_10_code 37 = .ok (.iaload, 1) := by decide +kernel
theorem d32_38 : decode prog_26_method_10_code 38 = .ok (.istore_n 3, 1) := by decide +kernel
theorem d32_39 : decode prog_26_method_10_code 39 = .ok (.goto (-30), 3) := by decide +kernel
theorem d32_42 : decode prog_26_method_10_code 42 = .ok (.aload_n 0, 1) := by decide +kernel
theorem d32_43 : decode prog_26_method_10_code 43 = .ok (.getfield 26, 3) := by decide +kernel
theorem d32_46 : decode prog_26_method_10_code 46 = .ok (.iload_n 3, 1) := by decide +kernel
theorem d32_47 : decode prog_26_method_10_code 47 = .ok (.iaload, 1) := by decide +kernel
theorem d32_48 : decode prog_26_method_10_code 48 = .ok (.istore_n 3, 1) := by decide +kernel
theorem d32_49 : decode prog_26_method_10_code 49 = .ok (.goto (-40), 3) := by decide +kernel
theorem d32_52 : decode prog_26_method_10_code 52 = .ok (.aload_n 2, 1) := by decide +kernel
theorem d32_53 : decode prog_26_method_10_code 53 = .ok (.areturn, 1) := by decide +kernel
abbrev oy32 : MethodName := ⟨"com/example/perdure/perdure/check/DecisionDiagrams", "least", "(I)[Z"⟩
theorem pn32 : plainFor oy32 = true := by first | exact plainFor_of_name (by first | (simp [plainName, overriddenIn]; done) | decide +kernel) | decide +kernel
theorem pd32 : parseMethodDescriptor oy32.desc = some ⟨[.int], some (.array .boolean)⟩ := by decide +kernel
theorem d33_0 : decode method_6_code 0 = .ok (.iload_n 0, 1) := by decide +kernel
theorem d33_1 : decode method_6_code 1 = .ok (.iconst 1, 1) := by decide +kernel
theorem d33_2 : decode method_6_code 2 = .ok (.iand, 1) := by decide +kernel
theorem d33_3 : decode method_6_code 3 = .ok (.ifCond .eq 5, 3) := by decide +kernel
theorem d33_6 : decode method_6_code 6 = .ok (.iconst 0, 1) := by decide +kernel
theorem d33_7 : decode method_6_code 7 = .ok (.ireturn, 1) := by decide +kernel
theorem d33_8 : decode method_6_code 8 = .ok (.iload_n 0, 1) := by decide +kernel
theorem d33_9 : decode method_6_code 9 = .ok (.iconst 2, 1) := by decide +kernel
theorem d33_10 : decode method_6_code 10 = .ok (.iand, 1) := by decide +kernel
theorem d33_11 : decode method_6_code 11 = .ok (.ifCond .eq 5, 3) := by decide +kernel
theorem d33_14 : decode method_6_code 14 = .ok (.iconst 1, 1) := by decide +kernel
theorem d33_15 : decode method_6_code 15 = .ok (.ireturn, 1) := by decide +kernel
theorem d33_16 : decode method_6_code 16 = .ok (.iload_n 0, 1) := by decide +kernel
theorem d33_17 : decode method_6_code 17 = .ok (.iconst 4, 1) := by decide +kernel
theorem d33_18 : decode method_6_code 18 = .ok (.iand, 1) := by decide +kernel
theorem d33_19 : decode method_6_code 19 = .ok (.ifCond .eq 5, 3) := by decide +kernel
theorem d33_22 : decode method_6_code 22 = .ok (.iconst 2, 1) := by decide +kernel
theorem d33_23 : decode method_6_code 23 = .ok (.ireturn, 1) := by decide +kernel
theorem d33_24 : decode method_6_code 24 = .ok (.iload_n 0, 1) := by decide +kernel
theorem d33_25 : decode method_6_code 25 = .ok (.bipush 8, 2) := by decide +kernel
theorem d33_27 : decode method_6_code 27 = .ok (.iand, 1) := by decide +kernel
theorem d33_28 : decode method_6_code 28 = .ok (.ifCond .eq 5, 3) := by decide +kernel
theorem d33_31 : decode method_6_code 31 = .ok (.iconst 3, 1) := by decide +kernel
theorem d33_32 : decode method_6_code 32 = .ok (.ireturn, 1) := by decide +kernel
theorem d33_33 : decode method_6_code 33 = .ok (.iload_n 0, 1) := by decide +kernel
theorem d33_34 : decode method_6_code 34 = .ok (.bipush 16, 2) := by decide +kernel
theorem d33_36 : decode method_6_code 36 = .ok (.iand, 1) := by decide +kernel
theorem d33_37 : decode method_6_code 37 = .ok (.ifCond .eq 5, 3) := by decide +kernel
theorem d33_40 : decode method_6_code 40 = .ok (.iconst 4, 1) := by decide +kernel
theorem d33_41 : decode method_6_code 41 = .ok (.ireturn, 1) := by decide +kernel
theorem d33_42 : decode method_6_code 42 = .ok (.iload_n 0, 1) := by decide +kernel
theorem d33_43 : decode method_6_code 43 = .ok (.bipush 32, 2) := by decide +kernel
theorem d33_45 : decode method_6_code 45 = .ok (.iand, 1) := by decide +kernel
theorem d33_46 : decode method_6_code 46 = .ok (.ifCond .eq 5, 3) := by decide +kernel
theorem d33_49 : decode method_6_code 49 = .ok (.iconst 5, 1) := by decide +kernel
theorem d33_50 : decode method_6_code 50 = .ok (.ireturn, 1) := by decide +kernel
theorem d33_51 : decode method_6_code 51 = .ok (.iload_n 0, 1) := by decide +kernel
theorem d33_52 : decode method_6_code 52 = .ok (.bipush 64, 2) := by decide +kernel
theorem d33_54 : decode method_6_code 54 = .ok (.iand, 1) := by decide +kernel
theorem d33_55 : decode method_6_code 55 = .ok (.ifCond .eq 6, 3) := by decide +kernel
theorem d33_58 : decode method_6_code 58 = .ok (.bipush 6, 2) := by decide +kernel
theorem d33_60 : decode method_6_code 60 = .ok (.ireturn, 1) := by decide +kernel
theorem d33_61 : decode method_6_code 61 = .ok (.bipush 7, 2) := by decide +kernel
theorem d33_63 : decode method_6_code 63 = .ok (.ireturn, 1) := by decide +kernel
abbrev oy33 : MethodName := ⟨"com/example/perdure/perdure/check/DecisionDiagramsLeastPinLaw", "lowest", "(I)I"⟩
theorem pn33 : plainFor oy33 = true := by first | exact plainFor_of_name (by first | (simp [plainName, overriddenIn]; done) | decide +kernel) | decide +kernel
theorem pd33 : parseMethodDescriptor oy33.desc = some ⟨[.int], some .int⟩ := by decide +kernel
-- CUT
section Pats
variable {κ : o_K} {l : Launch} {Z : State} {n0 : Nat} {R : Room} {y : MethodName} {bytes : ByteArray} {ml : Nat} {ret : Option FieldType} {Q : Option Value → Heap → Nat → Nat → Prop} {h : Heap} {k n pc : Nat} {St : List Value}
theorem o_astoreN_3_2 {Ef : List Addr × Nat} {fin : Bool} (B : o_BE κ l Z n0 R y bytes ml ret Ef fin) {s0 s1 s2 : Slot} {v : Value} (hd : decode bytes pc = .ok (.astore_n 2, 1)) (hv : v.isRef = true) (ho : o_ok1 s2 = true) (K : o_Go κ Q h k n (pc + 1) [s0, s1, .val v] St) : o_Go κ Q h k n pc [s0, s1, s2] (v :: St) := o_astoreN B hd hv rfl ho K
theorem o_astoreN_4_2 {Ef : List Addr × Nat} {fin : Bool} (B : o_BE κ l Z n0 R y bytes ml ret Ef fin) {s0 s1 s2 s3 : Slot} {v : Value} (hd : decode bytes pc = .ok (.astore_n 2, 1)) (hv : v.isRef = true) (ho : o_ok1 s2 = true) (K : o_Go κ Q h k n (pc + 1) [s0, s1, .val v, s3] St) : o_Go κ Q h k n pc [s0, s1, s2, s3] (v :: St) := o_astoreN B hd hv rfl ho K
theorem o_astoreN_5_3 {Ef : List Addr × Nat} {fin : Bool} (B : o_BE κ l Z n0 R y bytes ml ret Ef fin) {s0 s1 s2 s3 s4 : Slot} {v : Value} (hd : decode bytes pc = .ok (.astore_n 3, 1)) (hv : v.isRef = true) (ho : o_ok1 s3 = true) (K : o_Go κ Q h k n (pc + 1) [s0, s1, s2, .val v, s4] St) : o_Go κ Q h k n pc [s0, s1, s2, s3, s4] (v :: St) := o_astoreN B hd hv rfl ho K
theorem o_astore_12_4 {Ef : List Addr × Nat} {fin : Bool} (B : o_BE κ l Z n0 R y bytes ml ret Ef fin) {s0 s1 s2 s3 s4 s5 s6 s7 s8 s9 s10 s11 : Slot} {v : Value} (hd : decode bytes pc = .ok (.astore 4, 2)) (hv : v.isRef = true) (ho : o_ok1 s4 = true) (K : o_Go κ Q h k n (pc + 2) [s0, s1, s2, s3, .val v, s5, s6, s7, s8, s9, s10, s11] St) : o_Go κ Q h k n pc [s0, s1, s2, s3, s4, s5, s6, s7, s8, s9, s10, s11] (v :: St) := o_astore B hd hv rfl ho K
theorem o_astore_12_5 {Ef : List Addr × Nat} {fin : Bool} (B : o_BE κ l Z n0 R y bytes ml ret Ef fin) {s0 s1 s2 s3 s4 s5 s6 s7 s8 s9 s10 s11 : Slot} {v : Value} (hd : decode bytes pc = .ok (.astore 5, 2)) (hv : v.isRef = true) (ho : o_ok1 s5 = true) (K : o_Go κ Q h k n (pc + 2) [s0, s1, s2, s3, s4, .val v, s6, s7, s8, s9, s10, s11] St) : o_Go κ Q h k n pc [s0, s1, s2, s3, s4, s5, s6, s7, s8, s9, s10, s11] (v :: St) := o_astore B hd hv rfl ho K
theorem o_astore_12_6 {Ef : List Addr × Nat} {fin : Bool} (B : o_BE κ l Z n0 R y bytes ml ret Ef fin) {s0 s1 s2 s3 s4 s5 s6 s7 s8 s9 s10 s11 : Slot} {v : Value} (hd : decode bytes pc = .ok (.astore 6, 2)) (hv : v.isRef = true) (ho : o_ok1 s6 = true) (K : o_Go κ Q h k n (pc + 2) [s0, s1, s2, s3, s4, s5, .val v, s7, s8, s9, s10, s11] St) : o_Go κ Q h k n pc [s0, s1, s2, s3, s4, s5, s6, s7, s8, s9, s10, s11] (v :: St) := o_astore B hd hv rfl ho K
theorem o_astore_12_9 {Ef : List Addr × Nat} {fin : Bool} (B : o_BE κ l Z n0 R y bytes ml ret Ef fin) {s0 s1 s2 s3 s4 s5 s6 s7 s8 s9 s10 s11 : Slot} {v : Value} (hd : decode bytes pc = .ok (.astore 9, 2)) (hv : v.isRef = true) (ho : o_ok1 s9 = true) (K : o_Go κ Q h k n (pc + 2) [s0, s1, s2, s3, s4, s5, s6, s7, s8, .val v, s10, s11] St) : o_Go κ Q h k n pc [s0, s1, s2, s3, s4, s5, s6, s7, s8, s9, s10, s11] (v :: St) := o_astore B hd hv rfl ho K
theorem o_iinc_4_2 {Ef : List Addr × Nat} {fin : Bool} (B : o_BE κ l Z n0 R y bytes ml ret Ef fin) {s0 s1 s3 : Slot} {x : Int32} {cst : Int} (v z : Int32) (hd : decode bytes pc = .ok (.iinc 2 cst, 3)) (hv : Int32.ofInt cst = v) (hz : x + v = z) (K : o_Go κ Q h k n (pc + 3) [s0, s1, .val (.int z), s3] St) : o_Go κ Q h k n pc [s0, s1, .val (.int x), s3] St := o_iinc B v hd hv rfl (hz.symm ▸ K)
theorem o_iinc_5_3 {Ef : List Addr × Nat} {fin : Bool} (B : o_BE κ l Z n0 R y bytes ml ret Ef fin) {s0 s1 s2 s4 : Slot} {x : Int32} {cst : Int} (v z : Int32) (hd : decode bytes pc = .ok (.iinc 3 cst, 3)) (hv : Int32.ofInt cst = v) (hz : x + v = z) (K : o_Go κ Q h k n (pc + 3) [s0, s1, s2, .val (.int z), s4] St) : o_Go κ Q h k n pc [s0, s1, s2, .val (.int x), s4] St := o_iinc B v hd hv rfl (hz.symm ▸ K)
theorem o_iinc_15_5 {Ef : List Addr × Nat} {fin : Bool} (B : o_BE κ l Z n0 R y bytes ml ret Ef fin) {s0 s1 s2 s3 s4 s6 s7 s8 s9 s10 s11 s12 s13 s14 : Slot} {x : Int32} {cst : Int} (v z : Int32) (hd : decode bytes pc = .ok (.iinc 5 cst, 3)) (hv : Int32.ofInt cst = v) (hz : x + v = z) (K : o_Go κ Q h k n (pc + 3) [s0, s1, s2, s3, s4, .val (.int z), s6, s7, s8, s9, s10, s11, s12, s13, s14] St) : o_Go κ Q h k n pc [s0, s1, s2, s3, s4, .val (.int x), s6, s7, s8, s9, s10, s11, s12, s13, s14] St := o_iinc B v hd hv rfl (hz.symm ▸ K)
theorem o_iinc_15_6 {Ef : List Addr × Nat} {fin : Bool} (B : o_BE κ l Z n0 R y bytes ml ret Ef fin) {s0 s1 s2 s3 s4 s5 s7 s8 s9 s10 s11 s12 s13 s14 : Slot} {x : Int32} {cst : Int} (v z : Int32) (hd : decode bytes pc = .ok (.iinc 6 cst, 3)) (hv : Int32.ofInt cst = v) (hz : x + v = z) (K : o_Go κ Q h k n (pc + 3) [s0, s1, s2, s3, s4, s5, .val (.int z), s7, s8, s9, s10, s11, s12, s13, s14] St) : o_Go κ Q h k n pc [s0, s1, s2, s3, s4, s5, .val (.int x), s7, s8, s9, s10, s11, s12, s13, s14] St := o_iinc B v hd hv rfl (hz.symm ▸ K)
theorem o_istoreN_3_2 {Ef : List Addr × Nat} {fin : Bool} (B : o_BE κ l Z n0 R y bytes ml ret Ef fin) {s0 s1 s2 : Slot} {x : Int32} (hd : decode bytes pc = .ok (.istore_n 2, 1)) (ho : o_ok1 s2 = true) (K : o_Go κ Q h k n (pc + 1) [s0, s1, .val (.int x)] St) : o_Go κ Q h k n pc [s0, s1, s2] (.int x :: St) := o_istoreN B hd rfl ho K
theorem o_istoreN_4_1 {Ef : List Addr × Nat} {fin : Bool} (B : o_BE κ l Z n0 R y bytes ml ret Ef fin) {s0 s1 s2 s3 : Slot} {x : Int32} (hd : decode bytes pc = .ok (.istore_n 1, 1)) (ho : o_ok1 s1 = true) (K : o_Go κ Q h k n (pc + 1) [s0, .val (.int x), s2, s3] St) : o_Go κ Q h k n pc [s0, s1, s2, s3] (.int x :: St) := o_istoreN B hd rfl ho K
theorem o_istoreN_4_2 {Ef : List Addr × Nat} {fin : Bool} (B : o_BE κ l Z n0 R y bytes ml ret Ef fin) {s0 s1 s2 s3 : Slot} {x : Int32} (hd : decode bytes pc = .ok (.istore_n 2, 1)) (ho : o_ok1 s2 = true) (K : o_Go κ Q h k n (pc + 1) [s0, s1, .val (.int x), s3] St) : o_Go κ Q h k n pc [s0, s1, s2, s3] (.int x :: St) := o_istoreN B hd rfl ho K
theorem o_istoreN_4_3 {Ef : List Addr × Nat} {fin : Bool} (B : o_BE κ l Z n0 R y bytes ml ret Ef fin) {s0 s1 s2 s3 : Slot} {x : Int32} (hd : decode bytes pc = .ok (.istore_n 3, 1)) (ho : o_ok1 s3 = true) (K : o_Go κ Q h k n (pc + 1) [s0, s1, s2, .val (.int x)] St) : o_Go κ Q h k n pc [s0, s1, s2, s3] (.int x :: St) := o_istoreN B hd rfl ho K
theorem o_istoreN_5_3 {Ef : List Addr × Nat} {fin : Bool} (B : o_BE κ l Z n0 R y bytes ml ret Ef fin) {s0 s1 s2 s3 s4 : Slot} {x : Int32} (hd : decode bytes pc = .ok (.istore_n 3, 1)) (ho : o_ok1 s3 = true) (K : o_Go κ Q h k n (pc + 1) [s0, s1, s2, .val (.int x), s4] St) : o_Go κ Q h k n pc [s0, s1, s2, s3, s4] (.int x :: St) := o_istoreN B hd rfl ho K
theorem o_istoreN_12_3 {Ef : List Addr × Nat} {fin : Bool} (B : o_BE κ l Z n0 R y bytes ml ret Ef fin) {s0 s1 s2 s3 s4 s5 s6 s7 s8 s9 s10 s11 : Slot} {x : Int32} (hd : decode bytes pc = .ok (.istore_n 3, 1)) (ho : o_ok1 s3 = true) (K : o_Go κ Q h k n (pc + 1) [s0, s1, s2, .val (.int x), s4, s5, s6, s7, s8, s9, s10, s11] St) : o_Go κ Q h k n pc [s0, s1, s2, s3, s4, s5, s6, s7, s8, s9, s10, s11] (.int x :: St) := o_istoreN B hd rfl ho K
theorem o_istore_5_4 {Ef : List Addr × Nat} {fin : Bool} (B : o_BE κ l Z n0 R y bytes ml ret Ef fin) {s0 s1 s2 s3 s4 : Slot} {x : Int32} (hd : decode bytes pc = .ok (.istore 4, 2)) (ho : o_ok1 s4 = true) (K : o_Go κ Q h k n (pc + 2) [s0, s1, s2, s3, .val (.int x)] St) : o_Go κ Q h k n pc [s0, s1, s2, s3, s4] (.int x :: St) := o_istore B hd rfl ho K
theorem o_istore_6_4 {Ef : List Addr × Nat} {fin : Bool} (B : o_BE κ l Z n0 R y bytes ml ret Ef fin) {s0 s1 s2 s3 s4 s5 : Slot} {x : Int32} (hd : decode bytes pc = .ok (.istore 4, 2)) (ho : o_ok1 s4 = true) (K : o_Go κ Q h k n (pc + 2) [s0, s1, s2, s3, .val (.int x), s5] St) : o_Go κ Q h k n pc [s0, s1, s2, s3, s4, s5] (.int x :: St) := o_istore B hd rfl ho K
theorem o_istore_6_5 {Ef : List Addr × Nat} {fin : Bool} (B : o_BE κ l Z n0 R y bytes ml ret Ef fin) {s0 s1 s2 s3 s4 s5 : Slot} {x : Int32} (hd : decode bytes pc = .ok (.istore 5, 2)) (ho : o_ok1 s5 = true) (K : o_Go κ Q h k n (pc + 2) [s0, s1, s2, s3, s4, .val (.int x)] St) : o_Go κ Q h k n pc [s0, s1, s2, s3, s4, s5] (.int x :: St) := o_istore B hd rfl ho K
theorem o_istore_7_4 {Ef : List Addr × Nat} {fin : Bool} (B : o_BE κ l Z n0 R y bytes ml ret Ef fin) {s0 s1 s2 s3 s4 s5 s6 : Slot} {x : Int32} (hd : decode bytes pc = .ok (.istore 4, 2)) (ho : o_ok1 s4 = true) (K : o_Go κ Q h k n (pc + 2) [s0, s1, s2, s3, .val (.int x), s5, s6] St) : o_Go κ Q h k n pc [s0, s1, s2, s3, s4, s5, s6] (.int x :: St) := o_istore B hd rfl ho K
theorem o_istore_7_5 {Ef : List Addr × Nat} {fin : Bool} (B : o_BE κ l Z n0 R y bytes ml ret Ef fin) {s0 s1 s2 s3 s4 s5 s6 : Slot} {x : Int32} (hd : decode bytes pc = .ok (.istore 5, 2)) (ho : o_ok1 s5 = true) (K : o_Go κ Q h k n (pc + 2) [s0, s1, s2, s3, s4, .val (.int x), s6] St) : o_Go κ Q h k n pc [s0, s1, s2, s3, s4, s5, s6] (.int x :: St) := o_istore B hd rfl ho K
theorem o_istore_7_6 {Ef : List Addr × Nat} {fin : Bool} (B : o_BE κ l Z n0 R y bytes ml ret Ef fin) {s0 s1 s2 s3 s4 s5 s6 : Slot} {x : Int32} (hd : decode bytes pc = .ok (.istore 6, 2)) (ho : o_ok1 s6 = true) (K : o_Go κ Q h k n (pc + 2) [s0, s1, s2, s3, s4, s5, .val (.int x)] St) : o_Go κ Q h k n pc [s0, s1, s2, s3, s4, s5, s6] (.int x :: St) := o_istore B hd rfl ho K
theorem o_istore_8_5 {Ef : List Addr × Nat} {fin : Bool} (B : o_BE κ l Z n0 R y bytes ml ret Ef fin) {s0 s1 s2 s3 s4 s5 s6 s7 : Slot} {x : Int32} (hd : decode bytes pc = .ok (.istore 5, 2)) (ho : o_ok1 s5 = true) (K : o_Go κ Q h k n (pc + 2) [s0, s1, s2, s3, s4, .val (.int x), s6, s7] St) : o_Go κ Q h k n pc [s0, s1, s2, s3, s4, s5, s6, s7] (.int x :: St) := o_istore B hd rfl ho K
theorem o_istore_8_6 {Ef : List Addr × Nat} {fin : Bool} (B : o_BE κ l Z n0 R y bytes ml ret Ef fin) {s0 s1 s2 s3 s4 s5 s6 s7 : Slot} {x : Int32} (hd : decode bytes pc = .ok (.istore 6, 2)) (ho : o_ok1 s6 = true) (K : o_Go κ Q h k n (pc + 2) [s0, s1, s2, s3, s4, s5, .val (.int x), s7] St) : o_Go κ Q h k n pc [s0, s1, s2, s3, s4, s5, s6, s7] (.int x :: St) := o_istore B hd rfl ho K
theorem o_istore_8_7 {Ef : List Addr × Nat} {fin : Bool} (B : o_BE κ l Z n0 R y bytes ml ret Ef fin) {s0 s1 s2 s3 s4 s5 s6 s7 : Slot} {x : Int32} (hd : decode bytes pc = .ok (.istore 7, 2)) (ho : o_ok1 s7 = true) (K : o_Go κ Q h k n (pc + 2) [s0, s1, s2, s3, s4, s5, s6, .val (.int x)] St) : o_Go κ Q h k n pc [s0, s1, s2, s3, s4, s5, s6, s7] (.int x :: St) := o_istore B hd rfl ho K
theorem o_istore_12_7 {Ef : List Addr × Nat} {fin : Bool} (B : o_BE κ l Z n0 R y bytes ml ret Ef fin) {s0 s1 s2 s3 s4 s5 s6 s7 s8 s9 s10 s11 : Slot} {x : Int32} (hd : decode bytes pc = .ok (.istore 7, 2)) (ho : o_ok1 s7 = true) (K : o_Go κ Q h k n (pc + 2) [s0, s1, s2, s3, s4, s5, s6, .val (.int x), s8, s9, s10, s11] St) : o_Go κ Q h k n pc [s0, s1, s2, s3, s4, s5, s6, s7, s8, s9, s10, s11] (.int x :: St) := o_istore B hd rfl ho K
theorem o_istore_12_8 {Ef : List Addr × Nat} {fin : Bool} (B : o_BE κ l Z n0 R y bytes ml ret Ef fin) {s0 s1 s2 s3 s4 s5 s6 s7 s8 s9 s10 s11 : Slot} {x : Int32} (hd : decode bytes pc = .ok (.istore 8, 2)) (ho : o_ok1 s8 = true) (K : o_Go κ Q h k n (pc + 2) [s0, s1, s2, s3, s4, s5, s6, s7, .val (.int x), s9, s10, s11] St) : o_Go κ Q h k n pc [s0, s1, s2, s3, s4, s5, s6, s7, s8, s9, s10, s11] (.int x :: St) := o_istore B hd rfl ho K
theorem o_istore_12_10 {Ef : List Addr × Nat} {fin : Bool} (B : o_BE κ l Z n0 R y bytes ml ret Ef fin) {s0 s1 s2 s3 s4 s5 s6 s7 s8 s9 s10 s11 : Slot} {x : Int32} (hd : decode bytes pc = .ok (.istore 10, 2)) (ho : o_ok1 s10 = true) (K : o_Go κ Q h k n (pc + 2) [s0, s1, s2, s3, s4, s5, s6, s7, s8, s9, .val (.int x), s11] St) : o_Go κ Q h k n pc [s0, s1, s2, s3, s4, s5, s6, s7, s8, s9, s10, s11] (.int x :: St) := o_istore B hd rfl ho K
theorem o_istore_12_11 {Ef : List Addr × Nat} {fin : Bool} (B : o_BE κ l Z n0 R y bytes ml ret Ef fin) {s0 s1 s2 s3 s4 s5 s6 s7 s8 s9 s10 s11 : Slot} {x : Int32} (hd : decode bytes pc = .ok (.istore 11, 2)) (ho : o_ok1 s11 = true) (K : o_Go κ Q h k n (pc + 2) [s0, s1, s2, s3, s4, s5, s6, s7, s8, s9, s10, .val (.int x)] St) : o_Go κ Q h k n pc [s0, s1, s2, s3, s4, s5, s6, s7, s8, s9, s10, s11] (.int x :: St) := o_istore B hd rfl ho K
theorem o_istore_15_4 {Ef : List Addr × Nat} {fin : Bool} (B : o_BE κ l Z n0 R y bytes ml ret Ef fin) {s0 s1 s2 s3 s4 s5 s6 s7 s8 s9 s10 s11 s12 s13 s14 : Slot} {x : Int32} (hd : decode bytes pc = .ok (.istore 4, 2)) (ho : o_ok1 s4 = true) (K : o_Go κ Q h k n (pc + 2) [s0, s1, s2, s3, .val (.int x), s5, s6, s7, s8, s9, s10, s11, s12, s13, s14] St) : o_Go κ Q h k n pc [s0, s1, s2, s3, s4, s5, s6, s7, s8, s9, s10, s11, s12, s13, s14] (.int x :: St) := o_istore B hd rfl ho K
theorem o_istore_15_5 {Ef : List Addr × Nat} {fin : Bool} (B : o_BE κ l Z n0 R y bytes ml ret Ef fin) {s0 s1 s2 s3 s4 s5 s6 s7 s8 s9 s10 s11 s12 s13 s14 : Slot} {x : Int32} (hd : decode bytes pc = .ok (.istore 5, 2)) (ho : o_ok1 s5 = true) (K : o_Go κ Q h k n (pc + 2) [s0, s1, s2, s3, s4, .val (.int x), s6, s7, s8, s9, s10, s11, s12, s13, s14] St) : o_Go κ Q h k n pc [s0, s1, s2, s3, s4, s5, s6, s7, s8, s9, s10, s11, s12, s13, s14] (.int x :: St) := o_istore B hd rfl ho K
theorem o_istore_15_6 {Ef : List Addr × Nat} {fin : Bool} (B : o_BE κ l Z n0 R y bytes ml ret Ef fin) {s0 s1 s2 s3 s4 s5 s6 s7 s8 s9 s10 s11 s12 s13 s14 : Slot} {x : Int32} (hd : decode bytes pc = .ok (.istore 6, 2)) (ho : o_ok1 s6 = true) (K : o_Go κ Q h k n (pc + 2) [s0, s1, s2, s3, s4, s5, .val (.int x), s7, s8, s9, s10, s11, s12, s13, s14] St) : o_Go κ Q h k n pc [s0, s1, s2, s3, s4, s5, s6, s7, s8, s9, s10, s11, s12, s13, s14] (.int x :: St) := o_istore B hd rfl ho K
theorem o_istore_15_7 {Ef : List Addr × Nat} {fin : Bool} (B : o_BE κ l Z n0 R y bytes ml ret Ef fin) {s0 s1 s2 s3 s4 s5 s6 s7 s8 s9 s10 s11 s12 s13 s14 : Slot} {x : Int32} (hd : decode bytes pc = .ok (.istore 7, 2)) (ho : o_ok1 s7 = true) (K : o_Go κ Q h k n (pc + 2) [s0, s1, s2, s3, s4, s5, s6, .val (.int x), s8, s9, s10, s11, s12, s13, s14] St) : o_Go κ Q h k n pc [s0, s1, s2, s3, s4, s5, s6, s7, s8, s9, s10, s11, s12, s13, s14] (.int x :: St) := o_istore B hd rfl ho K
theorem o_istore_15_8 {Ef : List Addr × Nat} {fin : Bool} (B : o_BE κ l Z n0 R y bytes ml ret Ef fin) {s0 s1 s2 s3 s4 s5 s6 s7 s8 s9 s10 s11 s12 s13 s14 : Slot} {x : Int32} (hd : decode bytes pc = .ok (.istore 8, 2)) (ho : o_ok1 s8 = true) (K : o_Go κ Q h k n (pc + 2) [s0, s1, s2, s3, s4, s5, s6, s7, .val (.int x), s9, s10, s11, s12, s13, s14] St) : o_Go κ Q h k n pc [s0, s1, s2, s3, s4, s5, s6, s7, s8, s9, s10, s11, s12, s13, s14] (.int x :: St) := o_istore B hd rfl ho K
theorem o_istore_15_9 {Ef : List Addr × Nat} {fin : Bool} (B : o_BE κ l Z n0 R y bytes ml ret Ef fin) {s0 s1 s2 s3 s4 s5 s6 s7 s8 s9 s10 s11 s12 s13 s14 : Slot} {x : Int32} (hd : decode bytes pc = .ok (.istore 9, 2)) (ho : o_ok1 s9 = true) (K : o_Go κ Q h k n (pc + 2) [s0, s1, s2, s3, s4, s5, s6, s7, s8, .val (.int x), s10, s11, s12, s13, s14] St) : o_Go κ Q h k n pc [s0, s1, s2, s3, s4, s5, s6, s7, s8, s9, s10, s11, s12, s13, s14] (.int x :: St) := o_istore B hd rfl ho K
theorem o_istore_15_10 {Ef : List Addr × Nat} {fin : Bool} (B : o_BE κ l Z n0 R y bytes ml ret Ef fin) {s0 s1 s2 s3 s4 s5 s6 s7 s8 s9 s10 s11 s12 s13 s14 : Slot} {x : Int32} (hd : decode bytes pc = .ok (.istore 10, 2)) (ho : o_ok1 s10 = true) (K : o_Go κ Q h k n (pc + 2) [s0, s1, s2, s3, s4, s5, s6, s7, s8, s9, .val (.int x), s11, s12, s13, s14] St) : o_Go κ Q h k n pc [s0, s1, s2, s3, s4, s5, s6, s7, s8, s9, s10, s11, s12, s13, s14] (.int x :: St) := o_istore B hd rfl ho K
theorem o_istore_15_11 {Ef : List Addr × Nat} {fin : Bool} (B : o_BE κ l Z n0 R y bytes ml ret Ef fin) {s0 s1 s2 s3 s4 s5 s6 s7 s8 s9 s10 s11 s12 s13 s14 : Slot} {x : Int32} (hd : decode bytes pc = .ok (.istore 11, 2)) (ho : o_ok1 s11 = true) (K : o_Go κ Q h k n (pc + 2) [s0, s1, s2, s3, s4, s5, s6, s7, s8, s9, s10, .val (.int x), s12, s13, s14] St) : o_Go κ Q h k n pc [s0, s1, s2, s3, s4, s5, s6, s7, s8, s9, s10, s11, s12, s13, s14] (.int x :: St) := o_istore B hd rfl ho K
theorem o_istore_15_12 {Ef : List Addr × Nat} {fin : Bool} (B : o_BE κ l Z n0 R y bytes ml ret Ef fin) {s0 s1 s2 s3 s4 s5 s6 s7 s8 s9 s10 s11 s12 s13 s14 : Slot} {x : Int32} (hd : decode bytes pc = .ok (.istore 12, 2)) (ho : o_ok1 s12 = true) (K : o_Go κ Q h k n (pc + 2) [s0, s1, s2, s3, s4, s5, s6, s7, s8, s9, s10, s11, .val (.int x), s13, s14] St) : o_Go κ Q h k n pc [s0, s1, s2, s3, s4, s5, s6, s7, s8, s9, s10, s11, s12, s13, s14] (.int x :: St) := o_istore B hd rfl ho K
theorem o_istore_15_13 {Ef : List Addr × Nat} {fin : Bool} (B : o_BE κ l Z n0 R y bytes ml ret Ef fin) {s0 s1 s2 s3 s4 s5 s6 s7 s8 s9 s10 s11 s12 s13 s14 : Slot} {x : Int32} (hd : decode bytes pc = .ok (.istore 13, 2)) (ho : o_ok1 s13 = true) (K : o_Go κ Q h k n (pc + 2) [s0, s1, s2, s3, s4, s5, s6, s7, s8, s9, s10, s11, s12, .val (.int x), s14] St) : o_Go κ Q h k n pc [s0, s1, s2, s3, s4, s5, s6, s7, s8, s9, s10, s11, s12, s13, s14] (.int x :: St) := o_istore B hd rfl ho K
theorem o_istore_15_14 {Ef : List Addr × Nat} {fin : Bool} (B : o_BE κ l Z n0 R y bytes ml ret Ef fin) {s0 s1 s2 s3 s4 s5 s6 s7 s8 s9 s10 s11 s12 s13 s14 : Slot} {x : Int32} (hd : decode bytes pc = .ok (.istore 14, 2)) (ho : o_ok1 s14 = true) (K : o_Go κ Q h k n (pc + 2) [s0, s1, s2, s3, s4, s5, s6, s7, s8, s9, s10, s11, s12, s13, .val (.int x)] St) : o_Go κ Q h k n pc [s0, s1, s2, s3, s4, s5, s6, s7, s8, s9, s10, s11, s12, s13, s14] (.int x :: St) := o_istore B hd rfl ho K
end Pats
-- CUT
abbrev orm5 : Room := { frames := 0, cells := 0, slots := 0, locals := 0 }
abbrev orm6 : Room := { frames := 0, cells := 0, slots := 0, locals := 0 }
abbrev orm10 : Room := { frames := 0, cells := 0, slots := 0, locals := 0 }
abbrev orm11 : Room := { frames := 0, cells := 0, slots := 0, locals := 0 }
abbrev orm13 : Room := { frames := 0, cells := 0, slots := 0, locals := 0 }
abbrev orm14 : Room := { frames := 0, cells := 0, slots := 0, locals := 0 }
abbrev orm16 : Room := { frames := 0, cells := 0, slots := 0, locals := 0 }
abbrev orm9 : Room := { frames := 1, cells := 0, slots := 0, locals := 14 }
abbrev orm12 : Room := { frames := 1, cells := 0, slots := 0, locals := 15 }
abbrev orm4 (j : Nat) : Room := { frames := 1, cells := 6, slots := 6 * 2 ^ j, locals := 16 }
abbrev orm15 (m : Nat) : Room := { frames := 1, cells := 1, slots := m, locals := 40 }
abbrev orm17 (j : Nat) : Room := { frames := 2, cells := 7, slots := 7 * 2 ^ (j + 1), locals := 30 }
set_option maxRecDepth 65536 in
set_option maxHeartbeats 40000000 in
theorem oc13 (l : Launch) (Z : State) (a0 : Array Value) (hw : ∀ d ∈ tables_1, d.before a0 Z = true) (n0 : Nat) (h : Heap) (a b : Int64) : o_C l Z n0 oy13 jdk_29_method_66_code 4 (some .long) orm13 [(.long a), (.long b)] h (fun v h' kc nc => v = some (.long (if a < b then b else a)) ∧ h' = h ∧ kc = 0 ∧ nc = 0) := by
  refine o_body (Ls := [.val (.long a), .second, .val (.long b), .second]) pn13 (by first | (simp [argsToLocals, Value.category]; done) | rfl) (fun κ B => ?_)
  refine o_lloadN (pc := 0) B d13_0 rfl ?_
  refine o_lloadN (pc := 1) B d13_1 rfl ?_
  refine o_lcmp (pc := 2) B d13_2 ?_
  refine o_lif_lt (pc := 3) (pc' := 10) B d13_3 (by decide) (by decide) (fun hc3 => ?_) (fun hc3 => ?_)
  · refine o_lloadN (pc := 10) B d13_10 rfl ?_
    exact o_lreturn (pc := 11) B d13_11 (by decide) (by decide) (⟨by rw [if_pos hc3], rfl, rfl, rfl⟩)
  refine o_lloadN (pc := 6) B d13_6 rfl ?_
  refine o_goto (pc := 7) (pc' := 11) B d13_7 (by decide) (by decide) ?_
  exact o_lreturn (pc := 11) B d13_11 (by decide) (by decide) (⟨by rw [if_neg hc3], rfl, rfl, rfl⟩)
set_option maxRecDepth 65536 in
set_option maxHeartbeats 40000000 in
theorem oc14 (l : Launch) (Z : State) (a0 : Array Value) (hw : ∀ d ∈ tables_1, d.before a0 Z = true) (n0 : Nat) (h : Heap) (a b : Int64) : o_C l Z n0 oy14 jdk_29_method_70_code 4 (some .long) orm14 [(.long a), (.long b)] h (fun v h' kc nc => v = some (.long (if b < a then b else a)) ∧ h' = h ∧ kc = 0 ∧ nc = 0) := by
  refine o_body (Ls := [.val (.long a), .second, .val (.long b), .second]) pn14 (by first | (simp [argsToLocals, Value.category]; done) | rfl) (fun κ B => ?_)
  refine o_lloadN (pc := 0) B d14_0 rfl ?_
  refine o_lloadN (pc := 1) B d14_1 rfl ?_
  refine o_lcmp (pc := 2) B d14_2 ?_
  refine o_lif_gt (pc := 3) (pc' := 10) B d14_3 (by decide) (by decide) (fun hc3 => ?_) (fun hc3 => ?_)
  · refine o_lloadN (pc := 10) B d14_10 rfl ?_
    exact o_lreturn (pc := 11) B d14_11 (by decide) (by decide) (⟨by rw [if_pos hc3], rfl, rfl, rfl⟩)
  refine o_lloadN (pc := 6) B d14_6 rfl ?_
  refine o_goto (pc := 7) (pc' := 11) B d14_7 (by decide) (by decide) ?_
  exact o_lreturn (pc := 11) B d14_11 (by decide) (by decide) (⟨by rw [if_neg hc3], rfl, rfl, rfl⟩)
set_option maxRecDepth 65536 in
set_option maxHeartbeats 40000000 in
theorem oc16 (l : Launch) (Z : State) (a0 : Array Value) (hw : ∀ d ∈ tables_1, d.before a0 Z = true) (n0 : Nat) (h : Heap) (a b : Int32) : o_C l Z n0 oy16 jdk_29_method_69_code 2 (some .int) orm16 [(.int a), (.int b)] h (fun v h' kc nc => v = some (.int (if b < a then b else a)) ∧ h' = h ∧ kc = 0 ∧ nc = 0) := by
  refine o_body (Ls := [.val (.int a), .val (.int b)]) pn16 (by first | (simp [argsToLocals, Value.category]; done) | rfl) (fun κ B => ?_)
  refine o_iloadN (pc := 0) B d16_0 rfl ?_
  refine o_iloadN (pc := 1) B d16_1 rfl ?_
  refine o_icmp_gt (pc := 2) (pc' := 9) B d16_2 (by decide) (by decide) (fun hc2 => ?_) (fun hc2 => ?_)
  · refine o_iloadN (pc := 9) B d16_9 rfl ?_
    exact o_ireturn (pc := 10) B d16_10 (by decide) (by decide) (⟨by rw [if_pos hc2], rfl, rfl, rfl⟩)
  refine o_iloadN (pc := 5) B d16_5 rfl ?_
  refine o_goto (pc := 6) (pc' := 10) B d16_6 (by decide) (by decide) ?_
  exact o_ireturn (pc := 10) B d16_10 (by decide) (by decide) (⟨by rw [if_neg hc2], rfl, rfl, rfl⟩)
set_option maxRecDepth 65536 in
set_option maxHeartbeats 40000000 in
theorem oc10 (l : Launch) (Z : State) (a0 : Array Value) (hw : ∀ d ∈ tables_1, d.before a0 Z = true) (n0 : Nat) (h : Heap) (a b : Int32) : o_C l Z n0 oy10 prog_53_method_3_code 2 (some .int) orm10 [(.int a), (.int b)] h (fun v h' kc nc => v = some (.int (own_hash a b)) ∧ h' = h ∧ kc = 0 ∧ nc = 0) := by
  refine o_body (Ls := [.val (.int a), .val (.int b)]) pn10 (by first | (simp [argsToLocals, Value.category]; done) | rfl) (fun κ B => ?_)
  refine o_iloadN (pc := 0) B d10_0 rfl ?_
  refine o_ldc (pc := 1) B (x := (-1640531535 : Int32)) d10_1 (hw _ (List.mem_of_getElem? (i := 91) rfl)) ?_
  refine o_imul (pc := 3) B d10_3 ?_
  refine o_iloadN (pc := 4) B d10_4 rfl ?_
  refine o_iadd (pc := 5) B d10_5 ?_
  exact o_ireturn (pc := 6) B d10_6 (by decide) (by decide) (⟨rfl, rfl, rfl, rfl⟩)
set_option maxRecDepth 65536 in
set_option maxHeartbeats 40000000 in
theorem oc11 (l : Launch) (Z : State) (a0 : Array Value) (hw : ∀ d ∈ tables_1, d.before a0 Z = true) (n0 : Nat) (h : Heap) (a : Int32) (j : Nat) (hj : j ≤ 30) : o_C l Z n0 oy11 prog_53_method_4_code 3 (some .int) orm11 [(.int a), (.int (Int32.ofNat (2 ^ j)))] h (fun v h' kc nc => v = some (.int (Int32.ofNat ((own_mix a).toBitVec.toNat % 2 ^ j))) ∧ h' = h ∧ kc = 0 ∧ nc = 0) := by
  refine o_body (Ls := [.val (.int a), .val (.int (Int32.ofNat (2 ^ j))), .unset]) pn11 (by first | (simp [argsToLocals, Value.category]; done) | rfl) (fun κ B => ?_)
  refine o_iloadN (pc := 0) B d11_0 rfl ?_
  refine o_iloadN (pc := 1) B d11_1 rfl ?_
  refine o_bipush (pc := 2) B (16 : Int32) d11_2 (by decide) ?_
  refine o_iushr (pc := 4) B d11_4 ?_
  refine o_ixor (pc := 5) B d11_5 ?_
  refine o_istoreN_3_2 (pc := 6) B d11_6 rfl ?_
  refine o_iloadN (pc := 7) B d11_7 rfl ?_
  refine o_ldc (pc := 8) B (x := (-2048144789 : Int32)) d11_8 (hw _ (List.mem_of_getElem? (i := 95) rfl)) ?_
  refine o_imul (pc := 10) B d11_10 ?_
  refine o_istoreN_3_2 (pc := 11) B d11_11 rfl ?_
  refine o_iloadN (pc := 12) B d11_12 rfl ?_
  refine o_iloadN (pc := 13) B d11_13 rfl ?_
  refine o_bipush (pc := 14) B (13 : Int32) d11_14 (by decide) ?_
  refine o_iushr (pc := 16) B d11_16 ?_
  refine o_ixor (pc := 17) B d11_17 ?_
  refine o_istoreN_3_2 (pc := 18) B d11_18 rfl ?_
  refine o_iloadN (pc := 19) B d11_19 rfl ?_
  refine o_ldc (pc := 20) B (x := (-1028477387 : Int32)) d11_20 (hw _ (List.mem_of_getElem? (i := 96) rfl)) ?_
  refine o_imul (pc := 22) B d11_22 ?_
  refine o_istoreN_3_2 (pc := 23) B d11_23 rfl ?_
  refine o_iloadN (pc := 24) B d11_24 rfl ?_
  refine o_iloadN (pc := 25) B d11_25 rfl ?_
  refine o_bipush (pc := 26) B (16 : Int32) d11_26 (by decide) ?_
  refine o_iushr (pc := 28) B d11_28 ?_
  refine o_ixor (pc := 29) B d11_29 ?_
  refine o_istoreN_3_2 (pc := 30) B d11_30 rfl ?_
  refine o_iloadN (pc := 31) B d11_31 rfl ?_
  refine o_iloadN (pc := 32) B d11_32 rfl ?_
  refine o_iconst (pc := 33) B (1 : Int32) d11_33 (by decide) ?_
  refine o_isub (pc := 34) B d11_34 ?_
  rw [own_sub1 hj]
  refine o_iand (pc := 35) B d11_35 ?_
  exact o_ireturn (pc := 36) B d11_36 (by decide) (by decide) (⟨congrArg some (congrArg Value.int (own_and (own_mix a) hj)), rfl, rfl, rfl⟩)
set_option maxRecDepth 65536 in
set_option maxHeartbeats 40000000 in
theorem oc9 (l : Launch) (Z : State) (a0 : Array Value) (hw : ∀ d ∈ tables_1, d.before a0 Z = true) (n0 : Nat) (h : Heap) (v lo hi j : Nat) (hj : j ≤ 30) : o_C l Z n0 oy9 prog_26_method_23_code 4 (some .int) orm9 [(.int (Int32.ofNat v)), (.int (Int32.ofNat lo)), (.int (Int32.ofNat hi)), (.int (Int32.ofNat (2 ^ j)))] h (fun v_ h' kc nc => v_ = some (.int (Int32.ofNat (own_H v lo hi % 2 ^ j))) ∧ h' = h ∧ kc = 0 ∧ nc = 0) := by
  refine o_body (Ls := [.val (.int (Int32.ofNat v)), .val (.int (Int32.ofNat lo)), .val (.int (Int32.ofNat hi)), .val (.int (Int32.ofNat (2 ^ j)))]) pn9 (by first | (simp [argsToLocals, Value.category]; done) | rfl) (fun κ B => ?_)
  refine o_iloadN (pc := 0) B d9_0 rfl ?_
  refine o_iloadN (pc := 1) B d9_1 rfl ?_
  refine o_callS2 (pc := 2) B 0 d9_2 (hw _ (List.mem_of_getElem? (i := 87) rfl)) (hw _ (List.mem_of_getElem? (i := 88) rfl)) (hw _ (List.mem_of_getElem? (i := 89) rfl)) (hw _ (List.mem_of_getElem? (i := 90) rfl)) (by decide) pd10 rfl (by first | exact Nat.zero_le _ | exact Nat.le_of_ble_eq_true rfl | simp [Value.category]) (by first | decide | exact Nat.le_of_ble_eq_true rfl) (by first | decide | exact Nat.le_of_ble_eq_true rfl) (by decide) (by decide) rfl (oc10 l Z a0 hw n0 _ _ _) ?_
  rintro _ _ _ _ ⟨rfl, rfl, rfl, rfl⟩ - -
  refine o_iloadN (pc := 5) B d9_5 rfl ?_
  refine o_callS2 (pc := 6) B 0 d9_6 (hw _ (List.mem_of_getElem? (i := 87) rfl)) (hw _ (List.mem_of_getElem? (i := 88) rfl)) (hw _ (List.mem_of_getElem? (i := 89) rfl)) (hw _ (List.mem_of_getElem? (i := 90) rfl)) (by decide) pd10 rfl (by first | exact Nat.zero_le _ | exact Nat.le_of_ble_eq_true rfl | simp [Value.category]) (by first | decide | exact Nat.le_of_ble_eq_true rfl) (by first | decide | exact Nat.le_of_ble_eq_true rfl) (by decide) (by decide) rfl (oc10 l Z a0 hw n0 _ _ _) ?_
  rintro _ _ _ _ ⟨rfl, rfl, rfl, rfl⟩ - -
  refine o_iloadN (pc := 9) B d9_9 rfl ?_
  refine o_callS2 (pc := 10) B 0 d9_10 (hw _ (List.mem_of_getElem? (i := 92) rfl)) (hw _ (List.mem_of_getElem? (i := 93) rfl)) (hw _ (List.mem_of_getElem? (i := 89) rfl)) (hw _ (List.mem_of_getElem? (i := 94) rfl)) (by decide) pd11 rfl (by first | exact Nat.zero_le _ | exact Nat.le_of_ble_eq_true rfl | simp [Value.category]) (by first | decide | exact Nat.le_of_ble_eq_true rfl) (by first | decide | exact Nat.le_of_ble_eq_true rfl) (by decide) (by decide) rfl (oc11 l Z a0 hw n0 _ _ j hj) ?_
  rintro _ _ _ _ ⟨rfl, rfl, rfl, rfl⟩ - -
  exact o_ireturn (pc := 13) B d9_13 (by decide) (by decide) (⟨rfl, rfl, rfl, rfl⟩)
theorem own_grown {a b : Nat} (ha : 2 * a < 2 ^ 30) (hb : b ≤ 2 * a) : (if (2147483639 : Int64) < (if (2 : Int64) * (Int32.ofNat a).toInt64 < Int64.ofNat b then Int64.ofNat b else (2 : Int64) * (Int32.ofNat a).toInt64) then (2147483639 : Int64) else (if (2 : Int64) * (Int32.ofNat a).toInt64 < Int64.ofNat b then Int64.ofNat b else (2 : Int64) * (Int32.ofNat a).toInt64)).toInt32 = Int32.ofNat (2 * a) := by
  have e : (2 : Int64) * (Int32.ofNat a).toInt64 = Int64.ofNat (2 * a) := by rw [own_wide (by omega), Int64.ofNat_mul]; rfl
  have i1 : (if Int64.ofNat (2 * a) < Int64.ofNat b then Int64.ofNat b else Int64.ofNat (2 * a)) = Int64.ofNat (2 * a) := if_neg (by rw [Int64.lt_iff_toInt_lt, Int64.toInt_ofNat_of_lt (by omega), Int64.toInt_ofNat_of_lt (by omega)]; omega)
  rw [e, i1, if_neg (by rw [Int64.lt_iff_toInt_lt, Int64.toInt_ofNat_of_lt (by omega), show (2147483639 : Int64).toInt = 2147483639 from rfl]; omega), own_narrow (by omega)]
set_option maxRecDepth 65536 in
set_option maxHeartbeats 40000000 in
theorem oc12 (l : Launch) (Z : State) (a0 : Array Value) (hw : ∀ d ∈ tables_1, d.before a0 Z = true) (n0 : Nat) (h : Heap) (a b : Nat) (ha : 2 * a < 2 ^ 30) (hb : b ≤ 2 * a) : o_C l Z n0 oy12 prog_53_method_2_code 3 (some .int) orm12 [(.int (Int32.ofNat a)), (.long (Int64.ofNat b))] h (fun v h' kc nc => v = some (.int (Int32.ofNat (2 * a))) ∧ h' = h ∧ kc = 0 ∧ nc = 0) := by
  refine o_body (Ls := [.val (.int (Int32.ofNat a)), .val (.long (Int64.ofNat b)), .second]) pn12 (by first | (simp [argsToLocals, Value.category]; done) | rfl) (fun κ B => ?_)
  refine o_lloadN (pc := 0) B d12_0 rfl ?_
  refine o_ldc2_w (pc := 1) B (x := (2147483639 : Int64)) d12_1 (hw _ (List.mem_of_getElem? (i := 101) rfl)) ?_
  refine o_lcmp (pc := 4) B d12_4 ?_
  refine o_lif_le (pc := 5) (pc' := 22) B d12_5 (by decide) (by decide) (fun hc5 => ?_) (fun hc5 => False.elim ((by rw [Int64.lt_iff_toInt_lt, Int64.toInt_ofNat_of_lt (by omega), show (2147483639 : Int64).toInt = 2147483639 from rfl] at hc5; omega)))
  refine o_ldc2_w (pc := 22) B (x := (2 : Int64)) d12_22 (hw _ (List.mem_of_getElem? (i := 102) rfl)) ?_
  refine o_iloadN (pc := 25) B d12_25 rfl ?_
  refine o_i2l (pc := 26) B d12_26 ?_
  refine o_lmul (pc := 27) B d12_27 ?_
  refine o_lloadN (pc := 28) B d12_28 rfl ?_
  refine o_callS2 (pc := 29) B 0 d12_29 (hw _ (List.mem_of_getElem? (i := 103) rfl)) (hw _ (List.mem_of_getElem? (i := 104) rfl)) (hw _ (List.mem_of_getElem? (i := 105) rfl)) (hw _ (List.mem_of_getElem? (i := 106) rfl)) (by decide) pd13 rfl (by first | exact Nat.zero_le _ | exact Nat.le_of_ble_eq_true rfl | simp [Value.category]) (by first | decide | exact Nat.le_of_ble_eq_true rfl) (by first | decide | exact Nat.le_of_ble_eq_true rfl) (by decide) (by decide) rfl (oc13 l Z a0 hw n0 _ _ _) ?_
  rintro _ _ _ _ ⟨rfl, rfl, rfl, rfl⟩ - -
  refine o_ldc2_w (pc := 32) B (x := (2147483639 : Int64)) d12_32 (hw _ (List.mem_of_getElem? (i := 101) rfl)) ?_
  refine o_callS2 (pc := 35) B 0 d12_35 (hw _ (List.mem_of_getElem? (i := 107) rfl)) (hw _ (List.mem_of_getElem? (i := 108) rfl)) (hw _ (List.mem_of_getElem? (i := 105) rfl)) (hw _ (List.mem_of_getElem? (i := 109) rfl)) (by decide) pd14 rfl (by first | exact Nat.zero_le _ | exact Nat.le_of_ble_eq_true rfl | simp [Value.category]) (by first | decide | exact Nat.le_of_ble_eq_true rfl) (by first | decide | exact Nat.le_of_ble_eq_true rfl) (by decide) (by decide) rfl (oc14 l Z a0 hw n0 _ _ _) ?_
  rintro _ _ _ _ ⟨rfl, rfl, rfl, rfl⟩ - -
  refine o_l2i (pc := 38) B d12_38 ?_
  rw [own_grown ha hb]
  exact o_ireturn (pc := 39) B d12_39 (by decide) (by decide) (⟨rfl, rfl, rfl, rfl⟩)
set_option maxRecDepth 65536 in
set_option maxHeartbeats 40000000 in
theorem own_f5 (l : Launch) (Z : State) (a0 : Array Value) (hw : ∀ d ∈ tables_1, d.before a0 Z = true) (n0 : Nat) (h0 : Heap) (κ : o_K) (B : o_Bo κ l Z n0 orm5 oy5 jdk_65_method_103_code 4 none) (a : Addr) (x : Int32) (m0 : Nat) (hm0 : m0 < 2 ^ 31) (ga : n0 ≤ a) :
    ∀ (m i : Nat) (h : Heap), i + m = m0 → (∃ T, o_IA Z h a T ∧ T.length = m0 ∧ ∀ j, j < i → T[j]? = some x) → Keep h0 h [a] → o_Go κ (fun v h' kc nc => v = none ∧ (∃ T, o_IA Z h' a T ∧ T.length = m0 ∧ ∀ j, j < m0 → T[j]? = some x) ∧ Keep h0 h' [a] ∧ kc = 0 ∧ nc = 0) h 0 0 5 [.val (.ref a), .val (.int x), .val (.int (Int32.ofNat i)), .val (.int (Int32.ofNat m0))] [] := by
  intro m
  induction m with
  | zero =>
    rintro i h hi ⟨T, A, eT, HT⟩ K
    have ei : i = m0 := by omega
    subst ei
    refine o_iloadN (pc := 5) B d5_5 rfl ?_
    refine o_iloadN (pc := 6) B d5_6 rfl ?_
    refine o_icmp_ge (pc := 7) (pc' := 20) B d5_7 (by decide) (by decide) (fun hc7 => ?_) (fun hc7 => False.elim ((Int32.lt_irrefl hc7)))
    exact o_return (pc := 20) B d5_20 (by decide) (by decide) (⟨rfl, ⟨T, A, eT, HT⟩, K, rfl, rfl⟩)
  | succ m ih =>
    rintro i h hi ⟨T, A, eT, HT⟩ K
    refine o_iloadN (pc := 5) B d5_5 rfl ?_
    refine o_iloadN (pc := 6) B d5_6 rfl ?_
    refine o_icmp_ge (pc := 7) (pc' := 20) B d5_7 (by decide) (by decide) (fun hc7 => False.elim ((hc7 ((own_ltn (by omega) hm0).mpr (by omega))))) (fun hc7 => ?_)
    refine o_aloadN (pc := 10) B d5_10 rfl rfl ?_
    refine o_iloadN (pc := 11) B d5_11 rfl ?_
    refine o_iloadN (pc := 12) B d5_12 rfl ?_
    refine o_iastore (pc := 13) B (i) d5_13 (A) (rfl) (own_mltI (by omega)) (ga) ?_
    intro h1 W1
    refine o_iinc_4_2 (pc := 14) B (1 : Int32) (Int32.ofNat (i + 1)) d5_14 (by decide) (own_one i) ?_
    refine o_goto (pc := 17) (pc' := 5) B d5_17 (by decide) (by decide) ?_
    refine ih (i + 1) h1 (by omega) ⟨_, o_IA.same A W1, by rw [List.length_set]; exact eT, fun j hj => ?_⟩ (K.wr W1 (Or.inl (List.mem_cons_self ..)))
    by_cases e : i = j
    · subst e; exact List.getElem?_set_self (by omega)
    · rw [List.getElem?_set_ne e]; exact HT j (by omega)
set_option maxRecDepth 65536 in
set_option maxHeartbeats 40000000 in
theorem oc5 (l : Launch) (Z : State) (a0 : Array Value) (hw : ∀ d ∈ tables_1, d.before a0 Z = true) (n0 : Nat) (h : Heap) (a : Addr) (x : Int32) (T : List Int32) (m0 : Nat) (hm : T.length = m0) (ga : n0 ≤ a) (A : o_IA Z h a T) : o_C l Z n0 oy5 jdk_65_method_103_code 4 none orm5 [(.ref a), (.int x)] h (fun v h' kc nc => v = none ∧ (∃ T, o_IA Z h' a T ∧ T.length = m0 ∧ ∀ j, j < m0 → T[j]? = some x) ∧ Keep h h' [a] ∧ kc = 0 ∧ nc = 0) := by
  refine o_body (Ls := [.val (.ref a), .val (.int x), .unset, .unset]) pn5 (by first | (simp [argsToLocals, Value.category]; done) | rfl) (fun κ B => ?_)
  have hm0 : m0 < 2 ^ 31 := by have := A.len; omega
  refine o_iconst (pc := 0) B (0 : Int32) d5_0 (by decide) ?_
  refine o_istoreN_4_2 (pc := 1) B d5_1 rfl ?_
  refine o_aloadN (pc := 2) B d5_2 rfl rfl ?_
  refine o_arraylen (pc := 3) B (Int32.ofNat m0) d5_3 (A) (by rw [List.length_map, hm]) ?_
  refine o_istoreN_4_3 (pc := 4) B d5_4 rfl ?_
  rw [show (0 : Int32) = Int32.ofNat 0 from rfl]
  exact own_f5 l Z a0 hw n0 h κ B a x m0 hm0 ga m0 0 h (by omega) ⟨T, A, hm, fun j hj => absurd hj (Nat.not_lt_zero j)⟩ (Keep.refl _ _)
set_option maxRecDepth 65536 in
set_option maxHeartbeats 40000000 in
theorem own_f6 (l : Launch) (Z : State) (a0 : Array Value) (hw : ∀ d ∈ tables_1, d.before a0 Z = true) (n0 : Nat) (h0 : Heap) (κ : o_K) (B : o_Bo κ l Z n0 orm6 oy6 jdk_65_method_101_code 5 none) (a : Addr) (x : Int64) (m0 : Nat) (hm0 : m0 < 2 ^ 31) (ga : n0 ≤ a) :
    ∀ (m i : Nat) (h : Heap), i + m = m0 → (∃ T, o_LA Z h a T ∧ T.length = m0) → Keep h0 h [a] → o_Go κ (fun v h' kc nc => v = none ∧ Keep h0 h' [a] ∧ kc = 0 ∧ nc = 0) h 0 0 6 [.val (.ref a), .val (.long x), .second, .val (.int (Int32.ofNat i)), .val (.int (Int32.ofNat m0))] [] := by
  intro m
  induction m with
  | zero =>
    rintro i h hi ⟨T, A, eT⟩ K
    have ei : i = m0 := by omega
    subst ei
    refine o_iloadN (pc := 6) B d6_6 rfl ?_
    refine o_iload (pc := 7) B d6_7 rfl ?_
    refine o_icmp_ge (pc := 9) (pc' := 22) B d6_9 (by decide) (by decide) (fun hc9 => ?_) (fun hc9 => False.elim ((Int32.lt_irrefl hc9)))
    exact o_return (pc := 22) B d6_22 (by decide) (by decide) (⟨rfl, K, rfl, rfl⟩)
  | succ m ih =>
    rintro i h hi ⟨T, A, eT⟩ K
    refine o_iloadN (pc := 6) B d6_6 rfl ?_
    refine o_iload (pc := 7) B d6_7 rfl ?_
    refine o_icmp_ge (pc := 9) (pc' := 22) B d6_9 (by decide) (by decide) (fun hc9 => False.elim ((hc9 ((own_ltn (by omega) hm0).mpr (by omega))))) (fun hc9 => ?_)
    refine o_aloadN (pc := 12) B d6_12 rfl rfl ?_
    refine o_iloadN (pc := 13) B d6_13 rfl ?_
    refine o_lloadN (pc := 14) B d6_14 rfl ?_
    refine o_lastore (pc := 15) B (i) d6_15 (A) (rfl) (by rw [List.length_map]; omega) (ga) ?_
    intro h1 W1
    refine o_iinc_5_3 (pc := 16) B (1 : Int32) (Int32.ofNat (i + 1)) d6_16 (by decide) (own_one i) ?_
    refine o_goto (pc := 19) (pc' := 6) B d6_19 (by decide) (by decide) ?_
    exact ih (i + 1) h1 (by omega) ⟨_, o_LA.same A W1, by rw [List.length_set]; exact eT⟩ (K.wr W1 (Or.inl (List.mem_cons_self ..)))
set_option maxRecDepth 65536 in
set_option maxHeartbeats 40000000 in
theorem oc6 (l : Launch) (Z : State) (a0 : Array Value) (hw : ∀ d ∈ tables_1, d.before a0 Z = true) (n0 : Nat) (h : Heap) (a : Addr) (x : Int64) (T : List Int64) (m0 : Nat) (hm : T.length = m0) (ga : n0 ≤ a) (A : o_LA Z h a T) : o_C l Z n0 oy6 jdk_65_method_101_code 5 none orm6 [(.ref a), (.long x)] h (fun v h' kc nc => v = none ∧ Keep h h' [a] ∧ kc = 0 ∧ nc = 0) := by
  refine o_body (Ls := [.val (.ref a), .val (.long x), .second, .unset, .unset]) pn6 (by first | (simp [argsToLocals, Value.category]; done) | rfl) (fun κ B => ?_)
  have hm0 : m0 < 2 ^ 31 := by have := A.len; omega
  refine o_iconst (pc := 0) B (0 : Int32) d6_0 (by decide) ?_
  refine o_istoreN_5_3 (pc := 1) B d6_1 rfl ?_
  refine o_aloadN (pc := 2) B d6_2 rfl rfl ?_
  refine o_arraylen (pc := 3) B (Int32.ofNat m0) d6_3 (A) (by rw [List.length_map, hm]) ?_
  refine o_istore_5_4 (pc := 4) B d6_4 rfl ?_
  rw [show (0 : Int32) = Int32.ofNat 0 from rfl]
  exact own_f6 l Z a0 hw n0 h κ B a x m0 hm0 ga m0 0 h (by omega) ⟨T, A, hm⟩ (Keep.refl _ _)
set_option maxRecDepth 65536 in
set_option maxHeartbeats 40000000 in
theorem oc15 (l : Launch) (Z : State) (a0 : Array Value) (hw : ∀ d ∈ tables_1, d.before a0 Z = true) (n0 : Nat) (h : Heap) (a : Addr) (T : List Int32) (m : Nat) (hm : T.length < m) (hm2 : m < 2 ^ 26) (Z0 : n0 ≤ h.size) (A : o_IA Z h a T) : o_C l Z n0 oy15 jdk_65_method_123_code 3 (some (.array .int)) (orm15 m) [(.ref a), (.int (Int32.ofNat m))] h (fun v h' kc nc => ∃ b, v = some (.ref b) ∧ b = h.size ∧ o_IA Z h' b (T ++ List.replicate (m - T.length) 0) ∧ Keep h h' [] ∧ h.size < h'.size ∧ kc = 1 ∧ nc = m) := by
  refine o_body (Ls := [.val (.ref a), .val (.int (Int32.ofNat m)), .unset]) pn15 (by first | (simp [argsToLocals, Value.category]; done) | rfl) (fun κ B => ?_)
  refine o_iloadN (pc := 0) B d15_0 rfl ?_
  refine o_aloadN (pc := 1) B d15_1 rfl rfl ?_
  refine o_arraylen (pc := 2) B (Int32.ofNat T.length) d15_2 (A) (by rw [List.length_map]) ?_
  refine o_icmp_ne (pc := 3) (pc' := 14) B d15_3 (by decide) (by decide) (fun hc3 => ?_) (fun hc3 => False.elim ((by have := (own_inj (a := m) (b := T.length) (by omega) (by omega)).mp hc3; omega)))
  refine o_iloadN (pc := 14) B d15_14 rfl ?_
  refine o_newarray (pc := 15) B (m) (m) d15_15 (hw _ (List.mem_of_getElem? (i := 19) rfl)) (rfl) (by first | decide | omega) (by first | decide | omega) (by first | decide | (dsimp only [orm4, orm5, orm6, orm9, orm10, orm11, orm12, orm13, orm14, orm15, orm16, orm17]; omega)) (by first | decide | (dsimp only [orm4, orm5, orm6, orm9, orm10, orm11, orm12, orm13, orm14, orm15, orm16, orm17]; omega)) ?_
  intro h1 X1 lt1 A1
  obtain ⟨b, gb, eb⟩ : ∃ b : Addr, n0 ≤ b ∧ b = h.size := ⟨_, Z0, rfl⟩
  rw [← eb] at A1 ⊢
  have A1' : o_IA Z h1 b (List.replicate m 0) := by show o_AR Z h1 b .int ((List.replicate m (0 : Int32)).map Value.int); rw [List.map_replicate]; exact A1
  refine o_astoreN_3_2 (pc := 17) B d15_17 rfl rfl ?_
  refine o_aloadN (pc := 18) B d15_18 rfl rfl ?_
  refine o_iconst (pc := 19) B (0 : Int32) d15_19 (by decide) ?_
  refine o_aloadN (pc := 20) B d15_20 rfl rfl ?_
  refine o_iconst (pc := 21) B (0 : Int32) d15_21 (by decide) ?_
  refine o_aloadN (pc := 22) B d15_22 rfl rfl ?_
  refine o_arraylen (pc := 23) B (Int32.ofNat T.length) d15_23 (A.ext X1) (by rw [List.length_map]) ?_
  refine o_iloadN (pc := 24) B d15_24 rfl ?_
  refine o_callS2 (pc := 25) B 4 d15_25 (hw _ (List.mem_of_getElem? (i := 113) rfl)) (hw _ (List.mem_of_getElem? (i := 114) rfl)) (hw _ (List.mem_of_getElem? (i := 105) rfl)) (hw _ (List.mem_of_getElem? (i := 115) rfl)) (by decide) pd16 rfl (by first | exact Nat.zero_le _ | exact Nat.le_of_ble_eq_true rfl | simp [Value.category]) (by first | decide | exact Nat.le_of_ble_eq_true rfl) (by first | decide | exact Nat.le_of_ble_eq_true rfl) (by first | decide | (dsimp only [orm4, orm5, orm6, orm9, orm10, orm11, orm12, orm13, orm14, orm15, orm16, orm17]; omega)) (by first | decide | (dsimp only [orm4, orm5, orm6, orm9, orm10, orm11, orm12, orm13, orm14, orm15, orm16, orm17]; omega)) rfl (oc16 l Z a0 hw n0 _ _ _) ?_
  rintro _ _ _ _ ⟨rfl, rfl, rfl, rfl⟩ - -
  rw [if_neg (fun q => by rw [own_ltn (by omega) (by omega)] at q; omega)]
  refine o_arraycopy (pc := 28) B (W := 0) T.length d15_28 (hw _ (List.mem_of_getElem? (i := 116) rfl)) (hw _ (List.mem_of_getElem? (i := 119) rfl)) (hw _ (List.mem_of_getElem? (i := 117) rfl)) (hw _ (List.mem_of_getElem? (i := 118) rfl)) (A.ext X1) A1' (Nat.le_refl _) (by simp; omega) gb (Nat.le_of_ble_eq_true rfl) (Nat.le_of_ble_eq_true rfl) (by show _ ≤ 40; decide) rfl ?_
  intro h2 K2 A2
  rw [List.take_length, List.drop_replicate] at A2
  refine o_aloadN (pc := 31) B d15_31 rfl rfl ?_
  have KK : Keep h h2 [] := ((Keep.refl h []).ext X1).trans K2 (fun x hx => Or.inr (by rw [List.mem_singleton.mp hx, eb]; exact Nat.le_refl _))
  exact o_areturn (pc := 32) B rfl rfl rfl d15_32 (by first | decide | (dsimp only [orm4, orm5, orm6, orm9, orm10, orm11, orm12, orm13, orm14, orm15, orm16, orm17]; omega)) (by first | decide | (dsimp only [orm4, orm5, orm6, orm9, orm10, orm11, orm12, orm13, orm14, orm15, orm16, orm17]; omega)) (⟨b, rfl, rfl, A2, KK, by have := K2.1; have := o_eq eb; omega, by omega, by omega⟩)
/-- the caches know nothing -/
def own_new (C : List Int32) (j : Nat) : Prop := C.length = 2 ^ j ∧ ∀ s, s < 2 ^ j → C[s]? = some (-2147483648 : Int32)
set_option maxRecDepth 65536 in
set_option maxHeartbeats 40000000 in
theorem oc4 (l : Launch) (Z : State) (a0 : Array Value) (hw : ∀ d ∈ tables_1, d.before a0 Z = true) (n0 : Nat) (h : Heap) (o : Addr) (A : Fin 12 → Addr) (X : Fin 12 → List Int32) (nn nv j : Nat) (hj : j ≤ 20) (D : own_D Z n0 h o A X nn nv) : o_C l Z n0 oy4 prog_26_method_25_code 2 none (orm4 j) [(.ref o), (.int (Int32.ofNat (2 ^ j)))] h (fun v h' kc nc => v = none ∧ (∃ A' X', own_D Z n0 h' o A' X' nn nv ∧ (∀ i : Fin 12, (i.val < 4 ∨ 8 ≤ i.val) → A' i = A i ∧ X' i = X i) ∧ (∀ i, A' i = A i ∨ h.size ≤ A' i) ∧ (X' 4).length = 2 ^ j ∧ (X' 5).length = 2 ^ j ∧ (X' 6).length = 2 ^ j ∧ own_new (X' 7) j) ∧ Keep h h' [o] ∧ kc = 6 ∧ nc = 6 * 2 ^ j) := by
  refine o_body (Ls := [.val (.ref o), .val (.int (Int32.ofNat (2 ^ j)))]) pn4 (by first | (simp [argsToLocals, Value.category]; done) | rfl) (fun κ B => ?_)
  have pj : 2 ^ j ≤ 2 ^ 20 := Nat.pow_le_pow_right (by decide) hj
  have lt0 := o_lt D.E.lt
  have Z0 : n0 ≤ h.size := Nat.le_trans (o_le D.go) (Nat.le_of_lt lt0)
  obtain ⟨h0, eh0⟩ : ∃ x : Heap, x = h := ⟨h, rfl⟩
  have K : Keep h0 h [o] := by rw [eh0]; exact Keep.refl _ _
  have z0 : h0.size = h.size := by rw [eh0]
  have OA : ∀ i, A i = A i ∨ h0.size ≤ A i := fun i => Or.inl rfl
  refine o_aloadN (pc := 0) B d4_0 rfl rfl ?_
  refine o_iloadN (pc := 1) B d4_1 rfl ?_
  refine o_newarray (pc := 2) B (2 ^ j) (2 ^ j) d4_2 (hw _ (List.mem_of_getElem? (i := 19) rfl)) (rfl) (by first | decide | omega) (by first | decide | omega) (by first | decide | (dsimp only [orm4, orm5, orm6, orm9, orm10, orm11, orm12, orm13, orm14, orm15, orm16, orm17]; omega)) (by first | decide | (dsimp only [orm4, orm5, orm6, orm9, orm10, orm11, orm12, orm13, orm14, orm15, orm16, orm17]; omega)) ?_
  intro h1 E0 l0 B0
  have C0 : o_IA Z h1 h.size (List.replicate (2 ^ j) 0) := by show o_AR Z h1 h.size .int ((List.replicate (2 ^ j) (0 : Int32)).map Value.int); rw [List.map_replicate]; exact B0
  have fr0 : ∀ i, h.size ≠ A i := fun i => o_ne (by have := o_lt (D.Ar i).lt; omega)
  have fo0 : h.size ≠ o := o_ne (by have := o_lt D.E.lt; omega)
  refine o_putF (pc := 4) (ty := (.array .int)) B d4_4 (hw _ (List.mem_of_getElem? (i := 42) rfl)) ((D.ext E0).f4) ((D.ext E0).E) (Or.inl (hw _ (List.mem_of_getElem? (i := 43) rfl))) (hw _ (List.mem_of_getElem? (i := 1) rfl)) (by decide) rfl rfl (D.go) ?_
  intro h2 W0
  have g0 : n0 ≤ h.size := Nat.le_trans (o_le D.go) (Nat.le_of_lt (o_lt D.E.lt))
  have D0 := (D.ext E0).put hw 4 C0 g0 fo0 fr0 W0
  have K0 := (K.ext E0).wr W0 (Or.inl (List.mem_cons_self ..))
  obtain ⟨A0, eA0⟩ : ∃ y, y = own_upF A 4 h.size := ⟨_, rfl⟩
  obtain ⟨X0, eX0⟩ : ∃ y, y = own_upF X 4 (List.replicate (2 ^ j) (0 : Int32)) := ⟨_, rfl⟩
  rw [← eA0, ← eX0] at D0
  clear B0
  refine o_aloadN (pc := 7) B d4_7 rfl rfl ?_
  refine o_iloadN (pc := 8) B d4_8 rfl ?_
  refine o_newarray (pc := 9) B (2 ^ j) (2 ^ j) d4_9 (hw _ (List.mem_of_getElem? (i := 19) rfl)) (rfl) (by first | decide | omega) (by first | decide | omega) (by first | decide | (dsimp only [orm4, orm5, orm6, orm9, orm10, orm11, orm12, orm13, orm14, orm15, orm16, orm17]; omega)) (by first | decide | (dsimp only [orm4, orm5, orm6, orm9, orm10, orm11, orm12, orm13, orm14, orm15, orm16, orm17]; omega)) ?_
  intro h3 E1 l1 B1
  have C1 : o_IA Z h3 h2.size (List.replicate (2 ^ j) 0) := by show o_AR Z h3 h2.size .int ((List.replicate (2 ^ j) (0 : Int32)).map Value.int); rw [List.map_replicate]; exact B1
  have fr1 : ∀ i, h2.size ≠ A0 i := fun i => o_ne (by have := o_lt (D0.Ar i).lt; omega)
  have fo1 : h2.size ≠ o := o_ne (by have := o_lt D0.E.lt; omega)
  refine o_putF (pc := 11) (ty := (.array .int)) B d4_11 (hw _ (List.mem_of_getElem? (i := 44) rfl)) ((D0.ext E1).f5) ((D0.ext E1).E) (Or.inl (hw _ (List.mem_of_getElem? (i := 45) rfl))) (hw _ (List.mem_of_getElem? (i := 1) rfl)) (by decide) rfl rfl (D.go) ?_
  intro h4 W1
  have g1 : n0 ≤ h2.size := Nat.le_trans (o_le D.go) (Nat.le_of_lt (o_lt D0.E.lt))
  have D1 := (D0.ext E1).put hw 5 C1 g1 fo1 fr1 W1
  have K1 := (K0.ext E1).wr W1 (Or.inl (List.mem_cons_self ..))
  obtain ⟨A1, eA1⟩ : ∃ y, y = own_upF A0 5 h2.size := ⟨_, rfl⟩
  obtain ⟨X1, eX1⟩ : ∃ y, y = own_upF X0 5 (List.replicate (2 ^ j) (0 : Int32)) := ⟨_, rfl⟩
  rw [← eA1, ← eX1] at D1
  clear B1
  refine o_aloadN (pc := 14) B d4_14 rfl rfl ?_
  refine o_iloadN (pc := 15) B d4_15 rfl ?_
  refine o_newarray (pc := 16) B (2 ^ j) (2 ^ j) d4_16 (hw _ (List.mem_of_getElem? (i := 19) rfl)) (rfl) (by first | decide | omega) (by first | decide | omega) (by first | decide | (dsimp only [orm4, orm5, orm6, orm9, orm10, orm11, orm12, orm13, orm14, orm15, orm16, orm17]; omega)) (by first | decide | (dsimp only [orm4, orm5, orm6, orm9, orm10, orm11, orm12, orm13, orm14, orm15, orm16, orm17]; omega)) ?_
  intro h5 E2 l2 B2
  have C2 : o_IA Z h5 h4.size (List.replicate (2 ^ j) 0) := by show o_AR Z h5 h4.size .int ((List.replicate (2 ^ j) (0 : Int32)).map Value.int); rw [List.map_replicate]; exact B2
  have fr2 : ∀ i, h4.size ≠ A1 i := fun i => o_ne (by have := o_lt (D1.Ar i).lt; omega)
  have fo2 : h4.size ≠ o := o_ne (by have := o_lt D1.E.lt; omega)
  refine o_putF (pc := 18) (ty := (.array .int)) B d4_18 (hw _ (List.mem_of_getElem? (i := 46) rfl)) ((D1.ext E2).f6) ((D1.ext E2).E) (Or.inl (hw _ (List.mem_of_getElem? (i := 47) rfl))) (hw _ (List.mem_of_getElem? (i := 1) rfl)) (by decide) rfl rfl (D.go) ?_
  intro h6 W2
  have g2 : n0 ≤ h4.size := Nat.le_trans (o_le D.go) (Nat.le_of_lt (o_lt D1.E.lt))
  have D2 := (D1.ext E2).put hw 6 C2 g2 fo2 fr2 W2
  have K2 := (K1.ext E2).wr W2 (Or.inl (List.mem_cons_self ..))
  obtain ⟨A2, eA2⟩ : ∃ y, y = own_upF A1 6 h4.size := ⟨_, rfl⟩
  obtain ⟨X2, eX2⟩ : ∃ y, y = own_upF X1 6 (List.replicate (2 ^ j) (0 : Int32)) := ⟨_, rfl⟩
  rw [← eA2, ← eX2] at D2
  clear B2
  refine o_aloadN (pc := 21) B d4_21 rfl rfl ?_
  refine o_iloadN (pc := 22) B d4_22 rfl ?_
  refine o_newarray (pc := 23) B (2 ^ j) (2 ^ j) d4_23 (hw _ (List.mem_of_getElem? (i := 19) rfl)) (rfl) (by first | decide | omega) (by first | decide | omega) (by first | decide | (dsimp only [orm4, orm5, orm6, orm9, orm10, orm11, orm12, orm13, orm14, orm15, orm16, orm17]; omega)) (by first | decide | (dsimp only [orm4, orm5, orm6, orm9, orm10, orm11, orm12, orm13, orm14, orm15, orm16, orm17]; omega)) ?_
  intro h7 E3 l3 B3
  have C3 : o_IA Z h7 h6.size (List.replicate (2 ^ j) 0) := by show o_AR Z h7 h6.size .int ((List.replicate (2 ^ j) (0 : Int32)).map Value.int); rw [List.map_replicate]; exact B3
  have fr3 : ∀ i, h6.size ≠ A2 i := fun i => o_ne (by have := o_lt (D2.Ar i).lt; omega)
  have fo3 : h6.size ≠ o := o_ne (by have := o_lt D2.E.lt; omega)
  refine o_putF (pc := 25) (ty := (.array .int)) B d4_25 (hw _ (List.mem_of_getElem? (i := 48) rfl)) ((D2.ext E3).f7) ((D2.ext E3).E) (Or.inl (hw _ (List.mem_of_getElem? (i := 49) rfl))) (hw _ (List.mem_of_getElem? (i := 1) rfl)) (by decide) rfl rfl (D.go) ?_
  intro h8 W3
  have g3 : n0 ≤ h6.size := Nat.le_trans (o_le D.go) (Nat.le_of_lt (o_lt D2.E.lt))
  have D3 := (D2.ext E3).put hw 7 C3 g3 fo3 fr3 W3
  have K3 := (K2.ext E3).wr W3 (Or.inl (List.mem_cons_self ..))
  obtain ⟨A3, eA3⟩ : ∃ y, y = own_upF A2 7 h6.size := ⟨_, rfl⟩
  obtain ⟨X3, eX3⟩ : ∃ y, y = own_upF X2 7 (List.replicate (2 ^ j) (0 : Int32)) := ⟨_, rfl⟩
  rw [← eA3, ← eX3] at D3
  clear B3
  refine o_aloadN (pc := 28) B d4_28 rfl rfl ?_
  refine o_getF (pc := 29) B d4_29 (hw _ (List.mem_of_getElem? (i := 48) rfl)) (D3.f7) ?_
  refine o_ldc (pc := 32) B (x := (-2147483648 : Int32)) d4_32 (hw _ (List.mem_of_getElem? (i := 50) rfl)) ?_
  have e7 : X3 7 = List.replicate (2 ^ j) 0 := by rw [eX3, own_upF_eq]
  refine o_callS2 (pc := 34) B 0 d4_34 (hw _ (List.mem_of_getElem? (i := 51) rfl)) (hw _ (List.mem_of_getElem? (i := 52) rfl)) (hw _ (List.mem_of_getElem? (i := 53) rfl)) (hw _ (List.mem_of_getElem? (i := 54) rfl)) (by decide) pd5 rfl (by first | exact Nat.zero_le _ | exact Nat.le_of_ble_eq_true rfl | simp [Value.category]) (by first | decide | exact Nat.le_of_ble_eq_true rfl) (by first | decide | exact Nat.le_of_ble_eq_true rfl) (by first | decide | (dsimp only [orm4, orm5, orm6, orm9, orm10, orm11, orm12, orm13, orm14, orm15, orm16, orm17]; omega)) (by first | decide | (dsimp only [orm4, orm5, orm6, orm9, orm10, orm11, orm12, orm13, orm14, orm15, orm16, orm17]; omega)) rfl (oc5 l Z a0 hw n0 _ (A3 7) (-2147483648) (X3 7) (2 ^ j) (by rw [e7]; simp) (D3.ge 7) (D3.Ar 7)) ?_
  rintro _ h9 _ _ ⟨rfl, ⟨T, B9, eT, HT⟩, K9, rfl, rfl⟩ - -
  have D9 := D3.re 7 K9 B9
  have l9 : h8.size ≤ h9.size := K9.1
  have KA9 : Keep h0 h9 [o] := K3.trans K9 (fun x hx => Or.inr (by rw [List.mem_singleton.mp hx, eA3, own_upF_eq, z0]; have u1 := o_lt l0; have u2 := W0.size; have u3 := o_lt l1; have u4 := W1.size; have u5 := o_lt l2; have u6 := W2.size; show (_ : Nat) ≤ _; omega))
  obtain ⟨u1, F1⟩ := D9.S1
  refine o_aloadN (pc := 37) B d4_37 rfl rfl ?_
  refine o_iloadN (pc := 38) B d4_38 rfl ?_
  refine o_newarray (pc := 39) B (2 ^ j) (2 ^ j) d4_39 (hw _ (List.mem_of_getElem? (i := 16) rfl)) (rfl) (by first | decide | omega) (by first | decide | omega) (by first | decide | (dsimp only [orm4, orm5, orm6, orm9, orm10, orm11, orm12, orm13, orm14, orm15, orm16, orm17]; omega)) (by first | decide | (dsimp only [orm4, orm5, orm6, orm9, orm10, orm11, orm12, orm13, orm14, orm15, orm16, orm17]; omega)) ?_
  intro h10 E10 l10 B10
  have B10' : o_LA Z h10 h9.size (List.replicate (2 ^ j) 0) := by show o_AR Z h10 h9.size .long ((List.replicate (2 ^ j) (0 : Int64)).map Value.long); rw [List.map_replicate]; exact B10
  refine o_putF (pc := 41) (ty := (.array .long)) B d4_41 (hw _ (List.mem_of_getElem? (i := 55) rfl)) (F1.ext E10) ((D9.ext E10).E) (Or.inl (hw _ (List.mem_of_getElem? (i := 56) rfl))) (hw _ (List.mem_of_getElem? (i := 1) rfl)) (by decide) rfl rfl (D.go) ?_
  intro h11 W11
  have D11 := (D9.ext E10).sole1 hw W11
  have F11 := (F1.ext E10).same W11
  have o9 : o ≠ h9.size := o_ne (by have := o_lt D9.E.lt; omega)
  have B11 := B10'.other W11 (Ne.symm o9)
  obtain ⟨u2, F2⟩ := D11.S2
  refine o_aloadN (pc := 44) B d4_44 rfl rfl ?_
  refine o_iloadN (pc := 45) B d4_45 rfl ?_
  refine o_newarray (pc := 46) B (2 ^ j) (2 ^ j) d4_46 (hw _ (List.mem_of_getElem? (i := 19) rfl)) (rfl) (by first | decide | omega) (by first | decide | omega) (by first | decide | (dsimp only [orm4, orm5, orm6, orm9, orm10, orm11, orm12, orm13, orm14, orm15, orm16, orm17]; omega)) (by first | decide | (dsimp only [orm4, orm5, orm6, orm9, orm10, orm11, orm12, orm13, orm14, orm15, orm16, orm17]; omega)) ?_
  intro h12 E12 l12 B12
  refine o_putF (pc := 48) (ty := (.array .int)) B d4_48 (hw _ (List.mem_of_getElem? (i := 57) rfl)) (F2.ext E12) ((D11.ext E12).E) (Or.inl (hw _ (List.mem_of_getElem? (i := 58) rfl))) (hw _ (List.mem_of_getElem? (i := 1) rfl)) (by decide) rfl rfl (D.go) ?_
  intro h13 W13
  have D13 := (D11.ext E12).sole2 hw W13
  have F13 := (F11.ext E12).other W13 (Or.inr (slot_ne (C := own_DD) (Or.inl (hw _ (List.mem_of_getElem? (i := 56) rfl))) (Or.inl (hw _ (List.mem_of_getElem? (i := 58) rfl))) (by decide) (by decide : parseFieldDescriptor "[J" = some (.array .long)) (by decide : parseFieldDescriptor "[I" = some (.array .int))))
  have B13 := (B11.ext E12).other W13 (Ne.symm o9)
  refine o_aloadN (pc := 51) B d4_51 rfl rfl ?_
  refine o_getF (pc := 52) B d4_52 (hw _ (List.mem_of_getElem? (i := 55) rfl)) (F13) ?_
  refine o_ldc2_w (pc := 55) B (x := (-1 : Int64)) d4_55 (hw _ (List.mem_of_getElem? (i := 59) rfl)) ?_
  have g9 : n0 ≤ h9.size := Nat.le_trans (o_le D.go) (Nat.le_of_lt (o_lt D9.E.lt))
  refine o_callS2 (pc := 58) B 0 d4_58 (hw _ (List.mem_of_getElem? (i := 60) rfl)) (hw _ (List.mem_of_getElem? (i := 61) rfl)) (hw _ (List.mem_of_getElem? (i := 53) rfl)) (hw _ (List.mem_of_getElem? (i := 62) rfl)) (by decide) pd6 rfl (by first | exact Nat.zero_le _ | exact Nat.le_of_ble_eq_true rfl | simp [Value.category]) (by first | decide | exact Nat.le_of_ble_eq_true rfl) (by first | decide | exact Nat.le_of_ble_eq_true rfl) (by first | decide | (dsimp only [orm4, orm5, orm6, orm9, orm10, orm11, orm12, orm13, orm14, orm15, orm16, orm17]; omega)) (by first | decide | (dsimp only [orm4, orm5, orm6, orm9, orm10, orm11, orm12, orm13, orm14, orm15, orm16, orm17]; omega)) rfl (oc6 l Z a0 hw n0 _ h9.size (-1) _ (2 ^ j) (by simp) g9 B13) ?_
  rintro _ h14 _ _ ⟨rfl, K14, rfl, rfl⟩ - -
  have D14 := D13.keep K14 (by simpa using o9) (fun i => by simp only [List.mem_singleton]; exact o_ne (by have := o_lt (D9.Ar i).lt; omega))
  have up : h0.size ≤ h9.size := KA9.1
  have KA : Keep h0 h14 [o] := ((((KA9.ext E10).wr W11 (Or.inl (List.mem_cons_self ..))).ext E12).wr W13 (Or.inl (List.mem_cons_self ..))).trans K14 (fun x hx => Or.inr (by rw [List.mem_singleton.mp hx]; exact up))
  rw [eh0] at KA
  have AA : ∀ i : Fin 12, (i.val < 4 ∨ 8 ≤ i.val) → A3 i = A i ∧ own_upF X3 7 T i = X i := by
    intro i hi
    have n4 : i ≠ 4 := fun e => by rw [e] at hi; revert hi; decide
    have n5 : i ≠ 5 := fun e => by rw [e] at hi; revert hi; decide
    have n6 : i ≠ 6 := fun e => by rw [e] at hi; revert hi; decide
    have n7 : i ≠ 7 := fun e => by rw [e] at hi; revert hi; decide
    constructor
    · rw [eA3, own_upF_ne _ _ n7, eA2, own_upF_ne _ _ n6, eA1, own_upF_ne _ _ n5, eA0, own_upF_ne _ _ n4]
    · rw [own_upF_ne _ _ n7, eX3, own_upF_ne _ _ n7, eX2, own_upF_ne _ _ n6, eX1, own_upF_ne _ _ n5, eX0, own_upF_ne _ _ n4]
  have q0 := o_lt l0
  have q1 := o_lt l1
  have q2 := o_lt l2
  have w0 := W0.size
  have w1 := W1.size
  have w2 := W2.size
  have fresh : ∀ i, A3 i = A i ∨ h.size ≤ A3 i := by
    intro i
    by_cases n7 : i = 7
    · subst n7; right; rw [eA3, own_upF_eq]; show (_ : Nat) ≤ _; omega
    · rw [eA3, own_upF_ne _ _ n7]
      by_cases n6 : i = 6
      · subst n6; right; rw [eA2, own_upF_eq]; show (_ : Nat) ≤ _; omega
      · rw [eA2, own_upF_ne _ _ n6]
        by_cases n5 : i = 5
        · subst n5; right; rw [eA1, own_upF_eq]; show (_ : Nat) ≤ _; omega
        · rw [eA1, own_upF_ne _ _ n5]
          by_cases n4 : i = 4
          · subst n4; right; rw [eA0, own_upF_eq]; exact Nat.le_refl _
          · left; rw [eA0, own_upF_ne _ _ n4]
  have y4 : (own_upF X3 7 T 4).length = 2 ^ j := by rw [own_upF_ne _ _ (by decide), eX3, own_upF_ne _ _ (by decide), eX2, own_upF_ne _ _ (by decide), eX1, own_upF_ne _ _ (by decide), eX0, own_upF_eq]; simp
  have y5 : (own_upF X3 7 T 5).length = 2 ^ j := by rw [own_upF_ne _ _ (by decide), eX3, own_upF_ne _ _ (by decide), eX2, own_upF_ne _ _ (by decide), eX1, own_upF_eq]; simp
  have y6 : (own_upF X3 7 T 6).length = 2 ^ j := by rw [own_upF_ne _ _ (by decide), eX3, own_upF_ne _ _ (by decide), eX2, own_upF_eq]; simp
  have y7 : own_new (own_upF X3 7 T 7) j := by rw [own_upF_eq]; exact ⟨eT, HT⟩
  exact o_return (pc := 61) B d4_61 (by first | decide | (dsimp only [orm4, orm5, orm6, orm9, orm10, orm11, orm12, orm13, orm14, orm15, orm16, orm17]; omega)) (by first | decide | (dsimp only [orm4, orm5, orm6, orm9, orm10, orm11, orm12, orm13, orm14, orm15, orm16, orm17]; omega)) (⟨rfl, ⟨A3, own_upF X3 7 T, D14, AA, fresh, y4, y5, y6, y7⟩, KA, by omega, by omega⟩)
-- CUT
set_option maxRecDepth 65536 in
set_option maxHeartbeats 40000000 in
theorem own_ri (l : Launch) (Z : State) (a0 : Array Value) (hw : ∀ d ∈ tables_1, d.before a0 Z = true) (n0 : Nat) (h : Heap) (κ : o_K) (R : Room) (B : o_Bo κ l Z n0 R oy17 prog_26_method_24_code 4 none) (Q : Option Value → Heap → Nat → Nat → Prop) (k n : Nat) (o : Addr) (A : Fin 12 → Addr) (X : Fin 12 → List Int32) (nn nv j S d0 : Nat) (i : Int32) (hj : j ≤ 20) (D : own_D Z n0 h o A X nn nv) (hU : (X 3).length = 2 ^ j) (hz : (X 3)[own_pl j S d0]? = some 0) (hn : ∀ d, d < d0 → (X 3)[own_pl j S d]? ≠ some 0)
    (K : o_Go κ Q h k n 87 [.val (.ref o), .val (.int (Int32.ofNat (2 ^ j - 1))), .val (.int i), .val (.int (Int32.ofNat (own_pl j S d0)))] []) :
    ∀ m d, d + m = d0 → o_Go κ Q h k n 69 [.val (.ref o), .val (.int (Int32.ofNat (2 ^ j - 1))), .val (.int i), .val (.int (Int32.ofNat (own_pl j S d)))] [] := by
  have pj : 2 ^ j ≤ 2 ^ 20 := Nat.pow_le_pow_right (by decide) hj
  have pp : 0 < 2 ^ j := Nat.two_pow_pos j
  intro m
  induction m with
  | zero =>
    intro d hd
    have ed : d = d0 := by omega
    subst ed
    refine o_aloadN (pc := 69) B d17_69 rfl rfl ?_
    refine o_getF (pc := 70) B d17_70 (hw _ (List.mem_of_getElem? (i := 36) rfl)) (D.f3) ?_
    refine o_iloadN (pc := 73) B d17_73 rfl ?_
    refine o_iaload (pc := 74) B (own_pl j S d) d17_74 (D.Ar 3) (rfl) (own_mapI hz) ?_
    refine o_if_eq (pc := 75) (pc' := 87) B d17_75 (by decide) (by decide) (fun hc75 => ?_) (fun hc75 => False.elim ((hc75 rfl)))
    exact K
  | succ m ih =>
    intro d hd
    have hm : own_pl j S d < 2 ^ j := Nat.mod_lt _ pp
    have hx : (X 3)[own_pl j S d]? = some (X 3)[own_pl j S d] := List.getElem?_eq_getElem (by omega)
    have nx : (X 3)[own_pl j S d] ≠ 0 := fun e => hn d (by omega) (by rw [hx, e])
    refine o_aloadN (pc := 69) B d17_69 rfl rfl ?_
    refine o_getF (pc := 70) B d17_70 (hw _ (List.mem_of_getElem? (i := 36) rfl)) (D.f3) ?_
    refine o_iloadN (pc := 73) B d17_73 rfl ?_
    refine o_iaload (pc := 74) B (own_pl j S d) d17_74 (D.Ar 3) (rfl) (own_mapI hx) ?_
    refine o_if_eq (pc := 75) (pc' := 87) B d17_75 (by decide) (by decide) (fun hc75 => False.elim ((nx hc75))) (fun hc75 => ?_)
    refine o_iloadN (pc := 78) B d17_78 rfl ?_
    refine o_iconst (pc := 79) B (1 : Int32) d17_79 (by decide) ?_
    refine o_iadd (pc := 80) B d17_80 ?_
    refine o_iloadN (pc := 81) B d17_81 rfl ?_
    refine o_iand (pc := 82) B d17_82 ?_
    rw [own_step (by omega) hm, show (own_pl j S d + 1) % 2 ^ j = own_pl j S (d + 1) by unfold own_pl; rw [Nat.mod_add_mod, Nat.add_assoc]]
    refine o_istoreN_4_3 (pc := 83) B d17_83 rfl ?_
    refine o_goto (pc := 84) (pc' := 69) B d17_84 (by decide) (by decide) ?_
    exact ih (d + 1) (by omega)
set_option maxRecDepth 65536 in
set_option maxHeartbeats 40000000 in
theorem own_rh (l : Launch) (Z : State) (a0 : Array Value) (hw : ∀ d ∈ tables_1, d.before a0 Z = true) (n0 : Nat) (h1 : Heap) (κ : o_K) (jj : Nat) (B : o_Bo κ l Z n0 (orm17 jj) oy17 prog_26_method_24_code 4 none) (Q : Option Value → Heap → Nat → Nat → Prop) (k n : Nat) (hk : k ≤ 7) (hn : n ≤ 7 * 2 ^ (jj + 1)) (o : Addr) (A : Fin 12 → Addr) (X : Fin 12 → List Int32) (nn nv j : Nat) (N : own_Nd) (hj : j ≤ 20) (hnn : own_ct N = nn) (hlt : nn < 2 ^ j) (RR : own_R N (X 0) (X 1) (X 2))
    (K : ∀ h' U' s3, own_D Z n0 h' o A (own_upF X 3 U') nn nv → own_T own_H U' j N nn → Keep h1 h' [A 3] → o_Go κ Q h' k n 100 [.val (.ref o), .val (.int (Int32.ofNat (2 ^ j - 1))), .val (.int (Int32.ofNat nn)), s3] []) :
    ∀ (m i : Nat) (h : Heap) (U : List Int32) (s3 : Slot), o_ok1 s3 = true → 2 ≤ i → i + m = nn → own_D Z n0 h o A (own_upF X 3 U) nn nv → own_T own_H U j N i → Keep h1 h [A 3] → o_Go κ Q h k n 34 [.val (.ref o), .val (.int (Int32.ofNat (2 ^ j - 1))), .val (.int (Int32.ofNat i)), s3] [] := by
  have pj : 2 ^ j ≤ 2 ^ 20 := Nat.pow_le_pow_right (by decide) hj
  intro m
  induction m with
  | zero =>
    intro i h U s3 ho h2 hi D T KK
    have ei : i = nn := by omega
    subst ei
    refine o_iloadN (pc := 34) B d17_34 rfl ?_
    refine o_aloadN (pc := 35) B d17_35 rfl rfl ?_
    refine o_getF (pc := 36) B d17_36 (hw _ (List.mem_of_getElem? (i := 34) rfl)) (D.N) ?_
    refine o_icmp_ge (pc := 39) (pc' := 100) B d17_39 (by decide) (by decide) (fun hc39 => ?_) (fun hc39 => False.elim ((Int32.lt_irrefl hc39)))
    exact K h U s3 D T KK
  | succ m ih =>
    intro i h U s3 ho h2 hi D T KK
    obtain ⟨r0, r1, r2⟩ := RR.2.2 i h2 (by omega)
    have e0 : own_upF X 3 U 0 = X 0 := own_upF_ne _ _ (by decide)
    have e1 : own_upF X 3 U 1 = X 1 := own_upF_ne _ _ (by decide)
    have e2 : own_upF X 3 U 2 = X 2 := own_upF_ne _ _ (by decide)
    have e3 : own_upF X 3 U 3 = U := own_upF_eq _ _ _
    refine o_iloadN (pc := 34) B d17_34 rfl ?_
    refine o_aloadN (pc := 35) B d17_35 rfl rfl ?_
    refine o_getF (pc := 36) B d17_36 (hw _ (List.mem_of_getElem? (i := 34) rfl)) (D.N) ?_
    refine o_icmp_ge (pc := 39) (pc' := 100) B d17_39 (by decide) (by decide) (fun hc39 => False.elim ((hc39 ((own_ltn (by omega) (by omega)).mpr (by omega))))) (fun hc39 => ?_)
    refine o_aloadN (pc := 42) B d17_42 rfl rfl ?_
    refine o_getF (pc := 43) B d17_43 (hw _ (List.mem_of_getElem? (i := 28) rfl)) (D.f0) ?_
    refine o_iloadN (pc := 46) B d17_46 rfl ?_
    refine o_iaload (pc := 47) B (i) d17_47 (D.Ar 0) (rfl) (own_mapI (by rw [e0]; exact r0)) ?_
    refine o_aloadN (pc := 48) B d17_48 rfl rfl ?_
    refine o_getF (pc := 49) B d17_49 (hw _ (List.mem_of_getElem? (i := 30) rfl)) (D.f1) ?_
    refine o_iloadN (pc := 52) B d17_52 rfl ?_
    refine o_iaload (pc := 53) B (i) d17_53 (D.Ar 1) (rfl) (own_mapI (by rw [e1]; exact r1)) ?_
    refine o_aloadN (pc := 54) B d17_54 rfl rfl ?_
    refine o_getF (pc := 55) B d17_55 (hw _ (List.mem_of_getElem? (i := 32) rfl)) (D.f2) ?_
    refine o_iloadN (pc := 58) B d17_58 rfl ?_
    refine o_iaload (pc := 59) B (i) d17_59 (D.Ar 2) (rfl) (own_mapI (by rw [e2]; exact r2)) ?_
    refine o_aloadN (pc := 60) B d17_60 rfl rfl ?_
    refine o_getF (pc := 61) B d17_61 (hw _ (List.mem_of_getElem? (i := 36) rfl)) (D.f3) ?_
    refine o_arraylen (pc := 64) B (Int32.ofNat (2 ^ j)) d17_64 (D.Ar 3) (by rw [List.length_map, e3, T.1]) ?_
    refine o_callS4 (pc := 65) B 0 d17_65 (hw _ (List.mem_of_getElem? (i := 84) rfl)) (hw _ (List.mem_of_getElem? (i := 85) rfl)) (hw _ (List.mem_of_getElem? (i := 2) rfl)) (hw _ (List.mem_of_getElem? (i := 86) rfl)) (by decide) pd9 rfl (by first | exact Nat.zero_le _ | exact Nat.le_of_ble_eq_true rfl | simp [Value.category]) (by first | decide | exact Nat.le_of_ble_eq_true rfl) (by first | decide | exact Nat.le_of_ble_eq_true rfl) (by first | decide | (dsimp only [orm4, orm5, orm6, orm9, orm10, orm11, orm12, orm13, orm14, orm15, orm16, orm17]; omega)) (by first | decide | (dsimp only [orm4, orm5, orm6, orm9, orm10, orm11, orm12, orm13, orm14, orm15, orm16, orm17]; omega)) rfl (oc9 l Z a0 hw n0 _ (own_V N i) (own_Lo N i) (own_Hi N i) j (by omega)) ?_
    rintro _ h _ _ ⟨rfl, rfl, rfl, rfl⟩ - -
    obtain ⟨S, eS⟩ : ∃ S, S = own_H (own_V N i) (own_Lo N i) (own_Hi N i) := ⟨_, rfl⟩
    rw [← eS]
    refine o_istoreN_4_3 (pc := 68) B d17_68 ho ?_
    obtain ⟨d0, z0, z1⟩ := T.free (show i < 2 ^ j by omega) S
    have zz : (own_upF X 3 U 3)[own_pl j S d0]? = some 0 := by rw [e3]; exact z0
    rw [show S % 2 ^ j = own_pl j S 0 from congrArg (· % 2 ^ j) (Nat.add_zero S).symm]
    refine own_ri l Z a0 hw n0 _ κ _ B Q _ _ o A (own_upF X 3 U) nn nv j S d0 _ hj D (by rw [e3]; exact T.1) zz (by rw [e3]; exact z1) ?_ d0 0 (by omega)
    have hm : own_pl j S d0 < 2 ^ j := Nat.mod_lt _ (Nat.two_pow_pos j)
    refine o_aloadN (pc := 87) B d17_87 rfl rfl ?_
    refine o_getF (pc := 88) B d17_88 (hw _ (List.mem_of_getElem? (i := 36) rfl)) (D.f3) ?_
    refine o_iloadN (pc := 91) B d17_91 rfl ?_
    refine o_iloadN (pc := 92) B d17_92 rfl ?_
    refine o_iastore (pc := 93) B (own_pl j S d0) d17_93 (D.Ar 3) (rfl) (own_mltI (by rw [e3, T.1]; exact hm)) (D.ge 3) ?_
    intro h2_ W
    have D2 := D.wr 3 W
    rw [e3, own_upF_up] at D2
    refine o_iinc_4_2 (pc := 94) B (1 : Int32) (Int32.ofNat (i + 1)) d17_94 (by decide) (own_one i) ?_
    refine o_goto (pc := 97) (pc' := 34) B d17_97 (by decide) (by decide) ?_
    have T2 : own_T own_H (U.set (own_pl j S d0) (Int32.ofNat i)) j N (i + 1) := by
      rw [eS] at z0 z1 ⊢
      exact T.ins h2 (by omega) z0 z1
    exact ih (i + 1) h2_ _ _ rfl (by omega) (by omega) D2 T2 (KK.wr W (Or.inl (List.mem_cons_self ..)))
set_option maxRecDepth 65536 in
set_option maxHeartbeats 40000000 in
theorem oc17 (l : Launch) (Z : State) (a0 : Array Value) (hw : ∀ d ∈ tables_1, d.before a0 Z = true) (n0 : Nat) (h : Heap) (o : Addr) (A : Fin 12 → Addr) (X : Fin 12 → List Int32) (nn nv j : Nat) (N : own_Nd) (hj : j ≤ 18) (hnn : own_ct N = nn) (h2 : 2 ≤ nn) (hlt : nn < 2 ^ (j + 1)) (RR : own_R N (X 0) (X 1) (X 2)) (hU : (X 3).length = 2 ^ j) (hC : (X 7).length = 2 ^ j) (D : own_D Z n0 h o A X nn nv) : o_C l Z n0 oy17 prog_26_method_24_code 4 none (orm17 j) [(.ref o)] h (fun v h' kc nc => v = none ∧ (∃ A' X', own_D Z n0 h' o A' X' nn nv ∧ (∀ i : Fin 12, (i.val < 3 ∨ 8 ≤ i.val) → A' i = A i ∧ X' i = X i) ∧ (∀ i, A' i = A i ∨ h.size ≤ A' i) ∧ own_T own_H (X' 3) (j + 1) N nn ∧ (X' 4).length = 2 ^ (j + 1) ∧ (X' 5).length = 2 ^ (j + 1) ∧ (X' 6).length = 2 ^ (j + 1) ∧ own_new (X' 7) (j + 1)) ∧ Keep h h' [o] ∧ kc = 7 ∧ nc = 7 * 2 ^ (j + 1)) := by
  refine o_body (Ls := [.val (.ref o), .unset, .unset, .unset]) pn17 (by first | (simp [argsToLocals, Value.category]; done) | rfl) (fun κ B => ?_)
  have pj : 2 ^ j ≤ 2 ^ 18 := Nat.pow_le_pow_right (by decide) hj
  have ps : 2 ^ (j + 1) = 2 * 2 ^ j := by rw [Nat.pow_succ, Nat.mul_comm]
  have lt0 := o_lt D.E.lt
  refine o_aloadN (pc := 0) B d17_0 rfl rfl ?_
  refine o_aloadN (pc := 1) B d17_1 rfl rfl ?_
  refine o_getF (pc := 2) B d17_2 (hw _ (List.mem_of_getElem? (i := 36) rfl)) (D.f3) ?_
  refine o_arraylen (pc := 5) B (Int32.ofNat (2 ^ j)) d17_5 (D.Ar 3) (by rw [List.length_map, hU]) ?_
  refine o_ldc2_w (pc := 6) B (x := (2 : Int64)) d17_6 (hw _ (List.mem_of_getElem? (i := 97) rfl)) ?_
  refine o_aloadN (pc := 9) B d17_9 rfl rfl ?_
  refine o_getF (pc := 10) B d17_10 (hw _ (List.mem_of_getElem? (i := 36) rfl)) (D.f3) ?_
  refine o_arraylen (pc := 13) B (Int32.ofNat (2 ^ j)) d17_13 (D.Ar 3) (by rw [List.length_map, hU]) ?_
  refine o_i2l (pc := 14) B d17_14 ?_
  refine o_lmul (pc := 15) B d17_15 ?_
  rw [own_wide (by omega), show (2 : Int64) * Int64.ofNat (2 ^ j) = Int64.ofNat (2 * 2 ^ j) by rw [Int64.ofNat_mul]; rfl]
  refine o_callS2 (pc := 16) B 1 d17_16 (hw _ (List.mem_of_getElem? (i := 98) rfl)) (hw _ (List.mem_of_getElem? (i := 99) rfl)) (hw _ (List.mem_of_getElem? (i := 89) rfl)) (hw _ (List.mem_of_getElem? (i := 100) rfl)) (by decide) pd12 rfl (by first | exact Nat.zero_le _ | exact Nat.le_of_ble_eq_true rfl | simp [Value.category]) (by first | decide | exact Nat.le_of_ble_eq_true rfl) (by first | decide | exact Nat.le_of_ble_eq_true rfl) (by first | decide | (dsimp only [orm4, orm5, orm6, orm9, orm10, orm11, orm12, orm13, orm14, orm15, orm16, orm17]; omega)) (by first | decide | (dsimp only [orm4, orm5, orm6, orm9, orm10, orm11, orm12, orm13, orm14, orm15, orm16, orm17]; omega)) rfl (oc12 l Z a0 hw n0 _ (2 ^ j) (2 * 2 ^ j) (by omega) (Nat.le_refl _)) ?_
  rintro _ h _ _ ⟨rfl, rfl, rfl, rfl⟩ - -
  rw [← ps]
  refine o_newarray (pc := 19) B (2 ^ (j + 1)) (2 ^ (j + 1)) d17_19 (hw _ (List.mem_of_getElem? (i := 19) rfl)) (rfl) (by first | decide | omega) (by first | decide | omega) (by first | decide | (dsimp only [orm4, orm5, orm6, orm9, orm10, orm11, orm12, orm13, orm14, orm15, orm16, orm17]; omega)) (by first | decide | (dsimp only [orm4, orm5, orm6, orm9, orm10, orm11, orm12, orm13, orm14, orm15, orm16, orm17]; omega)) ?_
  intro h1 E1 l1 B1
  have C1 : o_IA Z h1 h.size (List.replicate (2 ^ (j + 1)) 0) := by show o_AR Z h1 h.size .int ((List.replicate (2 ^ (j + 1)) (0 : Int32)).map Value.int); rw [List.map_replicate]; exact B1
  have fr1 : ∀ i, h.size ≠ A i := fun i => o_ne (Nat.ne_of_gt (o_lt (D.Ar i).lt))
  have fo1 : h.size ≠ o := o_ne (Nat.ne_of_gt (o_lt D.E.lt))
  refine o_putF (pc := 21) (ty := (.array .int)) B d17_21 (hw _ (List.mem_of_getElem? (i := 36) rfl)) ((D.ext E1).f3) ((D.ext E1).E) (Or.inl (hw _ (List.mem_of_getElem? (i := 37) rfl))) (hw _ (List.mem_of_getElem? (i := 1) rfl)) (by decide) rfl rfl (D.go) ?_
  intro h2_ W1
  have g1 : n0 ≤ h.size := Nat.le_trans (o_le D.go) (Nat.le_of_lt (o_lt D.E.lt))
  have D1 := (D.ext E1).put hw 3 C1 g1 fo1 fr1 W1
  have s1 := W1.size
  have l1' := o_lt l1
  have KK1 : Keep h h2_ [o] := (((Keep.refl h [o]).ext E1).wr W1 (Or.inl (List.mem_cons_self ..)))
  refine o_aloadN (pc := 24) B d17_24 rfl rfl ?_
  refine o_getF (pc := 25) B d17_25 (hw _ (List.mem_of_getElem? (i := 36) rfl)) (D1.f3) ?_
  refine o_arraylen (pc := 28) B (Int32.ofNat (2 ^ (j + 1))) d17_28 (D1.Ar 3) (by rw [List.length_map, own_upF_eq]; simp) ?_
  refine o_iconst (pc := 29) B (1 : Int32) d17_29 (by decide) ?_
  refine o_isub (pc := 30) B d17_30 ?_
  rw [own_sub1 (by omega)]
  refine o_istoreN_4_1 (pc := 31) B d17_31 rfl ?_
  refine o_iconst (pc := 32) B (2 : Int32) d17_32 (by decide) ?_
  refine o_istoreN_4_2 (pc := 33) B d17_33 rfl ?_
  rw [show (2 : Int32) = Int32.ofNat 2 from rfl]
  refine own_rh l Z a0 hw n0 h2_ κ j B _ _ _ (by omega) (by omega) o (own_upF A 3 h.size) X nn nv (j + 1) N (by omega) hnn hlt RR ?_ (nn - 2) 2 h2_ (List.replicate (2 ^ (j + 1)) 0) .unset rfl (Nat.le_refl _) (by omega) D1 (own_T.new own_H (j + 1) N) (Keep.refl _ _)
  intro h3 U' s3 D3 T3 K3
  have e7 : own_upF X 3 U' 7 = X 7 := own_upF_ne _ _ (by decide)
  have mn : ∀ b : Nat, b ≤ 2 ^ 19 → (if (4194304 : Int32) < Int32.ofNat b then (4194304 : Int32) else Int32.ofNat b) = Int32.ofNat b := fun b hb => if_neg (fun q => by rw [show (4194304 : Int32) = Int32.ofNat 4194304 from rfl, own_ltn (by decide) (by omega)] at q; omega)
  refine o_aloadN (pc := 100) B d17_100 rfl rfl ?_
  refine o_getF (pc := 101) B d17_101 (hw _ (List.mem_of_getElem? (i := 48) rfl)) (D3.f7) ?_
  refine o_arraylen (pc := 104) B (Int32.ofNat (2 ^ j)) d17_104 (D3.Ar 7) (by rw [List.length_map, e7, hC]) ?_
  refine o_aloadN (pc := 105) B d17_105 rfl rfl ?_
  refine o_getF (pc := 106) B d17_106 (hw _ (List.mem_of_getElem? (i := 36) rfl)) (D3.f3) ?_
  refine o_arraylen (pc := 109) B (Int32.ofNat (2 ^ (j + 1))) d17_109 (D3.Ar 3) (by rw [List.length_map, own_upF_eq, T3.1]) ?_
  refine o_ldc (pc := 110) B (x := (4194304 : Int32)) d17_110 (hw _ (List.mem_of_getElem? (i := 124) rfl)) ?_
  refine o_callS2 (pc := 112) B 1 d17_112 (hw _ (List.mem_of_getElem? (i := 125) rfl)) (hw _ (List.mem_of_getElem? (i := 114) rfl)) (hw _ (List.mem_of_getElem? (i := 105) rfl)) (hw _ (List.mem_of_getElem? (i := 115) rfl)) (by decide) pd16 rfl (by first | exact Nat.zero_le _ | exact Nat.le_of_ble_eq_true rfl | simp [Value.category]) (by first | decide | exact Nat.le_of_ble_eq_true rfl) (by first | decide | exact Nat.le_of_ble_eq_true rfl) (by first | decide | (dsimp only [orm4, orm5, orm6, orm9, orm10, orm11, orm12, orm13, orm14, orm15, orm16, orm17]; omega)) (by first | decide | (dsimp only [orm4, orm5, orm6, orm9, orm10, orm11, orm12, orm13, orm14, orm15, orm16, orm17]; omega)) rfl (oc16 l Z a0 hw n0 _ _ _) ?_
  rintro _ h3 _ _ ⟨rfl, rfl, rfl, rfl⟩ - -
  rw [mn _ (by omega)]
  refine o_icmp_ge (pc := 115) (pc' := 132) B d17_115 (by decide) (by decide) (fun hc115 => False.elim ((hc115 ((own_ltn (by omega) (by omega)).mpr (by omega))))) (fun hc115 => ?_)
  refine o_aloadN (pc := 118) B d17_118 rfl rfl ?_
  refine o_aloadN (pc := 119) B d17_119 rfl rfl ?_
  refine o_getF (pc := 120) B d17_120 (hw _ (List.mem_of_getElem? (i := 36) rfl)) (D3.f3) ?_
  refine o_arraylen (pc := 123) B (Int32.ofNat (2 ^ (j + 1))) d17_123 (D3.Ar 3) (by rw [List.length_map, own_upF_eq, T3.1]) ?_
  refine o_ldc (pc := 124) B (x := (4194304 : Int32)) d17_124 (hw _ (List.mem_of_getElem? (i := 124) rfl)) ?_
  refine o_callS2 (pc := 126) B 1 d17_126 (hw _ (List.mem_of_getElem? (i := 125) rfl)) (hw _ (List.mem_of_getElem? (i := 114) rfl)) (hw _ (List.mem_of_getElem? (i := 105) rfl)) (hw _ (List.mem_of_getElem? (i := 115) rfl)) (by decide) pd16 rfl (by first | exact Nat.zero_le _ | exact Nat.le_of_ble_eq_true rfl | simp [Value.category]) (by first | decide | exact Nat.le_of_ble_eq_true rfl) (by first | decide | exact Nat.le_of_ble_eq_true rfl) (by first | decide | (dsimp only [orm4, orm5, orm6, orm9, orm10, orm11, orm12, orm13, orm14, orm15, orm16, orm17]; omega)) (by first | decide | (dsimp only [orm4, orm5, orm6, orm9, orm10, orm11, orm12, orm13, orm14, orm15, orm16, orm17]; omega)) rfl (oc16 l Z a0 hw n0 _ _ _) ?_
  rintro _ h3 _ _ ⟨rfl, rfl, rfl, rfl⟩ - -
  rw [mn _ (by omega)]
  refine o_callP1 (pc := 129) B 0 d17_129 (hw _ (List.mem_of_getElem? (i := 38) rfl)) (hw _ (List.mem_of_getElem? (i := 39) rfl)) (hw _ (List.mem_of_getElem? (i := 40) rfl)) (hw _ (List.mem_of_getElem? (i := 1) rfl)) (hw _ (List.mem_of_getElem? (i := 2) rfl)) (hw _ (List.mem_of_getElem? (i := 41) rfl)) (by decide) pd4 rfl (by first | exact Nat.zero_le _ | exact Nat.le_of_ble_eq_true rfl | simp [Value.category]) (by first | decide | exact Nat.le_of_ble_eq_true rfl) (by first | decide | exact Nat.le_of_ble_eq_true rfl) (by first | decide | (dsimp only [orm4, orm5, orm6, orm9, orm10, orm11, orm12, orm13, orm14, orm15, orm16, orm17]; omega)) (by first | decide | (dsimp only [orm4, orm5, orm6, orm9, orm10, orm11, orm12, orm13, orm14, orm15, orm16, orm17]; omega)) rfl (D3.E) (oc4 l Z a0 hw n0 _ o _ _ nn nv (j + 1) (by omega) D3) ?_
  rintro _ h4 _ _ ⟨rfl, ⟨A4, X4, D4, G1, G2, G3, G4, G5, G6⟩, K4, rfl, rfl⟩ - -
  have q3 := K3.1
  have KA : Keep h h4 [o] := (KK1.trans K3 (fun x hx => Or.inr (by rw [List.mem_singleton.mp hx, own_upF_eq]; exact Nat.le_refl _))).trans K4 (fun x hx => Or.inl hx)
  have P1 : ∀ i : Fin 12, (i.val < 3 ∨ 8 ≤ i.val) → A4 i = A i ∧ X4 i = X i := fun i hi => by
    have n3 : i ≠ 3 := fun e => by rw [e] at hi; revert hi; decide
    obtain ⟨a, b⟩ := G1 i (by omega)
    exact ⟨by rw [a, own_upF_ne _ _ n3], by rw [b, own_upF_ne _ _ n3]⟩
  have P2 : ∀ i, A4 i = A i ∨ h.size ≤ A4 i := fun i => by
    rcases G2 i with q | q
    · by_cases n3 : i = 3
      · subst n3; right; rw [q, own_upF_eq]; exact Nat.le_refl _
      · left; rw [q, own_upF_ne _ _ n3]
    · right; show (_ : Nat) ≤ _; have q' := o_le q; omega
  have P3 : own_T own_H (X4 3) (j + 1) N nn := by rw [(G1 3 (Or.inl (by decide))).2, own_upF_eq]; exact T3
  exact o_return (pc := 132) B d17_132 (by first | decide | (dsimp only [orm4, orm5, orm6, orm9, orm10, orm11, orm12, orm13, orm14, orm15, orm16, orm17]; omega)) (by first | decide | (dsimp only [orm4, orm5, orm6, orm9, orm10, orm11, orm12, orm13, orm14, orm15, orm16, orm17]; omega)) (⟨rfl, ⟨A4, X4, D4, P1, P2, P3, G3, G4, G5, G6⟩, KA, by omega, by omega⟩)
-- CUT
/-- the state is in order: 2 ^ c places for nodes, 2 ^ j in the tables -/
def own_W (N : own_Nd) (X : Fin 12 → List Int32) (c j : Nat) : Prop :=
  own_BN N ∧ own_Cn N ∧ own_R N (X 0) (X 1) (X 2) ∧ ((X 0).length = 2 ^ c ∧ (X 1).length = 2 ^ c ∧ (X 2).length = 2 ^ c) ∧ (own_ct N ≤ 2 ^ c ∧ 2 ≤ c ∧ c ≤ 5) ∧ own_T own_H (X 3) j N (own_ct N) ∧ (3 ≤ j ∧ j ≤ 6 ∧ 2 * own_ct N ≤ 2 ^ j) ∧ ((X 4).length = 2 ^ j ∧ (X 5).length = 2 ^ j ∧ (X 6).length = 2 ^ j ∧ (X 7).length = 2 ^ j) ∧ ∀ s, s < 2 ^ j → own_Ce N (X 4) (X 5) (X 6) (X 7) s
set_option maxRecDepth 65536 in
set_option maxHeartbeats 40000000 in
theorem own_np (l : Launch) (Z : State) (a0 : Array Value) (hw : ∀ d ∈ tables_1, d.before a0 Z = true) (n0 : Nat) (h : Heap) (κ : o_K) (R : Room) (B : o_Bo κ l Z n0 R oy8 prog_26_method_22_code 7 (some .int)) (Q : Option Value → Heap → Nat → Nat → Prop) (k n : Nat) (o : Addr) (A : Fin 12 → Addr) (X : Fin 12 → List Int32) (nv c j v lo hi S d0 : Nat) (N : own_Nd) (D : own_D Z n0 h o A X (own_ct N) nv) (W : own_W N X c j) (hv : v < 3) (hlo : lo < own_ct N) (hhi : hi < own_ct N) (hn : ∀ d, d < d0 → ¬ own_Stp (X 3) N v lo hi (own_pl j S d))
    (K : ∀ s6, o_ok1 s6 = true → o_Go κ Q h k n 29 [.val (.ref o), .val (.int (Int32.ofNat v)), .val (.int (Int32.ofNat lo)), .val (.int (Int32.ofNat hi)), .val (.int (Int32.ofNat (2 ^ j - 1))), .val (.int (Int32.ofNat (own_pl j S d0))), s6] []) :
    ∀ (m d : Nat) (s6 : Slot), o_ok1 s6 = true → d + m = d0 → o_Go κ Q h k n 29 [.val (.ref o), .val (.int (Int32.ofNat v)), .val (.int (Int32.ofNat lo)), .val (.int (Int32.ofNat hi)), .val (.int (Int32.ofNat (2 ^ j - 1))), .val (.int (Int32.ofNat (own_pl j S d))), s6] [] := by
  obtain ⟨BN, Cn, RR, LL, ⟨c1, c2, c3⟩, T, ⟨j1, j2, j3⟩, CL, CE⟩ := W
  have pj : 2 ^ j ≤ 2 ^ 6 := Nat.pow_le_pow_right (by decide) j2
  have pp : 0 < 2 ^ j := Nat.two_pow_pos j
  intro m
  induction m with
  | zero =>
    intro d s6 ho hd
    have ed : d = d0 := by omega
    subst ed
    exact K s6 ho
  | succ m ih =>
    intro d s6 ho hd
    have hm : own_pl j S d < 2 ^ j := Nat.mod_lt _ pp
    have nx := hn d (by omega)
    obtain ⟨i, u1, u2⟩ := T.2.2.2 _ hm
    have i2 : 2 ≤ i ∧ i < own_ct N := u2.resolve_left (fun e => nx ⟨i, by omega, u1, Or.inl e⟩)
    have ne : ¬ (own_V N i = v ∧ own_Lo N i = lo ∧ own_Hi N i = hi) := fun e => nx ⟨i, by omega, u1, Or.inr e⟩
    obtain ⟨r0, r1, r2⟩ := RR.2.2 i i2.1 i2.2
    obtain ⟨b0, b1, b2, -⟩ := BN.2.2.2 i i2.1 i2.2
    have T84 : ∀ s6, o_ok1 s6 = true → o_Go κ Q h k n 84 [.val (.ref o), .val (.int (Int32.ofNat v)), .val (.int (Int32.ofNat lo)), .val (.int (Int32.ofNat hi)), .val (.int (Int32.ofNat (2 ^ j - 1))), .val (.int (Int32.ofNat (own_pl j S d))), s6] [] := by
      intro s6 ho
      refine o_iload (pc := 84) B d8_84 rfl ?_
      refine o_iconst (pc := 86) B (1 : Int32) d8_86 (by decide) ?_
      refine o_iadd (pc := 87) B d8_87 ?_
      refine o_iload (pc := 88) B d8_88 rfl ?_
      refine o_iand (pc := 90) B d8_90 ?_
      rw [own_step (by omega) hm, show (own_pl j S d + 1) % 2 ^ j = own_pl j S (d + 1) by unfold own_pl; rw [Nat.mod_add_mod, Nat.add_assoc]]
      refine o_istore_7_5 (pc := 91) B d8_91 rfl ?_
      refine o_goto (pc := 93) (pc' := 29) B d8_93 (by decide) (by decide) ?_
      exact ih (d + 1) _ ho (by omega)
    refine o_aloadN (pc := 29) B d8_29 rfl rfl ?_
    refine o_getF (pc := 30) B d8_30 (hw _ (List.mem_of_getElem? (i := 36) rfl)) (D.f3) ?_
    refine o_iload (pc := 33) B d8_33 rfl ?_
    refine o_iaload (pc := 35) B (own_pl j S d) d8_35 (D.Ar 3) (rfl) (own_mapI u1) ?_
    refine o_if_eq (pc := 36) (pc' := 96) B d8_36 (by decide) (by decide) (fun hc36 => False.elim ((own_ne0 (a := i) (by omega) (by omega) hc36))) (fun hc36 => ?_)
    refine o_aloadN (pc := 39) B d8_39 rfl rfl ?_
    refine o_getF (pc := 40) B d8_40 (hw _ (List.mem_of_getElem? (i := 36) rfl)) (D.f3) ?_
    refine o_iload (pc := 43) B d8_43 rfl ?_
    refine o_iaload (pc := 45) B (own_pl j S d) d8_45 (D.Ar 3) (rfl) (own_mapI u1) ?_
    refine o_istore_7_6 (pc := 46) B d8_46 ho ?_
    refine o_aloadN (pc := 48) B d8_48 rfl rfl ?_
    refine o_getF (pc := 49) B d8_49 (hw _ (List.mem_of_getElem? (i := 28) rfl)) (D.f0) ?_
    refine o_iload (pc := 52) B d8_52 rfl ?_
    refine o_iaload (pc := 54) B (i) d8_54 (D.Ar 0) (rfl) (own_mapI r0) ?_
    refine o_iloadN (pc := 55) B d8_55 rfl ?_
    refine o_icmp_ne (pc := 56) (pc' := 84) B d8_56 (by decide) (by decide) (fun hc56 => ?_) (fun hc56 => ?_)
    · exact T84 _ rfl
    have e0 : own_V N i = v := (own_inj (by omega) (by omega)).mp hc56
    refine o_aloadN (pc := 59) B d8_59 rfl rfl ?_
    refine o_getF (pc := 60) B d8_60 (hw _ (List.mem_of_getElem? (i := 30) rfl)) (D.f1) ?_
    refine o_iload (pc := 63) B d8_63 rfl ?_
    refine o_iaload (pc := 65) B (i) d8_65 (D.Ar 1) (rfl) (own_mapI r1) ?_
    refine o_iloadN (pc := 66) B d8_66 rfl ?_
    refine o_icmp_ne (pc := 67) (pc' := 84) B d8_67 (by decide) (by decide) (fun hc67 => ?_) (fun hc67 => ?_)
    · exact T84 _ rfl
    have e1 : own_Lo N i = lo := (own_inj (by omega) (by omega)).mp hc67
    refine o_aloadN (pc := 70) B d8_70 rfl rfl ?_
    refine o_getF (pc := 71) B d8_71 (hw _ (List.mem_of_getElem? (i := 32) rfl)) (D.f2) ?_
    refine o_iload (pc := 74) B d8_74 rfl ?_
    refine o_iaload (pc := 76) B (i) d8_76 (D.Ar 2) (rfl) (own_mapI r2) ?_
    refine o_iloadN (pc := 77) B d8_77 rfl ?_
    refine o_icmp_ne (pc := 78) (pc' := 84) B d8_78 (by decide) (by decide) (fun hc78 => ?_) (fun hc78 => ?_)
    · exact T84 _ rfl
    have e2 : own_Hi N i = hi := (own_inj (by omega) (by omega)).mp hc78
    exact absurd ⟨e0, e1, e2⟩ ne
abbrev orm8 (c j : Nat) : Room := { frames := 3, cells := 3 * (5 - c) + 7 * (6 - j), slots := 3 * (64 - 2 * 2 ^ c) + 7 * (128 - 2 * 2 ^ j), locals := 55 }
/-- what node() leaves: node r, more nodes, other arrays; what was made -/
def own_Pn (Z : State) (n0 : Nat) (h : Heap) (o : Addr) (A : Fin 12 → Addr) (X : Fin 12 → List Int32) (nv c j v lo hi : Nat) (N : own_Nd) (v_ : Option Value) (h' : Heap) (kc nc : Nat) : Prop :=
  ∃ r N' A' X' c' j', v_ = some (.int (Int32.ofNat r)) ∧ own_D Z n0 h' o A' X' (own_ct N') nv ∧ own_W N' X' c' j' ∧ own_Ext N N' ∧ r < own_ct N' ∧ own_M N' r = own_ite v (own_M N hi) (own_M N lo) ∧ own_l N' r ≤ v + 1 ∧ own_b N' ≤ own_b N + (if v = 0 then 0 else 1) ∧ (∀ i : Fin 12, 8 ≤ i.val → A' i = A i ∧ X' i = X i) ∧ (∀ i, A' i = A i ∨ h.size ≤ A' i) ∧ Keep h h' [o, A 0, A 1, A 2, A 3] ∧ (c ≤ c' ∧ j ≤ j') ∧ kc = 3 * (c' - c) + 7 * (j' - j) ∧ nc = 3 * (2 * 2 ^ c' - 2 * 2 ^ c) + 7 * (2 * 2 ^ j' - 2 * 2 ^ j)
set_option maxRecDepth 65536 in
set_option maxHeartbeats 40000000 in
theorem oc8 (l : Launch) (Z : State) (a0 : Array Value) (hw : ∀ d ∈ tables_1, d.before a0 Z = true) (n0 : Nat) (h : Heap) (o : Addr) (A : Fin 12 → Addr) (X : Fin 12 → List Int32) (nv c j v lo hi : Nat) (N : own_Nd) (D : own_D Z n0 h o A X (own_ct N) nv) (W : own_W N X c j) (hv : v < 3) (hlo : lo < own_ct N) (hhi : hi < own_ct N) (l1 : own_l N lo ≤ v) (l2 : own_l N hi ≤ v) (hlt : own_ct N < 32) : o_C l Z n0 oy8 prog_26_method_22_code 7 (some .int) (orm8 c j) [(.ref o), (.int (Int32.ofNat v)), (.int (Int32.ofNat lo)), (.int (Int32.ofNat hi))] h (own_Pn Z n0 h o A X nv c j v lo hi N) := by
  refine o_body (Ls := [.val (.ref o), .val (.int (Int32.ofNat v)), .val (.int (Int32.ofNat lo)), .val (.int (Int32.ofNat hi)), .unset, .unset, .unset]) pn8 (by first | (simp [argsToLocals, Value.category]; done) | rfl) (fun κ B => ?_)
  have W0 := W
  obtain ⟨BN, Cn, RR, ⟨L0, L1, L2⟩, ⟨c1, c2, c3⟩, T, ⟨j1, j2, j3⟩, ⟨C4, C5, C6, C7⟩, CE⟩ := W
  have pj : 2 ^ j ≤ 2 ^ 6 := Nat.pow_le_pow_right (by decide) j2
  have pc_ : 2 ^ c ≤ 2 ^ 5 := Nat.pow_le_pow_right (by decide) c3
  refine o_iloadN (pc := 0) B d8_0 rfl ?_
  refine o_iloadN (pc := 1) B d8_1 rfl ?_
  refine o_icmp_ne (pc := 2) (pc' := 7) B d8_2 (by decide) (by decide) (fun hc2 => ?_) (fun hc2 => ?_)
  rotate_left
  · have e : lo = hi := (own_inj (by omega) (by omega)).mp hc2
    refine o_iloadN (pc := 5) B d8_5 rfl ?_
    exact o_ireturn (pc := 6) B d8_6 (by first | decide | (dsimp only [orm8, orm9, orm12, orm15, orm17]; omega)) (by first | decide | (dsimp only [orm8, orm9, orm12, orm15, orm17]; omega)) (⟨lo, N, A, X, c, j, rfl, D, W0, own_Ext.refl N, hlo, by rw [← e, own_ite_same], by omega, Nat.le_add_right _ _, fun i _ => ⟨rfl, rfl⟩, fun i => Or.inl rfl, Keep.refl _ _, ⟨Nat.le_refl _, Nat.le_refl _⟩, by omega, by omega⟩)
  have ne : lo ≠ hi := fun e => hc2 (by rw [e])
  refine o_aloadN (pc := 7) B d8_7 rfl rfl ?_
  refine o_getF (pc := 8) B d8_8 (hw _ (List.mem_of_getElem? (i := 36) rfl)) (D.f3) ?_
  refine o_arraylen (pc := 11) B (Int32.ofNat (2 ^ j)) d8_11 (D.Ar 3) (by rw [List.length_map, T.1]) ?_
  refine o_iconst (pc := 12) B (1 : Int32) d8_12 (by decide) ?_
  refine o_isub (pc := 13) B d8_13 ?_
  rw [own_sub1 (by omega)]
  refine o_istore_7_4 (pc := 14) B d8_14 rfl ?_
  refine o_iloadN (pc := 16) B d8_16 rfl ?_
  refine o_iloadN (pc := 17) B d8_17 rfl ?_
  refine o_iloadN (pc := 18) B d8_18 rfl ?_
  refine o_aloadN (pc := 19) B d8_19 rfl rfl ?_
  refine o_getF (pc := 20) B d8_20 (hw _ (List.mem_of_getElem? (i := 36) rfl)) (D.f3) ?_
  refine o_arraylen (pc := 23) B (Int32.ofNat (2 ^ j)) d8_23 (D.Ar 3) (by rw [List.length_map, T.1]) ?_
  refine o_callS4 (pc := 24) B 0 d8_24 (hw _ (List.mem_of_getElem? (i := 84) rfl)) (hw _ (List.mem_of_getElem? (i := 85) rfl)) (hw _ (List.mem_of_getElem? (i := 2) rfl)) (hw _ (List.mem_of_getElem? (i := 86) rfl)) (by decide) pd9 rfl (by first | exact Nat.zero_le _ | exact Nat.le_of_ble_eq_true rfl | simp [Value.category]) (by first | decide | exact Nat.le_of_ble_eq_true rfl) (by first | decide | exact Nat.le_of_ble_eq_true rfl) (by first | decide | (dsimp only [orm8, orm9, orm12, orm15, orm17]; omega)) (by first | decide | (dsimp only [orm8, orm9, orm12, orm15, orm17]; omega)) rfl (oc9 l Z a0 hw n0 _ v lo hi j (by omega)) ?_
  rintro _ h _ _ ⟨rfl, rfl, rfl, rfl⟩ - -
  obtain ⟨S, eS⟩ : ∃ S, S = own_H v lo hi := ⟨_, rfl⟩
  rw [← eS]
  refine o_istore_7_5 (pc := 27) B d8_27 rfl ?_
  obtain ⟨d0, q1, q2⟩ := T.find (show own_ct N < 2 ^ j by omega) v lo hi S
  rw [show S % 2 ^ j = own_pl j S 0 from congrArg (· % 2 ^ j) (Nat.add_zero S).symm]
  refine own_np l Z a0 hw n0 h κ _ B _ _ _ o A X nv c j v lo hi S d0 N D W0 hv hlo hhi q2 ?_ d0 0 .unset rfl (by omega)
  intro s6 ho
  obtain ⟨i, i31, u1, u2⟩ := q1
  have hm : own_pl j S d0 < 2 ^ j := Nat.mod_lt _ (Nat.two_pow_pos j)
  refine o_aloadN (pc := 29) B d8_29 rfl rfl ?_
  refine o_getF (pc := 30) B d8_30 (hw _ (List.mem_of_getElem? (i := 36) rfl)) (D.f3) ?_
  refine o_iload (pc := 33) B d8_33 rfl ?_
  refine o_iaload (pc := 35) B (own_pl j S d0) d8_35 (D.Ar 3) (rfl) (own_mapI u1) ?_
  refine o_if_eq (pc := 36) (pc' := 96) B d8_36 (by decide) (by decide) (fun hc36 => ?_) (fun hc36 => ?_)
  rotate_left
  · have i0 : i ≠ 0 := fun e => hc36 (by rw [e]; rfl)
    obtain ⟨e0, e1, e2⟩ := u2.resolve_left i0
    obtain ⟨i', w1, w2⟩ := T.2.2.2 _ hm
    have ii : i = i' := (own_inj i31 (by omega)).mp (Option.some.inj (u1.symm.trans w1))
    have i2 : 2 ≤ i ∧ i < own_ct N := by subst ii; exact w2.resolve_left i0
    obtain ⟨r0, r1, r2⟩ := RR.2.2 i i2.1 i2.2
    obtain ⟨b0, b1, b2, b3, b4, b5, b6, b7, b8⟩ := BN.2.2.2 i i2.1 i2.2
    refine o_aloadN (pc := 39) B d8_39 rfl rfl ?_
    refine o_getF (pc := 40) B d8_40 (hw _ (List.mem_of_getElem? (i := 36) rfl)) (D.f3) ?_
    refine o_iload (pc := 43) B d8_43 rfl ?_
    refine o_iaload (pc := 45) B (own_pl j S d0) d8_45 (D.Ar 3) (rfl) (own_mapI u1) ?_
    refine o_istore_7_6 (pc := 46) B d8_46 ho ?_
    refine o_aloadN (pc := 48) B d8_48 rfl rfl ?_
    refine o_getF (pc := 49) B d8_49 (hw _ (List.mem_of_getElem? (i := 28) rfl)) (D.f0) ?_
    refine o_iload (pc := 52) B d8_52 rfl ?_
    refine o_iaload (pc := 54) B (i) d8_54 (D.Ar 0) (rfl) (own_mapI r0) ?_
    refine o_iloadN (pc := 55) B d8_55 rfl ?_
    refine o_icmp_ne (pc := 56) (pc' := 84) B d8_56 (by decide) (by decide) (fun hc56 => False.elim ((hc56 (by rw [e0])))) (fun hc56 => ?_)
    refine o_aloadN (pc := 59) B d8_59 rfl rfl ?_
    refine o_getF (pc := 60) B d8_60 (hw _ (List.mem_of_getElem? (i := 30) rfl)) (D.f1) ?_
    refine o_iload (pc := 63) B d8_63 rfl ?_
    refine o_iaload (pc := 65) B (i) d8_65 (D.Ar 1) (rfl) (own_mapI r1) ?_
    refine o_iloadN (pc := 66) B d8_66 rfl ?_
    refine o_icmp_ne (pc := 67) (pc' := 84) B d8_67 (by decide) (by decide) (fun hc67 => False.elim ((hc67 (by rw [e1])))) (fun hc67 => ?_)
    refine o_aloadN (pc := 70) B d8_70 rfl rfl ?_
    refine o_getF (pc := 71) B d8_71 (hw _ (List.mem_of_getElem? (i := 32) rfl)) (D.f2) ?_
    refine o_iload (pc := 74) B d8_74 rfl ?_
    refine o_iaload (pc := 76) B (i) d8_76 (D.Ar 2) (rfl) (own_mapI r2) ?_
    refine o_iloadN (pc := 77) B d8_77 rfl ?_
    refine o_icmp_ne (pc := 78) (pc' := 84) B d8_78 (by decide) (by decide) (fun hc78 => False.elim ((hc78 (by rw [e2])))) (fun hc78 => ?_)
    refine o_iload (pc := 81) B d8_81 rfl ?_
    exact o_ireturn (pc := 83) B d8_83 (by first | decide | (dsimp only [orm8, orm9, orm12, orm15, orm17]; omega)) (by first | decide | (dsimp only [orm8, orm9, orm12, orm15, orm17]; omega)) (⟨i, N, A, X, c, j, rfl, D, W0, own_Ext.refl N, i2.2, by rw [b6, e0, e1, e2], by unfold own_l own_lv; rw [if_neg (by omega), e0]; exact Nat.le_refl _, Nat.le_add_right _ _, fun i _ => ⟨rfl, rfl⟩, fun i => Or.inl rfl, Keep.refl _ _, ⟨Nat.le_refl _, Nat.le_refl _⟩, by omega, by omega⟩)
  have uz : (X 3)[own_pl j S d0]? = some 0 := by rw [u1, hc36]
  have no : own_none N v lo hi := T.none (by omega) (by rw [← eS]; exact uz) (by rw [← eS]; exact q2)
  have nn2 : 2 ≤ own_ct N := BN.1
  have T163 : ∀ (h' : Heap) (A' : Fin 12 → Addr) (X' : Fin 12 → List Int32) (c' k' n' : Nat) (s6 : Slot), o_ok1 s6 = true → own_D Z n0 h' o A' X' (own_ct N) nv → own_R N (X' 0) (X' 1) (X' 2) → ((X' 0).length = 2 ^ c' ∧ (X' 1).length = 2 ^ c' ∧ (X' 2).length = 2 ^ c') → own_ct N < 2 ^ c' → c ≤ c' → c' ≤ 5 → (∀ i : Fin 12, 3 ≤ i.val → A' i = A i ∧ X' i = X i) → (∀ i, A' i = A i ∨ h.size ≤ A' i) → Keep h h' [o, A 0, A 1, A 2, A 3] → k' = 3 * (c' - c) → n' = 3 * (2 * 2 ^ c' - 2 * 2 ^ c) →
      o_Go κ (own_Pn Z n0 h o A X nv c j v lo hi N) h' k' n' 163 [.val (.ref o), .val (.int (Int32.ofNat v)), .val (.int (Int32.ofNat lo)), .val (.int (Int32.ofNat hi)), .val (.int (Int32.ofNat (2 ^ j - 1))), .val (.int (Int32.ofNat (own_pl j S d0))), s6] [] := by
    intro h1 A1 X1 c' k' n' s6 ho D1 R1 LL ctc cc c5 AA FR KK ek en
    have pc1 : 2 ^ c' ≤ 2 ^ 5 := Nat.pow_le_pow_right (by decide) c5
    refine o_aloadN (pc := 163) B d8_163 rfl rfl ?_
    refine o_dup (pc := 164) B d8_164 rfl ?_
    refine o_getF (pc := 165) B d8_165 (hw _ (List.mem_of_getElem? (i := 34) rfl)) (D1.N) ?_
    refine o_dup_x1 (pc := 168) B d8_168 rfl rfl ?_
    refine o_iconst (pc := 169) B (1 : Int32) d8_169 (by decide) ?_
    refine o_iadd (pc := 170) B d8_170 ?_
    rw [own_one]
    refine o_putF (pc := 171) (ty := .int) B d8_171 (hw _ (List.mem_of_getElem? (i := 34) rfl)) (D1.N) (D1.E) (Or.inl (hw _ (List.mem_of_getElem? (i := 35) rfl))) (hw _ (List.mem_of_getElem? (i := 1) rfl)) (by decide) rfl rfl (D.go) ?_
    intro h2 W2
    have D2 := D1.nodes hw W2
    refine o_istore_7_6 (pc := 174) B d8_174 ho ?_
    refine o_aloadN (pc := 176) B d8_176 rfl rfl ?_
    refine o_getF (pc := 177) B d8_177 (hw _ (List.mem_of_getElem? (i := 28) rfl)) (D2.f0) ?_
    refine o_iload (pc := 180) B d8_180 rfl ?_
    refine o_iloadN (pc := 182) B d8_182 rfl ?_
    refine o_iastore (pc := 183) B (own_ct N) d8_183 (D2.Ar 0) (rfl) (own_mltI (by rw [LL.1]; exact ctc)) (D2.ge 0) ?_
    intro h3 W3
    have D3 := D2.wr 0 W3
    refine o_aloadN (pc := 184) B d8_184 rfl rfl ?_
    refine o_getF (pc := 185) B d8_185 (hw _ (List.mem_of_getElem? (i := 30) rfl)) (D3.f1) ?_
    refine o_iload (pc := 188) B d8_188 rfl ?_
    refine o_iloadN (pc := 190) B d8_190 rfl ?_
    refine o_iastore (pc := 191) B (own_ct N) d8_191 (D3.Ar 1) (rfl) (own_mltI (by rw [own_upF_ne _ _ (by decide), LL.2.1]; exact ctc)) (D3.ge 1) ?_
    intro h4 W4
    have D4 := D3.wr 1 W4
    refine o_aloadN (pc := 192) B d8_192 rfl rfl ?_
    refine o_getF (pc := 193) B d8_193 (hw _ (List.mem_of_getElem? (i := 32) rfl)) (D4.f2) ?_
    refine o_iload (pc := 196) B d8_196 rfl ?_
    refine o_iloadN (pc := 198) B d8_198 rfl ?_
    refine o_iastore (pc := 199) B (own_ct N) d8_199 (D4.Ar 2) (rfl) (own_mltI (by rw [own_upF_ne _ _ (by decide), own_upF_ne _ _ (by decide), LL.2.2]; exact ctc)) (D4.ge 2) ?_
    intro h5 W5
    have D5 := D4.wr 2 W5
    refine o_aloadN (pc := 200) B d8_200 rfl rfl ?_
    refine o_getF (pc := 201) B d8_201 (hw _ (List.mem_of_getElem? (i := 36) rfl)) (D5.f3) ?_
    refine o_iload (pc := 204) B d8_204 rfl ?_
    refine o_iload (pc := 206) B d8_206 rfl ?_
    have x3 : own_upF (own_upF (own_upF X1 0 ((X1 0).set (own_ct N) (Int32.ofNat v))) 1 ((own_upF X1 0 ((X1 0).set (own_ct N) (Int32.ofNat v)) 1).set (own_ct N) (Int32.ofNat lo))) 2 ((own_upF (own_upF X1 0 ((X1 0).set (own_ct N) (Int32.ofNat v))) 1 ((own_upF X1 0 ((X1 0).set (own_ct N) (Int32.ofNat v)) 1).set (own_ct N) (Int32.ofNat lo)) 2).set (own_ct N) (Int32.ofNat hi)) 3 = X 3 := by
      rw [own_upF_ne _ _ (by decide), own_upF_ne _ _ (by decide), own_upF_ne _ _ (by decide)]; exact (AA 3 (by decide)).2
    refine o_iastore (pc := 208) B (own_pl j S d0) d8_208 (D5.Ar 3) (rfl) (own_mltI (by rw [x3, T.1]; exact hm)) (D5.ge 3) ?_
    intro h6 W6
    have D6 := D5.wr 3 W6
    rw [x3] at D6
    obtain ⟨X6, eX6⟩ : ∃ y, y = own_upF (own_upF (own_upF (own_upF X1 0 ((X1 0).set (own_ct N) (Int32.ofNat v))) 1 ((own_upF X1 0 ((X1 0).set (own_ct N) (Int32.ofNat v)) 1).set (own_ct N) (Int32.ofNat lo))) 2 ((own_upF (own_upF X1 0 ((X1 0).set (own_ct N) (Int32.ofNat v))) 1 ((own_upF X1 0 ((X1 0).set (own_ct N) (Int32.ofNat v)) 1).set (own_ct N) (Int32.ofNat lo)) 2).set (own_ct N) (Int32.ofNat hi))) 3 ((X 3).set (own_pl j S d0) (Int32.ofNat (own_ct N))) := ⟨_, rfl⟩
    rw [← eX6] at D6
    have y0 : X6 0 = (X1 0).set (own_ct N) (Int32.ofNat v) := by rw [eX6, own_upF_ne _ _ (by decide), own_upF_ne _ _ (by decide), own_upF_ne _ _ (by decide), own_upF_eq]
    have y1 : X6 1 = (X1 1).set (own_ct N) (Int32.ofNat lo) := by rw [eX6, own_upF_ne _ _ (by decide), own_upF_ne _ _ (by decide), own_upF_eq, own_upF_ne _ _ (by decide)]
    have y2 : X6 2 = (X1 2).set (own_ct N) (Int32.ofNat hi) := by rw [eX6, own_upF_ne _ _ (by decide), own_upF_eq, own_upF_ne _ _ (by decide), own_upF_ne _ _ (by decide)]
    have y3 : X6 3 = (X 3).set (own_pl j S d0) (Int32.ofNat (own_ct N)) := by rw [eX6, own_upF_eq]
    have yr : ∀ i : Fin 12, 4 ≤ i.val → X6 i = X i := fun i hi4 => by
      have n0_ : i ≠ 0 := fun e => by rw [e] at hi4; revert hi4; decide
      have n1_ : i ≠ 1 := fun e => by rw [e] at hi4; revert hi4; decide
      have n2_ : i ≠ 2 := fun e => by rw [e] at hi4; revert hi4; decide
      have n3_ : i ≠ 3 := fun e => by rw [e] at hi4; revert hi4; decide
      rw [eX6, own_upF_ne _ _ n3_, own_upF_ne _ _ n2_, own_upF_ne _ _ n1_, own_upF_ne _ _ n0_]; exact (AA i (by omega)).2
    have X_ := own_Ext.add N v lo hi
    have BN1 := BN.add hv hlo hhi ne l1 l2
    have lv2 : ∀ q, own_l N q ≤ 0 → q < 2 := fun q z => Classical.byContradiction fun z2 => by unfold own_l own_lv at z; rw [if_neg z2] at z; omega
    have Cn1 := Cn.add BN no ne (fun z => by subst z; exact ⟨lv2 _ l1, lv2 _ l2⟩)
    have RR1 : own_R (own_add N v lo hi) (X6 0) (X6 1) (X6 2) := by
      rw [y0, y1, y2]
      refine ⟨by rw [List.getElem?_set_ne (by omega)]; exact R1.1, by rw [List.getElem?_set_ne (by omega)]; exact R1.2.1, fun i h2 h3 => ?_⟩
      by_cases e : i = own_ct N
      · subst e
        rw [own_add_V, own_add_Lo, own_add_Hi]
        exact ⟨List.getElem?_set_self (by rw [LL.1]; exact ctc), List.getElem?_set_self (by rw [LL.2.1]; exact ctc), List.getElem?_set_self (by rw [LL.2.2]; exact ctc)⟩
      · have h3' : i < own_ct N := by have : i < own_ct N + 1 := h3; omega
        obtain ⟨z1, z2, z3, -⟩ := X_.2 i h3'
        rw [z1, z2, z3, List.getElem?_set_ne (Ne.symm e), List.getElem?_set_ne (Ne.symm e), List.getElem?_set_ne (Ne.symm e)]
        exact R1.2.2 i h2 h3'
    have eH : own_H (own_V (own_add N v lo hi) (own_ct N)) (own_Lo (own_add N v lo hi) (own_ct N)) (own_Hi (own_add N v lo hi) (own_ct N)) = S := by rw [own_add_V, own_add_Lo, own_add_Hi, eS]
    have T6 : own_T own_H (X6 3) j (own_add N v lo hi) (own_ct N + 1) := by
      have t := (T.ext X_ (Nat.le_refl _)).ins (d0 := d0) nn2 (by omega) (by rw [eH]; exact uz) (by rw [eH]; intro d hd z; exact q2 d hd ⟨0, by decide, z, Or.inl rfl⟩)
      rw [eH] at t
      rw [y3]; exact t
    have CE1 : ∀ s, s < 2 ^ j → own_Ce (own_add N v lo hi) (X 4) (X 5) (X 6) (X 7) s := fun s hs => (CE s hs).ext X_
    have mem : ∀ (i : Fin 12), i.val < 4 → A1 i ∈ [o, A 0, A 1, A 2, A 3] ∨ h.size ≤ A1 i := fun i hi4 => (FR i).imp (fun e => by
      rw [e]
      have : i = 0 ∨ i = 1 ∨ i = 2 ∨ i = 3 := by omega
      rcases this with rfl | rfl | rfl | rfl <;> simp) id
    have K6 : Keep h h6 [o, A 0, A 1, A 2, A 3] := ((((KK.wr W2 (Or.inl (List.mem_cons_self ..))).wr W3 (mem 0 (by decide))).wr W4 (mem 1 (by decide))).wr W5 (mem 2 (by decide))).wr W6 (mem 3 (by decide))
    have len0 : (X6 0).length = 2 ^ c' ∧ (X6 1).length = 2 ^ c' ∧ (X6 2).length = 2 ^ c' := by rw [y0, y1, y2, List.length_set, List.length_set, List.length_set]; exact LL
    have bb : own_b (own_add N v lo hi) ≤ own_b N + (if v = 0 then 0 else 1) := Nat.le_refl _
    have ll : own_l (own_add N v lo hi) (own_ct N) ≤ v + 1 := Nat.le_of_eq (own_add_l BN v lo hi)
    have e4 := yr 4 (by decide)
    have e5 := yr 5 (by decide)
    have e6 := yr 6 (by decide)
    have e7 := yr 7 (by decide)
    have D6' : own_D Z n0 h6 o A1 X6 (own_ct N + 1) nv := D6
    refine o_ldc2_w (pc := 209) B (x := (2 : Int64)) d8_209 (hw _ (List.mem_of_getElem? (i := 97) rfl)) ?_
    refine o_aloadN (pc := 212) B d8_212 rfl rfl ?_
    refine o_getF (pc := 213) B d8_213 (hw _ (List.mem_of_getElem? (i := 34) rfl)) (D6'.N) ?_
    refine o_i2l (pc := 216) B d8_216 ?_
    refine o_lmul (pc := 217) B d8_217 ?_
    rw [own_wide (by omega), show (2 : Int64) * Int64.ofNat (own_ct N + 1) = Int64.ofNat (2 * (own_ct N + 1)) by rw [Int64.ofNat_mul]; rfl]
    refine o_aloadN (pc := 218) B d8_218 rfl rfl ?_
    refine o_getF (pc := 219) B d8_219 (hw _ (List.mem_of_getElem? (i := 36) rfl)) (D6'.f3) ?_
    refine o_arraylen (pc := 222) B (Int32.ofNat (2 ^ j)) d8_222 (D6'.Ar 3) (by rw [List.length_map, T6.1]) ?_
    refine o_i2l (pc := 223) B d8_223 ?_
    rw [own_wide (by omega)]
    refine o_lcmp (pc := 224) B d8_224 ?_
    refine o_lif_le (pc := 225) (pc' := 232) B d8_225 (by decide) (by decide) (fun hc225 => ?_) (fun hc225 => ?_)
    · have hle : 2 * (own_ct N + 1) ≤ 2 ^ j := by
        rw [Int64.lt_iff_toInt_lt, Int64.toInt_ofNat_of_lt (by omega), Int64.toInt_ofNat_of_lt (by omega)] at hc225
        omega
      have W1 : own_W (own_add N v lo hi) X6 c' j := ⟨BN1, Cn1, RR1, len0, ⟨ctc, by omega, c5⟩, T6, ⟨j1, j2, hle⟩, by rw [e4, e5, e6, e7]; exact ⟨C4, C5, C6, C7⟩, by rw [e4, e5, e6, e7]; exact CE1⟩
      refine o_iload (pc := 232) B d8_232 rfl ?_
      exact o_ireturn (pc := 234) B d8_234 (by first | decide | (dsimp only [orm8, orm9, orm12, orm15, orm17]; omega)) (by first | decide | (dsimp only [orm8, orm9, orm12, orm15, orm17]; omega)) (⟨own_ct N, own_add N v lo hi, A1, X6, c', j, rfl, D6', W1, X_, Nat.lt_succ_self _, own_add_M N v lo hi, ll, bb, fun i hi8 => ⟨(AA i (by omega)).1, yr i (by omega)⟩, FR, K6, ⟨cc, Nat.le_refl _⟩, by omega, by omega⟩)
    have hgt : 2 ^ j < 2 * (own_ct N + 1) := by
      rw [Int64.lt_iff_toInt_lt, Int64.toInt_ofNat_of_lt (by omega), Int64.toInt_ofNat_of_lt (by omega)] at hc225
      omega
    have j5 : j ≤ 5 := Classical.byContradiction fun z => by
      have : j = 6 := by omega
      subst this
      omega
    have ps : 2 ^ (j + 1) = 2 * 2 ^ j := by rw [Nat.pow_succ, Nat.mul_comm]
    have p32 : 2 ^ j ≤ 2 ^ 5 := Nat.pow_le_pow_right (by decide) j5
    have p8 : 2 ^ 3 ≤ 2 ^ j := Nat.pow_le_pow_right (by decide) j1
    refine o_aloadN (pc := 228) B d8_228 rfl rfl ?_
    refine o_callP0 (pc := 229) B 0 d8_229 (hw _ (List.mem_of_getElem? (i := 120) rfl)) (hw _ (List.mem_of_getElem? (i := 121) rfl)) (hw _ (List.mem_of_getElem? (i := 122) rfl)) (hw _ (List.mem_of_getElem? (i := 1) rfl)) (hw _ (List.mem_of_getElem? (i := 2) rfl)) (hw _ (List.mem_of_getElem? (i := 123) rfl)) (by decide) pd17 rfl (by first | exact Nat.zero_le _ | exact Nat.le_of_ble_eq_true rfl | simp [Value.category]) (by first | decide | exact Nat.le_of_ble_eq_true rfl) (by first | decide | exact Nat.le_of_ble_eq_true rfl) (by first | decide | (dsimp only [orm8, orm9, orm12, orm15, orm17]; omega)) (by first | decide | (dsimp only [orm8, orm9, orm12, orm15, orm17]; omega)) rfl (D6'.E) (oc17 l Z a0 hw n0 _ o A1 X6 (own_ct N + 1) nv j (own_add N v lo hi) (by omega) rfl (by omega) (by omega) RR1 T6.1 (by rw [e7]; exact C7) D6') ?_
    rintro _ h7 _ _ ⟨rfl, ⟨A7, X7, D7, G1, G2, G3, G4, G5, G6, G7⟩, K7, rfl, rfl⟩ - -
    have x70 := G1 0 (Or.inl (by decide))
    have x71 := G1 1 (Or.inl (by decide))
    have x72 := G1 2 (Or.inl (by decide))
    have CE7 : ∀ s, s < 2 ^ (j + 1) → own_Ce (own_add N v lo hi) (X7 4) (X7 5) (X7 6) (X7 7) s := fun s hs => Or.inl (G7.2 s hs)
    have W7 : own_W (own_add N v lo hi) X7 c' (j + 1) := ⟨BN1, Cn1, by rw [x70.2, x71.2, x72.2]; exact RR1, by rw [x70.2, x71.2, x72.2]; exact len0, ⟨ctc, by omega, c5⟩, G3, ⟨by omega, by omega, by show 2 * (own_ct N + 1) ≤ _; omega⟩, ⟨G4, G5, G6, G7.1⟩, CE7⟩
    have K7' : Keep h h7 [o, A 0, A 1, A 2, A 3] := K6.trans K7 (fun x hx => Or.inl (by rw [List.mem_singleton.mp hx]; exact List.mem_cons_self ..))
    have q6 := K6.1
    have FR7 : ∀ i, A7 i = A i ∨ h.size ≤ A7 i := fun i => by
      rcases G2 i with q | q
      · rw [q]; exact FR i
      · right; show (_ : Nat) ≤ _; have q' := o_le q; omega
    refine o_iload (pc := 232) B d8_232 rfl ?_
    exact o_ireturn (pc := 234) B d8_234 (by first | decide | (dsimp only [orm8, orm9, orm12, orm15, orm17]; omega)) (by first | decide | (dsimp only [orm8, orm9, orm12, orm15, orm17]; omega)) (⟨own_ct N, own_add N v lo hi, A7, X7, c', j + 1, rfl, D7, W7, X_, Nat.lt_succ_self _, own_add_M N v lo hi, ll, bb, fun i hi8 => ⟨(G1 i (Or.inr hi8)).1.trans (AA i (by omega)).1, (G1 i (Or.inr hi8)).2.trans (yr i (by omega))⟩, FR7, K7', ⟨cc, by omega⟩, by omega, by omega⟩)
  refine o_aloadN (pc := 96) B d8_96 rfl rfl ?_
  refine o_getF (pc := 97) B d8_97 (hw _ (List.mem_of_getElem? (i := 34) rfl)) (D.N) ?_
  refine o_aloadN (pc := 100) B d8_100 rfl rfl ?_
  refine o_getF (pc := 101) B d8_101 (hw _ (List.mem_of_getElem? (i := 28) rfl)) (D.f0) ?_
  refine o_arraylen (pc := 104) B (Int32.ofNat (2 ^ c)) d8_104 (D.Ar 0) (by rw [List.length_map, L0]) ?_
  refine o_icmp_ne (pc := 105) (pc' := 163) B d8_105 (by decide) (by decide) (fun hc105 => ?_) (fun hc105 => ?_)
  · have hne : own_ct N ≠ 2 ^ c := fun e => hc105 (by rw [e])
    exact T163 h A X c _ _ s6 ho D RR ⟨L0, L1, L2⟩ (by omega) (Nat.le_refl _) c3 (fun i _ => ⟨rfl, rfl⟩) (fun i => Or.inl rfl) (Keep.refl _ _) (by omega) (by omega)
  have hct : own_ct N = 2 ^ c := (own_inj (by omega) (by omega)).mp hc105
  have c4 : c ≤ 4 := Classical.byContradiction fun z => by
    have : c = 5 := by omega
    subst this
    omega
  have ps : 2 ^ (c + 1) = 2 * 2 ^ c := by rw [Nat.pow_succ, Nat.mul_comm]
  have p16 : 2 ^ c ≤ 2 ^ 4 := Nat.pow_le_pow_right (by decide) c4
  refine o_aloadN (pc := 108) B d8_108 rfl rfl ?_
  refine o_getF (pc := 109) B d8_109 (hw _ (List.mem_of_getElem? (i := 34) rfl)) (D.N) ?_
  refine o_aloadN (pc := 112) B d8_112 rfl rfl ?_
  refine o_getF (pc := 113) B d8_113 (hw _ (List.mem_of_getElem? (i := 34) rfl)) (D.N) ?_
  refine o_i2l (pc := 116) B d8_116 ?_
  refine o_lconst (pc := 117) B (1 : Int64) d8_117 (by decide) ?_
  refine o_ladd (pc := 118) B d8_118 ?_
  rw [own_wide (by omega), show Int64.ofNat (own_ct N) + 1 = Int64.ofNat (own_ct N + 1) from (Int64.ofNat_add _ 1).symm]
  refine o_callS2 (pc := 119) B 0 d8_119 (hw _ (List.mem_of_getElem? (i := 98) rfl)) (hw _ (List.mem_of_getElem? (i := 99) rfl)) (hw _ (List.mem_of_getElem? (i := 89) rfl)) (hw _ (List.mem_of_getElem? (i := 100) rfl)) (by decide) pd12 rfl (by first | exact Nat.zero_le _ | exact Nat.le_of_ble_eq_true rfl | simp [Value.category]) (by first | decide | exact Nat.le_of_ble_eq_true rfl) (by first | decide | exact Nat.le_of_ble_eq_true rfl) (by first | decide | (dsimp only [orm8, orm9, orm12, orm15, orm17]; omega)) (by first | decide | (dsimp only [orm8, orm9, orm12, orm15, orm17]; omega)) rfl (oc12 l Z a0 hw n0 _ (own_ct N) (own_ct N + 1) (by omega) (by omega)) ?_
  rintro _ h _ _ ⟨rfl, rfl, rfl, rfl⟩ - -
  rw [show 2 * own_ct N = 2 ^ (c + 1) by omega]
  refine o_istore_7_6 (pc := 122) B d8_122 ho ?_
  refine o_aloadN (pc := 124) B d8_124 rfl rfl ?_
  refine o_aloadN (pc := 125) B d8_125 rfl rfl ?_
  refine o_getF (pc := 126) B d8_126 (hw _ (List.mem_of_getElem? (i := 28) rfl)) (D.f0) ?_
  refine o_iload (pc := 129) B d8_129 rfl ?_
  have u0 : (X 0).length = 2 ^ c := L0
  refine o_callS2 (pc := 131) B 1 d8_131 (hw _ (List.mem_of_getElem? (i := 110) rfl)) (hw _ (List.mem_of_getElem? (i := 111) rfl)) (hw _ (List.mem_of_getElem? (i := 53) rfl)) (hw _ (List.mem_of_getElem? (i := 112) rfl)) (by decide) pd15 rfl (by first | exact Nat.zero_le _ | exact Nat.le_of_ble_eq_true rfl | simp [Value.category]) (by first | decide | exact Nat.le_of_ble_eq_true rfl) (by first | decide | exact Nat.le_of_ble_eq_true rfl) (by first | decide | (dsimp only [orm8, orm9, orm12, orm15, orm17]; omega)) (by first | decide | (dsimp only [orm8, orm9, orm12, orm15, orm17]; omega)) rfl (oc15 l Z a0 hw n0 _ (A 0) (X 0) (2 ^ (c + 1)) (by omega) (by omega) (Nat.le_trans (o_le D.go) (Nat.le_of_lt (o_lt D.E.lt))) (D.Ar 0)) ?_
  rintro _ g0 _ _ ⟨b0, rfl, eb0, B0, Kg0, lg0, rfl, rfl⟩ - -
  have eb0' := o_eq eb0
  have Dg0 := D.keep Kg0 (by simp) (by simp)
  refine o_putF (pc := 134) (ty := (.array .int)) B d8_134 (hw _ (List.mem_of_getElem? (i := 28) rfl)) (Dg0.f0) (Dg0.E) (Or.inl (hw _ (List.mem_of_getElem? (i := 29) rfl))) (hw _ (List.mem_of_getElem? (i := 1) rfl)) (by decide) rfl rfl (D.go) ?_
  intro w0 V0
  have fr0 : ∀ i, b0 ≠ A i := fun i => o_ne (by have := o_lt (D.Ar i).lt; omega)
  have fo0 : b0 ≠ o := o_ne (by have := o_lt D.E.lt; omega)
  have gb0 : n0 ≤ b0 := o_le (by have := o_le D.go; have := o_lt D.E.lt; omega)
  have Dw0 := Dg0.put hw 0 B0 gb0 fo0 fr0 V0
  have sv0 := V0.size
  obtain ⟨A0, eA0⟩ : ∃ y, y = own_upF A 0 b0 := ⟨_, rfl⟩
  obtain ⟨X0, eX0⟩ : ∃ y, y = own_upF X 0 ((X 0) ++ List.replicate (2 ^ (c + 1) - (X 0).length) (0 : Int32)) := ⟨_, rfl⟩
  rw [← eA0, ← eX0] at Dw0
  refine o_aloadN (pc := 137) B d8_137 rfl rfl ?_
  refine o_aloadN (pc := 138) B d8_138 rfl rfl ?_
  refine o_getF (pc := 139) B d8_139 (hw _ (List.mem_of_getElem? (i := 30) rfl)) (Dw0.f1) ?_
  refine o_iload (pc := 142) B d8_142 rfl ?_
  have u1 : (X0 1).length = 2 ^ c := (by rw [eX0, own_upF_ne _ _ (by decide), L1])
  refine o_callS2 (pc := 144) B 1 d8_144 (hw _ (List.mem_of_getElem? (i := 110) rfl)) (hw _ (List.mem_of_getElem? (i := 111) rfl)) (hw _ (List.mem_of_getElem? (i := 53) rfl)) (hw _ (List.mem_of_getElem? (i := 112) rfl)) (by decide) pd15 rfl (by first | exact Nat.zero_le _ | exact Nat.le_of_ble_eq_true rfl | simp [Value.category]) (by first | decide | exact Nat.le_of_ble_eq_true rfl) (by first | decide | exact Nat.le_of_ble_eq_true rfl) (by first | decide | (dsimp only [orm8, orm9, orm12, orm15, orm17]; omega)) (by first | decide | (dsimp only [orm8, orm9, orm12, orm15, orm17]; omega)) rfl (oc15 l Z a0 hw n0 _ (A0 1) (X0 1) (2 ^ (c + 1)) (by omega) (by omega) (Nat.le_trans (o_le D.go) (Nat.le_of_lt (o_lt Dw0.E.lt))) (Dw0.Ar 1)) ?_
  rintro _ g1 _ _ ⟨b1, rfl, eb1, B1, Kg1, lg1, rfl, rfl⟩ - -
  have eb1' := o_eq eb1
  have Dg1 := Dw0.keep Kg1 (by simp) (by simp)
  refine o_putF (pc := 147) (ty := (.array .int)) B d8_147 (hw _ (List.mem_of_getElem? (i := 30) rfl)) (Dg1.f1) (Dg1.E) (Or.inl (hw _ (List.mem_of_getElem? (i := 31) rfl))) (hw _ (List.mem_of_getElem? (i := 1) rfl)) (by decide) rfl rfl (D.go) ?_
  intro w1 V1
  have fr1 : ∀ i, b1 ≠ A0 i := fun i => o_ne (by have := o_lt (Dw0.Ar i).lt; omega)
  have fo1 : b1 ≠ o := o_ne (by have := o_lt Dw0.E.lt; omega)
  have gb1 : n0 ≤ b1 := o_le (by have := o_le D.go; have := o_lt Dw0.E.lt; omega)
  have Dw1 := Dg1.put hw 1 B1 gb1 fo1 fr1 V1
  have sv1 := V1.size
  obtain ⟨A1, eA1⟩ : ∃ y, y = own_upF A0 1 b1 := ⟨_, rfl⟩
  obtain ⟨X1, eX1⟩ : ∃ y, y = own_upF X0 1 ((X0 1) ++ List.replicate (2 ^ (c + 1) - (X0 1).length) (0 : Int32)) := ⟨_, rfl⟩
  rw [← eA1, ← eX1] at Dw1
  refine o_aloadN (pc := 150) B d8_150 rfl rfl ?_
  refine o_aloadN (pc := 151) B d8_151 rfl rfl ?_
  refine o_getF (pc := 152) B d8_152 (hw _ (List.mem_of_getElem? (i := 32) rfl)) (Dw1.f2) ?_
  refine o_iload (pc := 155) B d8_155 rfl ?_
  have u2 : (X1 2).length = 2 ^ c := (by rw [eX1, own_upF_ne _ _ (by decide), eX0, own_upF_ne _ _ (by decide), L2])
  refine o_callS2 (pc := 157) B 1 d8_157 (hw _ (List.mem_of_getElem? (i := 110) rfl)) (hw _ (List.mem_of_getElem? (i := 111) rfl)) (hw _ (List.mem_of_getElem? (i := 53) rfl)) (hw _ (List.mem_of_getElem? (i := 112) rfl)) (by decide) pd15 rfl (by first | exact Nat.zero_le _ | exact Nat.le_of_ble_eq_true rfl | simp [Value.category]) (by first | decide | exact Nat.le_of_ble_eq_true rfl) (by first | decide | exact Nat.le_of_ble_eq_true rfl) (by first | decide | (dsimp only [orm8, orm9, orm12, orm15, orm17]; omega)) (by first | decide | (dsimp only [orm8, orm9, orm12, orm15, orm17]; omega)) rfl (oc15 l Z a0 hw n0 _ (A1 2) (X1 2) (2 ^ (c + 1)) (by omega) (by omega) (Nat.le_trans (o_le D.go) (Nat.le_of_lt (o_lt Dw1.E.lt))) (Dw1.Ar 2)) ?_
  rintro _ g2 _ _ ⟨b2, rfl, eb2, B2, Kg2, lg2, rfl, rfl⟩ - -
  have eb2' := o_eq eb2
  have Dg2 := Dw1.keep Kg2 (by simp) (by simp)
  refine o_putF (pc := 160) (ty := (.array .int)) B d8_160 (hw _ (List.mem_of_getElem? (i := 32) rfl)) (Dg2.f2) (Dg2.E) (Or.inl (hw _ (List.mem_of_getElem? (i := 33) rfl))) (hw _ (List.mem_of_getElem? (i := 1) rfl)) (by decide) rfl rfl (D.go) ?_
  intro w2 V2
  have fr2 : ∀ i, b2 ≠ A1 i := fun i => o_ne (by have := o_lt (Dw1.Ar i).lt; omega)
  have fo2 : b2 ≠ o := o_ne (by have := o_lt Dw1.E.lt; omega)
  have gb2 : n0 ≤ b2 := o_le (by have := o_le D.go; have := o_lt Dw1.E.lt; omega)
  have Dw2 := Dg2.put hw 2 B2 gb2 fo2 fr2 V2
  have sv2 := V2.size
  obtain ⟨A2, eA2⟩ : ∃ y, y = own_upF A1 2 b2 := ⟨_, rfl⟩
  obtain ⟨X2, eX2⟩ : ∃ y, y = own_upF X1 2 ((X1 2) ++ List.replicate (2 ^ (c + 1) - (X1 2).length) (0 : Int32)) := ⟨_, rfl⟩
  rw [← eA2, ← eX2] at Dw2
  have m0 : X2 0 = X 0 ++ List.replicate (2 ^ (c + 1) - (X 0).length) (0 : Int32) := by rw [eX2, own_upF_ne _ _ (by decide), eX1, own_upF_ne _ _ (by decide), eX0, own_upF_eq]
  have m1 : X2 1 = X 1 ++ List.replicate (2 ^ (c + 1) - (X 1).length) (0 : Int32) := by rw [eX2, own_upF_ne _ _ (by decide), eX1, own_upF_eq, eX0, own_upF_ne _ _ (by decide)]
  have m2 : X2 2 = X 2 ++ List.replicate (2 ^ (c + 1) - (X 2).length) (0 : Int32) := by rw [eX2, own_upF_eq, eX1, own_upF_ne _ _ (by decide), eX0, own_upF_ne _ _ (by decide)]
  have RR2 : own_R N (X2 0) (X2 1) (X2 2) := by
    rw [m0, m1, m2]
    refine ⟨by rw [List.getElem?_append_left (by omega)]; exact RR.1, by rw [List.getElem?_append_left (by omega)]; exact RR.2.1, fun i z1 z2 => ?_⟩
    rw [List.getElem?_append_left (by omega), List.getElem?_append_left (by omega), List.getElem?_append_left (by omega)]
    exact RR.2.2 i z1 z2
  have LL2 : (X2 0).length = 2 ^ (c + 1) ∧ (X2 1).length = 2 ^ (c + 1) ∧ (X2 2).length = 2 ^ (c + 1) := by
    rw [m0, m1, m2]; simp only [List.length_append, List.length_replicate]; omega
  have AA2 : ∀ i : Fin 12, 3 ≤ i.val → A2 i = A i ∧ X2 i = X i := fun i hi3 => by
    have t0 : i ≠ 0 := fun e => by rw [e] at hi3; revert hi3; decide
    have t1 : i ≠ 1 := fun e => by rw [e] at hi3; revert hi3; decide
    have t2 : i ≠ 2 := fun e => by rw [e] at hi3; revert hi3; decide
    exact ⟨by rw [eA2, own_upF_ne _ _ t2, eA1, own_upF_ne _ _ t1, eA0, own_upF_ne _ _ t0], by rw [eX2, own_upF_ne _ _ t2, eX1, own_upF_ne _ _ t1, eX0, own_upF_ne _ _ t0]⟩
  have FR2 : ∀ i, A2 i = A i ∨ h.size ≤ A2 i := fun i => by
    by_cases t2 : i = 2
    · subst t2; right; rw [eA2, own_upF_eq]; show (_ : Nat) ≤ _; omega
    · rw [eA2, own_upF_ne _ _ t2]
      by_cases t1 : i = 1
      · subst t1; right; rw [eA1, own_upF_eq]; show (_ : Nat) ≤ _; omega
      · rw [eA1, own_upF_ne _ _ t1]
        by_cases t0 : i = 0
        · subst t0; right; rw [eA0, own_upF_eq]; show (_ : Nat) ≤ _; omega
        · left; rw [eA0, own_upF_ne _ _ t0]
  have KK2 : Keep h w2 [o, A 0, A 1, A 2, A 3] := (((((((Keep.refl h [o, A 0, A 1, A 2, A 3]).trans Kg0 (fun x hx => absurd hx (by simp))).wr V0 (Or.inl (List.mem_cons_self ..))).trans Kg1 (fun x hx => absurd hx (by simp))).wr V1 (Or.inl (List.mem_cons_self ..))).trans Kg2 (fun x hx => absurd hx (by simp))).wr V2 (Or.inl (List.mem_cons_self ..)))
  exact T163 w2 A2 X2 (c + 1) _ _ _ rfl Dw2 RR2 LL2 (by omega) (by omega) (by omega) AA2 FR2 KK2 (by omega) (by omega)
-- CUT
abbrev orm28 : Room := { frames := 0, cells := 0, slots := 0, locals := 0 }
abbrev orm29 : Room := { frames := 0, cells := 0, slots := 0, locals := 0 }
abbrev orm31 : Room := { frames := 1, cells := 0, slots := 0, locals := 14 }
/-- the level as Java has it -/
def own_jl (N : own_Nd) (i : Nat) : Int32 := if i < 2 then -1 else Int32.ofNat (own_V N i)
set_option maxRecDepth 65536 in
set_option maxHeartbeats 40000000 in
theorem oc29 (l : Launch) (Z : State) (a0 : Array Value) (hw : ∀ d ∈ tables_1, d.before a0 Z = true) (n0 : Nat) (h : Heap) (a b : Int32) : o_C l Z n0 oy29 jdk_29_method_65_code 2 (some .int) orm29 [(.int a), (.int b)] h (fun v h' kc nc => v = some (.int (if a < b then b else a)) ∧ h' = h ∧ kc = 0 ∧ nc = 0) := by
  refine o_body (Ls := [.val (.int a), .val (.int b)]) pn29 (by first | (simp [argsToLocals, Value.category]; done) | rfl) (fun κ B => ?_)
  refine o_iloadN (pc := 0) B d29_0 rfl ?_
  refine o_iloadN (pc := 1) B d29_1 rfl ?_
  refine o_icmp_lt (pc := 2) (pc' := 9) B d29_2 (by decide) (by decide) (fun hc2 => ?_) (fun hc2 => ?_)
  · refine o_iloadN (pc := 9) B d29_9 rfl ?_
    exact o_ireturn (pc := 10) B d29_10 (by decide) (by decide) (⟨by rw [if_pos hc2], rfl, rfl, rfl⟩)
  refine o_iloadN (pc := 5) B d29_5 rfl ?_
  refine o_goto (pc := 6) (pc' := 10) B d29_6 (by decide) (by decide) ?_
  exact o_ireturn (pc := 10) B d29_10 (by decide) (by decide) (⟨by rw [if_neg hc2], rfl, rfl, rfl⟩)
theorem own_R.lv {N : own_Nd} {D L H : List Int32} (RR : own_R N D L H) {i : Nat} (hi : i < own_ct N) : D[i]? = some (own_jl N i) := by
  unfold own_jl
  by_cases e : i < 2
  · rw [if_pos e]
    have : i = 0 ∨ i = 1 := by omega
    rcases this with rfl | rfl
    · exact RR.1
    · exact RR.2.1
  · rw [if_neg e]; exact (RR.2.2 i (by omega) hi).1
set_option maxRecDepth 65536 in
set_option maxHeartbeats 40000000 in
theorem oc28 (l : Launch) (Z : State) (a0 : Array Value) (hw : ∀ d ∈ tables_1, d.before a0 Z = true) (n0 : Nat) (h : Heap) (o : Addr) (A : Fin 12 → Addr) (X : Fin 12 → List Int32) (nv i : Nat) (N : own_Nd) (D : own_D Z n0 h o A X (own_ct N) nv) (RR : own_R N (X 0) (X 1) (X 2)) (hi : i < own_ct N) (h31 : own_ct N < 2 ^ 31) : o_C l Z n0 oy28 prog_26_method_21_code 2 (some .int) orm28 [(.ref o), (.int (Int32.ofNat i))] h (fun v h' kc nc => v = some (.int (own_jl N i)) ∧ h' = h ∧ kc = 0 ∧ nc = 0) := by
  refine o_body (Ls := [.val (.ref o), .val (.int (Int32.ofNat i))]) pn28 (by first | (simp [argsToLocals, Value.category]; done) | rfl) (fun κ B => ?_)
  refine o_iloadN (pc := 0) B d28_0 rfl ?_
  refine o_if_ge (pc := 1) (pc' := 8) B d28_1 (by decide) (by decide) (fun hc1 => ?_) (fun hc1 => ?_)
  · refine o_aloadN (pc := 8) B d28_8 rfl rfl ?_
    refine o_getF (pc := 9) B d28_9 (hw _ (List.mem_of_getElem? (i := 28) rfl)) (D.f0) ?_
    refine o_iloadN (pc := 12) B d28_12 rfl ?_
    refine o_iaload (pc := 13) B (i) d28_13 (D.Ar 0) (rfl) (own_mapI (RR.lv hi)) ?_
    exact o_ireturn (pc := 14) B d28_14 (by decide) (by decide) (⟨rfl, rfl, rfl, rfl⟩)
  exact absurd hc1 (own_nn (by omega))
-- CUT
abbrev orm30 : Room := { frames := 2, cells := 0, slots := 0, locals := 29 }
abbrev orm21 : Room := { frames := 0, cells := 0, slots := 0, locals := 0 }
abbrev orm25 : Room := { frames := 1, cells := 0, slots := 0, locals := 12 }
abbrev orm24 : Room := { frames := 2, cells := 0, slots := 0, locals := 28 }
abbrev orm27 : Room := { frames := 0, cells := 0, slots := 0, locals := 0 }
abbrev orm23 : Room := { frames := 3, cells := 0, slots := 0, locals := 43 }
theorem own_jl_eq (N : own_Nd) (i : Nat) : own_jl N i = own_jv (own_l N i) := by
  unfold own_jl own_l own_lv
  by_cases e : i < 2
  · rw [if_pos e, if_pos e]; rfl
  · rw [if_neg e, if_neg e]; rfl
set_option maxRecDepth 65536 in
set_option maxHeartbeats 40000000 in
theorem oc31 (l : Launch) (Z : State) (a0 : Array Value) (hw : ∀ d ∈ tables_1, d.before a0 Z = true) (n0 : Nat) (h : Heap) (o : Addr) (A : Fin 12 → Addr) (X : Fin 12 → List Int32) (nn nv j : Nat) (op f g : Int32) (hj : j ≤ 30) (L7 : (X 7).length = 2 ^ j) (D : own_D Z n0 h o A X nn nv) : o_C l Z n0 oy31 prog_26_method_18_code 4 (some .int) orm31 [(.ref o), (.int op), (.int f), (.int g)] h (fun v h' kc nc => (∃ s, s < 2 ^ j ∧ v = some (.int (Int32.ofNat s))) ∧ h' = h ∧ kc = 0 ∧ nc = 0) := by
  refine o_body (Ls := [.val (.ref o), .val (.int op), .val (.int f), .val (.int g)]) pn31 (by first | (simp [argsToLocals, Value.category]; done) | rfl) (fun κ B => ?_)
  refine o_iloadN (pc := 0) B d31_0 rfl ?_
  refine o_iloadN (pc := 1) B d31_1 rfl ?_
  refine o_callS2 (pc := 2) B 0 d31_2 (hw _ (List.mem_of_getElem? (i := 87) rfl)) (hw _ (List.mem_of_getElem? (i := 88) rfl)) (hw _ (List.mem_of_getElem? (i := 89) rfl)) (hw _ (List.mem_of_getElem? (i := 90) rfl)) (by decide) pd10 rfl (by first | exact Nat.zero_le _ | exact Nat.le_of_ble_eq_true rfl | simp [Value.category]) (by first | decide | exact Nat.le_of_ble_eq_true rfl) (by first | decide | exact Nat.le_of_ble_eq_true rfl) (by decide) (by decide) rfl (oc10 l Z a0 hw n0 _ _ _) ?_
  rintro _ h _ _ ⟨rfl, rfl, rfl, rfl⟩ - -
  refine o_iloadN (pc := 5) B d31_5 rfl ?_
  refine o_callS2 (pc := 6) B 0 d31_6 (hw _ (List.mem_of_getElem? (i := 87) rfl)) (hw _ (List.mem_of_getElem? (i := 88) rfl)) (hw _ (List.mem_of_getElem? (i := 89) rfl)) (hw _ (List.mem_of_getElem? (i := 90) rfl)) (by decide) pd10 rfl (by first | exact Nat.zero_le _ | exact Nat.le_of_ble_eq_true rfl | simp [Value.category]) (by first | decide | exact Nat.le_of_ble_eq_true rfl) (by first | decide | exact Nat.le_of_ble_eq_true rfl) (by decide) (by decide) rfl (oc10 l Z a0 hw n0 _ _ _) ?_
  rintro _ h _ _ ⟨rfl, rfl, rfl, rfl⟩ - -
  refine o_aloadN (pc := 9) B d31_9 rfl rfl ?_
  refine o_getF (pc := 10) B d31_10 (hw _ (List.mem_of_getElem? (i := 48) rfl)) (D.f7) ?_
  refine o_arraylen (pc := 13) B (Int32.ofNat (2 ^ j)) d31_13 (D.Ar 7) (by rw [List.length_map, L7]) ?_
  refine o_callS2 (pc := 14) B 0 d31_14 (hw _ (List.mem_of_getElem? (i := 92) rfl)) (hw _ (List.mem_of_getElem? (i := 93) rfl)) (hw _ (List.mem_of_getElem? (i := 89) rfl)) (hw _ (List.mem_of_getElem? (i := 94) rfl)) (by decide) pd11 rfl (by first | exact Nat.zero_le _ | exact Nat.le_of_ble_eq_true rfl | simp [Value.category]) (by first | decide | exact Nat.le_of_ble_eq_true rfl) (by first | decide | exact Nat.le_of_ble_eq_true rfl) (by decide) (by decide) rfl (oc11 l Z a0 hw n0 _ _ j hj) ?_
  rintro _ h _ _ ⟨rfl, rfl, rfl, rfl⟩ - -
  exact o_ireturn (pc := 17) B d31_17 (by decide) (by decide) (⟨⟨_, Nat.mod_lt _ (Nat.two_pow_pos j), rfl⟩, rfl, rfl, rfl⟩)
set_option maxRecDepth 65536 in
set_option maxHeartbeats 40000000 in
theorem oc30 (l : Launch) (Z : State) (a0 : Array Value) (hw : ∀ d ∈ tables_1, d.before a0 Z = true) (n0 : Nat) (h : Heap) (o : Addr) (A : Fin 12 → Addr) (X : Fin 12 → List Int32) (nv c j op f g : Nat) (N : own_Nd) (D : own_D Z n0 h o A X (own_ct N) nv) (W : own_W N X c j) (hop : op < 4) (hf : f < own_ct N) (hg : g < own_ct N) : o_C l Z n0 oy30 prog_26_method_17_code 6 (some .int) orm30 [(.ref o), (.int (Int32.ofNat op)), (.int (Int32.ofNat f)), (.int (Int32.ofNat g))] h (fun v h' kc nc => (∃ x, v = some (.int x) ∧ own_Sr N op f g x) ∧ h' = h ∧ kc = 0 ∧ nc = 0) := by
  refine o_body (Ls := [.val (.ref o), .val (.int (Int32.ofNat op)), .val (.int (Int32.ofNat f)), .val (.int (Int32.ofNat g)), .unset, .unset]) pn30 (by first | (simp [argsToLocals, Value.category]; done) | rfl) (fun κ B => ?_)
  obtain ⟨BN, Cn, RR, LL, ⟨c1, c2, c3⟩, T, ⟨j1, j2, j3⟩, ⟨C4, C5, C6, C7⟩, CE⟩ := W
  have pc_ : 2 ^ c ≤ 2 ^ 5 := Nat.pow_le_pow_right (by decide) c3
  refine o_aloadN (pc := 0) B d30_0 rfl rfl ?_
  refine o_iloadN (pc := 1) B d30_1 rfl ?_
  refine o_iloadN (pc := 2) B d30_2 rfl ?_
  refine o_iloadN (pc := 3) B d30_3 rfl ?_
  refine o_callP3 (pc := 4) B 0 d30_4 (hw _ (List.mem_of_getElem? (i := 193) rfl)) (hw _ (List.mem_of_getElem? (i := 194) rfl)) (hw _ (List.mem_of_getElem? (i := 195) rfl)) (hw _ (List.mem_of_getElem? (i := 1) rfl)) (hw _ (List.mem_of_getElem? (i := 2) rfl)) (hw _ (List.mem_of_getElem? (i := 196) rfl)) (by decide) pd31 rfl (by first | exact Nat.zero_le _ | exact Nat.le_of_ble_eq_true rfl | simp [Value.category]) (by first | decide | exact Nat.le_of_ble_eq_true rfl) (by first | decide | exact Nat.le_of_ble_eq_true rfl) (by decide) (by decide) rfl (D.E) (oc31 l Z a0 hw n0 _ o A X (own_ct N) nv j _ _ _ (by omega) C7 D) ?_
  rintro _ h _ _ ⟨⟨s, hs, rfl⟩, rfl, rfl, rfl⟩ - -
  obtain ⟨x4, e4⟩ : ∃ x, (X 4)[s]? = some x := ⟨_, List.getElem?_eq_getElem (by omega)⟩
  obtain ⟨x5, e5⟩ : ∃ x, (X 5)[s]? = some x := ⟨_, List.getElem?_eq_getElem (by omega)⟩
  obtain ⟨x6, e6⟩ : ∃ x, (X 6)[s]? = some x := ⟨_, List.getElem?_eq_getElem (by omega)⟩
  obtain ⟨x7, e7⟩ : ∃ x, (X 7)[s]? = some x := ⟨_, List.getElem?_eq_getElem (by omega)⟩
  refine o_istore_6_4 (pc := 7) B d30_7 rfl ?_
  refine o_aloadN (pc := 9) B d30_9 rfl rfl ?_
  refine o_getF (pc := 10) B d30_10 (hw _ (List.mem_of_getElem? (i := 42) rfl)) (D.f4) ?_
  refine o_iload (pc := 13) B d30_13 rfl ?_
  refine o_iaload (pc := 15) B (s) d30_15 (D.Ar 4) (rfl) (own_mapI e4) ?_
  refine o_iloadN (pc := 16) B d30_16 rfl ?_
  refine o_icmp_ne (pc := 17) (pc' := 46) B d30_17 (by decide) (by decide) (fun hc17 => ?_) (fun hc17 => ?_)
  · refine o_iconst (pc := 46) B (0 : Int32) d30_46 (by decide) ?_
    refine o_istore_6_5 (pc := 47) B d30_47 rfl ?_
    refine o_iload (pc := 49) B d30_49 rfl ?_
    refine o_if_eq (pc := 51) (pc' := 64) B d30_51 (by decide) (by decide) (fun hc51 => ?_) (fun hc51 => False.elim (by revert hc51; decide))
    refine o_ldc (pc := 64) B (x := (-2147483648 : Int32)) d30_64 (hw _ (List.mem_of_getElem? (i := 50) rfl)) ?_
    exact o_ireturn (pc := 66) B d30_66 (by decide) (by decide) (⟨⟨_, rfl, Or.inl rfl⟩, rfl, rfl, rfl⟩)
  refine o_aloadN (pc := 20) B d30_20 rfl rfl ?_
  refine o_getF (pc := 21) B d30_21 (hw _ (List.mem_of_getElem? (i := 44) rfl)) (D.f5) ?_
  refine o_iload (pc := 24) B d30_24 rfl ?_
  refine o_iaload (pc := 26) B (s) d30_26 (D.Ar 5) (rfl) (own_mapI e5) ?_
  refine o_iloadN (pc := 27) B d30_27 rfl ?_
  refine o_icmp_ne (pc := 28) (pc' := 46) B d30_28 (by decide) (by decide) (fun hc28 => ?_) (fun hc28 => ?_)
  · refine o_iconst (pc := 46) B (0 : Int32) d30_46 (by decide) ?_
    refine o_istore_6_5 (pc := 47) B d30_47 rfl ?_
    refine o_iload (pc := 49) B d30_49 rfl ?_
    refine o_if_eq (pc := 51) (pc' := 64) B d30_51 (by decide) (by decide) (fun hc51 => ?_) (fun hc51 => False.elim (by revert hc51; decide))
    refine o_ldc (pc := 64) B (x := (-2147483648 : Int32)) d30_64 (hw _ (List.mem_of_getElem? (i := 50) rfl)) ?_
    exact o_ireturn (pc := 66) B d30_66 (by decide) (by decide) (⟨⟨_, rfl, Or.inl rfl⟩, rfl, rfl, rfl⟩)
  refine o_aloadN (pc := 31) B d30_31 rfl rfl ?_
  refine o_getF (pc := 32) B d30_32 (hw _ (List.mem_of_getElem? (i := 46) rfl)) (D.f6) ?_
  refine o_iload (pc := 35) B d30_35 rfl ?_
  refine o_iaload (pc := 37) B (s) d30_37 (D.Ar 6) (rfl) (own_mapI e6) ?_
  refine o_iloadN (pc := 38) B d30_38 rfl ?_
  refine o_icmp_ne (pc := 39) (pc' := 46) B d30_39 (by decide) (by decide) (fun hc39 => ?_) (fun hc39 => ?_)
  · refine o_iconst (pc := 46) B (0 : Int32) d30_46 (by decide) ?_
    refine o_istore_6_5 (pc := 47) B d30_47 rfl ?_
    refine o_iload (pc := 49) B d30_49 rfl ?_
    refine o_if_eq (pc := 51) (pc' := 64) B d30_51 (by decide) (by decide) (fun hc51 => ?_) (fun hc51 => False.elim (by revert hc51; decide))
    refine o_ldc (pc := 64) B (x := (-2147483648 : Int32)) d30_64 (hw _ (List.mem_of_getElem? (i := 50) rfl)) ?_
    exact o_ireturn (pc := 66) B d30_66 (by decide) (by decide) (⟨⟨_, rfl, Or.inl rfl⟩, rfl, rfl, rfl⟩)
  refine o_iconst (pc := 42) B (1 : Int32) d30_42 (by decide) ?_
  refine o_goto (pc := 43) (pc' := 47) B d30_43 (by decide) (by decide) ?_
  refine o_istore_6_5 (pc := 47) B d30_47 rfl ?_
  refine o_iload (pc := 49) B d30_49 rfl ?_
  refine o_if_eq (pc := 51) (pc' := 64) B d30_51 (by decide) (by decide) (fun hc51 => False.elim (by revert hc51; decide)) (fun hc51 => ?_)
  refine o_aloadN (pc := 54) B d30_54 rfl rfl ?_
  refine o_getF (pc := 55) B d30_55 (hw _ (List.mem_of_getElem? (i := 48) rfl)) (D.f7) ?_
  refine o_iload (pc := 58) B d30_58 rfl ?_
  refine o_iaload (pc := 60) B (s) d30_60 (D.Ar 7) (rfl) (own_mapI e7) ?_
  refine o_goto (pc := 61) (pc' := 66) B d30_61 (by decide) (by decide) ?_
  exact o_ireturn (pc := 66) B d30_66 (by decide) (by decide) (⟨⟨_, rfl, (CE s hs).sr (by omega) hop hf hg (e4.trans (congrArg some hc17)) (e5.trans (congrArg some hc28)) (e6.trans (congrArg some hc39)) e7⟩, rfl, rfl, rfl⟩)
abbrev orm7 (c j : Nat) : Room := { frames := 4, cells := 3 * (5 - c) + 7 * (6 - j), slots := 3 * (64 - 2 * 2 ^ c) + 7 * (128 - 2 * 2 ^ j), locals := 73 }
set_option maxRecDepth 65536 in
set_option maxHeartbeats 40000000 in
theorem oc7 (l : Launch) (Z : State) (a0 : Array Value) (hw : ∀ d ∈ tables_1, d.before a0 Z = true) (n0 : Nat) (h : Heap) (o : Addr) (A : Fin 12 → Addr) (X : Fin 12 → List Int32) (nv c j v : Nat) (N : own_Nd) (D : own_D Z n0 h o A X (own_ct N) nv) (W : own_W N X c j) (hv : v < 3) (hlt : own_ct N < 32) : o_C l Z n0 oy7 prog_26_method_2_code 2 (some .int) (orm7 c j) [(.ref o), (.int (Int32.ofNat v))] h (own_Pn Z n0 h o A X nv c j v 0 1 N) := by
  refine o_body (Ls := [.val (.ref o), .val (.int (Int32.ofNat v))]) pn7 (by first | (simp [argsToLocals, Value.category]; done) | rfl) (fun κ B => ?_)
  have b2 : 2 ≤ own_ct N := W.1.1
  refine o_aloadN (pc := 0) B d7_0 rfl rfl ?_
  refine o_iloadN (pc := 1) B d7_1 rfl ?_
  refine o_iconst (pc := 2) B (0 : Int32) d7_2 (by decide) ?_
  refine o_iconst (pc := 3) B (1 : Int32) d7_3 (by decide) ?_
  refine o_callP3 (pc := 4) B 0 d7_4 (hw _ (List.mem_of_getElem? (i := 80) rfl)) (hw _ (List.mem_of_getElem? (i := 81) rfl)) (hw _ (List.mem_of_getElem? (i := 82) rfl)) (hw _ (List.mem_of_getElem? (i := 1) rfl)) (hw _ (List.mem_of_getElem? (i := 2) rfl)) (hw _ (List.mem_of_getElem? (i := 83) rfl)) (by decide) pd8 rfl (by first | exact Nat.zero_le _ | exact Nat.le_of_ble_eq_true rfl | simp [Value.category]) (by first | decide | exact Nat.le_of_ble_eq_true rfl) (by first | decide | exact Nat.le_of_ble_eq_true rfl) (by first | decide | (dsimp only [orm7, orm8] at *; omega)) (by first | decide | (dsimp only [orm7, orm8] at *; omega)) rfl (D.E) (oc8 l Z a0 hw n0 _ o A X nv c j v 0 1 N D W hv (by omega) (by omega) (by show own_lv _ 0 ≤ v; simp [own_lv]) (by show own_lv _ 1 ≤ v; simp [own_lv]) hlt) ?_
  rintro v_ h' kc nc ⟨r, N', A', X', c', j', rfl, q⟩ hkc hnc
  rw [Nat.zero_add, Nat.zero_add]
  exact o_ireturn (pc := 7) B d7_7 (by first | decide | (dsimp only [orm7, orm8] at *; omega)) (by first | decide | (dsimp only [orm7, orm8] at *; omega)) (⟨r, N', A', X', c', j', rfl, q⟩)
/-- what the statics hold -/
def own_SC (Z : State) (b : Nat → Addr) (arr : Addr) : Prop :=
  (∀ i : Nat, i < 4 → Exa Z Z.heap (b i) own_CO ∧ Fld Z Z.heap (b i) "java/lang/Enum" "ordinal" "I" (.int (Int32.ofNat i))) ∧ Sta Z Z.heap own_CO "AND" "Lcom/example/perdure/perdure/model/Connective;" (.ref (b 0)) ∧ Sta Z Z.heap own_CO "OR" "Lcom/example/perdure/perdure/model/Connective;" (.ref (b 1)) ∧ Sta Z Z.heap own_CO "IMPLIES" "Lcom/example/perdure/perdure/model/Connective;" (.ref (b 2)) ∧ Sta Z Z.heap own_CO "IFF" "Lcom/example/perdure/perdure/model/Connective;" (.ref (b 3)) ∧ Sta Z Z.heap own_DD "CONNECTIVES" "[Lcom/example/perdure/perdure/model/Connective;" (.ref arr) ∧ o_AR Z Z.heap arr (.object own_CO) ((List.range 4).map fun i => .ref (b i))
set_option maxRecDepth 65536 in
set_option maxHeartbeats 40000000 in
theorem oc21 (l : Launch) (Z : State) (a0 : Array Value) (hw : ∀ d ∈ tables_1, d.before a0 Z = true) (n0 : Nat) (h : Heap) (a : Addr) (x : Int32) (F : Fld Z h a "java/lang/Enum" "ordinal" "I" (.int x)) : o_C l Z n0 oy21 jdk_37_method_2_code 1 (some .int) orm21 [(.ref a)] h (fun v h' kc nc => v = some (.int x) ∧ h' = h ∧ kc = 0 ∧ nc = 0) := by
  refine o_body (Ls := [.val (.ref a)]) pn21 (by first | (simp [argsToLocals, Value.category]; done) | rfl) (fun κ B => ?_)
  refine o_aloadN (pc := 0) B d21_0 rfl rfl ?_
  refine o_getF (pc := 1) B d21_1 (hw _ (List.mem_of_getElem? (i := 149) rfl)) (F) ?_
  exact o_ireturn (pc := 4) B d21_4 (by decide) (by decide) (⟨rfl, rfl, rfl, rfl⟩)
set_option maxRecDepth 65536 in
set_option maxHeartbeats 40000000 in
theorem oc25 (l : Launch) (Z : State) (a0 : Array Value) (hw : ∀ d ∈ tables_1, d.before a0 Z = true) (n0 : Nat) (h : Heap) (b : Nat → Addr) (arr : Addr) (op : Nat) (x y : Int64) (hop : op < 4) (SC : own_SC Z b arr) (OL : Old Z n0 h) : o_C l Z n0 oy25 prog_108_method_4_code 5 (some .long) orm25 [(.ref (b op)), (.long x), (.long y)] h (fun v h' kc nc => v = some (.long (own_opL op x y)) ∧ h' = h ∧ kc = 0 ∧ nc = 0) := by
  refine o_body (Ls := [.val (.ref (b op)), .val (.long x), .second, .val (.long y), .second]) pn25 (by first | (simp [argsToLocals, Value.category]; done) | rfl) (fun κ B => ?_)
  refine o_aloadN (pc := 0) B d25_0 rfl rfl ?_
  refine o_callU0 (pc := 1) B 0 d25_1 (hw _ (List.mem_of_getElem? (i := 170) rfl)) (hw _ (List.mem_of_getElem? (i := 143) rfl)) (hw _ (List.mem_of_getElem? (i := 144) rfl)) (hw _ (List.mem_of_getElem? (i := 146) rfl)) (hw _ (List.mem_of_getElem? (i := 145) rfl)) (hw _ (List.mem_of_getElem? (i := 147) rfl)) (hw _ (List.mem_of_getElem? (i := 148) rfl)) (by decide) pd21 rfl (by first | exact Nat.zero_le _ | exact Nat.le_of_ble_eq_true rfl | simp [Value.category]) (by first | decide | exact Nat.le_of_ble_eq_true rfl) (by first | decide | exact Nat.le_of_ble_eq_true rfl) (by decide) (by decide) rfl ((SC.1 op hop).1.ext OL.2) (oc21 l Z a0 hw n0 _ (b op) _ ((SC.1 op hop).2.ext OL.2)) ?_
  rintro _ h _ _ ⟨rfl, rfl, rfl, rfl⟩ - -
  have q : op = 0 ∨ op = 1 ∨ op = 2 ∨ op = 3 := by omega
  rcases q with rfl | rfl | rfl | rfl
  · refine o_tableswitch (pc := 4) (pc' := 46) (off := 42) B d25_4 (by decide) (by decide) (by decide) (by decide) ?_
    refine o_lloadN (pc := 46) B d25_46 rfl ?_
    refine o_lloadN (pc := 47) B d25_47 rfl ?_
    refine o_land (pc := 48) B d25_48 ?_
    refine o_goto (pc := 49) (pc' := 75) B d25_49 (by decide) (by decide) ?_
    exact o_lreturn (pc := 75) B d25_75 (by decide) (by decide) (⟨rfl, rfl, rfl, rfl⟩)
  · refine o_tableswitch (pc := 4) (pc' := 52) (off := 48) B d25_4 (by decide) (by decide) (by decide) (by decide) ?_
    refine o_lloadN (pc := 52) B d25_52 rfl ?_
    refine o_lloadN (pc := 53) B d25_53 rfl ?_
    refine o_lor (pc := 54) B d25_54 ?_
    refine o_goto (pc := 55) (pc' := 75) B d25_55 (by decide) (by decide) ?_
    exact o_lreturn (pc := 75) B d25_75 (by decide) (by decide) (⟨rfl, rfl, rfl, rfl⟩)
  · refine o_tableswitch (pc := 4) (pc' := 58) (off := 54) B d25_4 (by decide) (by decide) (by decide) (by decide) ?_
    refine o_lloadN (pc := 58) B d25_58 rfl ?_
    refine o_ldc2_w (pc := 59) B (x := (-1 : Int64)) d25_59 (hw _ (List.mem_of_getElem? (i := 171) rfl)) ?_
    refine o_lxor (pc := 62) B d25_62 ?_
    refine o_lloadN (pc := 63) B d25_63 rfl ?_
    refine o_lor (pc := 64) B d25_64 ?_
    refine o_goto (pc := 65) (pc' := 75) B d25_65 (by decide) (by decide) ?_
    exact o_lreturn (pc := 75) B d25_75 (by decide) (by decide) (⟨rfl, rfl, rfl, rfl⟩)
  · refine o_tableswitch (pc := 4) (pc' := 68) (off := 64) B d25_4 (by decide) (by decide) (by decide) (by decide) ?_
    refine o_lloadN (pc := 68) B d25_68 rfl ?_
    refine o_lloadN (pc := 69) B d25_69 rfl ?_
    refine o_lxor (pc := 70) B d25_70 ?_
    refine o_ldc2_w (pc := 71) B (x := (-1 : Int64)) d25_71 (hw _ (List.mem_of_getElem? (i := 171) rfl)) ?_
    refine o_lxor (pc := 74) B d25_74 ?_
    exact o_lreturn (pc := 75) B d25_75 (by decide) (by decide) (⟨rfl, rfl, rfl, rfl⟩)
set_option maxRecDepth 65536 in
set_option maxHeartbeats 40000000 in
theorem oc24 (l : Launch) (Z : State) (a0 : Array Value) (hw : ∀ d ∈ tables_1, d.before a0 Z = true) (n0 : Nat) (h : Heap) (b : Nat → Addr) (arr : Addr) (op : Nat) (x y : Bool) (hop : op < 4) (SC : own_SC Z b arr) (OL : Old Z n0 h) : o_C l Z n0 oy24 prog_108_method_5_code 3 (some .boolean) orm24 [(.ref (b op)), (.int (own_bi x)), (.int (own_bi y))] h (fun v h' kc nc => v = some (.int (own_bi (own_opB op x y))) ∧ h' = h ∧ kc = 0 ∧ nc = 0) := by
  refine o_body (Ls := [.val (.ref (b op)), .val (.int (own_bi x)), .val (.int (own_bi y))]) pn24 (by first | (simp [argsToLocals, Value.category]; done) | rfl) (fun κ B => ?_)
  cases x <;> cases y
  · refine o_aloadN (pc := 0) B d24_0 rfl rfl ?_
    refine o_iloadN (pc := 1) B d24_1 rfl ?_
    refine o_if_eq (pc := 2) (pc' := 9) B d24_2 (by decide) (by decide) (fun hc2 => ?_) (fun hc2 => False.elim (by revert hc2; decide))
    refine o_lconst (pc := 9) B (0 : Int64) d24_9 (by decide) ?_
    refine o_iloadN (pc := 10) B d24_10 rfl ?_
    refine o_if_eq (pc := 11) (pc' := 18) B d24_11 (by decide) (by decide) (fun hc11 => ?_) (fun hc11 => False.elim (by revert hc11; decide))
    refine o_lconst (pc := 18) B (0 : Int64) d24_18 (by decide) ?_
    refine o_callV2 (pc := 19) B 0 d24_19 (hw _ (List.mem_of_getElem? (i := 165) rfl)) (hw _ (List.mem_of_getElem? (i := 166) rfl)) (hw _ (List.mem_of_getElem? (i := 168) rfl)) (hw _ (List.mem_of_getElem? (i := 167) rfl)) (hw _ (List.mem_of_getElem? (i := 135) rfl)) (hw _ (List.mem_of_getElem? (i := 169) rfl)) (by decide) pd25 rfl (by first | exact Nat.zero_le _ | exact Nat.le_of_ble_eq_true rfl | simp [Value.category]) (by first | decide | exact Nat.le_of_ble_eq_true rfl) (by first | decide | exact Nat.le_of_ble_eq_true rfl) (by decide) (by decide) rfl ((SC.1 op hop).1.ext OL.2) (oc25 l Z a0 hw n0 _ b arr op (own_bl false) (own_bl false) hop SC OL) ?_
    rintro _ h _ _ ⟨rfl, rfl, rfl, rfl⟩ - -
    refine o_lconst (pc := 22) B (1 : Int64) d24_22 (by decide) ?_
    refine o_land (pc := 23) B d24_23 ?_
    refine o_lconst (pc := 24) B (0 : Int64) d24_24 (by decide) ?_
    refine o_lcmp (pc := 25) B d24_25 ?_
    refine o_lif_eq (pc := 26) (pc' := 33) B d24_26 (by decide) (by decide) (fun hc26 => ?_) (fun hc26 => ?_)
    · refine o_iconst (pc := 33) B (0 : Int32) d24_33 (by decide) ?_
      exact o_zreturn (pc := 34) B d24_34 (by decide) (by decide) (⟨by rw [(own_opL_bit hop false false).mp hc26]; rfl, rfl, rfl, rfl⟩)
    refine o_iconst (pc := 29) B (1 : Int32) d24_29 (by decide) ?_
    refine o_goto (pc := 30) (pc' := 34) B d24_30 (by decide) (by decide) ?_
    exact o_zreturn (pc := 34) B d24_34 (by decide) (by decide) (⟨by rw [eq_true_of_ne_false (fun z => hc26 ((own_opL_bit hop false false).mpr z))]; rfl, rfl, rfl, rfl⟩)
  · refine o_aloadN (pc := 0) B d24_0 rfl rfl ?_
    refine o_iloadN (pc := 1) B d24_1 rfl ?_
    refine o_if_eq (pc := 2) (pc' := 9) B d24_2 (by decide) (by decide) (fun hc2 => ?_) (fun hc2 => False.elim (by revert hc2; decide))
    refine o_lconst (pc := 9) B (0 : Int64) d24_9 (by decide) ?_
    refine o_iloadN (pc := 10) B d24_10 rfl ?_
    refine o_if_eq (pc := 11) (pc' := 18) B d24_11 (by decide) (by decide) (fun hc11 => False.elim (by revert hc11; decide)) (fun hc11 => ?_)
    refine o_lconst (pc := 14) B (1 : Int64) d24_14 (by decide) ?_
    refine o_goto (pc := 15) (pc' := 19) B d24_15 (by decide) (by decide) ?_
    refine o_callV2 (pc := 19) B 0 d24_19 (hw _ (List.mem_of_getElem? (i := 165) rfl)) (hw _ (List.mem_of_getElem? (i := 166) rfl)) (hw _ (List.mem_of_getElem? (i := 168) rfl)) (hw _ (List.mem_of_getElem? (i := 167) rfl)) (hw _ (List.mem_of_getElem? (i := 135) rfl)) (hw _ (List.mem_of_getElem? (i := 169) rfl)) (by decide) pd25 rfl (by first | exact Nat.zero_le _ | exact Nat.le_of_ble_eq_true rfl | simp [Value.category]) (by first | decide | exact Nat.le_of_ble_eq_true rfl) (by first | decide | exact Nat.le_of_ble_eq_true rfl) (by decide) (by decide) rfl ((SC.1 op hop).1.ext OL.2) (oc25 l Z a0 hw n0 _ b arr op (own_bl false) (own_bl true) hop SC OL) ?_
    rintro _ h _ _ ⟨rfl, rfl, rfl, rfl⟩ - -
    refine o_lconst (pc := 22) B (1 : Int64) d24_22 (by decide) ?_
    refine o_land (pc := 23) B d24_23 ?_
    refine o_lconst (pc := 24) B (0 : Int64) d24_24 (by decide) ?_
    refine o_lcmp (pc := 25) B d24_25 ?_
    refine o_lif_eq (pc := 26) (pc' := 33) B d24_26 (by decide) (by decide) (fun hc26 => ?_) (fun hc26 => ?_)
    · refine o_iconst (pc := 33) B (0 : Int32) d24_33 (by decide) ?_
      exact o_zreturn (pc := 34) B d24_34 (by decide) (by decide) (⟨by rw [(own_opL_bit hop false true).mp hc26]; rfl, rfl, rfl, rfl⟩)
    refine o_iconst (pc := 29) B (1 : Int32) d24_29 (by decide) ?_
    refine o_goto (pc := 30) (pc' := 34) B d24_30 (by decide) (by decide) ?_
    exact o_zreturn (pc := 34) B d24_34 (by decide) (by decide) (⟨by rw [eq_true_of_ne_false (fun z => hc26 ((own_opL_bit hop false true).mpr z))]; rfl, rfl, rfl, rfl⟩)
  · refine o_aloadN (pc := 0) B d24_0 rfl rfl ?_
    refine o_iloadN (pc := 1) B d24_1 rfl ?_
    refine o_if_eq (pc := 2) (pc' := 9) B d24_2 (by decide) (by decide) (fun hc2 => False.elim (by revert hc2; decide)) (fun hc2 => ?_)
    refine o_lconst (pc := 5) B (1 : Int64) d24_5 (by decide) ?_
    refine o_goto (pc := 6) (pc' := 10) B d24_6 (by decide) (by decide) ?_
    refine o_iloadN (pc := 10) B d24_10 rfl ?_
    refine o_if_eq (pc := 11) (pc' := 18) B d24_11 (by decide) (by decide) (fun hc11 => ?_) (fun hc11 => False.elim (by revert hc11; decide))
    refine o_lconst (pc := 18) B (0 : Int64) d24_18 (by decide) ?_
    refine o_callV2 (pc := 19) B 0 d24_19 (hw _ (List.mem_of_getElem? (i := 165) rfl)) (hw _ (List.mem_of_getElem? (i := 166) rfl)) (hw _ (List.mem_of_getElem? (i := 168) rfl)) (hw _ (List.mem_of_getElem? (i := 167) rfl)) (hw _ (List.mem_of_getElem? (i := 135) rfl)) (hw _ (List.mem_of_getElem? (i := 169) rfl)) (by decide) pd25 rfl (by first | exact Nat.zero_le _ | exact Nat.le_of_ble_eq_true rfl | simp [Value.category]) (by first | decide | exact Nat.le_of_ble_eq_true rfl) (by first | decide | exact Nat.le_of_ble_eq_true rfl) (by decide) (by decide) rfl ((SC.1 op hop).1.ext OL.2) (oc25 l Z a0 hw n0 _ b arr op (own_bl true) (own_bl false) hop SC OL) ?_
    rintro _ h _ _ ⟨rfl, rfl, rfl, rfl⟩ - -
    refine o_lconst (pc := 22) B (1 : Int64) d24_22 (by decide) ?_
    refine o_land (pc := 23) B d24_23 ?_
    refine o_lconst (pc := 24) B (0 : Int64) d24_24 (by decide) ?_
    refine o_lcmp (pc := 25) B d24_25 ?_
    refine o_lif_eq (pc := 26) (pc' := 33) B d24_26 (by decide) (by decide) (fun hc26 => ?_) (fun hc26 => ?_)
    · refine o_iconst (pc := 33) B (0 : Int32) d24_33 (by decide) ?_
      exact o_zreturn (pc := 34) B d24_34 (by decide) (by decide) (⟨by rw [(own_opL_bit hop true false).mp hc26]; rfl, rfl, rfl, rfl⟩)
    refine o_iconst (pc := 29) B (1 : Int32) d24_29 (by decide) ?_
    refine o_goto (pc := 30) (pc' := 34) B d24_30 (by decide) (by decide) ?_
    exact o_zreturn (pc := 34) B d24_34 (by decide) (by decide) (⟨by rw [eq_true_of_ne_false (fun z => hc26 ((own_opL_bit hop true false).mpr z))]; rfl, rfl, rfl, rfl⟩)
  · refine o_aloadN (pc := 0) B d24_0 rfl rfl ?_
    refine o_iloadN (pc := 1) B d24_1 rfl ?_
    refine o_if_eq (pc := 2) (pc' := 9) B d24_2 (by decide) (by decide) (fun hc2 => False.elim (by revert hc2; decide)) (fun hc2 => ?_)
    refine o_lconst (pc := 5) B (1 : Int64) d24_5 (by decide) ?_
    refine o_goto (pc := 6) (pc' := 10) B d24_6 (by decide) (by decide) ?_
    refine o_iloadN (pc := 10) B d24_10 rfl ?_
    refine o_if_eq (pc := 11) (pc' := 18) B d24_11 (by decide) (by decide) (fun hc11 => False.elim (by revert hc11; decide)) (fun hc11 => ?_)
    refine o_lconst (pc := 14) B (1 : Int64) d24_14 (by decide) ?_
    refine o_goto (pc := 15) (pc' := 19) B d24_15 (by decide) (by decide) ?_
    refine o_callV2 (pc := 19) B 0 d24_19 (hw _ (List.mem_of_getElem? (i := 165) rfl)) (hw _ (List.mem_of_getElem? (i := 166) rfl)) (hw _ (List.mem_of_getElem? (i := 168) rfl)) (hw _ (List.mem_of_getElem? (i := 167) rfl)) (hw _ (List.mem_of_getElem? (i := 135) rfl)) (hw _ (List.mem_of_getElem? (i := 169) rfl)) (by decide) pd25 rfl (by first | exact Nat.zero_le _ | exact Nat.le_of_ble_eq_true rfl | simp [Value.category]) (by first | decide | exact Nat.le_of_ble_eq_true rfl) (by first | decide | exact Nat.le_of_ble_eq_true rfl) (by decide) (by decide) rfl ((SC.1 op hop).1.ext OL.2) (oc25 l Z a0 hw n0 _ b arr op (own_bl true) (own_bl true) hop SC OL) ?_
    rintro _ h _ _ ⟨rfl, rfl, rfl, rfl⟩ - -
    refine o_lconst (pc := 22) B (1 : Int64) d24_22 (by decide) ?_
    refine o_land (pc := 23) B d24_23 ?_
    refine o_lconst (pc := 24) B (0 : Int64) d24_24 (by decide) ?_
    refine o_lcmp (pc := 25) B d24_25 ?_
    refine o_lif_eq (pc := 26) (pc' := 33) B d24_26 (by decide) (by decide) (fun hc26 => ?_) (fun hc26 => ?_)
    · refine o_iconst (pc := 33) B (0 : Int32) d24_33 (by decide) ?_
      exact o_zreturn (pc := 34) B d24_34 (by decide) (by decide) (⟨by rw [(own_opL_bit hop true true).mp hc26]; rfl, rfl, rfl, rfl⟩)
    refine o_iconst (pc := 29) B (1 : Int32) d24_29 (by decide) ?_
    refine o_goto (pc := 30) (pc' := 34) B d24_30 (by decide) (by decide) ?_
    exact o_zreturn (pc := 34) B d24_34 (by decide) (by decide) (⟨by rw [eq_true_of_ne_false (fun z => hc26 ((own_opL_bit hop true true).mpr z))]; rfl, rfl, rfl, rfl⟩)
set_option maxRecDepth 65536 in
set_option maxHeartbeats 40000000 in
theorem oc27 (l : Launch) (Z : State) (a0 : Array Value) (hw : ∀ d ∈ tables_1, d.before a0 Z = true) (n0 : Nat) (h : Heap) (z o : Bool) (s : Int32) : o_C l Z n0 oy27 prog_26_method_15_code 4 (some .int) orm27 [(.int (own_bi z)), (.int (own_bi o)), (.int s)] h (fun v h' kc nc => v = some (.int (own_fo z o s)) ∧ h' = h ∧ kc = 0 ∧ nc = 0) := by
  refine o_body (Ls := [.val (.int (own_bi z)), .val (.int (own_bi o)), .val (.int s), .unset]) pn27 (by first | (simp [argsToLocals, Value.category]; done) | rfl) (fun κ B => ?_)
  cases z <;> cases o
  · refine o_ldc (pc := 0) B (x := (-2147483648 : Int32)) d27_0 (hw _ (List.mem_of_getElem? (i := 50) rfl)) ?_
    refine o_istoreN_4_3 (pc := 2) B d27_2 rfl ?_
    refine o_iloadN (pc := 3) B d27_3 rfl ?_
    refine o_iloadN (pc := 4) B d27_4 rfl ?_
    refine o_icmp_ne (pc := 5) (pc' := 21) B d27_5 (by decide) (by decide) (fun hc5 => False.elim (by revert hc5; decide)) (fun hc5 => ?_)
    refine o_iloadN (pc := 8) B d27_8 rfl ?_
    refine o_if_eq (pc := 9) (pc' := 16) B d27_9 (by decide) (by decide) (fun hc9 => ?_) (fun hc9 => False.elim (by revert hc9; decide))
    refine o_iconst (pc := 16) B (0 : Int32) d27_16 (by decide) ?_
    refine o_istoreN_4_3 (pc := 17) B d27_17 rfl ?_
    refine o_goto (pc := 18) (pc' := 27) B d27_18 (by decide) (by decide) ?_
    refine o_iloadN (pc := 27) B d27_27 rfl ?_
    exact o_ireturn (pc := 28) B d27_28 (by decide) (by decide) (⟨rfl, rfl, rfl, rfl⟩)
  · refine o_ldc (pc := 0) B (x := (-2147483648 : Int32)) d27_0 (hw _ (List.mem_of_getElem? (i := 50) rfl)) ?_
    refine o_istoreN_4_3 (pc := 2) B d27_2 rfl ?_
    refine o_iloadN (pc := 3) B d27_3 rfl ?_
    refine o_iloadN (pc := 4) B d27_4 rfl ?_
    refine o_icmp_ne (pc := 5) (pc' := 21) B d27_5 (by decide) (by decide) (fun hc5 => ?_) (fun hc5 => False.elim (by revert hc5; decide))
    refine o_iloadN (pc := 21) B d27_21 rfl ?_
    refine o_if_eq (pc := 22) (pc' := 27) B d27_22 (by decide) (by decide) (fun hc22 => False.elim (by revert hc22; decide)) (fun hc22 => ?_)
    refine o_iloadN (pc := 25) B d27_25 rfl ?_
    refine o_istoreN_4_3 (pc := 26) B d27_26 rfl ?_
    refine o_iloadN (pc := 27) B d27_27 rfl ?_
    exact o_ireturn (pc := 28) B d27_28 (by decide) (by decide) (⟨rfl, rfl, rfl, rfl⟩)
  · refine o_ldc (pc := 0) B (x := (-2147483648 : Int32)) d27_0 (hw _ (List.mem_of_getElem? (i := 50) rfl)) ?_
    refine o_istoreN_4_3 (pc := 2) B d27_2 rfl ?_
    refine o_iloadN (pc := 3) B d27_3 rfl ?_
    refine o_iloadN (pc := 4) B d27_4 rfl ?_
    refine o_icmp_ne (pc := 5) (pc' := 21) B d27_5 (by decide) (by decide) (fun hc5 => ?_) (fun hc5 => False.elim (by revert hc5; decide))
    refine o_iloadN (pc := 21) B d27_21 rfl ?_
    refine o_if_eq (pc := 22) (pc' := 27) B d27_22 (by decide) (by decide) (fun hc22 => ?_) (fun hc22 => False.elim (by revert hc22; decide))
    refine o_iloadN (pc := 27) B d27_27 rfl ?_
    exact o_ireturn (pc := 28) B d27_28 (by decide) (by decide) (⟨rfl, rfl, rfl, rfl⟩)
  · refine o_ldc (pc := 0) B (x := (-2147483648 : Int32)) d27_0 (hw _ (List.mem_of_getElem? (i := 50) rfl)) ?_
    refine o_istoreN_4_3 (pc := 2) B d27_2 rfl ?_
    refine o_iloadN (pc := 3) B d27_3 rfl ?_
    refine o_iloadN (pc := 4) B d27_4 rfl ?_
    refine o_icmp_ne (pc := 5) (pc' := 21) B d27_5 (by decide) (by decide) (fun hc5 => False.elim (by revert hc5; decide)) (fun hc5 => ?_)
    refine o_iloadN (pc := 8) B d27_8 rfl ?_
    refine o_if_eq (pc := 9) (pc' := 16) B d27_9 (by decide) (by decide) (fun hc9 => False.elim (by revert hc9; decide)) (fun hc9 => ?_)
    refine o_iconst (pc := 12) B (1 : Int32) d27_12 (by decide) ?_
    refine o_goto (pc := 13) (pc' := 17) B d27_13 (by decide) (by decide) ?_
    refine o_istoreN_4_3 (pc := 17) B d27_17 rfl ?_
    refine o_goto (pc := 18) (pc' := 27) B d27_18 (by decide) (by decide) ?_
    refine o_iloadN (pc := 27) B d27_27 rfl ?_
    exact o_ireturn (pc := 28) B d27_28 (by decide) (by decide) (⟨rfl, rfl, rfl, rfl⟩)
theorem own_get4 (b : Nat → Addr) {op : Nat} (h : op < 4) : ((List.range 4).map fun i => Value.ref (b i))[op]? = some (.ref (b op)) := by
  rw [List.getElem?_map, List.getElem?_range h]; rfl
theorem own_gt1 {f : Nat} (h : 2 ≤ f) (h31 : f < 2 ^ 31) : (1 : Int32) < Int32.ofNat f := (own_ltn (a := 1) (by decide) h31).mpr (by omega)
theorem own_M0 {N : own_Nd} (B : own_BN N) : own_M N 0 = own_c8 false := B.2.1
theorem own_M1 {N : own_Nd} (B : own_BN N) : own_M N 1 = own_c8 true := B.2.2.1
set_option maxRecDepth 65536 in
set_option maxHeartbeats 40000000 in
theorem oc23 (l : Launch) (Z : State) (a0 : Array Value) (hw : ∀ d ∈ tables_1, d.before a0 Z = true) (n0 : Nat) (h : Heap) (b : Nat → Addr) (arr : Addr) (op f g : Nat) (N : own_Nd) (hop : op < 4) (SC : own_SC Z b arr) (OL : Old Z n0 h) (BN : own_BN N) (hf : f < own_ct N) (hg : g < own_ct N) (h31 : own_ct N < 2 ^ 31) : o_C l Z n0 oy23 prog_26_method_14_code 5 (some .int) orm23 [(.int (Int32.ofNat op)), (.int (Int32.ofNat f)), (.int (Int32.ofNat g))] h (fun v h' kc nc => (∃ x, v = some (.int x) ∧ own_Sr N op f g x ∧ (x = -2147483648 → 2 ≤ f ∨ 2 ≤ g)) ∧ h' = h ∧ kc = 0 ∧ nc = 0) := by
  refine o_body (Ls := [.val (.int (Int32.ofNat op)), .val (.int (Int32.ofNat f)), .val (.int (Int32.ofNat g)), .unset, .unset]) pn23 (by first | (simp [argsToLocals, Value.category]; done) | rfl) (fun κ B => ?_)
  refine o_iloadN (pc := 0) B d23_0 rfl ?_
  refine o_if_ge (pc := 1) (pc' := 11) B d23_1 (by decide) (by decide) (fun hc1 => ?_) (fun hc1 => False.elim ((own_nn (by omega) hc1)))
  refine o_getS (pc := 11) B d23_11 (hw _ (List.mem_of_getElem? (i := 158) rfl)) (SC.2.2.2.2.2.1.ext OL.2) ?_
  refine o_iloadN (pc := 14) B d23_14 rfl ?_
  refine o_aaload (pc := 15) B (op) rfl d23_15 (SC.2.2.2.2.2.2.ext OL.2) (rfl) (own_get4 b hop) ?_
  refine o_astoreN_5_3 (pc := 16) B d23_16 rfl rfl ?_
  refine o_ldc (pc := 17) B (x := (-2147483648 : Int32)) d23_17 (hw _ (List.mem_of_getElem? (i := 50) rfl)) ?_
  refine o_istore_5_4 (pc := 19) B d23_19 rfl ?_
  have qf : f = 0 ∨ f = 1 ∨ 2 ≤ f := by omega
  have qg : g = 0 ∨ g = 1 ∨ 2 ≤ g := by omega
  rcases qf with rfl | rfl | qf <;> rcases qg with rfl | rfl | qg
  · refine o_iloadN (pc := 21) B d23_21 rfl ?_
    refine o_iconst (pc := 22) B (1 : Int32) d23_22 (by decide) ?_
    refine o_icmp_gt (pc := 23) (pc' := 68) B d23_23 (by decide) (by decide) (fun hc23 => False.elim (by revert hc23; decide)) (fun hc23 => ?_)
    refine o_iloadN (pc := 26) B d23_26 rfl ?_
    refine o_iconst (pc := 27) B (1 : Int32) d23_27 (by decide) ?_
    refine o_icmp_gt (pc := 28) (pc' := 68) B d23_28 (by decide) (by decide) (fun hc28 => False.elim (by revert hc28; decide)) (fun hc28 => ?_)
    refine o_aloadN (pc := 31) B d23_31 rfl rfl ?_
    refine o_iloadN (pc := 32) B d23_32 rfl ?_
    refine o_iconst (pc := 33) B (1 : Int32) d23_33 (by decide) ?_
    refine o_icmp_ne (pc := 34) (pc' := 41) B d23_34 (by decide) (by decide) (fun hc34 => ?_) (fun hc34 => False.elim (by revert hc34; decide))
    refine o_iconst (pc := 41) B (0 : Int32) d23_41 (by decide) ?_
    refine o_iloadN (pc := 42) B d23_42 rfl ?_
    refine o_iconst (pc := 43) B (1 : Int32) d23_43 (by decide) ?_
    refine o_icmp_ne (pc := 44) (pc' := 51) B d23_44 (by decide) (by decide) (fun hc44 => ?_) (fun hc44 => False.elim (by revert hc44; decide))
    refine o_iconst (pc := 51) B (0 : Int32) d23_51 (by decide) ?_
    refine o_callV2 (pc := 52) B 0 d23_52 (hw _ (List.mem_of_getElem? (i := 160) rfl)) (hw _ (List.mem_of_getElem? (i := 161) rfl)) (hw _ (List.mem_of_getElem? (i := 163) rfl)) (hw _ (List.mem_of_getElem? (i := 162) rfl)) (hw _ (List.mem_of_getElem? (i := 135) rfl)) (hw _ (List.mem_of_getElem? (i := 164) rfl)) (by decide) pd24 rfl (by first | exact Nat.zero_le _ | exact Nat.le_of_ble_eq_true rfl | simp [Value.category]) (by first | decide | exact Nat.le_of_ble_eq_true rfl) (by first | decide | exact Nat.le_of_ble_eq_true rfl) (by decide) (by decide) rfl ((SC.1 op hop).1.ext OL.2) (oc24 l Z a0 hw n0 _ b arr op false false hop SC OL) ?_
    rintro _ h _ _ ⟨rfl, rfl, rfl, rfl⟩ - -
    have t := own_Sr.cc (op := op) BN (own_M0 BN) (own_M0 BN)
    refine o_if_eq (pc := 55) (pc' := 62) B d23_55 (by decide) (by decide) (fun hc55 => ?_) (fun hc55 => ?_)
    · refine o_iconst (pc := 62) B (0 : Int32) d23_62 (by decide) ?_
      refine o_istore_5_4 (pc := 63) B d23_63 rfl ?_
      refine o_goto (pc := 65) (pc' := 179) B d23_65 (by decide) (by decide) ?_
      refine o_iload (pc := 179) B d23_179 rfl ?_
      rw [hc55] at t
      exact o_ireturn (pc := 181) B d23_181 (by decide) (by decide) (⟨⟨_, rfl, t, fun z => absurd z (by decide)⟩, rfl, rfl, rfl⟩)
    refine o_iconst (pc := 58) B (1 : Int32) d23_58 (by decide) ?_
    refine o_goto (pc := 59) (pc' := 63) B d23_59 (by decide) (by decide) ?_
    refine o_istore_5_4 (pc := 63) B d23_63 rfl ?_
    refine o_goto (pc := 65) (pc' := 179) B d23_65 (by decide) (by decide) ?_
    refine o_iload (pc := 179) B d23_179 rfl ?_
    rw [own_bi1 hc55] at t
    exact o_ireturn (pc := 181) B d23_181 (by decide) (by decide) (⟨⟨_, rfl, t, fun z => absurd z (by decide)⟩, rfl, rfl, rfl⟩)
  · refine o_iloadN (pc := 21) B d23_21 rfl ?_
    refine o_iconst (pc := 22) B (1 : Int32) d23_22 (by decide) ?_
    refine o_icmp_gt (pc := 23) (pc' := 68) B d23_23 (by decide) (by decide) (fun hc23 => False.elim (by revert hc23; decide)) (fun hc23 => ?_)
    refine o_iloadN (pc := 26) B d23_26 rfl ?_
    refine o_iconst (pc := 27) B (1 : Int32) d23_27 (by decide) ?_
    refine o_icmp_gt (pc := 28) (pc' := 68) B d23_28 (by decide) (by decide) (fun hc28 => False.elim (by revert hc28; decide)) (fun hc28 => ?_)
    refine o_aloadN (pc := 31) B d23_31 rfl rfl ?_
    refine o_iloadN (pc := 32) B d23_32 rfl ?_
    refine o_iconst (pc := 33) B (1 : Int32) d23_33 (by decide) ?_
    refine o_icmp_ne (pc := 34) (pc' := 41) B d23_34 (by decide) (by decide) (fun hc34 => ?_) (fun hc34 => False.elim (by revert hc34; decide))
    refine o_iconst (pc := 41) B (0 : Int32) d23_41 (by decide) ?_
    refine o_iloadN (pc := 42) B d23_42 rfl ?_
    refine o_iconst (pc := 43) B (1 : Int32) d23_43 (by decide) ?_
    refine o_icmp_ne (pc := 44) (pc' := 51) B d23_44 (by decide) (by decide) (fun hc44 => False.elim (by revert hc44; decide)) (fun hc44 => ?_)
    refine o_iconst (pc := 47) B (1 : Int32) d23_47 (by decide) ?_
    refine o_goto (pc := 48) (pc' := 52) B d23_48 (by decide) (by decide) ?_
    refine o_callV2 (pc := 52) B 0 d23_52 (hw _ (List.mem_of_getElem? (i := 160) rfl)) (hw _ (List.mem_of_getElem? (i := 161) rfl)) (hw _ (List.mem_of_getElem? (i := 163) rfl)) (hw _ (List.mem_of_getElem? (i := 162) rfl)) (hw _ (List.mem_of_getElem? (i := 135) rfl)) (hw _ (List.mem_of_getElem? (i := 164) rfl)) (by decide) pd24 rfl (by first | exact Nat.zero_le _ | exact Nat.le_of_ble_eq_true rfl | simp [Value.category]) (by first | decide | exact Nat.le_of_ble_eq_true rfl) (by first | decide | exact Nat.le_of_ble_eq_true rfl) (by decide) (by decide) rfl ((SC.1 op hop).1.ext OL.2) (oc24 l Z a0 hw n0 _ b arr op false true hop SC OL) ?_
    rintro _ h _ _ ⟨rfl, rfl, rfl, rfl⟩ - -
    have t := own_Sr.cc (op := op) BN (own_M0 BN) (own_M1 BN)
    refine o_if_eq (pc := 55) (pc' := 62) B d23_55 (by decide) (by decide) (fun hc55 => ?_) (fun hc55 => ?_)
    · refine o_iconst (pc := 62) B (0 : Int32) d23_62 (by decide) ?_
      refine o_istore_5_4 (pc := 63) B d23_63 rfl ?_
      refine o_goto (pc := 65) (pc' := 179) B d23_65 (by decide) (by decide) ?_
      refine o_iload (pc := 179) B d23_179 rfl ?_
      rw [hc55] at t
      exact o_ireturn (pc := 181) B d23_181 (by decide) (by decide) (⟨⟨_, rfl, t, fun z => absurd z (by decide)⟩, rfl, rfl, rfl⟩)
    refine o_iconst (pc := 58) B (1 : Int32) d23_58 (by decide) ?_
    refine o_goto (pc := 59) (pc' := 63) B d23_59 (by decide) (by decide) ?_
    refine o_istore_5_4 (pc := 63) B d23_63 rfl ?_
    refine o_goto (pc := 65) (pc' := 179) B d23_65 (by decide) (by decide) ?_
    refine o_iload (pc := 179) B d23_179 rfl ?_
    rw [own_bi1 hc55] at t
    exact o_ireturn (pc := 181) B d23_181 (by decide) (by decide) (⟨⟨_, rfl, t, fun z => absurd z (by decide)⟩, rfl, rfl, rfl⟩)
  · refine o_iloadN (pc := 21) B d23_21 rfl ?_
    refine o_iconst (pc := 22) B (1 : Int32) d23_22 (by decide) ?_
    refine o_icmp_gt (pc := 23) (pc' := 68) B d23_23 (by decide) (by decide) (fun hc23 => False.elim (by revert hc23; decide)) (fun hc23 => ?_)
    refine o_iloadN (pc := 26) B d23_26 rfl ?_
    refine o_iconst (pc := 27) B (1 : Int32) d23_27 (by decide) ?_
    refine o_icmp_gt (pc := 28) (pc' := 68) B d23_28 (by decide) (by decide) (fun hc28 => ?_) (fun hc28 => False.elim ((hc28 (own_gt1 qg (by omega)))))
    refine o_iloadN (pc := 68) B d23_68 rfl ?_
    refine o_iloadN (pc := 69) B d23_69 rfl ?_
    refine o_icmp_ne (pc := 70) (pc' := 94) B d23_70 (by decide) (by decide) (fun hc70 => ?_) (fun hc70 => False.elim ((by have := (own_inj (a := 0) (by decide) (by omega)).mp hc70; omega)))
    refine o_iloadN (pc := 94) B d23_94 rfl ?_
    refine o_iconst (pc := 95) B (1 : Int32) d23_95 (by decide) ?_
    refine o_icmp_gt (pc := 96) (pc' := 138) B d23_96 (by decide) (by decide) (fun hc96 => False.elim (by revert hc96; decide)) (fun hc96 => ?_)
    refine o_aloadN (pc := 99) B d23_99 rfl rfl ?_
    refine o_iloadN (pc := 100) B d23_100 rfl ?_
    refine o_iconst (pc := 101) B (1 : Int32) d23_101 (by decide) ?_
    refine o_icmp_ne (pc := 102) (pc' := 109) B d23_102 (by decide) (by decide) (fun hc102 => ?_) (fun hc102 => False.elim (by revert hc102; decide))
    refine o_iconst (pc := 109) B (0 : Int32) d23_109 (by decide) ?_
    refine o_iconst (pc := 110) B (0 : Int32) d23_110 (by decide) ?_
    refine o_callV2 (pc := 111) B 0 d23_111 (hw _ (List.mem_of_getElem? (i := 160) rfl)) (hw _ (List.mem_of_getElem? (i := 161) rfl)) (hw _ (List.mem_of_getElem? (i := 163) rfl)) (hw _ (List.mem_of_getElem? (i := 162) rfl)) (hw _ (List.mem_of_getElem? (i := 135) rfl)) (hw _ (List.mem_of_getElem? (i := 164) rfl)) (by decide) pd24 rfl (by first | exact Nat.zero_le _ | exact Nat.le_of_ble_eq_true rfl | simp [Value.category]) (by first | decide | exact Nat.le_of_ble_eq_true rfl) (by first | decide | exact Nat.le_of_ble_eq_true rfl) (by decide) (by decide) rfl ((SC.1 op hop).1.ext OL.2) (oc24 l Z a0 hw n0 _ b arr op false false hop SC OL) ?_
    rintro _ h _ _ ⟨rfl, rfl, rfl, rfl⟩ - -
    refine o_aloadN (pc := 114) B d23_114 rfl rfl ?_
    refine o_iloadN (pc := 115) B d23_115 rfl ?_
    refine o_iconst (pc := 116) B (1 : Int32) d23_116 (by decide) ?_
    refine o_icmp_ne (pc := 117) (pc' := 124) B d23_117 (by decide) (by decide) (fun hc117 => ?_) (fun hc117 => False.elim (by revert hc117; decide))
    refine o_iconst (pc := 124) B (0 : Int32) d23_124 (by decide) ?_
    refine o_iconst (pc := 125) B (1 : Int32) d23_125 (by decide) ?_
    refine o_callV2 (pc := 126) B 1 d23_126 (hw _ (List.mem_of_getElem? (i := 160) rfl)) (hw _ (List.mem_of_getElem? (i := 161) rfl)) (hw _ (List.mem_of_getElem? (i := 163) rfl)) (hw _ (List.mem_of_getElem? (i := 162) rfl)) (hw _ (List.mem_of_getElem? (i := 135) rfl)) (hw _ (List.mem_of_getElem? (i := 164) rfl)) (by decide) pd24 rfl (by first | exact Nat.zero_le _ | exact Nat.le_of_ble_eq_true rfl | simp [Value.category]) (by first | decide | exact Nat.le_of_ble_eq_true rfl) (by first | decide | exact Nat.le_of_ble_eq_true rfl) (by decide) (by decide) rfl ((SC.1 op hop).1.ext OL.2) (oc24 l Z a0 hw n0 _ b arr op false true hop SC OL) ?_
    rintro _ h _ _ ⟨rfl, rfl, rfl, rfl⟩ - -
    refine o_iloadN (pc := 129) B d23_129 rfl ?_
    refine o_callS3 (pc := 130) B 0 d23_130 (hw _ (List.mem_of_getElem? (i := 177) rfl)) (hw _ (List.mem_of_getElem? (i := 178) rfl)) (hw _ (List.mem_of_getElem? (i := 2) rfl)) (hw _ (List.mem_of_getElem? (i := 179) rfl)) (by decide) pd27 rfl (by first | exact Nat.zero_le _ | exact Nat.le_of_ble_eq_true rfl | simp [Value.category]) (by first | decide | exact Nat.le_of_ble_eq_true rfl) (by first | decide | exact Nat.le_of_ble_eq_true rfl) (by decide) (by decide) rfl (oc27 l Z a0 hw n0 _ (own_opB op false false) (own_opB op false true) (Int32.ofNat (g))) ?_
    rintro _ h _ _ ⟨rfl, rfl, rfl, rfl⟩ - -
    refine o_istore_5_4 (pc := 133) B d23_133 rfl ?_
    refine o_goto (pc := 135) (pc' := 179) B d23_135 (by decide) (by decide) ?_
    refine o_iload (pc := 179) B d23_179 rfl ?_
    exact o_ireturn (pc := 181) B d23_181 (by decide) (by decide) (⟨⟨_, rfl, own_Sr.fo BN hg _ _ (fun r H => by rw [own_M0 BN]; exact own_op_l op _ _ r H) (Nat.le_max_right _ _), fun _ => Or.inr qg⟩, rfl, rfl, rfl⟩)
  · refine o_iloadN (pc := 21) B d23_21 rfl ?_
    refine o_iconst (pc := 22) B (1 : Int32) d23_22 (by decide) ?_
    refine o_icmp_gt (pc := 23) (pc' := 68) B d23_23 (by decide) (by decide) (fun hc23 => False.elim (by revert hc23; decide)) (fun hc23 => ?_)
    refine o_iloadN (pc := 26) B d23_26 rfl ?_
    refine o_iconst (pc := 27) B (1 : Int32) d23_27 (by decide) ?_
    refine o_icmp_gt (pc := 28) (pc' := 68) B d23_28 (by decide) (by decide) (fun hc28 => False.elim (by revert hc28; decide)) (fun hc28 => ?_)
    refine o_aloadN (pc := 31) B d23_31 rfl rfl ?_
    refine o_iloadN (pc := 32) B d23_32 rfl ?_
    refine o_iconst (pc := 33) B (1 : Int32) d23_33 (by decide) ?_
    refine o_icmp_ne (pc := 34) (pc' := 41) B d23_34 (by decide) (by decide) (fun hc34 => False.elim (by revert hc34; decide)) (fun hc34 => ?_)
    refine o_iconst (pc := 37) B (1 : Int32) d23_37 (by decide) ?_
    refine o_goto (pc := 38) (pc' := 42) B d23_38 (by decide) (by decide) ?_
    refine o_iloadN (pc := 42) B d23_42 rfl ?_
    refine o_iconst (pc := 43) B (1 : Int32) d23_43 (by decide) ?_
    refine o_icmp_ne (pc := 44) (pc' := 51) B d23_44 (by decide) (by decide) (fun hc44 => ?_) (fun hc44 => False.elim (by revert hc44; decide))
    refine o_iconst (pc := 51) B (0 : Int32) d23_51 (by decide) ?_
    refine o_callV2 (pc := 52) B 0 d23_52 (hw _ (List.mem_of_getElem? (i := 160) rfl)) (hw _ (List.mem_of_getElem? (i := 161) rfl)) (hw _ (List.mem_of_getElem? (i := 163) rfl)) (hw _ (List.mem_of_getElem? (i := 162) rfl)) (hw _ (List.mem_of_getElem? (i := 135) rfl)) (hw _ (List.mem_of_getElem? (i := 164) rfl)) (by decide) pd24 rfl (by first | exact Nat.zero_le _ | exact Nat.le_of_ble_eq_true rfl | simp [Value.category]) (by first | decide | exact Nat.le_of_ble_eq_true rfl) (by first | decide | exact Nat.le_of_ble_eq_true rfl) (by decide) (by decide) rfl ((SC.1 op hop).1.ext OL.2) (oc24 l Z a0 hw n0 _ b arr op true false hop SC OL) ?_
    rintro _ h _ _ ⟨rfl, rfl, rfl, rfl⟩ - -
    have t := own_Sr.cc (op := op) BN (own_M1 BN) (own_M0 BN)
    refine o_if_eq (pc := 55) (pc' := 62) B d23_55 (by decide) (by decide) (fun hc55 => ?_) (fun hc55 => ?_)
    · refine o_iconst (pc := 62) B (0 : Int32) d23_62 (by decide) ?_
      refine o_istore_5_4 (pc := 63) B d23_63 rfl ?_
      refine o_goto (pc := 65) (pc' := 179) B d23_65 (by decide) (by decide) ?_
      refine o_iload (pc := 179) B d23_179 rfl ?_
      rw [hc55] at t
      exact o_ireturn (pc := 181) B d23_181 (by decide) (by decide) (⟨⟨_, rfl, t, fun z => absurd z (by decide)⟩, rfl, rfl, rfl⟩)
    refine o_iconst (pc := 58) B (1 : Int32) d23_58 (by decide) ?_
    refine o_goto (pc := 59) (pc' := 63) B d23_59 (by decide) (by decide) ?_
    refine o_istore_5_4 (pc := 63) B d23_63 rfl ?_
    refine o_goto (pc := 65) (pc' := 179) B d23_65 (by decide) (by decide) ?_
    refine o_iload (pc := 179) B d23_179 rfl ?_
    rw [own_bi1 hc55] at t
    exact o_ireturn (pc := 181) B d23_181 (by decide) (by decide) (⟨⟨_, rfl, t, fun z => absurd z (by decide)⟩, rfl, rfl, rfl⟩)
  · refine o_iloadN (pc := 21) B d23_21 rfl ?_
    refine o_iconst (pc := 22) B (1 : Int32) d23_22 (by decide) ?_
    refine o_icmp_gt (pc := 23) (pc' := 68) B d23_23 (by decide) (by decide) (fun hc23 => False.elim (by revert hc23; decide)) (fun hc23 => ?_)
    refine o_iloadN (pc := 26) B d23_26 rfl ?_
    refine o_iconst (pc := 27) B (1 : Int32) d23_27 (by decide) ?_
    refine o_icmp_gt (pc := 28) (pc' := 68) B d23_28 (by decide) (by decide) (fun hc28 => False.elim (by revert hc28; decide)) (fun hc28 => ?_)
    refine o_aloadN (pc := 31) B d23_31 rfl rfl ?_
    refine o_iloadN (pc := 32) B d23_32 rfl ?_
    refine o_iconst (pc := 33) B (1 : Int32) d23_33 (by decide) ?_
    refine o_icmp_ne (pc := 34) (pc' := 41) B d23_34 (by decide) (by decide) (fun hc34 => False.elim (by revert hc34; decide)) (fun hc34 => ?_)
    refine o_iconst (pc := 37) B (1 : Int32) d23_37 (by decide) ?_
    refine o_goto (pc := 38) (pc' := 42) B d23_38 (by decide) (by decide) ?_
    refine o_iloadN (pc := 42) B d23_42 rfl ?_
    refine o_iconst (pc := 43) B (1 : Int32) d23_43 (by decide) ?_
    refine o_icmp_ne (pc := 44) (pc' := 51) B d23_44 (by decide) (by decide) (fun hc44 => False.elim (by revert hc44; decide)) (fun hc44 => ?_)
    refine o_iconst (pc := 47) B (1 : Int32) d23_47 (by decide) ?_
    refine o_goto (pc := 48) (pc' := 52) B d23_48 (by decide) (by decide) ?_
    refine o_callV2 (pc := 52) B 0 d23_52 (hw _ (List.mem_of_getElem? (i := 160) rfl)) (hw _ (List.mem_of_getElem? (i := 161) rfl)) (hw _ (List.mem_of_getElem? (i := 163) rfl)) (hw _ (List.mem_of_getElem? (i := 162) rfl)) (hw _ (List.mem_of_getElem? (i := 135) rfl)) (hw _ (List.mem_of_getElem? (i := 164) rfl)) (by decide) pd24 rfl (by first | exact Nat.zero_le _ | exact Nat.le_of_ble_eq_true rfl | simp [Value.category]) (by first | decide | exact Nat.le_of_ble_eq_true rfl) (by first | decide | exact Nat.le_of_ble_eq_true rfl) (by decide) (by decide) rfl ((SC.1 op hop).1.ext OL.2) (oc24 l Z a0 hw n0 _ b arr op true true hop SC OL) ?_
    rintro _ h _ _ ⟨rfl, rfl, rfl, rfl⟩ - -
    have t := own_Sr.cc (op := op) BN (own_M1 BN) (own_M1 BN)
    refine o_if_eq (pc := 55) (pc' := 62) B d23_55 (by decide) (by decide) (fun hc55 => ?_) (fun hc55 => ?_)
    · refine o_iconst (pc := 62) B (0 : Int32) d23_62 (by decide) ?_
      refine o_istore_5_4 (pc := 63) B d23_63 rfl ?_
      refine o_goto (pc := 65) (pc' := 179) B d23_65 (by decide) (by decide) ?_
      refine o_iload (pc := 179) B d23_179 rfl ?_
      rw [hc55] at t
      exact o_ireturn (pc := 181) B d23_181 (by decide) (by decide) (⟨⟨_, rfl, t, fun z => absurd z (by decide)⟩, rfl, rfl, rfl⟩)
    refine o_iconst (pc := 58) B (1 : Int32) d23_58 (by decide) ?_
    refine o_goto (pc := 59) (pc' := 63) B d23_59 (by decide) (by decide) ?_
    refine o_istore_5_4 (pc := 63) B d23_63 rfl ?_
    refine o_goto (pc := 65) (pc' := 179) B d23_65 (by decide) (by decide) ?_
    refine o_iload (pc := 179) B d23_179 rfl ?_
    rw [own_bi1 hc55] at t
    exact o_ireturn (pc := 181) B d23_181 (by decide) (by decide) (⟨⟨_, rfl, t, fun z => absurd z (by decide)⟩, rfl, rfl, rfl⟩)
  · refine o_iloadN (pc := 21) B d23_21 rfl ?_
    refine o_iconst (pc := 22) B (1 : Int32) d23_22 (by decide) ?_
    refine o_icmp_gt (pc := 23) (pc' := 68) B d23_23 (by decide) (by decide) (fun hc23 => False.elim (by revert hc23; decide)) (fun hc23 => ?_)
    refine o_iloadN (pc := 26) B d23_26 rfl ?_
    refine o_iconst (pc := 27) B (1 : Int32) d23_27 (by decide) ?_
    refine o_icmp_gt (pc := 28) (pc' := 68) B d23_28 (by decide) (by decide) (fun hc28 => ?_) (fun hc28 => False.elim ((hc28 (own_gt1 qg (by omega)))))
    refine o_iloadN (pc := 68) B d23_68 rfl ?_
    refine o_iloadN (pc := 69) B d23_69 rfl ?_
    refine o_icmp_ne (pc := 70) (pc' := 94) B d23_70 (by decide) (by decide) (fun hc70 => ?_) (fun hc70 => False.elim ((by have := (own_inj (a := 1) (by decide) (by omega)).mp hc70; omega)))
    refine o_iloadN (pc := 94) B d23_94 rfl ?_
    refine o_iconst (pc := 95) B (1 : Int32) d23_95 (by decide) ?_
    refine o_icmp_gt (pc := 96) (pc' := 138) B d23_96 (by decide) (by decide) (fun hc96 => False.elim (by revert hc96; decide)) (fun hc96 => ?_)
    refine o_aloadN (pc := 99) B d23_99 rfl rfl ?_
    refine o_iloadN (pc := 100) B d23_100 rfl ?_
    refine o_iconst (pc := 101) B (1 : Int32) d23_101 (by decide) ?_
    refine o_icmp_ne (pc := 102) (pc' := 109) B d23_102 (by decide) (by decide) (fun hc102 => False.elim (by revert hc102; decide)) (fun hc102 => ?_)
    refine o_iconst (pc := 105) B (1 : Int32) d23_105 (by decide) ?_
    refine o_goto (pc := 106) (pc' := 110) B d23_106 (by decide) (by decide) ?_
    refine o_iconst (pc := 110) B (0 : Int32) d23_110 (by decide) ?_
    refine o_callV2 (pc := 111) B 0 d23_111 (hw _ (List.mem_of_getElem? (i := 160) rfl)) (hw _ (List.mem_of_getElem? (i := 161) rfl)) (hw _ (List.mem_of_getElem? (i := 163) rfl)) (hw _ (List.mem_of_getElem? (i := 162) rfl)) (hw _ (List.mem_of_getElem? (i := 135) rfl)) (hw _ (List.mem_of_getElem? (i := 164) rfl)) (by decide) pd24 rfl (by first | exact Nat.zero_le _ | exact Nat.le_of_ble_eq_true rfl | simp [Value.category]) (by first | decide | exact Nat.le_of_ble_eq_true rfl) (by first | decide | exact Nat.le_of_ble_eq_true rfl) (by decide) (by decide) rfl ((SC.1 op hop).1.ext OL.2) (oc24 l Z a0 hw n0 _ b arr op true false hop SC OL) ?_
    rintro _ h _ _ ⟨rfl, rfl, rfl, rfl⟩ - -
    refine o_aloadN (pc := 114) B d23_114 rfl rfl ?_
    refine o_iloadN (pc := 115) B d23_115 rfl ?_
    refine o_iconst (pc := 116) B (1 : Int32) d23_116 (by decide) ?_
    refine o_icmp_ne (pc := 117) (pc' := 124) B d23_117 (by decide) (by decide) (fun hc117 => False.elim (by revert hc117; decide)) (fun hc117 => ?_)
    refine o_iconst (pc := 120) B (1 : Int32) d23_120 (by decide) ?_
    refine o_goto (pc := 121) (pc' := 125) B d23_121 (by decide) (by decide) ?_
    refine o_iconst (pc := 125) B (1 : Int32) d23_125 (by decide) ?_
    refine o_callV2 (pc := 126) B 1 d23_126 (hw _ (List.mem_of_getElem? (i := 160) rfl)) (hw _ (List.mem_of_getElem? (i := 161) rfl)) (hw _ (List.mem_of_getElem? (i := 163) rfl)) (hw _ (List.mem_of_getElem? (i := 162) rfl)) (hw _ (List.mem_of_getElem? (i := 135) rfl)) (hw _ (List.mem_of_getElem? (i := 164) rfl)) (by decide) pd24 rfl (by first | exact Nat.zero_le _ | exact Nat.le_of_ble_eq_true rfl | simp [Value.category]) (by first | decide | exact Nat.le_of_ble_eq_true rfl) (by first | decide | exact Nat.le_of_ble_eq_true rfl) (by decide) (by decide) rfl ((SC.1 op hop).1.ext OL.2) (oc24 l Z a0 hw n0 _ b arr op true true hop SC OL) ?_
    rintro _ h _ _ ⟨rfl, rfl, rfl, rfl⟩ - -
    refine o_iloadN (pc := 129) B d23_129 rfl ?_
    refine o_callS3 (pc := 130) B 0 d23_130 (hw _ (List.mem_of_getElem? (i := 177) rfl)) (hw _ (List.mem_of_getElem? (i := 178) rfl)) (hw _ (List.mem_of_getElem? (i := 2) rfl)) (hw _ (List.mem_of_getElem? (i := 179) rfl)) (by decide) pd27 rfl (by first | exact Nat.zero_le _ | exact Nat.le_of_ble_eq_true rfl | simp [Value.category]) (by first | decide | exact Nat.le_of_ble_eq_true rfl) (by first | decide | exact Nat.le_of_ble_eq_true rfl) (by decide) (by decide) rfl (oc27 l Z a0 hw n0 _ (own_opB op true false) (own_opB op true true) (Int32.ofNat (g))) ?_
    rintro _ h _ _ ⟨rfl, rfl, rfl, rfl⟩ - -
    refine o_istore_5_4 (pc := 133) B d23_133 rfl ?_
    refine o_goto (pc := 135) (pc' := 179) B d23_135 (by decide) (by decide) ?_
    refine o_iload (pc := 179) B d23_179 rfl ?_
    exact o_ireturn (pc := 181) B d23_181 (by decide) (by decide) (⟨⟨_, rfl, own_Sr.fo BN hg _ _ (fun r H => by rw [own_M1 BN]; exact own_op_l op _ _ r H) (Nat.le_max_right _ _), fun _ => Or.inr qg⟩, rfl, rfl, rfl⟩)
  · refine o_iloadN (pc := 21) B d23_21 rfl ?_
    refine o_iconst (pc := 22) B (1 : Int32) d23_22 (by decide) ?_
    refine o_icmp_gt (pc := 23) (pc' := 68) B d23_23 (by decide) (by decide) (fun hc23 => ?_) (fun hc23 => False.elim ((hc23 (own_gt1 qf (by omega)))))
    refine o_iloadN (pc := 68) B d23_68 rfl ?_
    refine o_iloadN (pc := 69) B d23_69 rfl ?_
    refine o_icmp_ne (pc := 70) (pc' := 94) B d23_70 (by decide) (by decide) (fun hc70 => ?_) (fun hc70 => False.elim ((by have := (own_inj (b := 0) (by omega) (by decide)).mp hc70; omega)))
    refine o_iloadN (pc := 94) B d23_94 rfl ?_
    refine o_iconst (pc := 95) B (1 : Int32) d23_95 (by decide) ?_
    refine o_icmp_gt (pc := 96) (pc' := 138) B d23_96 (by decide) (by decide) (fun hc96 => ?_) (fun hc96 => False.elim ((hc96 (own_gt1 qf (by omega)))))
    refine o_iloadN (pc := 138) B d23_138 rfl ?_
    refine o_iconst (pc := 139) B (1 : Int32) d23_139 (by decide) ?_
    refine o_icmp_gt (pc := 140) (pc' := 179) B d23_140 (by decide) (by decide) (fun hc140 => False.elim (by revert hc140; decide)) (fun hc140 => ?_)
    refine o_aloadN (pc := 143) B d23_143 rfl rfl ?_
    refine o_iconst (pc := 144) B (0 : Int32) d23_144 (by decide) ?_
    refine o_iloadN (pc := 145) B d23_145 rfl ?_
    refine o_iconst (pc := 146) B (1 : Int32) d23_146 (by decide) ?_
    refine o_icmp_ne (pc := 147) (pc' := 154) B d23_147 (by decide) (by decide) (fun hc147 => ?_) (fun hc147 => False.elim (by revert hc147; decide))
    refine o_iconst (pc := 154) B (0 : Int32) d23_154 (by decide) ?_
    refine o_callV2 (pc := 155) B 0 d23_155 (hw _ (List.mem_of_getElem? (i := 160) rfl)) (hw _ (List.mem_of_getElem? (i := 161) rfl)) (hw _ (List.mem_of_getElem? (i := 163) rfl)) (hw _ (List.mem_of_getElem? (i := 162) rfl)) (hw _ (List.mem_of_getElem? (i := 135) rfl)) (hw _ (List.mem_of_getElem? (i := 164) rfl)) (by decide) pd24 rfl (by first | exact Nat.zero_le _ | exact Nat.le_of_ble_eq_true rfl | simp [Value.category]) (by first | decide | exact Nat.le_of_ble_eq_true rfl) (by first | decide | exact Nat.le_of_ble_eq_true rfl) (by decide) (by decide) rfl ((SC.1 op hop).1.ext OL.2) (oc24 l Z a0 hw n0 _ b arr op false false hop SC OL) ?_
    rintro _ h _ _ ⟨rfl, rfl, rfl, rfl⟩ - -
    refine o_aloadN (pc := 158) B d23_158 rfl rfl ?_
    refine o_iconst (pc := 159) B (1 : Int32) d23_159 (by decide) ?_
    refine o_iloadN (pc := 160) B d23_160 rfl ?_
    refine o_iconst (pc := 161) B (1 : Int32) d23_161 (by decide) ?_
    refine o_icmp_ne (pc := 162) (pc' := 169) B d23_162 (by decide) (by decide) (fun hc162 => ?_) (fun hc162 => False.elim (by revert hc162; decide))
    refine o_iconst (pc := 169) B (0 : Int32) d23_169 (by decide) ?_
    refine o_callV2 (pc := 170) B 1 d23_170 (hw _ (List.mem_of_getElem? (i := 160) rfl)) (hw _ (List.mem_of_getElem? (i := 161) rfl)) (hw _ (List.mem_of_getElem? (i := 163) rfl)) (hw _ (List.mem_of_getElem? (i := 162) rfl)) (hw _ (List.mem_of_getElem? (i := 135) rfl)) (hw _ (List.mem_of_getElem? (i := 164) rfl)) (by decide) pd24 rfl (by first | exact Nat.zero_le _ | exact Nat.le_of_ble_eq_true rfl | simp [Value.category]) (by first | decide | exact Nat.le_of_ble_eq_true rfl) (by first | decide | exact Nat.le_of_ble_eq_true rfl) (by decide) (by decide) rfl ((SC.1 op hop).1.ext OL.2) (oc24 l Z a0 hw n0 _ b arr op true false hop SC OL) ?_
    rintro _ h _ _ ⟨rfl, rfl, rfl, rfl⟩ - -
    refine o_iloadN (pc := 173) B d23_173 rfl ?_
    refine o_callS3 (pc := 174) B 0 d23_174 (hw _ (List.mem_of_getElem? (i := 177) rfl)) (hw _ (List.mem_of_getElem? (i := 178) rfl)) (hw _ (List.mem_of_getElem? (i := 2) rfl)) (hw _ (List.mem_of_getElem? (i := 179) rfl)) (by decide) pd27 rfl (by first | exact Nat.zero_le _ | exact Nat.le_of_ble_eq_true rfl | simp [Value.category]) (by first | decide | exact Nat.le_of_ble_eq_true rfl) (by first | decide | exact Nat.le_of_ble_eq_true rfl) (by decide) (by decide) rfl (oc27 l Z a0 hw n0 _ (own_opB op false false) (own_opB op true false) (Int32.ofNat (f))) ?_
    rintro _ h _ _ ⟨rfl, rfl, rfl, rfl⟩ - -
    refine o_istore_5_4 (pc := 177) B d23_177 rfl ?_
    refine o_iload (pc := 179) B d23_179 rfl ?_
    exact o_ireturn (pc := 181) B d23_181 (by decide) (by decide) (⟨⟨_, rfl, own_Sr.fo BN hf _ _ (fun r H => by rw [own_M0 BN]; exact own_op_r op _ _ r H) (Nat.le_max_left _ _), fun _ => Or.inl qf⟩, rfl, rfl, rfl⟩)
  · refine o_iloadN (pc := 21) B d23_21 rfl ?_
    refine o_iconst (pc := 22) B (1 : Int32) d23_22 (by decide) ?_
    refine o_icmp_gt (pc := 23) (pc' := 68) B d23_23 (by decide) (by decide) (fun hc23 => ?_) (fun hc23 => False.elim ((hc23 (own_gt1 qf (by omega)))))
    refine o_iloadN (pc := 68) B d23_68 rfl ?_
    refine o_iloadN (pc := 69) B d23_69 rfl ?_
    refine o_icmp_ne (pc := 70) (pc' := 94) B d23_70 (by decide) (by decide) (fun hc70 => ?_) (fun hc70 => False.elim ((by have := (own_inj (b := 1) (by omega) (by decide)).mp hc70; omega)))
    refine o_iloadN (pc := 94) B d23_94 rfl ?_
    refine o_iconst (pc := 95) B (1 : Int32) d23_95 (by decide) ?_
    refine o_icmp_gt (pc := 96) (pc' := 138) B d23_96 (by decide) (by decide) (fun hc96 => ?_) (fun hc96 => False.elim ((hc96 (own_gt1 qf (by omega)))))
    refine o_iloadN (pc := 138) B d23_138 rfl ?_
    refine o_iconst (pc := 139) B (1 : Int32) d23_139 (by decide) ?_
    refine o_icmp_gt (pc := 140) (pc' := 179) B d23_140 (by decide) (by decide) (fun hc140 => False.elim (by revert hc140; decide)) (fun hc140 => ?_)
    refine o_aloadN (pc := 143) B d23_143 rfl rfl ?_
    refine o_iconst (pc := 144) B (0 : Int32) d23_144 (by decide) ?_
    refine o_iloadN (pc := 145) B d23_145 rfl ?_
    refine o_iconst (pc := 146) B (1 : Int32) d23_146 (by decide) ?_
    refine o_icmp_ne (pc := 147) (pc' := 154) B d23_147 (by decide) (by decide) (fun hc147 => False.elim (by revert hc147; decide)) (fun hc147 => ?_)
    refine o_iconst (pc := 150) B (1 : Int32) d23_150 (by decide) ?_
    refine o_goto (pc := 151) (pc' := 155) B d23_151 (by decide) (by decide) ?_
    refine o_callV2 (pc := 155) B 0 d23_155 (hw _ (List.mem_of_getElem? (i := 160) rfl)) (hw _ (List.mem_of_getElem? (i := 161) rfl)) (hw _ (List.mem_of_getElem? (i := 163) rfl)) (hw _ (List.mem_of_getElem? (i := 162) rfl)) (hw _ (List.mem_of_getElem? (i := 135) rfl)) (hw _ (List.mem_of_getElem? (i := 164) rfl)) (by decide) pd24 rfl (by first | exact Nat.zero_le _ | exact Nat.le_of_ble_eq_true rfl | simp [Value.category]) (by first | decide | exact Nat.le_of_ble_eq_true rfl) (by first | decide | exact Nat.le_of_ble_eq_true rfl) (by decide) (by decide) rfl ((SC.1 op hop).1.ext OL.2) (oc24 l Z a0 hw n0 _ b arr op false true hop SC OL) ?_
    rintro _ h _ _ ⟨rfl, rfl, rfl, rfl⟩ - -
    refine o_aloadN (pc := 158) B d23_158 rfl rfl ?_
    refine o_iconst (pc := 159) B (1 : Int32) d23_159 (by decide) ?_
    refine o_iloadN (pc := 160) B d23_160 rfl ?_
    refine o_iconst (pc := 161) B (1 : Int32) d23_161 (by decide) ?_
    refine o_icmp_ne (pc := 162) (pc' := 169) B d23_162 (by decide) (by decide) (fun hc162 => False.elim (by revert hc162; decide)) (fun hc162 => ?_)
    refine o_iconst (pc := 165) B (1 : Int32) d23_165 (by decide) ?_
    refine o_goto (pc := 166) (pc' := 170) B d23_166 (by decide) (by decide) ?_
    refine o_callV2 (pc := 170) B 1 d23_170 (hw _ (List.mem_of_getElem? (i := 160) rfl)) (hw _ (List.mem_of_getElem? (i := 161) rfl)) (hw _ (List.mem_of_getElem? (i := 163) rfl)) (hw _ (List.mem_of_getElem? (i := 162) rfl)) (hw _ (List.mem_of_getElem? (i := 135) rfl)) (hw _ (List.mem_of_getElem? (i := 164) rfl)) (by decide) pd24 rfl (by first | exact Nat.zero_le _ | exact Nat.le_of_ble_eq_true rfl | simp [Value.category]) (by first | decide | exact Nat.le_of_ble_eq_true rfl) (by first | decide | exact Nat.le_of_ble_eq_true rfl) (by decide) (by decide) rfl ((SC.1 op hop).1.ext OL.2) (oc24 l Z a0 hw n0 _ b arr op true true hop SC OL) ?_
    rintro _ h _ _ ⟨rfl, rfl, rfl, rfl⟩ - -
    refine o_iloadN (pc := 173) B d23_173 rfl ?_
    refine o_callS3 (pc := 174) B 0 d23_174 (hw _ (List.mem_of_getElem? (i := 177) rfl)) (hw _ (List.mem_of_getElem? (i := 178) rfl)) (hw _ (List.mem_of_getElem? (i := 2) rfl)) (hw _ (List.mem_of_getElem? (i := 179) rfl)) (by decide) pd27 rfl (by first | exact Nat.zero_le _ | exact Nat.le_of_ble_eq_true rfl | simp [Value.category]) (by first | decide | exact Nat.le_of_ble_eq_true rfl) (by first | decide | exact Nat.le_of_ble_eq_true rfl) (by decide) (by decide) rfl (oc27 l Z a0 hw n0 _ (own_opB op false true) (own_opB op true true) (Int32.ofNat (f))) ?_
    rintro _ h _ _ ⟨rfl, rfl, rfl, rfl⟩ - -
    refine o_istore_5_4 (pc := 177) B d23_177 rfl ?_
    refine o_iload (pc := 179) B d23_179 rfl ?_
    exact o_ireturn (pc := 181) B d23_181 (by decide) (by decide) (⟨⟨_, rfl, own_Sr.fo BN hf _ _ (fun r H => by rw [own_M1 BN]; exact own_op_r op _ _ r H) (Nat.le_max_left _ _), fun _ => Or.inl qf⟩, rfl, rfl, rfl⟩)
  · refine o_iloadN (pc := 21) B d23_21 rfl ?_
    refine o_iconst (pc := 22) B (1 : Int32) d23_22 (by decide) ?_
    refine o_icmp_gt (pc := 23) (pc' := 68) B d23_23 (by decide) (by decide) (fun hc23 => ?_) (fun hc23 => False.elim ((hc23 (own_gt1 qf (by omega)))))
    refine o_iloadN (pc := 68) B d23_68 rfl ?_
    refine o_iloadN (pc := 69) B d23_69 rfl ?_
    refine o_icmp_ne (pc := 70) (pc' := 94) B d23_70 (by decide) (by decide) (fun hc70 => ?_) (fun hc70 => ?_)
    rotate_left
    · obtain rfl : f = g := (own_inj (by omega) (by omega)).mp hc70
      refine o_aloadN (pc := 73) B d23_73 rfl rfl ?_
      refine o_iconst (pc := 74) B (0 : Int32) d23_74 (by decide) ?_
      refine o_iconst (pc := 75) B (0 : Int32) d23_75 (by decide) ?_
      refine o_callV2 (pc := 76) B 0 d23_76 (hw _ (List.mem_of_getElem? (i := 160) rfl)) (hw _ (List.mem_of_getElem? (i := 161) rfl)) (hw _ (List.mem_of_getElem? (i := 163) rfl)) (hw _ (List.mem_of_getElem? (i := 162) rfl)) (hw _ (List.mem_of_getElem? (i := 135) rfl)) (hw _ (List.mem_of_getElem? (i := 164) rfl)) (by decide) pd24 rfl (by first | exact Nat.zero_le _ | exact Nat.le_of_ble_eq_true rfl | simp [Value.category]) (by first | decide | exact Nat.le_of_ble_eq_true rfl) (by first | decide | exact Nat.le_of_ble_eq_true rfl) (by decide) (by decide) rfl ((SC.1 op hop).1.ext OL.2) (oc24 l Z a0 hw n0 _ b arr op false false hop SC OL) ?_
      rintro _ h _ _ ⟨rfl, rfl, rfl, rfl⟩ - -
      refine o_aloadN (pc := 79) B d23_79 rfl rfl ?_
      refine o_iconst (pc := 80) B (1 : Int32) d23_80 (by decide) ?_
      refine o_iconst (pc := 81) B (1 : Int32) d23_81 (by decide) ?_
      refine o_callV2 (pc := 82) B 1 d23_82 (hw _ (List.mem_of_getElem? (i := 160) rfl)) (hw _ (List.mem_of_getElem? (i := 161) rfl)) (hw _ (List.mem_of_getElem? (i := 163) rfl)) (hw _ (List.mem_of_getElem? (i := 162) rfl)) (hw _ (List.mem_of_getElem? (i := 135) rfl)) (hw _ (List.mem_of_getElem? (i := 164) rfl)) (by decide) pd24 rfl (by first | exact Nat.zero_le _ | exact Nat.le_of_ble_eq_true rfl | simp [Value.category]) (by first | decide | exact Nat.le_of_ble_eq_true rfl) (by first | decide | exact Nat.le_of_ble_eq_true rfl) (by decide) (by decide) rfl ((SC.1 op hop).1.ext OL.2) (oc24 l Z a0 hw n0 _ b arr op true true hop SC OL) ?_
      rintro _ h _ _ ⟨rfl, rfl, rfl, rfl⟩ - -
      refine o_iloadN (pc := 85) B d23_85 rfl ?_
      refine o_callS3 (pc := 86) B 0 d23_86 (hw _ (List.mem_of_getElem? (i := 177) rfl)) (hw _ (List.mem_of_getElem? (i := 178) rfl)) (hw _ (List.mem_of_getElem? (i := 2) rfl)) (hw _ (List.mem_of_getElem? (i := 179) rfl)) (by decide) pd27 rfl (by first | exact Nat.zero_le _ | exact Nat.le_of_ble_eq_true rfl | simp [Value.category]) (by first | decide | exact Nat.le_of_ble_eq_true rfl) (by first | decide | exact Nat.le_of_ble_eq_true rfl) (by decide) (by decide) rfl (oc27 l Z a0 hw n0 _ (own_opB op false false) (own_opB op true true) (Int32.ofNat (f))) ?_
      rintro _ h _ _ ⟨rfl, rfl, rfl, rfl⟩ - -
      refine o_istore_5_4 (pc := 89) B d23_89 rfl ?_
      refine o_goto (pc := 91) (pc' := 179) B d23_91 (by decide) (by decide) ?_
      refine o_iload (pc := 179) B d23_179 rfl ?_
      exact o_ireturn (pc := 181) B d23_181 (by decide) (by decide) (⟨⟨_, rfl, own_Sr.fo BN hf _ _ (fun r H => own_op_s op _ r H) (Nat.le_max_left _ _), fun _ => Or.inl qf⟩, rfl, rfl, rfl⟩)
    refine o_iloadN (pc := 94) B d23_94 rfl ?_
    refine o_iconst (pc := 95) B (1 : Int32) d23_95 (by decide) ?_
    refine o_icmp_gt (pc := 96) (pc' := 138) B d23_96 (by decide) (by decide) (fun hc96 => ?_) (fun hc96 => False.elim ((hc96 (own_gt1 qf (by omega)))))
    refine o_iloadN (pc := 138) B d23_138 rfl ?_
    refine o_iconst (pc := 139) B (1 : Int32) d23_139 (by decide) ?_
    refine o_icmp_gt (pc := 140) (pc' := 179) B d23_140 (by decide) (by decide) (fun hc140 => ?_) (fun hc140 => False.elim ((hc140 (own_gt1 qg (by omega)))))
    refine o_iload (pc := 179) B d23_179 rfl ?_
    exact o_ireturn (pc := 181) B d23_181 (by decide) (by decide) (⟨⟨_, rfl, Or.inl rfl, fun _ => Or.inl qf⟩, rfl, rfl, rfl⟩)
-- CUT
abbrev orm22 (c j : Nat) : Room := { frames := 4, cells := 3 * (5 - c) + 7 * (6 - j), slots := 3 * (64 - 2 * 2 ^ c) + 7 * (128 - 2 * 2 ^ j), locals := 73 }
def own_ws (o : Addr) (A : Fin 12 → Addr) : List Addr := o :: List.ofFn A
theorem own_ws_A (o : Addr) (A : Fin 12 → Addr) (i : Fin 12) : A i ∈ own_ws o A := List.mem_cons_of_mem _ (List.mem_ofFn.mpr ⟨i, rfl⟩)
theorem own_ws_ge {n0 : Nat} {o : Addr} {A : Fin 12 → Addr} (h1 : n0 ≤ o) (h2 : ∀ i, n0 ≤ A i) : ∀ x ∈ own_ws o A, n0 ≤ x := by
  intro x hx
  rcases List.mem_cons.mp hx with rfl | hx
  · exact h1
  · obtain ⟨i, rfl⟩ := List.mem_ofFn.mp hx; exact h2 i
theorem own_W.cong {N : own_Nd} {X Y : Fin 12 → List Int32} {c j : Nat} (W : own_W N X c j) (e : ∀ i : Fin 12, i.val < 8 → Y i = X i) : own_W N Y c j := by
  unfold own_W
  rw [e 0 (by decide), e 1 (by decide), e 2 (by decide), e 3 (by decide), e 4 (by decide), e 5 (by decide), e 6 (by decide), e 7 (by decide)]
  exact W
theorem own_upF_len {X : Fin 12 → List Int32} {i q : Fin 12} {p : Nat} {x : Int32} : (own_upF X i ((X i).set p x) q).length = (X q).length := by
  by_cases e : q = i
  · subst e; rw [own_upF_eq, List.length_set]
  · rw [own_upF_ne _ _ e]
theorem own_upF_set_ne {X : Fin 12 → List Int32} {i q : Fin 12} {p t : Nat} {x : Int32} (h : q = i → t ≠ p) : (own_upF X i ((X i).set p x) q)[t]? = (X q)[t]? := by
  by_cases e : q = i
  · subst e; rw [own_upF_eq, List.getElem?_set_ne (Ne.symm (h rfl))]
  · rw [own_upF_ne _ _ e]
theorem own_upF_set_eq {X : Fin 12 → List Int32} {i : Fin 12} {p : Nat} {x : Int32} (h : p < (X i).length) : (own_upF X i ((X i).set p x) i)[p]? = some x := by rw [own_upF_eq, List.getElem?_set_self h]
/-- the state in combine(), over its start h0, A0 -/
def own_CI (Z : State) (n0 : Nat) (h0 : Heap) (o : Addr) (A0 : Fin 12 → Addr) (nv c0 j0 : Nat) (h : Heap) (A : Fin 12 → Addr) (X : Fin 12 → List Int32) (N : own_Nd) (c j k n : Nat) : Prop :=
  own_D Z n0 h o A X (own_ct N) nv ∧ own_W N X c j ∧ ((X 8).length = nv + 1 ∧ (X 9).length = nv + 1 ∧ (X 10).length = nv + 1 ∧ (X 11).length = nv + 2) ∧ Keep h0 h (own_ws o A0) ∧ (∀ i, A i = A0 i ∨ h0.size ≤ A i) ∧ (c0 ≤ c ∧ j0 ≤ j) ∧ k = 3 * (c - c0) + 7 * (j - j0) ∧ n = 3 * (2 * 2 ^ c - 2 * 2 ^ c0) + 7 * (2 * 2 ^ j - 2 * 2 ^ j0)
/-- the stacks' lower parts are the same -/
def own_Fr (X Y : Fin 12 → List Int32) (d rc : Nat) : Prop := (∀ q : Nat, q < d → (Y 8)[q]? = (X 8)[q]? ∧ (Y 9)[q]? = (X 9)[q]? ∧ (Y 10)[q]? = (X 10)[q]?) ∧ ∀ q : Nat, q < rc → (Y 11)[q]? = (X 11)[q]?
section Ci
variable {Z : State} {n0 : Nat} {h0 h h1 h2 h3 h4 : Heap} {o : Addr} {A0 A : Fin 12 → Addr} {X Y U : Fin 12 → List Int32} {nv c0 j0 c j k n : Nat} {N : own_Nd} {i : Fin 12} {p d rc d' rc' : Nat} {x : Int32}
theorem own_Fr.trans (F : own_Fr X Y d rc) (G : own_Fr Y U d' rc') (hd : d ≤ d') (hr : rc ≤ rc') : own_Fr X U d rc := ⟨fun q hq => by
  obtain ⟨a1, a2, a3⟩ := F.1 q hq
  obtain ⟨b1, b2, b3⟩ := G.1 q (by omega)
  exact ⟨b1.trans a1, b2.trans a2, b3.trans a3⟩, fun q hq => (G.2 q (by omega)).trans (F.2 q hq)⟩
theorem own_Fr.set (X : Fin 12 → List Int32) (i : Fin 12) (p : Nat) (x : Int32) (hd : i ≠ 11 → d ≤ p) (hr : i = 11 → rc ≤ p) : own_Fr X (own_upF X i ((X i).set p x)) d rc := by
  have ne : ∀ (q : Fin 12) (t : Nat), q ≠ 11 → t < d → q = i → t ≠ p := fun q t q1 q2 q3 => by
    have := hd (by rw [← q3]; exact q1); omega
  exact ⟨fun q hq => ⟨own_upF_set_ne (ne 8 q (by decide) hq), own_upF_set_ne (ne 9 q (by decide) hq), own_upF_set_ne (ne 10 q (by decide) hq)⟩, fun q hq => own_upF_set_ne (fun e => by have := hr e.symm; omega)⟩
theorem own_Fr.same (e : ∀ i : Fin 12, 8 ≤ i.val → Y i = X i) : own_Fr X Y d rc := ⟨fun q _ => by rw [e 8 (by decide), e 9 (by decide), e 10 (by decide)]; exact ⟨rfl, rfl, rfl⟩, fun q _ => by rw [e 11 (by decide)]⟩
theorem own_CI.mem (C : own_CI Z n0 h0 o A0 nv c0 j0 h A X N c j k n) (i : Fin 12) : A i ∈ own_ws o A0 ∨ h0.size ≤ A i := (C.2.2.2.2.1 i).imp (fun e => by rw [e]; exact own_ws_A o A0 i) id
theorem own_CI.wr (C : own_CI Z n0 h0 o A0 nv c0 j0 h A X N c j k n) (i : Fin 12) (hi : 8 ≤ i.val) (W : Wr h h1 (A i) p (.int x)) : own_CI Z n0 h0 o A0 nv c0 j0 h1 A (own_upF X i ((X i).set p x)) N c j k n := by
  have m := C.mem i
  obtain ⟨a1, a2, a3, a4, a5, a6⟩ := C
  refine ⟨a1.wr i W, a2.cong (fun q hq => own_upF_ne _ _ (fun e => by rw [e] at hq; omega)), ?_, a4.wr W m, a5, a6⟩
  rw [own_upF_len, own_upF_len, own_upF_len, own_upF_len]; exact a3
theorem own_CI.old (C : own_CI Z n0 h0 o A0 nv c0 j0 h A X N c j k n) (OL : Old Z n0 h0) (g0 : ∀ x ∈ own_ws o A0, n0 ≤ x) : Old Z n0 h := OL.keep C.2.2.2.1 g0
theorem own_CI.pows (C : own_CI Z n0 h0 o A0 nv c0 j0 h A X N c j k n) : 2 ^ c0 ≤ 2 ^ c ∧ 2 ^ c ≤ 2 ^ 5 ∧ 2 ^ j0 ≤ 2 ^ j ∧ 2 ^ j ≤ 2 ^ 6 ∧ c ≤ 5 ∧ j ≤ 6 ∧ 2 ≤ c ∧ 3 ≤ j := by
  obtain ⟨a1, ⟨b1, b2, b3, b4, ⟨b5, b6, b7⟩, b8, ⟨b9, b10, b11⟩, b12⟩, a3, a4, a5, ⟨a6, a7⟩, a8⟩ := C
  exact ⟨Nat.pow_le_pow_right (by decide) a6, Nat.pow_le_pow_right (by decide) b7, Nat.pow_le_pow_right (by decide) a7, Nat.pow_le_pow_right (by decide) b10, b7, b10, b6, b9⟩
theorem own_CI.room (C : own_CI Z n0 h0 o A0 nv c0 j0 h A X N c j k n) : k + (3 * (5 - c) + 7 * (6 - j)) ≤ 3 * (5 - c0) + 7 * (6 - j0) ∧ n + (3 * (64 - 2 * 2 ^ c) + 7 * (128 - 2 * 2 ^ j)) ≤ 3 * (64 - 2 * 2 ^ c0) + 7 * (128 - 2 * 2 ^ j0) := by
  obtain ⟨p1, p2, p3, p4, p5, p6, -, -⟩ := C.pows
  obtain ⟨a1, a2, a3, a4, a5, ⟨a6, a7⟩, a8, a9⟩ := C
  clear a1 a2 a3 a4 a5
  subst a8 a9
  constructor <;> omega
theorem own_CI.hk (C : own_CI Z n0 h0 o A0 nv c0 j0 h A X N c j k n) : k ≤ 3 * (5 - c0) + 7 * (6 - j0) := Nat.le_trans (Nat.le_add_right _ _) C.room.1
theorem own_CI.hn (C : own_CI Z n0 h0 o A0 nv c0 j0 h A X N c j k n) : n ≤ 3 * (64 - 2 * 2 ^ c0) + 7 * (128 - 2 * 2 ^ j0) := Nat.le_trans (Nat.le_add_right _ _) C.room.2
theorem own_CI.ct (C : own_CI Z n0 h0 o A0 nv c0 j0 h A X N c j k n) : own_ct N ≤ 32 := by
  have := C.pows.2.1
  have := C.2.1.2.2.2.2.1.1
  omega
/-- after node() -/
theorem own_CI.node {A' : Fin 12 → Addr} {X' : Fin 12 → List Int32} {N' : own_Nd} {c' j' : Nat} (C : own_CI Z n0 h0 o A0 nv c0 j0 h A X N c j k n) (D : own_D Z n0 h1 o A' X' (own_ct N') nv) (W : own_W N' X' c' j') (FA : ∀ i : Fin 12, 8 ≤ i.val → A' i = A i ∧ X' i = X i) (FR : ∀ i, A' i = A i ∨ h.size ≤ A' i) (K : Keep h h1 [o, A 0, A 1, A 2, A 3]) (cc : c ≤ c') (jj : j ≤ j') :
    own_CI Z n0 h0 o A0 nv c0 j0 h1 A' X' N' c' j' (k + (3 * (c' - c) + 7 * (j' - j))) (n + (3 * (2 * 2 ^ c' - 2 * 2 ^ c) + 7 * (2 * 2 ^ j' - 2 * 2 ^ j))) := by
  obtain ⟨p1, p2, p3, p4, p5, p6, -, -⟩ := C.pows
  have m := C.mem
  have q1 : 2 ^ c ≤ 2 ^ c' := Nat.pow_le_pow_right (by decide) cc
  have q2 : 2 ^ j ≤ 2 ^ j' := Nat.pow_le_pow_right (by decide) jj
  obtain ⟨a1, a2, a3, a4, a5, ⟨a6, a7⟩, a8, a9⟩ := C
  have sz := a4.1
  refine ⟨D, W, ?_, a4.trans K ?_, fun i => ?_, ⟨by omega, by omega⟩, ?_, ?_⟩
  · rw [(FA 8 (by decide)).2, (FA 9 (by decide)).2, (FA 10 (by decide)).2, (FA 11 (by decide)).2]; exact a3
  · intro x hx
    simp only [List.mem_cons, List.not_mem_nil, or_false] at hx
    rcases hx with rfl | rfl | rfl | rfl | rfl
    · exact Or.inl (List.mem_cons_self ..)
    · exact m 0
    · exact m 1
    · exact m 2
    · exact m 3
  · rcases FR i with e | e
    · rw [e]; exact a5 i
    · right; show (_ : Nat) ≤ _; have e' := o_le e; omega
  · clear a1 a2 a3 a4 a5 D W FA FR K m; subst a8; omega
  · clear a1 a2 a3 a4 a5 D W FA FR K m; subst a9; omega
/-- after a new entry of the cache -/
theorem own_CI.cache {s op f g r : Nat} (C : own_CI Z n0 h0 o A0 nv c0 j0 h A X N c j k n) (hop : op < 4) (hf : f < own_ct N) (hg : g < own_ct N) (hr : r < own_ct N) (hM : own_M N r = own_op op (own_M N f) (own_M N g)) (hl : own_l N r ≤ max (own_l N f) (own_l N g))
    (V1 : Wr h h1 (A 4) s (.int (Int32.ofNat op))) (V2 : Wr h1 h2 (A 5) s (.int (Int32.ofNat f))) (V3 : Wr h2 h3 (A 6) s (.int (Int32.ofNat g))) (V4 : Wr h3 h4 (A 7) s (.int (Int32.ofNat r))) : ∃ Y, own_CI Z n0 h0 o A0 nv c0 j0 h4 A Y N c j k n ∧ ∀ i : Fin 12, 8 ≤ i.val → Y i = X i := by
  have m := C.mem
  obtain ⟨a1, a2, a3, a4, a5, a6⟩ := C
  obtain ⟨BN, Cn, RR, LL, cs, T, js, ⟨C4, C5, C6, C7⟩, CE⟩ := a2
  have D4 := (((a1.wr 4 V1).wr 5 V2).wr 6 V3).wr 7 V4
  obtain ⟨Y, eY⟩ : ∃ y, y = own_upF (own_upF (own_upF (own_upF X 4 ((X 4).set s (Int32.ofNat op))) 5 (((own_upF X 4 ((X 4).set s (Int32.ofNat op))) 5).set s (Int32.ofNat f))) 6 (((own_upF (own_upF X 4 ((X 4).set s (Int32.ofNat op))) 5 (((own_upF X 4 ((X 4).set s (Int32.ofNat op))) 5).set s (Int32.ofNat f))) 6).set s (Int32.ofNat g))) 7 (((own_upF (own_upF (own_upF X 4 ((X 4).set s (Int32.ofNat op))) 5 (((own_upF X 4 ((X 4).set s (Int32.ofNat op))) 5).set s (Int32.ofNat f))) 6 (((own_upF (own_upF X 4 ((X 4).set s (Int32.ofNat op))) 5 (((own_upF X 4 ((X 4).set s (Int32.ofNat op))) 5).set s (Int32.ofNat f))) 6).set s (Int32.ofNat g))) 7).set s (Int32.ofNat r)) := ⟨_, rfl⟩
  rw [← eY] at D4
  have y4 : Y 4 = (X 4).set s (Int32.ofNat op) := by rw [eY, own_upF_ne _ _ (by decide), own_upF_ne _ _ (by decide), own_upF_ne _ _ (by decide), own_upF_eq]
  have y5 : Y 5 = (X 5).set s (Int32.ofNat f) := by rw [eY, own_upF_ne _ _ (by decide), own_upF_ne _ _ (by decide), own_upF_eq, own_upF_ne _ _ (by decide)]
  have y6 : Y 6 = (X 6).set s (Int32.ofNat g) := by rw [eY, own_upF_ne _ _ (by decide), own_upF_eq, own_upF_ne _ _ (by decide), own_upF_ne _ _ (by decide)]
  have y7 : Y 7 = (X 7).set s (Int32.ofNat r) := by rw [eY, own_upF_eq, own_upF_ne _ _ (by decide), own_upF_ne _ _ (by decide), own_upF_ne _ _ (by decide)]
  have yo : ∀ i : Fin 12, i ≠ 4 → i ≠ 5 → i ≠ 6 → i ≠ 7 → Y i = X i := fun i n4 n5 n6 n7 => by rw [eY, own_upF_ne _ _ n7, own_upF_ne _ _ n6, own_upF_ne _ _ n5, own_upF_ne _ _ n4]
  have y8 : ∀ i : Fin 12, 8 ≤ i.val → Y i = X i := fun i hi => yo i (fun e => by rw [e] at hi; revert hi; decide) (fun e => by rw [e] at hi; revert hi; decide) (fun e => by rw [e] at hi; revert hi; decide) (fun e => by rw [e] at hi; revert hi; decide)
  have z0 := yo 0 (by decide) (by decide) (by decide) (by decide)
  have z1 := yo 1 (by decide) (by decide) (by decide) (by decide)
  have z2 := yo 2 (by decide) (by decide) (by decide) (by decide)
  have z3 := yo 3 (by decide) (by decide) (by decide) (by decide)
  refine ⟨Y, ⟨D4, ⟨BN, Cn, by rw [z0, z1, z2]; exact RR, by rw [z0, z1, z2]; exact LL, cs, by rw [z3]; exact T, js, by rw [y4, y5, y6, y7]; simp only [List.length_set]; exact ⟨C4, C5, C6, C7⟩, fun t ht => ?_⟩, by rw [y8 8 (by decide), y8 9 (by decide), y8 10 (by decide), y8 11 (by decide)]; exact a3, (((a4.wr V1 (m 4)).wr V2 (m 5)).wr V3 (m 6)).wr V4 (m 7), a5, a6⟩, y8⟩
  rw [y4, y5, y6, y7]
  by_cases e : s = t
  · subst e
    exact Or.inr ⟨op, f, g, r, List.getElem?_set_self (by omega), List.getElem?_set_self (by omega), List.getElem?_set_self (by omega), List.getElem?_set_self (by omega), hop, hf, hg, hr, hM, hl⟩
  · have u := CE t ht
    unfold own_Ce at u ⊢
    rw [List.getElem?_set_ne e, List.getElem?_set_ne e, List.getElem?_set_ne e, List.getElem?_set_ne e]
    exact u
end Ci
theorem own_dec (d : Nat) : Int32.ofNat (d + 1) - 1 = Int32.ofNat d := by rw [← own_one, Int32.add_sub_cancel]
theorem own_dec1 (d : Nat) : Int32.ofNat (d + 1) + (-1) = Int32.ofNat d := by
  rw [← own_dec d, Int32.sub_eq_add_neg]
theorem own_pos {d : Nat} (h : d < 2 ^ 20) : (0 : Int32) < Int32.ofNat (d + 1) := (own_ltn (a := 0) (by decide) (by omega)).mpr (by omega)
set_option maxRecDepth 65536 in
set_option maxHeartbeats 40000000 in
theorem own_pre (l : Launch) (Z : State) (a0 : Array Value) (hw : ∀ d ∈ tables_1, d.before a0 Z = true) (n0 : Nat) (h : Heap) (c0 j0 : Nat) (κ : o_K) (B : o_Bo κ l Z n0 (orm22 c0 j0) oy22 prog_26_method_9_code 15 (some .int)) (Q : Option Value → Heap → Nat → Nat → Prop) (k n : Nat) (hk : k ≤ 3 * (5 - c0) + 7 * (6 - j0)) (hn : n ≤ 3 * (64 - 2 * 2 ^ c0) + 7 * (128 - 2 * 2 ^ j0)) (o : Addr) (A : Fin 12 → Addr) (X : Fin 12 → List Int32) (nv op d rc f g : Nat) (N : own_Nd) (F G st : Int32) (s4 s7 s8 s9 s10 s11 s12 s13 s14 : Slot) (k7 : o_ok1 s7 = true) (k8 : o_ok1 s8 = true) (k9 : o_ok1 s9 = true) (k10 : o_ok1 s10 = true) (D : own_D Z n0 h o A X (own_ct N) nv) (BN : own_BN N) (RR : own_R N (X 0) (X 1) (X 2)) (h31 : own_ct N < 2 ^ 31) (hd : d < 2 ^ 20) (hf : f < own_ct N) (hg : g < own_ct N) (e8 : (X 8)[d]? = some (Int32.ofNat f)) (e9 : (X 9)[d]? = some (Int32.ofNat g)) (e10 : (X 10)[d]? = some st)
    (K : o_Go κ Q h k n 101 [.val (.ref o), .val (.int (Int32.ofNat op)), .val (.int F), .val (.int G), s4, .val (.int (Int32.ofNat (d + 1))), .val (.int (Int32.ofNat (rc))), .val (.int (Int32.ofNat (d))), .val (.int (Int32.ofNat (f))), .val (.int (Int32.ofNat (g))), .val (.int (own_jv (max (own_l N f) (own_l N g)))), s11, s12, s13, s14] [.int st]) : o_Go κ Q h k n 48 [.val (.ref o), .val (.int (Int32.ofNat op)), .val (.int F), .val (.int G), s4, .val (.int (Int32.ofNat (d + 1))), .val (.int (Int32.ofNat (rc))), s7, s8, s9, s10, s11, s12, s13, s14] [] := by
  refine o_iload (pc := 48) B d22_48 rfl ?_
  refine o_if_le (pc := 50) (pc' := 432) B d22_50 (by decide) (by decide) (fun hc50 => False.elim ((hc50 (own_pos hd)))) (fun hc50 => ?_)
  refine o_iload (pc := 53) B d22_53 rfl ?_
  refine o_iconst (pc := 55) B (1 : Int32) d22_55 (by decide) ?_
  refine o_isub (pc := 56) B d22_56 ?_
  rw [own_dec d]
  refine o_istore_15_7 (pc := 57) B d22_57 k7 ?_
  refine o_aloadN (pc := 59) B d22_59 rfl rfl ?_
  refine o_getF (pc := 60) B d22_60 (hw _ (List.mem_of_getElem? (i := 63) rfl)) (D.f8) ?_
  refine o_iload (pc := 63) B d22_63 rfl ?_
  refine o_iaload (pc := 65) B (d) d22_65 (D.Ar 8) (rfl) (own_mapI e8) ?_
  refine o_istore_15_8 (pc := 66) B d22_66 k8 ?_
  refine o_aloadN (pc := 68) B d22_68 rfl rfl ?_
  refine o_getF (pc := 69) B d22_69 (hw _ (List.mem_of_getElem? (i := 65) rfl)) (D.f9) ?_
  refine o_iload (pc := 72) B d22_72 rfl ?_
  refine o_iaload (pc := 74) B (d) d22_74 (D.Ar 9) (rfl) (own_mapI e9) ?_
  refine o_istore_15_9 (pc := 75) B d22_75 k9 ?_
  refine o_aloadN (pc := 77) B d22_77 rfl rfl ?_
  refine o_iload (pc := 78) B d22_78 rfl ?_
  refine o_callP1 (pc := 80) B 0 d22_80 (hw _ (List.mem_of_getElem? (i := 182) rfl)) (hw _ (List.mem_of_getElem? (i := 183) rfl)) (hw _ (List.mem_of_getElem? (i := 184) rfl)) (hw _ (List.mem_of_getElem? (i := 1) rfl)) (hw _ (List.mem_of_getElem? (i := 2) rfl)) (hw _ (List.mem_of_getElem? (i := 185) rfl)) (by decide) pd28 rfl (by first | exact Nat.zero_le _ | exact Nat.le_of_ble_eq_true rfl | simp [Value.category]) (by first | decide | exact Nat.le_of_ble_eq_true rfl) (by first | decide | exact Nat.le_of_ble_eq_true rfl) (by first | exact hk | exact hn | exact C6.room.1 | exact C6.room.2 | exact C7.hk | exact C7.hn | exact Nat.zero_le _ | exact C'.hk | exact C'.hn) (by first | exact hk | exact hn | exact C6.room.1 | exact C6.room.2 | exact C7.hk | exact C7.hn | exact Nat.zero_le _ | exact C'.hk | exact C'.hn) rfl (D.E) (oc28 l Z a0 hw n0 _ o A X nv f N D RR hf h31) ?_
  rintro _ h _ _ ⟨rfl, rfl, rfl, rfl⟩ - -
  refine o_aloadN (pc := 83) B d22_83 rfl rfl ?_
  refine o_iload (pc := 84) B d22_84 rfl ?_
  refine o_callP1 (pc := 86) B 1 d22_86 (hw _ (List.mem_of_getElem? (i := 182) rfl)) (hw _ (List.mem_of_getElem? (i := 183) rfl)) (hw _ (List.mem_of_getElem? (i := 184) rfl)) (hw _ (List.mem_of_getElem? (i := 1) rfl)) (hw _ (List.mem_of_getElem? (i := 2) rfl)) (hw _ (List.mem_of_getElem? (i := 185) rfl)) (by decide) pd28 rfl (by first | exact Nat.zero_le _ | exact Nat.le_of_ble_eq_true rfl | simp [Value.category]) (by first | decide | exact Nat.le_of_ble_eq_true rfl) (by first | decide | exact Nat.le_of_ble_eq_true rfl) (by first | exact hk | exact hn | exact C6.room.1 | exact C6.room.2 | exact C7.hk | exact C7.hn | exact Nat.zero_le _ | exact C'.hk | exact C'.hn) (by first | exact hk | exact hn | exact C6.room.1 | exact C6.room.2 | exact C7.hk | exact C7.hn | exact Nat.zero_le _ | exact C'.hk | exact C'.hn) rfl (D.E) (oc28 l Z a0 hw n0 _ o A X nv g N D RR hg h31) ?_
  rintro _ h _ _ ⟨rfl, rfl, rfl, rfl⟩ - -
  refine o_callS2 (pc := 89) B 0 d22_89 (hw _ (List.mem_of_getElem? (i := 186) rfl)) (hw _ (List.mem_of_getElem? (i := 187) rfl)) (hw _ (List.mem_of_getElem? (i := 105) rfl)) (hw _ (List.mem_of_getElem? (i := 188) rfl)) (by decide) pd29 rfl (by first | exact Nat.zero_le _ | exact Nat.le_of_ble_eq_true rfl | simp [Value.category]) (by first | decide | exact Nat.le_of_ble_eq_true rfl) (by first | decide | exact Nat.le_of_ble_eq_true rfl) (by first | exact hk | exact hn | exact C6.room.1 | exact C6.room.2 | exact C7.hk | exact C7.hn | exact Nat.zero_le _ | exact C'.hk | exact C'.hn) (by first | exact hk | exact hn | exact C6.room.1 | exact C6.room.2 | exact C7.hk | exact C7.hn | exact Nat.zero_le _ | exact C'.hk | exact C'.hn) rfl (oc29 l Z a0 hw n0 _ _ _) ?_
  rintro _ h _ _ ⟨rfl, rfl, rfl, rfl⟩ - -
  rw [own_jl_eq, own_jl_eq, own_jv_max (own_B.lv3 BN hf) (own_B.lv3 BN hg)]
  refine o_istore_15_10 (pc := 92) B d22_92 k10 ?_
  refine o_aloadN (pc := 94) B d22_94 rfl rfl ?_
  refine o_getF (pc := 95) B d22_95 (hw _ (List.mem_of_getElem? (i := 67) rfl)) (D.f10) ?_
  refine o_iload (pc := 98) B d22_98 rfl ?_
  refine o_iaload (pc := 100) B (d) d22_100 (D.Ar 10) (rfl) (own_mapI e10) ?_
  exact K
set_option maxRecDepth 65536 in
set_option maxHeartbeats 40000000 in
theorem own_pushL (l : Launch) (Z : State) (a0 : Array Value) (hw : ∀ d ∈ tables_1, d.before a0 Z = true) (n0 : Nat) (h0 : Heap) (c0 j0 : Nat) (κ : o_K) (B : o_Bo κ l Z n0 (orm22 c0 j0) oy22 prog_26_method_9_code 15 (some .int)) (Q : Option Value → Heap → Nat → Nat → Prop) (o : Addr) (A0 : Fin 12 → Addr) (nv op d rc f g : Nat) (F G : Int32) (s4 s11 s12 s13 s14 : Slot) (h : Heap) (A : Fin 12 → Addr) (X : Fin 12 → List Int32) (N : own_Nd) (c j k n : Nat) (C : own_CI Z n0 h0 o A0 nv c0 j0 h A X N c j k n) (hf : f < own_ct N) (hg : g < own_ct N) (hT1 : 1 ≤ max (own_l N f) (own_l N g)) (hd : d + 1 < nv + 1) (hnv : nv < 2 ^ 20)
    (K : ∀ (h' : Heap) (X' : Fin 12 → List Int32), own_CI Z n0 h0 o A0 nv c0 j0 h' A X' N c j k n → own_Fr X X' (d + 1) (nv + 2) → (X' 8)[d + 1]? = some (Int32.ofNat (own_ch (own_Lo N) N (max (own_l N f) (own_l N g)) f)) → (X' 9)[d + 1]? = some (Int32.ofNat (own_ch (own_Lo N) N (max (own_l N f) (own_l N g)) g)) → (X' 10)[d + 1]? = some 0 → o_Go κ Q h' k n 48 [.val (.ref o), .val (.int (Int32.ofNat op)), .val (.int F), .val (.int G), s4, .val (.int (Int32.ofNat (d + 2))), .val (.int (Int32.ofNat (rc))), .val (.int (Int32.ofNat (d))), .val (.int (Int32.ofNat (f))), .val (.int (Int32.ofNat (g))), .val (.int (own_jv (max (own_l N f) (own_l N g)))), s11, s12, s13, s14] []) :
    o_Go κ Q h k n 165 [.val (.ref o), .val (.int (Int32.ofNat op)), .val (.int F), .val (.int G), s4, .val (.int (Int32.ofNat (d + 1))), .val (.int (Int32.ofNat (rc))), .val (.int (Int32.ofNat (d))), .val (.int (Int32.ofNat (f))), .val (.int (Int32.ofNat (g))), .val (.int (own_jv (max (own_l N f) (own_l N g)))), s11, s12, s13, s14] [] := by
  have c32 := C.ct
  have hk := C.hk
  have hn := C.hn
  have D := C.1
  have BN := C.2.1.1
  have RR := C.2.1.2.2.1
  obtain ⟨L8, L9, L10, L11⟩ := C.2.2.1
  have lf := own_B.lv3 BN hf
  have lg := own_B.lv3 BN hg
  have mx : max (own_l N f) (own_l N g) ≤ 3 := Nat.max_le.mpr ⟨lf, lg⟩
  have T1 : o_Go κ Q h k n 194 [.val (.ref o), .val (.int (Int32.ofNat op)), .val (.int F), .val (.int G), s4, .val (.int (Int32.ofNat (d + 1))), .val (.int (Int32.ofNat (rc))), .val (.int (Int32.ofNat (d))), .val (.int (Int32.ofNat (f))), .val (.int (Int32.ofNat (g))), .val (.int (own_jv (max (own_l N f) (own_l N g)))), s11, s12, s13, s14] [.int (Int32.ofNat (own_ch (own_Lo N) N (max (own_l N f) (own_l N g)) f)), .int (Int32.ofNat (d + 1)), .ref (A 8)] := by
    refine o_iastore (pc := 194) B (d + 1) d22_194 (D.Ar 8) (rfl) (own_mltI (by omega)) (D.ge 8) ?_
    intro h1 W1
    have C1 := C.wr 8 (by decide) W1
    have D1 := C1.1
    have T2 : o_Go κ Q h1 k n 224 [.val (.ref o), .val (.int (Int32.ofNat op)), .val (.int F), .val (.int G), s4, .val (.int (Int32.ofNat (d + 1))), .val (.int (Int32.ofNat (rc))), .val (.int (Int32.ofNat (d))), .val (.int (Int32.ofNat (f))), .val (.int (Int32.ofNat (g))), .val (.int (own_jv (max (own_l N f) (own_l N g)))), s11, s12, s13, s14] [.int (Int32.ofNat (own_ch (own_Lo N) N (max (own_l N f) (own_l N g)) g)), .int (Int32.ofNat (d + 1)), .ref (A 9)] := by
      refine o_iastore (pc := 224) B (d + 1) d22_224 (D1.Ar 9) (rfl) (own_mltI (by rw [own_upF_len]; omega)) (D1.ge 9) ?_
      intro h2 W2
      have C2 := C1.wr 9 (by decide) W2
      have D2 := C2.1
      refine o_aloadN (pc := 225) B d22_225 rfl rfl ?_
      refine o_getF (pc := 226) B d22_226 (hw _ (List.mem_of_getElem? (i := 67) rfl)) (D2.f10) ?_
      refine o_iload (pc := 229) B d22_229 rfl ?_
      refine o_iinc_15_5 (pc := 231) B (1 : Int32) (Int32.ofNat (d + 2)) d22_231 (by decide) (own_one (d + 1)) ?_
      refine o_iconst (pc := 234) B (0 : Int32) d22_234 (by decide) ?_
      refine o_iastore (pc := 235) B (d + 1) d22_235 (D2.Ar 10) (rfl) (own_mltI (by rw [own_upF_len, own_upF_len]; omega)) (D2.ge 10) ?_
      intro h3 W3
      have C3 := C2.wr 10 (by decide) W3
      refine o_goto (pc := 236) (pc' := 429) B d22_236 (by decide) (by decide) ?_
      refine o_goto (pc := 429) (pc' := 48) B d22_429 (by decide) (by decide) ?_
      refine K h3 _ C3 (((own_Fr.set X 8 _ _ (fun _ => Nat.le_refl _) (fun e => absurd e (by decide))).trans (own_Fr.set _ 9 _ _ (fun _ => Nat.le_refl _) (fun e => absurd e (by decide))) (Nat.le_refl _) (Nat.le_refl (nv + 2))).trans (own_Fr.set _ 10 _ _ (fun _ => Nat.le_refl _) (fun e => absurd e (by decide))) (Nat.le_refl _) (Nat.le_refl (nv + 2))) ?_ ?_ ?_
      · rw [own_upF_ne _ _ (by decide), own_upF_ne _ _ (by decide), own_upF_set_eq (by omega)]
      · rw [own_upF_ne _ _ (by decide), own_upF_set_eq (by rw [own_upF_len]; omega)]
      · rw [own_upF_set_eq (by rw [own_upF_len, own_upF_len]; omega)]
    refine o_aloadN (pc := 195) B d22_195 rfl rfl ?_
    refine o_getF (pc := 196) B d22_196 (hw _ (List.mem_of_getElem? (i := 65) rfl)) (D1.f9) ?_
    refine o_iload (pc := 199) B d22_199 rfl ?_
    refine o_aloadN (pc := 201) B d22_201 rfl rfl ?_
    refine o_iload (pc := 202) B d22_202 rfl ?_
    refine o_callP1 (pc := 204) B 2 d22_204 (hw _ (List.mem_of_getElem? (i := 182) rfl)) (hw _ (List.mem_of_getElem? (i := 183) rfl)) (hw _ (List.mem_of_getElem? (i := 184) rfl)) (hw _ (List.mem_of_getElem? (i := 1) rfl)) (hw _ (List.mem_of_getElem? (i := 2) rfl)) (hw _ (List.mem_of_getElem? (i := 185) rfl)) (by decide) pd28 rfl (by first | exact Nat.zero_le _ | exact Nat.le_of_ble_eq_true rfl | simp [Value.category]) (by first | decide | exact Nat.le_of_ble_eq_true rfl) (by first | decide | exact Nat.le_of_ble_eq_true rfl) (by first | exact hk | exact hn | exact C6.room.1 | exact C6.room.2 | exact C7.hk | exact C7.hn | exact Nat.zero_le _ | exact C'.hk | exact C'.hn) (by first | exact hk | exact hn | exact C6.room.1 | exact C6.room.2 | exact C7.hk | exact C7.hn | exact Nat.zero_le _ | exact C'.hk | exact C'.hn) rfl (D1.E) (oc28 l Z a0 hw n0 _ o A _ nv g N D1 C1.2.1.2.2.1 hg (by omega)) ?_
    rintro _ h1 _ _ ⟨rfl, rfl, rfl, rfl⟩ - -
    rw [own_jl_eq]
    refine o_iload (pc := 207) B d22_207 rfl ?_
    refine o_icmp_ne (pc := 209) (pc' := 222) B d22_209 (by decide) (by decide) (fun hc209 => ?_) (fun hc209 => ?_)
    · refine o_iload (pc := 222) B d22_222 rfl ?_
      have e : own_ch (own_Lo N) N (max (own_l N f) (own_l N g)) g = g := if_neg (fun z => hc209 (congrArg own_jv z))
      rw [e] at T2
      exact T2
    have eT : own_l N g = max (own_l N f) (own_l N g) := (own_jv_eq lg mx).mp hc209
    have e : own_ch (own_Lo N) N (max (own_l N f) (own_l N g)) g = own_Lo N g := if_pos eT
    rw [e] at T2
    refine o_aloadN (pc := 212) B d22_212 rfl rfl ?_
    refine o_getF (pc := 213) B d22_213 (hw _ (List.mem_of_getElem? (i := 30) rfl)) (D1.f1) ?_
    refine o_iload (pc := 216) B d22_216 rfl ?_
    refine o_iaload (pc := 218) B (g) d22_218 (D1.Ar 1) (rfl) (own_mapI ((C1.2.1.2.2.1.2.2 g (own_l_two (Nat.le_trans hT1 (Nat.le_of_eq eT.symm))) hg).2.1)) ?_
    refine o_goto (pc := 219) (pc' := 224) B d22_219 (by decide) (by decide) ?_
    exact T2
  refine o_aloadN (pc := 165) B d22_165 rfl rfl ?_
  refine o_getF (pc := 166) B d22_166 (hw _ (List.mem_of_getElem? (i := 63) rfl)) (D.f8) ?_
  refine o_iload (pc := 169) B d22_169 rfl ?_
  refine o_aloadN (pc := 171) B d22_171 rfl rfl ?_
  refine o_iload (pc := 172) B d22_172 rfl ?_
  refine o_callP1 (pc := 174) B 2 d22_174 (hw _ (List.mem_of_getElem? (i := 182) rfl)) (hw _ (List.mem_of_getElem? (i := 183) rfl)) (hw _ (List.mem_of_getElem? (i := 184) rfl)) (hw _ (List.mem_of_getElem? (i := 1) rfl)) (hw _ (List.mem_of_getElem? (i := 2) rfl)) (hw _ (List.mem_of_getElem? (i := 185) rfl)) (by decide) pd28 rfl (by first | exact Nat.zero_le _ | exact Nat.le_of_ble_eq_true rfl | simp [Value.category]) (by first | decide | exact Nat.le_of_ble_eq_true rfl) (by first | decide | exact Nat.le_of_ble_eq_true rfl) (by first | exact hk | exact hn | exact C6.room.1 | exact C6.room.2 | exact C7.hk | exact C7.hn | exact Nat.zero_le _ | exact C'.hk | exact C'.hn) (by first | exact hk | exact hn | exact C6.room.1 | exact C6.room.2 | exact C7.hk | exact C7.hn | exact Nat.zero_le _ | exact C'.hk | exact C'.hn) rfl (D.E) (oc28 l Z a0 hw n0 _ o A X nv f N D RR hf (by omega)) ?_
  rintro _ h _ _ ⟨rfl, rfl, rfl, rfl⟩ - -
  rw [own_jl_eq]
  refine o_iload (pc := 177) B d22_177 rfl ?_
  refine o_icmp_ne (pc := 179) (pc' := 192) B d22_179 (by decide) (by decide) (fun hc179 => ?_) (fun hc179 => ?_)
  · refine o_iload (pc := 192) B d22_192 rfl ?_
    have e : own_ch (own_Lo N) N (max (own_l N f) (own_l N g)) f = f := if_neg (fun z => hc179 (congrArg own_jv z))
    rw [e] at T1
    exact T1
  have eT : own_l N f = max (own_l N f) (own_l N g) := (own_jv_eq lf mx).mp hc179
  have e : own_ch (own_Lo N) N (max (own_l N f) (own_l N g)) f = own_Lo N f := if_pos eT
  rw [e] at T1
  refine o_aloadN (pc := 182) B d22_182 rfl rfl ?_
  refine o_getF (pc := 183) B d22_183 (hw _ (List.mem_of_getElem? (i := 30) rfl)) (D.f1) ?_
  refine o_iload (pc := 186) B d22_186 rfl ?_
  refine o_iaload (pc := 188) B (f) d22_188 (D.Ar 1) (rfl) (own_mapI ((RR.2.2 f (own_l_two (Nat.le_trans hT1 (Nat.le_of_eq eT.symm))) hf).2.1)) ?_
  refine o_goto (pc := 189) (pc' := 194) B d22_189 (by decide) (by decide) ?_
  exact T1
set_option maxRecDepth 65536 in
set_option maxHeartbeats 40000000 in
theorem own_pushH (l : Launch) (Z : State) (a0 : Array Value) (hw : ∀ d ∈ tables_1, d.before a0 Z = true) (n0 : Nat) (h0 : Heap) (c0 j0 : Nat) (κ : o_K) (B : o_Bo κ l Z n0 (orm22 c0 j0) oy22 prog_26_method_9_code 15 (some .int)) (Q : Option Value → Heap → Nat → Nat → Prop) (o : Addr) (A0 : Fin 12 → Addr) (nv op d rc f g : Nat) (F G : Int32) (s4 s11 s12 s13 s14 : Slot) (h : Heap) (A : Fin 12 → Addr) (X : Fin 12 → List Int32) (N : own_Nd) (c j k n : Nat) (C : own_CI Z n0 h0 o A0 nv c0 j0 h A X N c j k n) (hf : f < own_ct N) (hg : g < own_ct N) (hT1 : 1 ≤ max (own_l N f) (own_l N g)) (hd : d + 1 < nv + 1) (hnv : nv < 2 ^ 20)
    (K : ∀ (h' : Heap) (X' : Fin 12 → List Int32), own_CI Z n0 h0 o A0 nv c0 j0 h' A X' N c j k n → own_Fr X X' (d + 1) (nv + 2) → (X' 8)[d + 1]? = some (Int32.ofNat (own_ch (own_Hi N) N (max (own_l N f) (own_l N g)) f)) → (X' 9)[d + 1]? = some (Int32.ofNat (own_ch (own_Hi N) N (max (own_l N f) (own_l N g)) g)) → (X' 10)[d + 1]? = some 0 → o_Go κ Q h' k n 48 [.val (.ref o), .val (.int (Int32.ofNat op)), .val (.int F), .val (.int G), s4, .val (.int (Int32.ofNat (d + 2))), .val (.int (Int32.ofNat (rc))), .val (.int (Int32.ofNat (d))), .val (.int (Int32.ofNat (f))), .val (.int (Int32.ofNat (g))), .val (.int (own_jv (max (own_l N f) (own_l N g)))), s11, s12, s13, s14] []) :
    o_Go κ Q h k n 258 [.val (.ref o), .val (.int (Int32.ofNat op)), .val (.int F), .val (.int G), s4, .val (.int (Int32.ofNat (d + 1))), .val (.int (Int32.ofNat (rc))), .val (.int (Int32.ofNat (d))), .val (.int (Int32.ofNat (f))), .val (.int (Int32.ofNat (g))), .val (.int (own_jv (max (own_l N f) (own_l N g)))), s11, s12, s13, s14] [] := by
  have c32 := C.ct
  have hk := C.hk
  have hn := C.hn
  have D := C.1
  have BN := C.2.1.1
  have RR := C.2.1.2.2.1
  obtain ⟨L8, L9, L10, L11⟩ := C.2.2.1
  have lf := own_B.lv3 BN hf
  have lg := own_B.lv3 BN hg
  have mx : max (own_l N f) (own_l N g) ≤ 3 := Nat.max_le.mpr ⟨lf, lg⟩
  have T1 : o_Go κ Q h k n 287 [.val (.ref o), .val (.int (Int32.ofNat op)), .val (.int F), .val (.int G), s4, .val (.int (Int32.ofNat (d + 1))), .val (.int (Int32.ofNat (rc))), .val (.int (Int32.ofNat (d))), .val (.int (Int32.ofNat (f))), .val (.int (Int32.ofNat (g))), .val (.int (own_jv (max (own_l N f) (own_l N g)))), s11, s12, s13, s14] [.int (Int32.ofNat (own_ch (own_Hi N) N (max (own_l N f) (own_l N g)) f)), .int (Int32.ofNat (d + 1)), .ref (A 8)] := by
    refine o_iastore (pc := 287) B (d + 1) d22_287 (D.Ar 8) (rfl) (own_mltI (by omega)) (D.ge 8) ?_
    intro h1 W1
    have C1 := C.wr 8 (by decide) W1
    have D1 := C1.1
    have T2 : o_Go κ Q h1 k n 317 [.val (.ref o), .val (.int (Int32.ofNat op)), .val (.int F), .val (.int G), s4, .val (.int (Int32.ofNat (d + 1))), .val (.int (Int32.ofNat (rc))), .val (.int (Int32.ofNat (d))), .val (.int (Int32.ofNat (f))), .val (.int (Int32.ofNat (g))), .val (.int (own_jv (max (own_l N f) (own_l N g)))), s11, s12, s13, s14] [.int (Int32.ofNat (own_ch (own_Hi N) N (max (own_l N f) (own_l N g)) g)), .int (Int32.ofNat (d + 1)), .ref (A 9)] := by
      refine o_iastore (pc := 317) B (d + 1) d22_317 (D1.Ar 9) (rfl) (own_mltI (by rw [own_upF_len]; omega)) (D1.ge 9) ?_
      intro h2 W2
      have C2 := C1.wr 9 (by decide) W2
      have D2 := C2.1
      refine o_aloadN (pc := 318) B d22_318 rfl rfl ?_
      refine o_getF (pc := 319) B d22_319 (hw _ (List.mem_of_getElem? (i := 67) rfl)) (D2.f10) ?_
      refine o_iload (pc := 322) B d22_322 rfl ?_
      refine o_iinc_15_5 (pc := 324) B (1 : Int32) (Int32.ofNat (d + 2)) d22_324 (by decide) (own_one (d + 1)) ?_
      refine o_iconst (pc := 327) B (0 : Int32) d22_327 (by decide) ?_
      refine o_iastore (pc := 328) B (d + 1) d22_328 (D2.Ar 10) (rfl) (own_mltI (by rw [own_upF_len, own_upF_len]; omega)) (D2.ge 10) ?_
      intro h3 W3
      have C3 := C2.wr 10 (by decide) W3
      refine o_goto (pc := 329) (pc' := 429) B d22_329 (by decide) (by decide) ?_
      refine o_goto (pc := 429) (pc' := 48) B d22_429 (by decide) (by decide) ?_
      refine K h3 _ C3 (((own_Fr.set X 8 _ _ (fun _ => Nat.le_refl _) (fun e => absurd e (by decide))).trans (own_Fr.set _ 9 _ _ (fun _ => Nat.le_refl _) (fun e => absurd e (by decide))) (Nat.le_refl _) (Nat.le_refl (nv + 2))).trans (own_Fr.set _ 10 _ _ (fun _ => Nat.le_refl _) (fun e => absurd e (by decide))) (Nat.le_refl _) (Nat.le_refl (nv + 2))) ?_ ?_ ?_
      · rw [own_upF_ne _ _ (by decide), own_upF_ne _ _ (by decide), own_upF_set_eq (by omega)]
      · rw [own_upF_ne _ _ (by decide), own_upF_set_eq (by rw [own_upF_len]; omega)]
      · rw [own_upF_set_eq (by rw [own_upF_len, own_upF_len]; omega)]
    refine o_aloadN (pc := 288) B d22_288 rfl rfl ?_
    refine o_getF (pc := 289) B d22_289 (hw _ (List.mem_of_getElem? (i := 65) rfl)) (D1.f9) ?_
    refine o_iload (pc := 292) B d22_292 rfl ?_
    refine o_aloadN (pc := 294) B d22_294 rfl rfl ?_
    refine o_iload (pc := 295) B d22_295 rfl ?_
    refine o_callP1 (pc := 297) B 2 d22_297 (hw _ (List.mem_of_getElem? (i := 182) rfl)) (hw _ (List.mem_of_getElem? (i := 183) rfl)) (hw _ (List.mem_of_getElem? (i := 184) rfl)) (hw _ (List.mem_of_getElem? (i := 1) rfl)) (hw _ (List.mem_of_getElem? (i := 2) rfl)) (hw _ (List.mem_of_getElem? (i := 185) rfl)) (by decide) pd28 rfl (by first | exact Nat.zero_le _ | exact Nat.le_of_ble_eq_true rfl | simp [Value.category]) (by first | decide | exact Nat.le_of_ble_eq_true rfl) (by first | decide | exact Nat.le_of_ble_eq_true rfl) (by first | exact hk | exact hn | exact C6.room.1 | exact C6.room.2 | exact C7.hk | exact C7.hn | exact Nat.zero_le _ | exact C'.hk | exact C'.hn) (by first | exact hk | exact hn | exact C6.room.1 | exact C6.room.2 | exact C7.hk | exact C7.hn | exact Nat.zero_le _ | exact C'.hk | exact C'.hn) rfl (D1.E) (oc28 l Z a0 hw n0 _ o A _ nv g N D1 C1.2.1.2.2.1 hg (by omega)) ?_
    rintro _ h1 _ _ ⟨rfl, rfl, rfl, rfl⟩ - -
    rw [own_jl_eq]
    refine o_iload (pc := 300) B d22_300 rfl ?_
    refine o_icmp_ne (pc := 302) (pc' := 315) B d22_302 (by decide) (by decide) (fun hc302 => ?_) (fun hc302 => ?_)
    · refine o_iload (pc := 315) B d22_315 rfl ?_
      have e : own_ch (own_Hi N) N (max (own_l N f) (own_l N g)) g = g := if_neg (fun z => hc302 (congrArg own_jv z))
      rw [e] at T2
      exact T2
    have eT : own_l N g = max (own_l N f) (own_l N g) := (own_jv_eq lg mx).mp hc302
    have e : own_ch (own_Hi N) N (max (own_l N f) (own_l N g)) g = own_Hi N g := if_pos eT
    rw [e] at T2
    refine o_aloadN (pc := 305) B d22_305 rfl rfl ?_
    refine o_getF (pc := 306) B d22_306 (hw _ (List.mem_of_getElem? (i := 32) rfl)) (D1.f2) ?_
    refine o_iload (pc := 309) B d22_309 rfl ?_
    refine o_iaload (pc := 311) B (g) d22_311 (D1.Ar 2) (rfl) (own_mapI ((C1.2.1.2.2.1.2.2 g (own_l_two (Nat.le_trans hT1 (Nat.le_of_eq eT.symm))) hg).2.2)) ?_
    refine o_goto (pc := 312) (pc' := 317) B d22_312 (by decide) (by decide) ?_
    exact T2
  refine o_aloadN (pc := 258) B d22_258 rfl rfl ?_
  refine o_getF (pc := 259) B d22_259 (hw _ (List.mem_of_getElem? (i := 63) rfl)) (D.f8) ?_
  refine o_iload (pc := 262) B d22_262 rfl ?_
  refine o_aloadN (pc := 264) B d22_264 rfl rfl ?_
  refine o_iload (pc := 265) B d22_265 rfl ?_
  refine o_callP1 (pc := 267) B 2 d22_267 (hw _ (List.mem_of_getElem? (i := 182) rfl)) (hw _ (List.mem_of_getElem? (i := 183) rfl)) (hw _ (List.mem_of_getElem? (i := 184) rfl)) (hw _ (List.mem_of_getElem? (i := 1) rfl)) (hw _ (List.mem_of_getElem? (i := 2) rfl)) (hw _ (List.mem_of_getElem? (i := 185) rfl)) (by decide) pd28 rfl (by first | exact Nat.zero_le _ | exact Nat.le_of_ble_eq_true rfl | simp [Value.category]) (by first | decide | exact Nat.le_of_ble_eq_true rfl) (by first | decide | exact Nat.le_of_ble_eq_true rfl) (by first | exact hk | exact hn | exact C6.room.1 | exact C6.room.2 | exact C7.hk | exact C7.hn | exact Nat.zero_le _ | exact C'.hk | exact C'.hn) (by first | exact hk | exact hn | exact C6.room.1 | exact C6.room.2 | exact C7.hk | exact C7.hn | exact Nat.zero_le _ | exact C'.hk | exact C'.hn) rfl (D.E) (oc28 l Z a0 hw n0 _ o A X nv f N D RR hf (by omega)) ?_
  rintro _ h _ _ ⟨rfl, rfl, rfl, rfl⟩ - -
  rw [own_jl_eq]
  refine o_iload (pc := 270) B d22_270 rfl ?_
  refine o_icmp_ne (pc := 272) (pc' := 285) B d22_272 (by decide) (by decide) (fun hc272 => ?_) (fun hc272 => ?_)
  · refine o_iload (pc := 285) B d22_285 rfl ?_
    have e : own_ch (own_Hi N) N (max (own_l N f) (own_l N g)) f = f := if_neg (fun z => hc272 (congrArg own_jv z))
    rw [e] at T1
    exact T1
  have eT : own_l N f = max (own_l N f) (own_l N g) := (own_jv_eq lf mx).mp hc272
  have e : own_ch (own_Hi N) N (max (own_l N f) (own_l N g)) f = own_Hi N f := if_pos eT
  rw [e] at T1
  refine o_aloadN (pc := 275) B d22_275 rfl rfl ?_
  refine o_getF (pc := 276) B d22_276 (hw _ (List.mem_of_getElem? (i := 32) rfl)) (D.f2) ?_
  refine o_iload (pc := 279) B d22_279 rfl ?_
  refine o_iaload (pc := 281) B (f) d22_281 (D.Ar 2) (rfl) (own_mapI ((RR.2.2 f (own_l_two (Nat.le_trans hT1 (Nat.le_of_eq eT.symm))) hf).2.2)) ?_
  refine o_goto (pc := 282) (pc' := 287) B d22_282 (by decide) (by decide) ?_
  exact T1
-- CUT
set_option maxRecDepth 65536 in
set_option maxHeartbeats 40000000 in
theorem own_cm0 (l : Launch) (Z : State) (a0 : Array Value) (hw : ∀ d ∈ tables_1, d.before a0 Z = true) (n0 : Nat) (b : Nat → Addr) (arr : Addr) (SC : own_SC Z b arr) (h0 : Heap) (c0 j0 : Nat) (κ : o_K) (B : o_Bo κ l Z n0 (orm22 c0 j0) oy22 prog_26_method_9_code 15 (some .int)) (Q : Option Value → Heap → Nat → Nat → Prop) (o : Addr) (A0 : Fin 12 → Addr) (nv op d rc f g : Nat) (F G : Int32) (s4 s7 s8 s9 s10 s11 s12 s13 s14 : Slot) (ok : o_ok1 s7 = true ∧ o_ok1 s8 = true ∧ o_ok1 s9 = true ∧ o_ok1 s10 = true ∧ o_ok1 s11 = true ∧ o_ok1 s12 = true ∧ o_ok1 s13 = true ∧ o_ok1 s14 = true) (hop : op < 4) (OL : Old Z n0 h0) (g0 : ∀ x ∈ own_ws o A0, n0 ≤ x) (hnv : nv < 2 ^ 20) (h : Heap) (A : Fin 12 → Addr) (X : Fin 12 → List Int32) (N : own_Nd) (c j k n : Nat) (C : own_CI Z n0 h0 o A0 nv c0 j0 h A X N c j k n) (hf : f < own_ct N) (hg : g < own_ct N) (e8 : (X 8)[d]? = some (Int32.ofNat f)) (e9 : (X 9)[d]? = some (Int32.ofNat g)) (e10 : (X 10)[d]? = some 0) (hd : d < nv + 1) (hr : rc < nv + 2)
    (KU : (2 ≤ f ∨ 2 ≤ g) → ∀ x : Int32, o_Go κ Q h k n 157 [.val (.ref o), .val (.int (Int32.ofNat op)), .val (.int F), .val (.int G), s4, .val (.int (Int32.ofNat (d + 1))), .val (.int (Int32.ofNat (rc))), .val (.int (Int32.ofNat (d))), .val (.int (Int32.ofNat (f))), .val (.int (Int32.ofNat (g))), .val (.int (own_jv (max (own_l N f) (own_l N g)))), .val (.int (x)), s12, s13, s14] [])
    (KR : ∀ (h' : Heap) (X' : Fin 12 → List Int32) (r : Nat), own_CI Z n0 h0 o A0 nv c0 j0 h' A X' N c j k n → r < own_ct N → own_M N r = own_op op (own_M N f) (own_M N g) → own_l N r ≤ max (own_l N f) (own_l N g) → own_Fr X X' d rc → (X' 11)[rc]? = some (Int32.ofNat r) → o_Go κ Q h' k n 48 [.val (.ref o), .val (.int (Int32.ofNat op)), .val (.int F), .val (.int G), s4, .val (.int (Int32.ofNat (d))), .val (.int (Int32.ofNat (rc + 1))), .val (.int (Int32.ofNat (d))), .val (.int (Int32.ofNat (f))), .val (.int (Int32.ofNat (g))), .val (.int (own_jv (max (own_l N f) (own_l N g)))), .val (.int (Int32.ofNat (r))), s12, s13, s14] []) :
    o_Go κ Q h k n 48 [.val (.ref o), .val (.int (Int32.ofNat op)), .val (.int F), .val (.int G), s4, .val (.int (Int32.ofNat (d + 1))), .val (.int (Int32.ofNat (rc))), s7, s8, s9, s10, s11, s12, s13, s14] [] := by
  have c32 := C.ct
  have hk := C.hk
  have hn := C.hn
  have D := C.1
  have W := C.2.1
  have BN := C.2.1.1
  have RR := C.2.1.2.2.1
  obtain ⟨L8, L9, L10, L11⟩ := C.2.2.1
  obtain ⟨k7, k8, k9, k10, k11, k12, k13, k14⟩ := ok
  have OLh := C.old OL g0
  have T132 : ∀ x : Int32, own_Sr N op f g x → (x = -2147483648 → 2 ≤ f ∨ 2 ≤ g) → o_Go κ Q h k n 132 [.val (.ref o), .val (.int (Int32.ofNat op)), .val (.int F), .val (.int G), s4, .val (.int (Int32.ofNat (d + 1))), .val (.int (Int32.ofNat (rc))), .val (.int (Int32.ofNat (d))), .val (.int (Int32.ofNat (f))), .val (.int (Int32.ofNat (g))), .val (.int (own_jv (max (own_l N f) (own_l N g)))), .val (.int (x)), s12, s13, s14] [] := by
    intro x sr un
    refine o_iload (pc := 132) B d22_132 rfl ?_
    refine o_ldc (pc := 134) B (x := (-2147483648 : Int32)) d22_134 (hw _ (List.mem_of_getElem? (i := 50) rfl)) ?_
    refine o_icmp_eq (pc := 136) (pc' := 157) B d22_136 (by decide) (by decide) (fun hc136 => ?_) (fun hc136 => ?_)
    · exact KU (un hc136) _
    obtain ⟨r, rfl, r1, r2, r3⟩ := sr.resolve_left hc136
    refine o_aloadN (pc := 139) B d22_139 rfl rfl ?_
    refine o_getF (pc := 140) B d22_140 (hw _ (List.mem_of_getElem? (i := 69) rfl)) (D.f11) ?_
    refine o_iload (pc := 143) B d22_143 rfl ?_
    refine o_iinc_15_6 (pc := 145) B (1 : Int32) (Int32.ofNat (rc + 1)) d22_145 (by decide) (own_one rc) ?_
    refine o_iload (pc := 148) B d22_148 rfl ?_
    refine o_iastore (pc := 150) B (rc) d22_150 (D.Ar 11) (rfl) (own_mltI (by omega)) (D.ge 11) ?_
    intro h1 W1
    have C1 := C.wr 11 (by decide) W1
    refine o_iinc_15_5 (pc := 151) B (-1 : Int32) (Int32.ofNat d) d22_151 (by decide) (own_dec1 d) ?_
    refine o_goto (pc := 154) (pc' := 236) B d22_154 (by decide) (by decide) ?_
    refine o_goto (pc := 236) (pc' := 429) B d22_236 (by decide) (by decide) ?_
    refine o_goto (pc := 429) (pc' := 48) B d22_429 (by decide) (by decide) ?_
    exact KR h1 _ r C1 r1 r2 r3 (own_Fr.set X 11 _ _ (fun e => absurd rfl e) (fun _ => Nat.le_refl _)) (own_upF_set_eq (by omega))
  refine own_pre l Z a0 hw n0 h c0 j0 κ B Q k n hk hn o A X nv op d rc f g N F G 0 s4 s7 s8 s9 s10 s11 s12 s13 s14 k7 k8 k9 k10 D BN RR (by omega) (by omega) hf hg e8 e9 e10 ?_
  refine o_if_ne (pc := 101) (pc' := 239) B d22_101 (by decide) (by decide) (fun hc101 => False.elim ((hc101 rfl))) (fun hc101 => ?_)
  refine o_iloadN (pc := 104) B d22_104 rfl ?_
  refine o_iload (pc := 105) B d22_105 rfl ?_
  refine o_iload (pc := 107) B d22_107 rfl ?_
  refine o_callS3 (pc := 109) B 0 d22_109 (hw _ (List.mem_of_getElem? (i := 155) rfl)) (hw _ (List.mem_of_getElem? (i := 156) rfl)) (hw _ (List.mem_of_getElem? (i := 2) rfl)) (hw _ (List.mem_of_getElem? (i := 157) rfl)) (by decide) pd23 rfl (by first | exact Nat.zero_le _ | exact Nat.le_of_ble_eq_true rfl | simp [Value.category]) (by first | decide | exact Nat.le_of_ble_eq_true rfl) (by first | decide | exact Nat.le_of_ble_eq_true rfl) (by first | exact hk | exact hn | exact C6.room.1 | exact C6.room.2 | exact C7.hk | exact C7.hn | exact Nat.zero_le _ | exact C'.hk | exact C'.hn) (by first | exact hk | exact hn | exact C6.room.1 | exact C6.room.2 | exact C7.hk | exact C7.hn | exact Nat.zero_le _ | exact C'.hk | exact C'.hn) rfl (oc23 l Z a0 hw n0 _ b arr op f g N hop SC OLh BN hf hg (by omega)) ?_
  rintro _ h _ _ ⟨⟨x, rfl, sr, un⟩, rfl, rfl, rfl⟩ - -
  refine o_istore_15_11 (pc := 112) B d22_112 k11 ?_
  refine o_iload (pc := 114) B d22_114 rfl ?_
  refine o_ldc (pc := 116) B (x := (-2147483648 : Int32)) d22_116 (hw _ (List.mem_of_getElem? (i := 50) rfl)) ?_
  refine o_icmp_ne (pc := 118) (pc' := 132) B d22_118 (by decide) (by decide) (fun hc118 => ?_) (fun hc118 => ?_)
  · exact T132 x sr un
  refine o_aloadN (pc := 121) B d22_121 rfl rfl ?_
  refine o_iloadN (pc := 122) B d22_122 rfl ?_
  refine o_iload (pc := 123) B d22_123 rfl ?_
  refine o_iload (pc := 125) B d22_125 rfl ?_
  refine o_callP3 (pc := 127) B 0 d22_127 (hw _ (List.mem_of_getElem? (i := 189) rfl)) (hw _ (List.mem_of_getElem? (i := 190) rfl)) (hw _ (List.mem_of_getElem? (i := 191) rfl)) (hw _ (List.mem_of_getElem? (i := 1) rfl)) (hw _ (List.mem_of_getElem? (i := 2) rfl)) (hw _ (List.mem_of_getElem? (i := 192) rfl)) (by decide) pd30 rfl (by first | exact Nat.zero_le _ | exact Nat.le_of_ble_eq_true rfl | simp [Value.category]) (by first | decide | exact Nat.le_of_ble_eq_true rfl) (by first | decide | exact Nat.le_of_ble_eq_true rfl) (by first | exact hk | exact hn | exact C6.room.1 | exact C6.room.2 | exact C7.hk | exact C7.hn | exact Nat.zero_le _ | exact C'.hk | exact C'.hn) (by first | exact hk | exact hn | exact C6.room.1 | exact C6.room.2 | exact C7.hk | exact C7.hn | exact Nat.zero_le _ | exact C'.hk | exact C'.hn) rfl (D.E) (oc30 l Z a0 hw n0 _ o A X nv c j op f g N D W hop hf hg) ?_
  rintro _ h _ _ ⟨⟨x', rfl, sr'⟩, rfl, rfl, rfl⟩ - -
  refine o_istore_15_11 (pc := 130) B d22_130 rfl ?_
  exact T132 x' sr' (fun _ => un hc118)
theorem own_ch_extL {N N' : own_Nd} (E : own_Ext N N') {T f : Nat} (hf : f < own_ct N) : own_ch (own_Lo N') N' T f = own_ch (own_Lo N) N T f := by unfold own_ch; rw [E.l hf, (E.2 f hf).2.1]
theorem own_ch_extH {N N' : own_Nd} (E : own_Ext N N') {T f : Nat} (hf : f < own_ct N) : own_ch (own_Hi N') N' T f = own_ch (own_Hi N) N T f := by unfold own_ch; rw [E.l hf, (E.2 f hf).2.2.1]
set_option maxRecDepth 65536 in
set_option maxHeartbeats 40000000 in
theorem own_cm (l : Launch) (Z : State) (a0 : Array Value) (hw : ∀ d ∈ tables_1, d.before a0 Z = true) (n0 : Nat) (b : Nat → Addr) (arr : Addr) (SC : own_SC Z b arr) (h0 : Heap) (c0 j0 : Nat) (κ : o_K) (B : o_Bo κ l Z n0 (orm22 c0 j0) oy22 prog_26_method_9_code 15 (some .int)) (Q : Option Value → Heap → Nat → Nat → Prop) (o : Addr) (A0 : Fin 12 → Addr) (nv op : Nat) (F G : Int32) (s4 : Slot) (hop : op < 4) (OL : Old Z n0 h0) (g0 : ∀ x ∈ own_ws o A0, n0 ≤ x) (hnv : nv < 2 ^ 20) :
    ∀ (L : Nat), L ≤ 3 → ∀ (N : own_Nd) (A : Fin 12 → Addr) (X : Fin 12 → List Int32) (h : Heap) (c j k n d rc f g : Nat) (s7 s8 s9 s10 s11 s12 s13 s14 : Slot), (o_ok1 s7 = true ∧ o_ok1 s8 = true ∧ o_ok1 s9 = true ∧ o_ok1 s10 = true ∧ o_ok1 s11 = true ∧ o_ok1 s12 = true ∧ o_ok1 s13 = true ∧ o_ok1 s14 = true) → own_CI Z n0 h0 o A0 nv c0 j0 h A X N c j k n → f < own_ct N → g < own_ct N → own_l N f ≤ L → own_l N g ≤ L → (X 8)[d]? = some (Int32.ofNat f) → (X 9)[d]? = some (Int32.ofNat g) → (X 10)[d]? = some 0 → d + L < nv + 1 → rc + L < nv + 2 → own_b N + own_cnt L ≤ 27 →
    (∀ (N' : own_Nd) (A' : Fin 12 → Addr) (X' : Fin 12 → List Int32) (h' : Heap) (c' j' k' n' r : Nat) (t7 t8 t9 t10 t11 t12 t13 t14 : Slot), (o_ok1 t7 = true ∧ o_ok1 t8 = true ∧ o_ok1 t9 = true ∧ o_ok1 t10 = true ∧ o_ok1 t11 = true ∧ o_ok1 t12 = true ∧ o_ok1 t13 = true ∧ o_ok1 t14 = true) → own_CI Z n0 h0 o A0 nv c0 j0 h' A' X' N' c' j' k' n' → own_Ext N N' → r < own_ct N' → own_M N' r = own_op op (own_M N f) (own_M N g) → own_l N' r ≤ max (own_l N f) (own_l N g) → own_b N' ≤ own_b N + own_cnt L → own_Fr X X' d rc → (X' 11)[rc]? = some (Int32.ofNat r) → o_Go κ Q h' k' n' 48 [.val (.ref o), .val (.int (Int32.ofNat op)), .val (.int F), .val (.int G), s4, .val (.int (Int32.ofNat (d))), .val (.int (Int32.ofNat (rc + 1))), t7, t8, t9, t10, t11, t12, t13, t14] []) → o_Go κ Q h k n 48 [.val (.ref o), .val (.int (Int32.ofNat op)), .val (.int F), .val (.int G), s4, .val (.int (Int32.ofNat (d + 1))), .val (.int (Int32.ofNat (rc))), s7, s8, s9, s10, s11, s12, s13, s14] [] := by
  intro L
  induction L with
  | zero =>
    intro _ N A X h c j k n d rc f g s7 s8 s9 s10 s11 s12 s13 s14 ok C hf hg lf lg e8 e9 e10 hd hr hb K
    refine own_cm0 l Z a0 hw n0 b arr SC h0 c0 j0 κ B Q o A0 nv op d rc f g F G s4 s7 s8 s9 s10 s11 s12 s13 s14 ok hop OL g0 hnv h A X N c j k n C hf hg e8 e9 e10 (by omega) (by omega) ?_ ?_
    · intro un
      exfalso
      rcases un with q | q
      · have := own_l_V (N := N) q; omega
      · have := own_l_V (N := N) q; omega
    · intro h' X' r C' r1 r2 r3 Fr rr
      exact K N A X' h' c j k n r _ _ _ _ _ _ _ _ ⟨rfl, rfl, rfl, rfl, rfl, ok.2.2.2.2.2⟩ C' (own_Ext.refl N) r1 r2 r3 (Nat.le_add_right _ _) Fr rr
  | succ L ih =>
    intro L3 N A X h c j k n d rc f g s7 s8 s9 s10 s11 s12 s13 s14 ok C hf hg lf lg e8 e9 e10 hd hr hb K
    refine own_cm0 l Z a0 hw n0 b arr SC h0 c0 j0 κ B Q o A0 nv op d rc f g F G s4 s7 s8 s9 s10 s11 s12 s13 s14 ok hop OL g0 hnv h A X N c j k n C hf hg e8 e9 e10 (by omega) (by omega) ?_ ?_
    rotate_left
    · intro h' X' r C' r1 r2 r3 Fr rr
      exact K N A X' h' c j k n r _ _ _ _ _ _ _ _ ⟨rfl, rfl, rfl, rfl, rfl, ok.2.2.2.2.2⟩ C' (own_Ext.refl N) r1 r2 r3 (Nat.le_add_right _ _) Fr rr
    intro un x
    obtain ⟨k7, k8, k9, k10, k11, k12, k13, k14⟩ := ok
    have BN := C.2.1.1
    have D := C.1
    obtain ⟨L8, L9, L10, L11⟩ := C.2.2.1
    have hT1 : 1 ≤ max (own_l N f) (own_l N g) := by
      rcases un with q | q
      · have := own_l_V (N := N) q
        exact Nat.le_trans (by omega) (Nat.le_max_left _ _)
      · have := own_l_V (N := N) q
        exact Nat.le_trans (by omega) (Nat.le_max_right _ _)
    have hTL : max (own_l N f) (own_l N g) ≤ L + 1 := Nat.max_le.mpr ⟨lf, lg⟩
    have hfT := Nat.le_max_left (own_l N f) (own_l N g)
    have hgT := Nat.le_max_right (own_l N f) (own_l N g)
    have ecn2 : 2 * own_cnt L ≤ own_cnt (L + 1) := Nat.le_add_right _ _
    obtain ⟨T, eT, hT1, hTL, hfT, hgT⟩ : ∃ T, (∀ _ : Unit, T = max (own_l N f) (own_l N g)) ∧ 1 ≤ T ∧ T ≤ L + 1 ∧ own_l N f ≤ T ∧ own_l N g ≤ T := ⟨_, fun _ => rfl, hT1, hTL, hfT, hgT⟩
    obtain ⟨f0a, f0b⟩ := own_chL (T := T) BN hf hT1 hfT
    obtain ⟨g0a, g0b⟩ := own_chL (T := T) BN hg hT1 hgT
    obtain ⟨f1a, f1b⟩ := own_chH (T := T) BN hf hT1 hfT
    obtain ⟨g1a, g1b⟩ := own_chH (T := T) BN hg hT1 hgT
    have Mf := own_chM (T := T) BN hf hT1
    have Mg := own_chM (T := T) BN hg hT1
    refine o_aloadN (pc := 157) B d22_157 rfl rfl ?_
    refine o_getF (pc := 158) B d22_158 (hw _ (List.mem_of_getElem? (i := 67) rfl)) (D.f10) ?_
    refine o_iload (pc := 161) B d22_161 rfl ?_
    refine o_iconst (pc := 163) B (1 : Int32) d22_163 (by decide) ?_
    refine o_iastore (pc := 164) B (d) d22_164 (D.Ar 10) (rfl) (own_mltI (by omega)) (D.ge 10) ?_
    intro h1 W1
    have C1 := C.wr 10 (by decide) W1
    have x1a : (own_upF X 10 ((X 10).set d 1) 8)[d]? = some (Int32.ofNat f) := by rw [own_upF_ne _ _ (by decide)]; exact e8
    have x1b : (own_upF X 10 ((X 10).set d 1) 9)[d]? = some (Int32.ofNat g) := by rw [own_upF_ne _ _ (by decide)]; exact e9
    have x1c : (own_upF X 10 ((X 10).set d 1) 10)[d]? = some 1 := own_upF_set_eq (by omega)
    have F1 : own_Fr X (own_upF X 10 ((X 10).set d 1)) d rc := own_Fr.set X 10 _ _ (fun _ => Nat.le_refl _) (fun e => absurd e (by decide))
    generalize own_upF X 10 ((X 10).set d 1) = X1 at C1 x1a x1b x1c F1
    refine own_pushL l Z a0 hw n0 h0 c0 j0 κ B Q o A0 nv op d rc f g F G s4 _ _ _ _ h1 A X1 N c j k n C1 hf hg (by rw [← eT ()]; exact hT1) (by omega) hnv ?_
    intro h2 X2 C2 F2 a8 a9 a10
    rw [← eT ()] at a8 a9
    rw [← eT ()]
    refine ih (by omega) N A X2 h2 c j k n (d + 1) rc _ _ _ _ _ _ _ _ _ _ ⟨rfl, rfl, rfl, rfl, rfl, k12, k13, k14⟩ C2 f0a g0a (Nat.le_trans f0b (by omega)) (Nat.le_trans g0b (by omega)) a8 a9 a10 (by omega) (by omega) (by omega) ?_
    intro N3 A3 X3 h3 c3 j3 k3 n3 r0 t7 t8 t9 t10 t11 t12 t13 t14 ok3 C3 E3 q1 q2 q3 q4 F3 q5
    obtain ⟨u7, u8, u9, u10, u11, u12, u13, u14⟩ := ok3
    have q3' : own_l N3 r0 ≤ T - 1 := Nat.le_trans q3 (Nat.max_le.mpr ⟨f0b, g0b⟩)
    clear q3
    have D3 := C3.1
    have BN3 := C3.2.1.1
    obtain ⟨M8, M9, M10, M11⟩ := C3.2.2.1
    have c32 := C3.ct
    have F13 : own_Fr X1 X3 (d + 1) rc := own_Fr.trans (rc := rc) ⟨F2.1, fun q hq => F2.2 q (by omega)⟩ F3 (Nat.le_refl _) (Nat.le_refl _)
    obtain ⟨v1, v2, v3⟩ := F13.1 d (by omega)
    have hf3 : f < own_ct N3 := Nat.lt_of_lt_of_le hf E3.1
    have hg3 : g < own_ct N3 := Nat.lt_of_lt_of_le hg E3.1
    have lf3 := E3.l hf
    have lg3 := E3.l hg
    refine own_pre l Z a0 hw n0 h3 c0 j0 κ B Q k3 n3 C3.hk C3.hn o A3 X3 nv op d (rc + 1) f g N3 F G 1 s4 t7 t8 t9 t10 t11 t12 t13 t14 u7 u8 u9 u10 D3 BN3 C3.2.1.2.2.1 (by omega) (by omega) hf3 hg3 (v1.trans x1a) (v2.trans x1b) (v3.trans x1c) ?_
    refine o_if_ne (pc := 101) (pc' := 239) B d22_101 (by decide) (by decide) (fun hc101 => ?_) (fun hc101 => False.elim ((by revert hc101; decide)))
    refine o_aloadN (pc := 239) B d22_239 rfl rfl ?_
    refine o_getF (pc := 240) B d22_240 (hw _ (List.mem_of_getElem? (i := 67) rfl)) (D3.f10) ?_
    refine o_iload (pc := 243) B d22_243 rfl ?_
    refine o_iaload (pc := 245) B (d) d22_245 (D3.Ar 10) (rfl) (own_mapI (v3.trans x1c)) ?_
    refine o_iconst (pc := 246) B (1 : Int32) d22_246 (by decide) ?_
    refine o_icmp_ne (pc := 247) (pc' := 332) B d22_247 (by decide) (by decide) (fun hc247 => False.elim ((hc247 rfl))) (fun hc247 => ?_)
    refine o_aloadN (pc := 250) B d22_250 rfl rfl ?_
    refine o_getF (pc := 251) B d22_251 (hw _ (List.mem_of_getElem? (i := 67) rfl)) (D3.f10) ?_
    refine o_iload (pc := 254) B d22_254 rfl ?_
    refine o_iconst (pc := 256) B (2 : Int32) d22_256 (by decide) ?_
    refine o_iastore (pc := 257) B (d) d22_257 (D3.Ar 10) (rfl) (own_mltI (by omega)) (D3.ge 10) ?_
    intro h4 W4
    have C4 := C3.wr 10 (by decide) W4
    have x4a : (own_upF X3 10 ((X3 10).set d 2) 8)[d]? = some (Int32.ofNat f) := by rw [own_upF_ne _ _ (by decide)]; exact v1.trans x1a
    have x4b : (own_upF X3 10 ((X3 10).set d 2) 9)[d]? = some (Int32.ofNat g) := by rw [own_upF_ne _ _ (by decide)]; exact v2.trans x1b
    have x4c : (own_upF X3 10 ((X3 10).set d 2) 10)[d]? = some 2 := own_upF_set_eq (by omega)
    have x4d : (own_upF X3 10 ((X3 10).set d 2) 11)[rc]? = some (Int32.ofNat r0) := by rw [own_upF_ne _ _ (by decide)]; exact q5
    have F4 : own_Fr X3 (own_upF X3 10 ((X3 10).set d 2)) d rc := own_Fr.set X3 10 _ _ (fun _ => Nat.le_refl _) (fun e => absurd e (by decide))
    generalize own_upF X3 10 ((X3 10).set d 2) = X4 at C4 x4a x4b x4c x4d F4
    have hT3 : ∀ _ : Unit, max (own_l N3 f) (own_l N3 g) = T := fun _ => by rw [lf3, lg3, ← eT ()]
    refine own_pushH l Z a0 hw n0 h0 c0 j0 κ B Q o A0 nv op d (rc + 1) f g F G s4 _ _ _ _ h4 A3 X4 N3 c3 j3 k3 n3 C4 hf3 hg3 (by rw [hT3 ()]; exact hT1) (by omega) hnv ?_
    rw [hT3 (), own_ch_extH E3 hf, own_ch_extH E3 hg]
    intro h5 X5 C5 F5 b8 b9 b10
    have l1a := E3.l f1a
    have l1b := E3.l g1a
    refine ih (by omega) N3 A3 X5 h5 c3 j3 k3 n3 (d + 1) (rc + 1) _ _ _ _ _ _ _ _ _ _ ⟨rfl, rfl, rfl, rfl, u11, u12, u13, u14⟩ C5 (Nat.lt_of_lt_of_le f1a E3.1) (Nat.lt_of_lt_of_le g1a E3.1) (by rw [l1a]; exact Nat.le_trans f1b (by omega)) (by rw [l1b]; exact Nat.le_trans g1b (by omega)) b8 b9 b10 (by omega) (by omega) (by omega) ?_
    clear u7 u8 u9 u10 u11 u12 u13 u14
    intro N6 A6 X6 h6 c6 j6 k6 n6 r1 w7 w8 w9 w10 w11 w12 w13 w14 ok6 C6 E6 p1 p2 p3 p4 F6 p5
    obtain ⟨u7, u8, u9, u10, u11, u12, u13, u14⟩ := ok6
    have p3' : own_l N6 r1 ≤ T - 1 := Nat.le_trans p3 (by rw [l1a, l1b]; exact Nat.max_le.mpr ⟨f1b, g1b⟩)
    clear p3
    have D6 := C6.1
    have BN6 := C6.2.1.1
    obtain ⟨Q8, Q9, Q10, Q11⟩ := C6.2.2.1
    have c62 := C6.ct
    have F46 : own_Fr X4 X6 (d + 1) (rc + 1) := own_Fr.trans (rc := rc + 1) ⟨F5.1, fun q hq => F5.2 q (by omega)⟩ F6 (Nat.le_refl _) (Nat.le_refl _)
    obtain ⟨y1, y2, y3⟩ := F46.1 d (by omega)
    have yr := (F46.2 rc (by omega)).trans x4d
    have E36 := E3.trans E6
    have hf6 : f < own_ct N6 := Nat.lt_of_lt_of_le hf E36.1
    have hg6 : g < own_ct N6 := Nat.lt_of_lt_of_le hg E36.1
    have hT6 : ∀ _ : Unit, max (own_l N6 f) (own_l N6 g) = T := fun _ => by rw [E36.l hf, E36.l hg, ← eT ()]
    refine own_pre l Z a0 hw n0 h6 c0 j0 κ B Q k6 n6 C6.hk C6.hn o A6 X6 nv op d (rc + 1 + 1) f g N6 F G 2 s4 w7 w8 w9 w10 w11 w12 w13 w14 u7 u8 u9 u10 D6 BN6 C6.2.1.2.2.1 (by omega) (by omega) hf6 hg6 (y1.trans x4a) (y2.trans x4b) (y3.trans x4c) ?_
    rw [hT6 (), own_jv_suc hT1]
    refine o_if_ne (pc := 101) (pc' := 239) B d22_101 (by decide) (by decide) (fun hc101 => ?_) (fun hc101 => False.elim ((by revert hc101; decide)))
    refine o_aloadN (pc := 239) B d22_239 rfl rfl ?_
    refine o_getF (pc := 240) B d22_240 (hw _ (List.mem_of_getElem? (i := 67) rfl)) (D6.f10) ?_
    refine o_iload (pc := 243) B d22_243 rfl ?_
    refine o_iaload (pc := 245) B (d) d22_245 (D6.Ar 10) (rfl) (own_mapI (y3.trans x4c)) ?_
    refine o_iconst (pc := 246) B (1 : Int32) d22_246 (by decide) ?_
    refine o_icmp_ne (pc := 247) (pc' := 332) B d22_247 (by decide) (by decide) (fun hc247 => ?_) (fun hc247 => False.elim ((by revert hc247; decide)))
    refine o_aloadN (pc := 332) B d22_332 rfl rfl ?_
    refine o_getF (pc := 333) B d22_333 (hw _ (List.mem_of_getElem? (i := 69) rfl)) (D6.f11) ?_
    refine o_iinc_15_6 (pc := 336) B (-1 : Int32) (Int32.ofNat (rc + 1)) d22_336 (by decide) (own_dec1 (rc + 1)) ?_
    refine o_iload (pc := 339) B d22_339 rfl ?_
    refine o_iaload (pc := 341) B (rc + 1) d22_341 (D6.Ar 11) (rfl) (own_mapI p5) ?_
    refine o_istore_15_11 (pc := 342) B d22_342 u11 ?_
    refine o_aloadN (pc := 344) B d22_344 rfl rfl ?_
    refine o_getF (pc := 345) B d22_345 (hw _ (List.mem_of_getElem? (i := 69) rfl)) (D6.f11) ?_
    refine o_iinc_15_6 (pc := 348) B (-1 : Int32) (Int32.ofNat rc) d22_348 (by decide) (own_dec1 rc) ?_
    refine o_iload (pc := 351) B d22_351 rfl ?_
    refine o_iaload (pc := 353) B (rc) d22_353 (D6.Ar 11) (rfl) (own_mapI yr) ?_
    refine o_istore_15_12 (pc := 354) B d22_354 u12 ?_
    refine o_aloadN (pc := 356) B d22_356 rfl rfl ?_
    refine o_iload (pc := 357) B d22_357 rfl ?_
    refine o_iload (pc := 359) B d22_359 rfl ?_
    refine o_iload (pc := 361) B d22_361 rfl ?_
    have r0a : r0 < own_ct N6 := Nat.lt_of_lt_of_le q1 E6.1
    have r0l := E6.l q1
    have r0M := (E6.2 r0 q1).2.2.2
    have Cn6 := C6.2.1.2.1.le
    refine o_callP3 (pc := 363) B 0 d22_363 (hw _ (List.mem_of_getElem? (i := 80) rfl)) (hw _ (List.mem_of_getElem? (i := 81) rfl)) (hw _ (List.mem_of_getElem? (i := 82) rfl)) (hw _ (List.mem_of_getElem? (i := 1) rfl)) (hw _ (List.mem_of_getElem? (i := 2) rfl)) (hw _ (List.mem_of_getElem? (i := 83) rfl)) (by decide) pd8 rfl (by first | exact Nat.zero_le _ | exact Nat.le_of_ble_eq_true rfl | simp [Value.category]) (by first | decide | exact Nat.le_of_ble_eq_true rfl) (by first | decide | exact Nat.le_of_ble_eq_true rfl) (by first | exact hk | exact hn | exact C6.room.1 | exact C6.room.2 | exact C7.hk | exact C7.hn | exact Nat.zero_le _ | exact C'.hk | exact C'.hn) (by first | exact hk | exact hn | exact C6.room.1 | exact C6.room.2 | exact C7.hk | exact C7.hn | exact Nat.zero_le _ | exact C'.hk | exact C'.hn) rfl (D6.E) (oc8 l Z a0 hw n0 _ o A6 X6 nv c6 j6 (T - 1) r0 r1 N6 D6 C6.2.1 (by omega) r0a p1 (by rw [r0l]; exact q3') p3' (by omega)) ?_
    rintro _ h7 kc nc ⟨r, N7, A7, X7, c7, j7, rfl, D7, W7, E7, r7, m7, l7, b7, FA, FR, K7, ⟨cc, jj⟩, rfl, rfl⟩ - -
    have C7 := C6.node D7 W7 FA FR K7 cc jj
    have c72 := C7.ct
    refine o_istore_15_13 (pc := 366) B d22_366 u13 ?_
    refine o_aloadN (pc := 368) B d22_368 rfl rfl ?_
    refine o_iloadN (pc := 369) B d22_369 rfl ?_
    refine o_iload (pc := 370) B d22_370 rfl ?_
    refine o_iload (pc := 372) B d22_372 rfl ?_
    refine o_callP3 (pc := 374) B 0 d22_374 (hw _ (List.mem_of_getElem? (i := 193) rfl)) (hw _ (List.mem_of_getElem? (i := 194) rfl)) (hw _ (List.mem_of_getElem? (i := 195) rfl)) (hw _ (List.mem_of_getElem? (i := 1) rfl)) (hw _ (List.mem_of_getElem? (i := 2) rfl)) (hw _ (List.mem_of_getElem? (i := 196) rfl)) (by decide) pd31 rfl (by first | exact Nat.zero_le _ | exact Nat.le_of_ble_eq_true rfl | simp [Value.category]) (by first | decide | exact Nat.le_of_ble_eq_true rfl) (by first | decide | exact Nat.le_of_ble_eq_true rfl) (by first | exact hk | exact hn | exact C6.room.1 | exact C6.room.2 | exact C7.hk | exact C7.hn | exact Nat.zero_le _ | exact C'.hk | exact C'.hn) (by first | exact hk | exact hn | exact C6.room.1 | exact C6.room.2 | exact C7.hk | exact C7.hn | exact Nat.zero_le _ | exact C'.hk | exact C'.hn) rfl (D7.E) (oc31 l Z a0 hw n0 _ o A7 X7 (own_ct N7) nv j7 _ _ _ (by have := C7.pows.2.2.2.2.2.1; omega) W7.2.2.2.2.2.2.2.1.2.2.2 D7) ?_
    rintro _ h7 _ _ ⟨⟨s, hs, rfl⟩, rfl, rfl, rfl⟩ - -
    refine o_istore_15_14 (pc := 377) B d22_377 u14 ?_
    obtain ⟨V4, V5, V6, V7⟩ := W7.2.2.2.2.2.2.2.1
    refine o_aloadN (pc := 379) B d22_379 rfl rfl ?_
    refine o_getF (pc := 380) B d22_380 (hw _ (List.mem_of_getElem? (i := 42) rfl)) (D7.f4) ?_
    refine o_iload (pc := 383) B d22_383 rfl ?_
    refine o_iloadN (pc := 385) B d22_385 rfl ?_
    refine o_iastore (pc := 386) B (s) d22_386 (D7.Ar 4) (rfl) (own_mltI (by omega)) (D7.ge 4) ?_
    intro h8 W8
    have D8 := D7.wr 4 W8
    refine o_aloadN (pc := 387) B d22_387 rfl rfl ?_
    refine o_getF (pc := 388) B d22_388 (hw _ (List.mem_of_getElem? (i := 44) rfl)) (D8.f5) ?_
    refine o_iload (pc := 391) B d22_391 rfl ?_
    refine o_iload (pc := 393) B d22_393 rfl ?_
    refine o_iastore (pc := 395) B (s) d22_395 (D8.Ar 5) (rfl) (own_mltI (by rw [own_upF_len]; omega)) (D8.ge 5) ?_
    intro h9 W9
    have D9 := D8.wr 5 W9
    refine o_aloadN (pc := 396) B d22_396 rfl rfl ?_
    refine o_getF (pc := 397) B d22_397 (hw _ (List.mem_of_getElem? (i := 46) rfl)) (D9.f6) ?_
    refine o_iload (pc := 400) B d22_400 rfl ?_
    refine o_iload (pc := 402) B d22_402 rfl ?_
    refine o_iastore (pc := 404) B (s) d22_404 (D9.Ar 6) (rfl) (own_mltI (by rw [own_upF_len, own_upF_len]; omega)) (D9.ge 6) ?_
    intro h10 W10
    have D10 := D9.wr 6 W10
    refine o_aloadN (pc := 405) B d22_405 rfl rfl ?_
    refine o_getF (pc := 406) B d22_406 (hw _ (List.mem_of_getElem? (i := 48) rfl)) (D10.f7) ?_
    refine o_iload (pc := 409) B d22_409 rfl ?_
    refine o_iload (pc := 411) B d22_411 rfl ?_
    refine o_iastore (pc := 413) B (s) d22_413 (D10.Ar 7) (rfl) (own_mltI (by rw [own_upF_len, own_upF_len, own_upF_len]; omega)) (D10.ge 7) ?_
    intro h11 W11
    have E37 := E36.trans E7
    have hf7 : f < own_ct N7 := Nat.lt_of_lt_of_le hf E37.1
    have hg7 : g < own_ct N7 := Nat.lt_of_lt_of_le hg E37.1
    have hM : own_M N7 r = own_op op (own_M N f) (own_M N g) := by
      rw [m7, p2, r0M, q2, (E3.2 _ f1a).2.2.2, (E3.2 _ g1a).2.2.2, Mf, Mg, own_op_ite]
    have hl : own_l N7 r ≤ T := Nat.le_trans l7 (by omega)
    obtain ⟨X11, C11, y11⟩ := C7.cache hop hf7 hg7 r7 (by rw [(E37.2 f hf).2.2.2, (E37.2 g hg).2.2.2]; exact hM) (by rw [E37.l hf, E37.l hg, ← eT ()]; exact hl) W8 W9 W10 W11
    have D11 := C11.1
    obtain ⟨-, -, -, R11⟩ := C11.2.2.1
    refine o_aloadN (pc := 414) B d22_414 rfl rfl ?_
    refine o_getF (pc := 415) B d22_415 (hw _ (List.mem_of_getElem? (i := 69) rfl)) (D11.f11) ?_
    refine o_iload (pc := 418) B d22_418 rfl ?_
    refine o_iinc_15_6 (pc := 420) B (1 : Int32) (Int32.ofNat (rc + 1)) d22_420 (by decide) (own_one rc) ?_
    refine o_iload (pc := 423) B d22_423 rfl ?_
    refine o_iastore (pc := 425) B (rc) d22_425 (D11.Ar 11) (rfl) (own_mltI (by omega)) (D11.ge 11) ?_
    intro h12 W12
    have C12 := C11.wr 11 (by decide) W12
    refine o_iinc_15_5 (pc := 426) B (-1 : Int32) (Int32.ofNat d) d22_426 (by decide) (own_dec1 d) ?_
    refine o_goto (pc := 429) (pc' := 48) B d22_429 (by decide) (by decide) ?_
    have FF : own_Fr X (own_upF X11 11 ((X11 11).set rc (Int32.ofNat r))) d rc :=
      ((((((F1.trans F13 (by omega) (by omega)).trans F4 (by omega) (by omega)).trans F46 (by omega) (by omega)).trans (own_Fr.same (d := d) (rc := rc) fun i hi => (FA i hi).2) (by omega) (by omega)).trans (own_Fr.same (d := d) (rc := rc) y11) (by omega) (by omega)).trans (own_Fr.set (d := d) (rc := rc) X11 11 _ _ (fun e => absurd rfl e) (fun _ => Nat.le_refl _)) (by omega) (by omega))
    have hb7 : own_b N7 ≤ own_b N + own_cnt (L + 1) := by
      rw [show own_cnt (L + 1) = 2 * own_cnt L + (if L = 0 then 0 else 1) from rfl]
      by_cases z : L = 0
      · rw [if_pos z]
        rw [if_pos (show T - 1 = 0 by omega)] at b7
        omega
      · rw [if_neg z]
        have : (if T - 1 = 0 then 0 else 1) ≤ 1 := by split <;> omega
        omega
    exact K N7 A7 _ h12 c7 j7 _ _ r _ _ _ _ _ _ _ _ ⟨rfl, rfl, rfl, rfl, rfl, rfl, rfl, rfl⟩ C12 E37 r7 hM (by rw [← eT ()]; exact hl) hb7 FF (own_upF_set_eq (by omega))
/-- what combine() and apply() leave -/
def own_Pc (Z : State) (n0 : Nat) (h : Heap) (o : Addr) (A : Fin 12 → Addr) (nv c j op f g : Nat) (N : own_Nd) (v_ : Option Value) (h' : Heap) (kc nc : Nat) : Prop :=
  ∃ r N' A' X' c' j', v_ = some (.int (Int32.ofNat r)) ∧ own_CI Z n0 h o A nv c j h' A' X' N' c' j' kc nc ∧ own_Ext N N' ∧ r < own_ct N' ∧ own_M N' r = own_op op (own_M N f) (own_M N g) ∧ own_b N' ≤ own_b N + 3
set_option maxRecDepth 65536 in
set_option maxHeartbeats 40000000 in
theorem oc22 (l : Launch) (Z : State) (a0 : Array Value) (hw : ∀ d ∈ tables_1, d.before a0 Z = true) (n0 : Nat) (h : Heap) (b : Nat → Addr) (arr : Addr) (SC : own_SC Z b arr) (o : Addr) (A : Fin 12 → Addr) (X : Fin 12 → List Int32) (nv c j op f g : Nat) (N : own_Nd) (C : own_CI Z n0 h o A nv c j h A X N c j 0 0) (hop : op < 4) (hf : f < own_ct N) (hg : g < own_ct N) (hnv : 3 ≤ nv ∧ nv < 2 ^ 20) (hb : own_b N ≤ 24) (OL : Old Z n0 h) : o_C l Z n0 oy22 prog_26_method_9_code 15 (some .int) (orm22 c j) [(.ref o), (.int (Int32.ofNat op)), (.int (Int32.ofNat f)), (.int (Int32.ofNat g))] h (own_Pc Z n0 h o A nv c j op f g N) := by
  refine o_body (Ls := [.val (.ref o), .val (.int (Int32.ofNat op)), .val (.int (Int32.ofNat f)), .val (.int (Int32.ofNat g)), .unset, .unset, .unset, .unset, .unset, .unset, .unset, .unset, .unset, .unset, .unset]) pn22 (by first | (simp [argsToLocals, Value.category]; done) | rfl) (fun κ B => ?_)
  have c32 := C.ct
  obtain ⟨L8, L9, L10, L11⟩ := C.2.2.1
  have g0 : ∀ x ∈ own_ws o A, n0 ≤ x := own_ws_ge C.1.go C.1.ge
  have BN := C.2.1.1
  have D := C.1
  refine o_iloadN (pc := 0) B d22_0 rfl ?_
  refine o_iloadN (pc := 1) B d22_1 rfl ?_
  refine o_iloadN (pc := 2) B d22_2 rfl ?_
  refine o_callS3 (pc := 3) B 0 d22_3 (hw _ (List.mem_of_getElem? (i := 155) rfl)) (hw _ (List.mem_of_getElem? (i := 156) rfl)) (hw _ (List.mem_of_getElem? (i := 2) rfl)) (hw _ (List.mem_of_getElem? (i := 157) rfl)) (by decide) pd23 rfl (by first | exact Nat.zero_le _ | exact Nat.le_of_ble_eq_true rfl | simp [Value.category]) (by first | decide | exact Nat.le_of_ble_eq_true rfl) (by first | decide | exact Nat.le_of_ble_eq_true rfl) (by first | exact hk | exact hn | exact C6.room.1 | exact C6.room.2 | exact C7.hk | exact C7.hn | exact Nat.zero_le _ | exact C'.hk | exact C'.hn) (by first | exact hk | exact hn | exact C6.room.1 | exact C6.room.2 | exact C7.hk | exact C7.hn | exact Nat.zero_le _ | exact C'.hk | exact C'.hn) rfl (oc23 l Z a0 hw n0 _ b arr op f g N hop SC OL BN hf hg (by omega)) ?_
  rintro _ h _ _ ⟨⟨x, rfl, sr, un⟩, rfl, rfl, rfl⟩ - -
  refine o_istore_15_4 (pc := 6) B d22_6 rfl ?_
  refine o_iload (pc := 8) B d22_8 rfl ?_
  refine o_ldc (pc := 10) B (x := (-2147483648 : Int32)) d22_10 (hw _ (List.mem_of_getElem? (i := 50) rfl)) ?_
  refine o_icmp_eq (pc := 12) (pc' := 18) B d22_12 (by decide) (by decide) (fun hc12 => ?_) (fun hc12 => ?_)
  rotate_left
  · obtain ⟨r, rfl, r1, r2, r3⟩ := sr.resolve_left hc12
    refine o_iload (pc := 15) B d22_15 rfl ?_
    exact o_ireturn (pc := 17) B d22_17 (by first | exact hk | exact hn | exact C6.room.1 | exact C6.room.2 | exact C7.hk | exact C7.hn | exact Nat.zero_le _ | exact C'.hk | exact C'.hn) (by first | exact hk | exact hn | exact C6.room.1 | exact C6.room.2 | exact C7.hk | exact C7.hn | exact Nat.zero_le _ | exact C'.hk | exact C'.hn) (⟨r, N, A, X, c, j, rfl, C, own_Ext.refl N, r1, r2, by omega⟩)
  refine o_iconst (pc := 18) B (0 : Int32) d22_18 (by decide) ?_
  refine o_istore_15_5 (pc := 19) B d22_19 rfl ?_
  refine o_iconst (pc := 21) B (0 : Int32) d22_21 (by decide) ?_
  refine o_istore_15_6 (pc := 22) B d22_22 rfl ?_
  refine o_aloadN (pc := 24) B d22_24 rfl rfl ?_
  refine o_getF (pc := 25) B d22_25 (hw _ (List.mem_of_getElem? (i := 63) rfl)) (D.f8) ?_
  refine o_iconst (pc := 28) B (0 : Int32) d22_28 (by decide) ?_
  refine o_iloadN (pc := 29) B d22_29 rfl ?_
  refine o_iastore (pc := 30) B (0) d22_30 (D.Ar 8) (rfl) (own_mltI (by omega)) (D.ge 8) ?_
  intro h1 W1
  have C1 := C.wr 8 (by decide) W1
  have D1 := C1.1
  refine o_aloadN (pc := 31) B d22_31 rfl rfl ?_
  refine o_getF (pc := 32) B d22_32 (hw _ (List.mem_of_getElem? (i := 65) rfl)) (D1.f9) ?_
  refine o_iconst (pc := 35) B (0 : Int32) d22_35 (by decide) ?_
  refine o_iloadN (pc := 36) B d22_36 rfl ?_
  refine o_iastore (pc := 37) B (0) d22_37 (D1.Ar 9) (rfl) (own_mltI (by rw [own_upF_len]; omega)) (D1.ge 9) ?_
  intro h2 W2
  have C2 := C1.wr 9 (by decide) W2
  have D2 := C2.1
  refine o_aloadN (pc := 38) B d22_38 rfl rfl ?_
  refine o_getF (pc := 39) B d22_39 (hw _ (List.mem_of_getElem? (i := 67) rfl)) (D2.f10) ?_
  refine o_iconst (pc := 42) B (0 : Int32) d22_42 (by decide) ?_
  refine o_iconst (pc := 43) B (0 : Int32) d22_43 (by decide) ?_
  refine o_iastore (pc := 44) B (0) d22_44 (D2.Ar 10) (rfl) (own_mltI (by rw [own_upF_len, own_upF_len]; omega)) (D2.ge 10) ?_
  intro h3 W3
  have C3 := C2.wr 10 (by decide) W3
  refine o_iinc_15_5 (pc := 45) B (1 : Int32) (1 : Int32) d22_45 (by decide) (by decide) ?_
  refine own_cm l Z a0 hw n0 b arr SC h c j κ B _ o A nv op _ _ _ hop OL g0 (by omega) 3 (by decide) N A _ h3 c j _ _ 0 0 f g _ _ _ _ _ _ _ _ ⟨rfl, rfl, rfl, rfl, rfl, rfl, rfl, rfl⟩ C3 hf hg (own_B.lv3 BN hf) (own_B.lv3 BN hg) ?_ ?_ ?_ (by omega) (by omega) (by rw [own_cnt3]; omega) ?_
  · rw [own_upF_ne _ _ (by decide), own_upF_ne _ _ (by decide), own_upF_set_eq (by omega)]
  · rw [own_upF_ne _ _ (by decide), own_upF_set_eq (by rw [own_upF_len]; omega)]
  · rw [own_upF_set_eq (by rw [own_upF_len, own_upF_len]; omega)]
  intro N' A' X' h' c' j' k' n' r t7 t8 t9 t10 t11 t12 t13 t14 ok C' E' q1 q2 q3 q4 F' q5
  refine o_iload (pc := 48) B d22_48 rfl ?_
  refine o_if_le (pc := 50) (pc' := 432) B d22_50 (by decide) (by decide) (fun hc50 => ?_) (fun hc50 => False.elim ((by revert hc50; decide)))
  refine o_aloadN (pc := 432) B d22_432 rfl rfl ?_
  refine o_getF (pc := 433) B d22_433 (hw _ (List.mem_of_getElem? (i := 69) rfl)) (C'.1.f11) ?_
  refine o_iconst (pc := 436) B (0 : Int32) d22_436 (by decide) ?_
  refine o_iaload (pc := 437) B (0) d22_437 (C'.1.Ar 11) (rfl) (own_mapI q5) ?_
  exact o_ireturn (pc := 438) B d22_438 (by first | exact hk | exact hn | exact C6.room.1 | exact C6.room.2 | exact C7.hk | exact C7.hn | exact Nat.zero_le _ | exact C'.hk | exact C'.hn) (by first | exact hk | exact hn | exact C6.room.1 | exact C6.room.2 | exact C7.hk | exact C7.hn | exact Nat.zero_le _ | exact C'.hk | exact C'.hn) (⟨r, N', A', X', c', j', rfl, C', E', q1, q2, q4⟩)
-- CUT
abbrev orm19 : Room := { frames := 0, cells := 0, slots := 0, locals := 0 }
abbrev orm26 : Room := { frames := 0, cells := 0, slots := 0, locals := 0 }
abbrev orm33 : Room := { frames := 0, cells := 0, slots := 0, locals := 0 }
abbrev orm20 (c j : Nat) : Room := { frames := 5, cells := 3 * (5 - c) + 7 * (6 - j), slots := 3 * (64 - 2 * 2 ^ c) + 7 * (128 - 2 * 2 ^ j), locals := 99 }
abbrev orm18 (c j : Nat) : Room := { frames := 6, cells := 3 * (5 - c) + 7 * (6 - j), slots := 3 * (64 - 2 * 2 ^ c) + 7 * (128 - 2 * 2 ^ j), locals := 116 }
set_option maxRecDepth 65536 in
set_option maxHeartbeats 40000000 in
theorem oc20 (l : Launch) (Z : State) (a0 : Array Value) (hw : ∀ d ∈ tables_1, d.before a0 Z = true) (n0 : Nat) (h : Heap) (b : Nat → Addr) (arr : Addr) (SC : own_SC Z b arr) (o : Addr) (A : Fin 12 → Addr) (X : Fin 12 → List Int32) (nv c j op f g : Nat) (N : own_Nd) (C : own_CI Z n0 h o A nv c j h A X N c j 0 0) (hop : op < 4) (hf : f < own_ct N) (hg : g < own_ct N) (hnv : 3 ≤ nv ∧ nv < 2 ^ 20) (hb : own_b N ≤ 24) (OL : Old Z n0 h) : o_C l Z n0 oy20 prog_26_method_6_code 4 (some .int) (orm20 c j) [(.ref o), (.ref (b op)), (.int (Int32.ofNat f)), (.int (Int32.ofNat g))] h (own_Pc Z n0 h o A nv c j op f g N) := by
  refine o_body (Ls := [.val (.ref o), .val (.ref (b op)), .val (.int (Int32.ofNat f)), .val (.int (Int32.ofNat g))]) pn20 (by first | (simp [argsToLocals, Value.category]; done) | rfl) (fun κ B => ?_)
  refine o_aloadN (pc := 0) B d20_0 rfl rfl ?_
  refine o_aloadN (pc := 1) B d20_1 rfl rfl ?_
  refine o_callU0 (pc := 2) B 1 d20_2 (hw _ (List.mem_of_getElem? (i := 142) rfl)) (hw _ (List.mem_of_getElem? (i := 143) rfl)) (hw _ (List.mem_of_getElem? (i := 144) rfl)) (hw _ (List.mem_of_getElem? (i := 146) rfl)) (hw _ (List.mem_of_getElem? (i := 145) rfl)) (hw _ (List.mem_of_getElem? (i := 147) rfl)) (hw _ (List.mem_of_getElem? (i := 148) rfl)) (by decide) pd21 rfl (by first | exact Nat.zero_le _ | exact Nat.le_of_ble_eq_true rfl | simp [Value.category]) (by first | decide | exact Nat.le_of_ble_eq_true rfl) (by first | decide | exact Nat.le_of_ble_eq_true rfl) (by first | decide | (dsimp only [orm20, orm21, orm22] at *; omega)) (by first | decide | (dsimp only [orm20, orm21, orm22] at *; omega)) rfl ((SC.1 op hop).1.ext OL.2) (oc21 l Z a0 hw n0 _ (b op) _ ((SC.1 op hop).2.ext OL.2)) ?_
  rintro _ h _ _ ⟨rfl, rfl, rfl, rfl⟩ - -
  refine o_iloadN (pc := 5) B d20_5 rfl ?_
  refine o_iloadN (pc := 6) B d20_6 rfl ?_
  refine o_callP3 (pc := 7) B 0 d20_7 (hw _ (List.mem_of_getElem? (i := 151) rfl)) (hw _ (List.mem_of_getElem? (i := 152) rfl)) (hw _ (List.mem_of_getElem? (i := 153) rfl)) (hw _ (List.mem_of_getElem? (i := 1) rfl)) (hw _ (List.mem_of_getElem? (i := 2) rfl)) (hw _ (List.mem_of_getElem? (i := 154) rfl)) (by decide) pd22 rfl (by first | exact Nat.zero_le _ | exact Nat.le_of_ble_eq_true rfl | simp [Value.category]) (by first | decide | exact Nat.le_of_ble_eq_true rfl) (by first | decide | exact Nat.le_of_ble_eq_true rfl) (by first | decide | (dsimp only [orm20, orm21, orm22] at *; omega)) (by first | decide | (dsimp only [orm20, orm21, orm22] at *; omega)) rfl (C.1.E) (oc22 l Z a0 hw n0 _ b arr SC o A X nv c j op f g N C hop hf hg hnv hb OL) ?_
  rintro v_ h' kc nc ⟨r, N', A', X', c', j', rfl, q⟩ hkc hnc
  simp only [Nat.zero_add]
  exact o_ireturn (pc := 10) B d20_10 (by first | decide | (dsimp only [orm20, orm21, orm22] at *; omega)) (by first | decide | (dsimp only [orm20, orm21, orm22] at *; omega)) (⟨r, N', A', X', c', j', rfl, q⟩)
set_option maxRecDepth 65536 in
set_option maxHeartbeats 40000000 in
theorem oc19 (l : Launch) (Z : State) (a0 : Array Value) (hw : ∀ d ∈ tables_1, d.before a0 Z = true) (n0 : Nat) (h : Heap) (b : Nat → Addr) (arr : Addr) (SC : own_SC Z b arr) (c : Nat) (hc : c < 4) (OL : Old Z n0 h) : o_C l Z n0 oy19 method_4_code 1 (some (.object "com/example/perdure/perdure/model/Connective")) orm19 [(.int (Int32.ofNat c))] h (fun v h' kc nc => v = some (.ref (b c)) ∧ h' = h ∧ kc = 0 ∧ nc = 0) := by
  refine o_body (Ls := [.val (.int (Int32.ofNat c))]) pn19 (by first | (simp [argsToLocals, Value.category]; done) | rfl) (fun κ B => ?_)
  have q : c = 0 ∨ c = 1 ∨ c = 2 ∨ c = 3 := by omega
  rcases q with rfl | rfl | rfl | rfl
  · refine o_iloadN (pc := 0) B d19_0 rfl ?_
    refine o_if_ne (pc := 1) (pc' := 8) B d19_1 (by decide) (by decide) (fun hc1 => False.elim (by revert hc1; decide)) (fun hc1 => ?_)
    refine o_getS (pc := 4) B d19_4 (hw _ (List.mem_of_getElem? (i := 175) rfl)) (SC.2.1.ext OL.2) ?_
    exact o_areturn (pc := 7) B rfl rfl rfl d19_7 (by decide) (by decide) (⟨rfl, rfl, rfl, rfl⟩)
  · refine o_iloadN (pc := 0) B d19_0 rfl ?_
    refine o_if_ne (pc := 1) (pc' := 8) B d19_1 (by decide) (by decide) (fun hc1 => ?_) (fun hc1 => False.elim (by revert hc1; decide))
    refine o_iloadN (pc := 8) B d19_8 rfl ?_
    refine o_iconst (pc := 9) B (1 : Int32) d19_9 (by decide) ?_
    refine o_icmp_ne (pc := 10) (pc' := 17) B d19_10 (by decide) (by decide) (fun hc10 => False.elim (by revert hc10; decide)) (fun hc10 => ?_)
    refine o_getS (pc := 13) B d19_13 (hw _ (List.mem_of_getElem? (i := 206) rfl)) (SC.2.2.1.ext OL.2) ?_
    exact o_areturn (pc := 16) B rfl rfl rfl d19_16 (by decide) (by decide) (⟨rfl, rfl, rfl, rfl⟩)
  · refine o_iloadN (pc := 0) B d19_0 rfl ?_
    refine o_if_ne (pc := 1) (pc' := 8) B d19_1 (by decide) (by decide) (fun hc1 => ?_) (fun hc1 => False.elim (by revert hc1; decide))
    refine o_iloadN (pc := 8) B d19_8 rfl ?_
    refine o_iconst (pc := 9) B (1 : Int32) d19_9 (by decide) ?_
    refine o_icmp_ne (pc := 10) (pc' := 17) B d19_10 (by decide) (by decide) (fun hc10 => ?_) (fun hc10 => False.elim (by revert hc10; decide))
    refine o_iloadN (pc := 17) B d19_17 rfl ?_
    refine o_iconst (pc := 18) B (2 : Int32) d19_18 (by decide) ?_
    refine o_icmp_ne (pc := 19) (pc' := 26) B d19_19 (by decide) (by decide) (fun hc19 => False.elim (by revert hc19; decide)) (fun hc19 => ?_)
    refine o_getS (pc := 22) B d19_22 (hw _ (List.mem_of_getElem? (i := 180) rfl)) (SC.2.2.2.1.ext OL.2) ?_
    exact o_areturn (pc := 25) B rfl rfl rfl d19_25 (by decide) (by decide) (⟨rfl, rfl, rfl, rfl⟩)
  · refine o_iloadN (pc := 0) B d19_0 rfl ?_
    refine o_if_ne (pc := 1) (pc' := 8) B d19_1 (by decide) (by decide) (fun hc1 => ?_) (fun hc1 => False.elim (by revert hc1; decide))
    refine o_iloadN (pc := 8) B d19_8 rfl ?_
    refine o_iconst (pc := 9) B (1 : Int32) d19_9 (by decide) ?_
    refine o_icmp_ne (pc := 10) (pc' := 17) B d19_10 (by decide) (by decide) (fun hc10 => ?_) (fun hc10 => False.elim (by revert hc10; decide))
    refine o_iloadN (pc := 17) B d19_17 rfl ?_
    refine o_iconst (pc := 18) B (2 : Int32) d19_18 (by decide) ?_
    refine o_icmp_ne (pc := 19) (pc' := 26) B d19_19 (by decide) (by decide) (fun hc19 => ?_) (fun hc19 => False.elim (by revert hc19; decide))
    refine o_getS (pc := 26) B d19_26 (hw _ (List.mem_of_getElem? (i := 134) rfl)) (SC.2.2.2.2.1.ext OL.2) ?_
    exact o_areturn (pc := 29) B rfl rfl rfl d19_29 (by decide) (by decide) (⟨rfl, rfl, rfl, rfl⟩)
set_option maxRecDepth 65536 in
set_option maxHeartbeats 40000000 in
theorem oc26 (l : Launch) (Z : State) (a0 : Array Value) (hw : ∀ d ∈ tables_1, d.before a0 Z = true) (n0 : Nat) (h : Heap) (c : Nat) (hc : c < 4) (x y : Int32) : o_C l Z n0 oy26 method_5_code 3 (some .int) orm26 [(.int (Int32.ofNat c)), (.int x), (.int y)] h (fun v h' kc nc => v = some (.int (own_tab c x y)) ∧ h' = h ∧ kc = 0 ∧ nc = 0) := by
  refine o_body (Ls := [.val (.int (Int32.ofNat c)), .val (.int x), .val (.int y)]) pn26 (by first | (simp [argsToLocals, Value.category]; done) | rfl) (fun κ B => ?_)
  have q : c = 0 ∨ c = 1 ∨ c = 2 ∨ c = 3 := by omega
  rcases q with rfl | rfl | rfl | rfl
  · refine o_iloadN (pc := 0) B d26_0 rfl ?_
    refine o_if_ne (pc := 1) (pc' := 8) B d26_1 (by decide) (by decide) (fun hc1 => False.elim (by revert hc1; decide)) (fun hc1 => ?_)
    refine o_iloadN (pc := 4) B d26_4 rfl ?_
    refine o_iloadN (pc := 5) B d26_5 rfl ?_
    refine o_iand (pc := 6) B d26_6 ?_
    exact o_ireturn (pc := 7) B d26_7 (by decide) (by decide) (⟨rfl, rfl, rfl, rfl⟩)
  · refine o_iloadN (pc := 0) B d26_0 rfl ?_
    refine o_if_ne (pc := 1) (pc' := 8) B d26_1 (by decide) (by decide) (fun hc1 => ?_) (fun hc1 => False.elim (by revert hc1; decide))
    refine o_iloadN (pc := 8) B d26_8 rfl ?_
    refine o_iconst (pc := 9) B (1 : Int32) d26_9 (by decide) ?_
    refine o_icmp_ne (pc := 10) (pc' := 17) B d26_10 (by decide) (by decide) (fun hc10 => False.elim (by revert hc10; decide)) (fun hc10 => ?_)
    refine o_iloadN (pc := 13) B d26_13 rfl ?_
    refine o_iloadN (pc := 14) B d26_14 rfl ?_
    refine o_ior (pc := 15) B d26_15 ?_
    exact o_ireturn (pc := 16) B d26_16 (by decide) (by decide) (⟨rfl, rfl, rfl, rfl⟩)
  · refine o_iloadN (pc := 0) B d26_0 rfl ?_
    refine o_if_ne (pc := 1) (pc' := 8) B d26_1 (by decide) (by decide) (fun hc1 => ?_) (fun hc1 => False.elim (by revert hc1; decide))
    refine o_iloadN (pc := 8) B d26_8 rfl ?_
    refine o_iconst (pc := 9) B (1 : Int32) d26_9 (by decide) ?_
    refine o_icmp_ne (pc := 10) (pc' := 17) B d26_10 (by decide) (by decide) (fun hc10 => ?_) (fun hc10 => False.elim (by revert hc10; decide))
    refine o_iloadN (pc := 17) B d26_17 rfl ?_
    refine o_iconst (pc := 18) B (2 : Int32) d26_18 (by decide) ?_
    refine o_icmp_ne (pc := 19) (pc' := 32) B d26_19 (by decide) (by decide) (fun hc19 => False.elim (by revert hc19; decide)) (fun hc19 => ?_)
    refine o_iloadN (pc := 22) B d26_22 rfl ?_
    refine o_iconst (pc := 23) B (-1 : Int32) d26_23 (by decide) ?_
    refine o_ixor (pc := 24) B d26_24 ?_
    refine o_iloadN (pc := 25) B d26_25 rfl ?_
    refine o_ior (pc := 26) B d26_26 ?_
    refine o_sipush (pc := 27) B (255 : Int32) d26_27 (by decide) ?_
    refine o_iand (pc := 30) B d26_30 ?_
    exact o_ireturn (pc := 31) B d26_31 (by decide) (by decide) (⟨rfl, rfl, rfl, rfl⟩)
  · refine o_iloadN (pc := 0) B d26_0 rfl ?_
    refine o_if_ne (pc := 1) (pc' := 8) B d26_1 (by decide) (by decide) (fun hc1 => ?_) (fun hc1 => False.elim (by revert hc1; decide))
    refine o_iloadN (pc := 8) B d26_8 rfl ?_
    refine o_iconst (pc := 9) B (1 : Int32) d26_9 (by decide) ?_
    refine o_icmp_ne (pc := 10) (pc' := 17) B d26_10 (by decide) (by decide) (fun hc10 => ?_) (fun hc10 => False.elim (by revert hc10; decide))
    refine o_iloadN (pc := 17) B d26_17 rfl ?_
    refine o_iconst (pc := 18) B (2 : Int32) d26_18 (by decide) ?_
    refine o_icmp_ne (pc := 19) (pc' := 32) B d26_19 (by decide) (by decide) (fun hc19 => ?_) (fun hc19 => False.elim (by revert hc19; decide))
    refine o_iloadN (pc := 32) B d26_32 rfl ?_
    refine o_iloadN (pc := 33) B d26_33 rfl ?_
    refine o_ixor (pc := 34) B d26_34 ?_
    refine o_iconst (pc := 35) B (-1 : Int32) d26_35 (by decide) ?_
    refine o_ixor (pc := 36) B d26_36 ?_
    refine o_sipush (pc := 37) B (255 : Int32) d26_37 (by decide) ?_
    refine o_iand (pc := 40) B d26_40 ?_
    exact o_ireturn (pc := 41) B d26_41 (by decide) (by decide) (⟨rfl, rfl, rfl, rfl⟩)
theorem own_CI.self {Z : State} {n0 : Nat} {h0 h : Heap} {o : Addr} {A0 A : Fin 12 → Addr} {X : Fin 12 → List Int32} {nv c0 j0 c j k n : Nat} {N : own_Nd} (C : own_CI Z n0 h0 o A0 nv c0 j0 h A X N c j k n) : own_CI Z n0 h o A nv c j h A X N c j 0 0 := ⟨C.1, C.2.1, C.2.2.1, Keep.refl _ _, fun _ => Or.inl rfl, ⟨Nat.le_refl _, Nat.le_refl _⟩, by omega, by omega⟩
theorem own_CI.oth {Z : State} {n0 : Nat} {h h' : Heap} {o a : Addr} {A : Fin 12 → Addr} {X : Fin 12 → List Int32} {nv c j p : Nat} {v : Value} {N : own_Nd} (C : own_CI Z n0 h o A nv c j h A X N c j 0 0) (na : a ∉ own_ws o A) (W : Wr h h' a p v) : own_CI Z n0 h' o A nv c j h' A X N c j 0 0 :=
  ⟨C.1.other W (fun e => na (by rw [e]; exact List.mem_cons_self ..)) (fun i e => na (by rw [e]; exact own_ws_A o A i)), C.2.1, C.2.2.1, Keep.refl _ _, fun _ => Or.inl rfl, ⟨Nat.le_refl _, Nat.le_refl _⟩, by omega, by omega⟩
theorem own_ws_fresh {h : Heap} {o a : Addr} {A A' : Fin 12 → Addr} (na : a ∉ own_ws o A) (lt : a < h.size) (FR : ∀ i, A' i = A i ∨ h.size ≤ A' i) : a ∉ own_ws o A' := by
  intro hx
  rcases List.mem_cons.mp hx with rfl | hx
  · exact na (List.mem_cons_self ..)
  · obtain ⟨i, rfl⟩ := List.mem_ofFn.mp hx
    rcases FR i with e | e
    · exact na (by rw [e]; exact own_ws_A o A i)
    · exact Nat.lt_irrefl _ (Nat.lt_of_lt_of_le (o_lt lt) (o_le e))
/-- the sets and their masks, k of them -/
def own_SM (N : own_Nd) (S T : List Int32) (k : Nat) : Prop := S.length = 10 ∧ T.length = 10 ∧ ∀ i : Nat, i < k → ∃ q : Nat, S[i]? = some (Int32.ofNat q) ∧ q < own_ct N ∧ T[i]? = some (own_mi (own_M N q))
theorem own_SM.add {N N' : own_Nd} {S T : List Int32} {k r : Nat} {m : Int32} (H : own_SM N S T k) (E : own_Ext N N') (hk : k < 10) (hr : r < own_ct N') (hm : m = own_mi (own_M N' r)) : own_SM N' (S.set k (Int32.ofNat r)) (T.set k m) (k + 1) := by
  obtain ⟨a, b, c⟩ := H
  refine ⟨by rw [List.length_set]; exact a, by rw [List.length_set]; exact b, fun i hi => ?_⟩
  by_cases e : k = i
  · subst e
    exact ⟨r, List.getElem?_set_self (by omega), hr, by rw [List.getElem?_set_self (by omega), hm]⟩
  · obtain ⟨q, q1, q2, q3⟩ := c i (by omega)
    exact ⟨q, by rw [List.getElem?_set_ne e]; exact q1, Nat.lt_of_lt_of_le q2 E.1, by rw [List.getElem?_set_ne e, (E.2 q q2).2.2.2]; exact q3⟩
/-- what step() leaves -/
def own_Ps (Z : State) (n0 : Nat) (o : Addr) (ss ms : Addr) (nv c j q : Nat) (N : own_Nd) (v_ : Option Value) (h' : Heap) (kc nc : Nat) : Prop :=
  v_ = none ∧ ∃ N' A' X' c' j' S' T', own_CI Z n0 h' o A' nv c' j' h' A' X' N' c' j' 0 0 ∧ Old Z n0 h' ∧ own_SM N' S' T' (q + 1) ∧ o_IA Z h' ss S' ∧ o_IA Z h' ms T' ∧ ss ∉ own_ws o A' ∧ ms ∉ own_ws o A' ∧ own_b N' ≤ own_b N + 3 ∧ (c ≤ c' ∧ j ≤ j') ∧ kc = 3 * (c' - c) + 7 * (j' - j) ∧ nc = 3 * (2 * 2 ^ c' - 2 * 2 ^ c) + 7 * (2 * 2 ^ j' - 2 * 2 ^ j)
set_option maxRecDepth 65536 in
set_option maxHeartbeats 40000000 in
theorem oc18 (l : Launch) (Z : State) (a0 : Array Value) (hw : ∀ d ∈ tables_1, d.before a0 Z = true) (n0 : Nat) (h : Heap) (b : Nat → Addr) (arr : Addr) (SC : own_SC Z b arr) (o : Addr) (A : Fin 12 → Addr) (X : Fin 12 → List Int32) (nv c j q : Nat) (N : own_Nd) (ss ms : Addr) (S T : List Int32) (code : Int32) (C : own_CI Z n0 h o A nv c j h A X N c j 0 0) (OL : Old Z n0 h) (hq : 5 ≤ q ∧ q ≤ 9) (SM : own_SM N S T q) (AS : o_IA Z h ss S) (AM : o_IA Z h ms T) (gs : n0 ≤ ss) (gm : n0 ≤ ms) (ne : ss ≠ ms) (ns : ss ∉ own_ws o A) (nm : ms ∉ own_ws o A) (hb : own_b N ≤ 24) (hnv : 3 ≤ nv ∧ nv < 2 ^ 20) : o_C l Z n0 oy18 method_3_code 8 none (orm18 c j) [(.ref o), (.ref ss), (.ref ms), (.int (Int32.ofNat q)), (.int code)] h (own_Ps Z n0 o ss ms nv c j q N) := by
  refine o_body (Ls := [.val (.ref o), .val (.ref ss), .val (.ref ms), .val (.int (Int32.ofNat q)), .val (.int code), .unset, .unset, .unset]) pn18 (by first | (simp [argsToLocals, Value.category]; done) | rfl) (fun κ B => ?_)
  obtain ⟨cc, hcc, e3⟩ : ∃ cc : Nat, cc < 4 ∧ code &&& 3 = Int32.ofNat cc := ⟨_, Nat.mod_lt _ (by decide), own_and code (j := 2) (by decide)⟩
  obtain ⟨u1, hu1, e1⟩ : ∃ u : Nat, u < 16 ∧ XT.ushr code 2 &&& 15 = Int32.ofNat u := ⟨_, Nat.mod_lt _ (by decide), own_and (XT.ushr code 2) (j := 4) (by decide)⟩
  obtain ⟨u2, hu2, e2⟩ : ∃ u : Nat, u < 16 ∧ XT.ushr code 6 &&& 15 = Int32.ofNat u := ⟨_, Nat.mod_lt _ (by decide), own_and (XT.ushr code 6) (j := 4) (by decide)⟩
  have lt1 : u1 % q < q := Nat.mod_lt _ (by omega)
  have lt2 : u2 % q < q := Nat.mod_lt _ (by omega)
  obtain ⟨f, f1, f2, f3⟩ := SM.2.2 _ lt1
  obtain ⟨g, g1, g2, g3⟩ := SM.2.2 _ lt2
  have sS := SM.1
  have sT := SM.2.1
  refine o_iload (pc := 0) B d18_0 rfl ?_
  refine o_iconst (pc := 2) B (3 : Int32) d18_2 (by decide) ?_
  refine o_iand (pc := 3) B d18_3 ?_
  rw [e3]
  refine o_istore_8_5 (pc := 4) B d18_4 rfl ?_
  refine o_iload (pc := 6) B d18_6 rfl ?_
  refine o_iconst (pc := 8) B (2 : Int32) d18_8 (by decide) ?_
  refine o_iushr (pc := 9) B d18_9 ?_
  refine o_bipush (pc := 10) B (15 : Int32) d18_10 (by decide) ?_
  refine o_iand (pc := 12) B d18_12 ?_
  rw [e1]
  refine o_iloadN (pc := 13) B d18_13 rfl ?_
  refine o_irem (pc := 14) B d18_14 (own_ne0 (by omega) (by omega)) ?_
  rw [own_rem (by omega) (by omega)]
  refine o_istore_8_6 (pc := 15) B d18_15 rfl ?_
  refine o_iload (pc := 17) B d18_17 rfl ?_
  refine o_bipush (pc := 19) B (6 : Int32) d18_19 (by decide) ?_
  refine o_iushr (pc := 21) B d18_21 ?_
  refine o_bipush (pc := 22) B (15 : Int32) d18_22 (by decide) ?_
  refine o_iand (pc := 24) B d18_24 ?_
  rw [e2]
  refine o_iloadN (pc := 25) B d18_25 rfl ?_
  refine o_irem (pc := 26) B d18_26 (own_ne0 (by omega) (by omega)) ?_
  rw [own_rem (by omega) (by omega)]
  refine o_istore_8_7 (pc := 27) B d18_27 rfl ?_
  refine o_aloadN (pc := 29) B d18_29 rfl rfl ?_
  refine o_iloadN (pc := 30) B d18_30 rfl ?_
  refine o_aloadN (pc := 31) B d18_31 rfl rfl ?_
  refine o_iload (pc := 32) B d18_32 rfl ?_
  refine o_callS1 (pc := 34) B 3 d18_34 (hw _ (List.mem_of_getElem? (i := 131) rfl)) (hw _ (List.mem_of_getElem? (i := 132) rfl)) (hw _ (List.mem_of_getElem? (i := 129) rfl)) (hw _ (List.mem_of_getElem? (i := 133) rfl)) (by decide) pd19 rfl (by first | exact Nat.zero_le _ | exact Nat.le_of_ble_eq_true rfl | simp [Value.category]) (by first | decide | exact Nat.le_of_ble_eq_true rfl) (by first | decide | exact Nat.le_of_ble_eq_true rfl) (by first | decide | (dsimp only [orm18, orm19, orm20, orm26] at *; omega)) (by first | decide | (dsimp only [orm18, orm19, orm20, orm26] at *; omega)) rfl (oc19 l Z a0 hw n0 _ b arr SC cc hcc OL) ?_
  rintro _ h _ _ ⟨rfl, rfl, rfl, rfl⟩ - -
  refine o_aloadN (pc := 37) B d18_37 rfl rfl ?_
  refine o_iload (pc := 38) B d18_38 rfl ?_
  refine o_iaload (pc := 40) B (u1 % q) d18_40 (AS) (rfl) (own_mapI f1) ?_
  refine o_aloadN (pc := 41) B d18_41 rfl rfl ?_
  refine o_iload (pc := 42) B d18_42 rfl ?_
  refine o_iaload (pc := 44) B (u2 % q) d18_44 (AS) (rfl) (own_mapI g1) ?_
  refine o_callV3 (pc := 45) B 2 d18_45 (hw _ (List.mem_of_getElem? (i := 137) rfl)) (hw _ (List.mem_of_getElem? (i := 138) rfl)) (hw _ (List.mem_of_getElem? (i := 140) rfl)) (hw _ (List.mem_of_getElem? (i := 139) rfl)) (hw _ (List.mem_of_getElem? (i := 2) rfl)) (hw _ (List.mem_of_getElem? (i := 141) rfl)) (by decide) pd20 rfl (by first | exact Nat.zero_le _ | exact Nat.le_of_ble_eq_true rfl | simp [Value.category]) (by first | decide | exact Nat.le_of_ble_eq_true rfl) (by first | decide | exact Nat.le_of_ble_eq_true rfl) (by first | decide | (dsimp only [orm18, orm19, orm20, orm26] at *; omega)) (by first | decide | (dsimp only [orm18, orm19, orm20, orm26] at *; omega)) rfl (C.1.E) (oc20 l Z a0 hw n0 _ b arr SC o A X nv c j cc f g N C hcc f2 g2 hnv hb OL) ?_
  rintro v_ h1 kc nc ⟨r, N', A', X', c', j', rfl, C', E', q1, q2, q3⟩ hkc hnc
  have K' := C'.2.2.2.1
  have FR := C'.2.2.2.2.1
  have ns' := own_ws_fresh ns AS.lt FR
  have nm' := own_ws_fresh nm AM.lt FR
  have AS1 := AS.keep K' ns
  have AM1 := AM.keep K' nm
  have OL1 := C'.old OL (own_ws_ge C.1.go C.1.ge)
  have CS1 := C'.self
  refine o_iastore (pc := 48) B (q) d18_48 (AS1) (rfl) (own_mltI (by omega)) (gs) ?_
  intro h2 W2
  have AS2 := o_IA.same AS1 W2
  have AM2 := o_AR.other AM1 W2 (Ne.symm ne)
  have CS2 := CS1.oth ns' W2
  have OL2 := OL1.wr W2 gs
  refine o_aloadN (pc := 49) B d18_49 rfl rfl ?_
  refine o_iloadN (pc := 50) B d18_50 rfl ?_
  refine o_iload (pc := 51) B d18_51 rfl ?_
  refine o_aloadN (pc := 53) B d18_53 rfl rfl ?_
  refine o_iload (pc := 54) B d18_54 rfl ?_
  refine o_iaload (pc := 56) B (u1 % q) d18_56 (AM2) (rfl) (own_mapI f3) ?_
  refine o_aloadN (pc := 57) B d18_57 rfl rfl ?_
  refine o_iload (pc := 58) B d18_58 rfl ?_
  refine o_iaload (pc := 60) B (u2 % q) d18_60 (AM2) (rfl) (own_mapI g3) ?_
  refine o_callS3 (pc := 61) B 2 d18_61 (hw _ (List.mem_of_getElem? (i := 172) rfl)) (hw _ (List.mem_of_getElem? (i := 173) rfl)) (hw _ (List.mem_of_getElem? (i := 129) rfl)) (hw _ (List.mem_of_getElem? (i := 174) rfl)) (by decide) pd26 rfl (by first | exact Nat.zero_le _ | exact Nat.le_of_ble_eq_true rfl | simp [Value.category]) (by first | decide | exact Nat.le_of_ble_eq_true rfl) (by first | decide | exact Nat.le_of_ble_eq_true rfl) (by first | decide | (dsimp only [orm18, orm19, orm20, orm26] at *; omega)) (by first | decide | (dsimp only [orm18, orm19, orm20, orm26] at *; omega)) rfl (oc26 l Z a0 hw n0 _ cc hcc _ _) ?_
  rintro _ h2 _ _ ⟨rfl, rfl, rfl, rfl⟩ - -
  refine o_iastore (pc := 64) B (q) d18_64 (AM2) (rfl) (own_mltI (by omega)) (gm) ?_
  intro h3 W3
  have ek := C'.2.2.2.2.2.2.1
  have en := C'.2.2.2.2.2.2.2
  exact o_return (pc := 65) B d18_65 (by first | decide | (dsimp only [orm18, orm19, orm20, orm26] at *; omega)) (by first | decide | (dsimp only [orm18, orm19, orm20, orm26] at *; omega)) (⟨rfl, N', A', X', c', j', _, _, CS2.oth nm' W3, OL2.wr W3 gm, SM.add E' (by omega) q1 (by rw [own_tab_eq, q2]), o_AR.other AS2 W3 ne, o_IA.same AM2 W3, ns', nm', q3, C'.2.2.2.2.2.1, by omega, by omega⟩)
set_option maxRecDepth 65536 in
set_option maxHeartbeats 40000000 in
theorem oc33 (l : Launch) (Z : State) (a0 : Array Value) (hw : ∀ d ∈ tables_1, d.before a0 Z = true) (n0 : Nat) (h : Heap) (m : BitVec 8) : o_C l Z n0 oy33 method_6_code 1 (some .int) orm33 [(.int (own_mi m))] h (fun v h' kc nc => v = some (.int (Int32.ofNat (own_low m))) ∧ h' = h ∧ kc = 0 ∧ nc = 0) := by
  refine o_body (Ls := [.val (.int (own_mi m))]) pn33 (by first | (simp [argsToLocals, Value.category]; done) | rfl) (fun κ B => ?_)
  refine o_iloadN (pc := 0) B d33_0 rfl ?_
  refine o_iconst (pc := 1) B (1 : Int32) d33_1 (by decide) ?_
  refine o_iand (pc := 2) B d33_2 ?_
  refine o_if_eq (pc := 3) (pc' := 8) B d33_3 (by decide) (by decide) (fun hc3 => ?_) (fun hc3 => ?_)
  rotate_left
  · have tk : m.getLsbD 0 = true := eq_true_of_ne_false (fun z => hc3 ((own_mi_place m 0).mpr z))
    refine o_iconst (pc := 6) B (0 : Int32) d33_6 (by decide) ?_
    exact o_ireturn (pc := 7) B d33_7 (by decide) (by decide) (⟨by unfold own_low; rw [tk]; rfl, rfl, rfl, rfl⟩)
  have f0 : m.getLsbD 0 = false := (own_mi_place m 0).mp hc3
  refine o_iloadN (pc := 8) B d33_8 rfl ?_
  refine o_iconst (pc := 9) B (2 : Int32) d33_9 (by decide) ?_
  refine o_iand (pc := 10) B d33_10 ?_
  refine o_if_eq (pc := 11) (pc' := 16) B d33_11 (by decide) (by decide) (fun hc11 => ?_) (fun hc11 => ?_)
  rotate_left
  · have tk : m.getLsbD 1 = true := eq_true_of_ne_false (fun z => hc11 ((own_mi_place m 1).mpr z))
    refine o_iconst (pc := 14) B (1 : Int32) d33_14 (by decide) ?_
    exact o_ireturn (pc := 15) B d33_15 (by decide) (by decide) (⟨by unfold own_low; rw [f0, tk]; rfl, rfl, rfl, rfl⟩)
  have f1 : m.getLsbD 1 = false := (own_mi_place m 1).mp hc11
  refine o_iloadN (pc := 16) B d33_16 rfl ?_
  refine o_iconst (pc := 17) B (4 : Int32) d33_17 (by decide) ?_
  refine o_iand (pc := 18) B d33_18 ?_
  refine o_if_eq (pc := 19) (pc' := 24) B d33_19 (by decide) (by decide) (fun hc19 => ?_) (fun hc19 => ?_)
  rotate_left
  · have tk : m.getLsbD 2 = true := eq_true_of_ne_false (fun z => hc19 ((own_mi_place m 2).mpr z))
    refine o_iconst (pc := 22) B (2 : Int32) d33_22 (by decide) ?_
    exact o_ireturn (pc := 23) B d33_23 (by decide) (by decide) (⟨by unfold own_low; rw [f0, f1, tk]; rfl, rfl, rfl, rfl⟩)
  have f2 : m.getLsbD 2 = false := (own_mi_place m 2).mp hc19
  refine o_iloadN (pc := 24) B d33_24 rfl ?_
  refine o_bipush (pc := 25) B (8 : Int32) d33_25 (by decide) ?_
  refine o_iand (pc := 27) B d33_27 ?_
  refine o_if_eq (pc := 28) (pc' := 33) B d33_28 (by decide) (by decide) (fun hc28 => ?_) (fun hc28 => ?_)
  rotate_left
  · have tk : m.getLsbD 3 = true := eq_true_of_ne_false (fun z => hc28 ((own_mi_place m 3).mpr z))
    refine o_iconst (pc := 31) B (3 : Int32) d33_31 (by decide) ?_
    exact o_ireturn (pc := 32) B d33_32 (by decide) (by decide) (⟨by unfold own_low; rw [f0, f1, f2, tk]; rfl, rfl, rfl, rfl⟩)
  have f3 : m.getLsbD 3 = false := (own_mi_place m 3).mp hc28
  refine o_iloadN (pc := 33) B d33_33 rfl ?_
  refine o_bipush (pc := 34) B (16 : Int32) d33_34 (by decide) ?_
  refine o_iand (pc := 36) B d33_36 ?_
  refine o_if_eq (pc := 37) (pc' := 42) B d33_37 (by decide) (by decide) (fun hc37 => ?_) (fun hc37 => ?_)
  rotate_left
  · have tk : m.getLsbD 4 = true := eq_true_of_ne_false (fun z => hc37 ((own_mi_place m 4).mpr z))
    refine o_iconst (pc := 40) B (4 : Int32) d33_40 (by decide) ?_
    exact o_ireturn (pc := 41) B d33_41 (by decide) (by decide) (⟨by unfold own_low; rw [f0, f1, f2, f3, tk]; rfl, rfl, rfl, rfl⟩)
  have f4 : m.getLsbD 4 = false := (own_mi_place m 4).mp hc37
  refine o_iloadN (pc := 42) B d33_42 rfl ?_
  refine o_bipush (pc := 43) B (32 : Int32) d33_43 (by decide) ?_
  refine o_iand (pc := 45) B d33_45 ?_
  refine o_if_eq (pc := 46) (pc' := 51) B d33_46 (by decide) (by decide) (fun hc46 => ?_) (fun hc46 => ?_)
  rotate_left
  · have tk : m.getLsbD 5 = true := eq_true_of_ne_false (fun z => hc46 ((own_mi_place m 5).mpr z))
    refine o_iconst (pc := 49) B (5 : Int32) d33_49 (by decide) ?_
    exact o_ireturn (pc := 50) B d33_50 (by decide) (by decide) (⟨by unfold own_low; rw [f0, f1, f2, f3, f4, tk]; rfl, rfl, rfl, rfl⟩)
  have f5 : m.getLsbD 5 = false := (own_mi_place m 5).mp hc46
  refine o_iloadN (pc := 51) B d33_51 rfl ?_
  refine o_bipush (pc := 52) B (64 : Int32) d33_52 (by decide) ?_
  refine o_iand (pc := 54) B d33_54 ?_
  refine o_if_eq (pc := 55) (pc' := 61) B d33_55 (by decide) (by decide) (fun hc55 => ?_) (fun hc55 => ?_)
  rotate_left
  · have tk : m.getLsbD 6 = true := eq_true_of_ne_false (fun z => hc55 ((own_mi_place m 6).mpr z))
    refine o_bipush (pc := 58) B (6 : Int32) d33_58 (by decide) ?_
    exact o_ireturn (pc := 60) B d33_60 (by decide) (by decide) (⟨by unfold own_low; rw [f0, f1, f2, f3, f4, f5, tk]; rfl, rfl, rfl, rfl⟩)
  have f6 : m.getLsbD 6 = false := (own_mi_place m 6).mp hc55
  refine o_bipush (pc := 61) B (7 : Int32) d33_61 (by decide) ?_
  exact o_ireturn (pc := 63) B d33_63 (by decide) (by decide) (⟨by unfold own_low; rw [f0, f1, f2, f3, f4, f5, f6]; rfl, rfl, rfl, rfl⟩)
abbrev orm32 : Room := { frames := 0, cells := 1, slots := 4, locals := 0 }
theorem own_low_one : own_low 255#8 = 0 := by decide
set_option maxRecDepth 65536 in
set_option maxHeartbeats 40000000 in
theorem own_lst (l : Launch) (Z : State) (a0 : Array Value) (hw : ∀ d ∈ tables_1, d.before a0 Z = true) (n0 : Nat) (κ : o_K) (B : o_Bo κ l Z n0 orm32 oy32 prog_26_method_10_code 4 (some (.array .boolean))) (Q : Option Value → Heap → Nat → Nat → Prop) (k n : Nat) (o a : Addr) (A : Fin 12 → Addr) (X : Fin 12 → List Int32) (nv : Nat) (N : own_Nd) (x : Int32) (BN : own_BN N) (RR : own_R N (X 0) (X 1) (X 2)) (h31 : own_ct N < 2 ^ 31) (hnv : 3 ≤ nv ∧ nv ≤ 4) (ga : n0 ≤ a) (ao : a ≠ o) (aA : ∀ i, a ≠ A i) :
    ∀ (L q acc : Nat) (T : List Int32) (h : Heap), own_l N q ≤ L → q < own_ct N → q ≠ 0 → 2 ^ own_l N q ∣ acc → acc + 2 ^ own_l N q ≤ 8 → T.length = nv → (∀ i : Nat, i < nv → T[i]? = some (own_bt acc i)) → o_ZA Z h a T → own_D Z n0 h o A X (own_ct N) nv →
    (∀ (h' : Heap) (T' : List Int32) (s3 : Slot), Keep h h' [a] → o_ZA Z h' a T' → T'.length = nv → (∀ i : Nat, i < nv → T'[i]? = some (own_bt (acc + own_low (own_M N q)) i)) → o_Go κ Q h' k n 52 [.val (.ref o), .val (.int x), .val (.ref a), s3] []) →
    o_Go κ Q h k n 9 [.val (.ref o), .val (.int x), .val (.ref a), .val (.int (Int32.ofNat q))] [] := by
  intro L
  induction L with
  | zero =>
    intro q acc T h hl hq q0 dv le eT HT AT D K
    have q1 : q = 1 := Classical.byContradiction fun z => by have := own_l_V (N := N) (f := q) (by omega); omega
    subst q1
    refine o_iloadN (pc := 9) B d32_9 rfl ?_
    refine o_iconst (pc := 10) B (1 : Int32) d32_10 (by decide) ?_
    refine o_icmp_eq (pc := 11) (pc' := 52) B d32_11 (by decide) (by decide) (fun hc11 => ?_) (fun hc11 => False.elim ((hc11 rfl)))
    exact K h T _ (Keep.refl _ _) AT eT (by rw [BN.2.2.1, own_low_one]; exact HT)
  | succ L ih =>
    intro q acc T h hl hq q0 dv le eT HT AT D K
    refine o_iloadN (pc := 9) B d32_9 rfl ?_
    refine o_iconst (pc := 10) B (1 : Int32) d32_10 (by decide) ?_
    by_cases q1 : q = 1
    · subst q1
      refine o_icmp_eq (pc := 11) (pc' := 52) B d32_11 (by decide) (by decide) (fun hc11 => ?_) (fun hc11 => False.elim ((hc11 rfl)))
      exact K h T _ (Keep.refl _ _) AT eT (by rw [BN.2.2.1, own_low_one]; exact HT)
    have q2 : 2 ≤ q := by omega
    obtain ⟨r0, r1, r2⟩ := RR.2.2 q q2 hq
    obtain ⟨b0, b1, b2, b3, b4, b5, b6, b7, b8⟩ := BN.2.2.2 q q2 hq
    have lq := own_l_V (N := N) q2
    have iL := own_ind_up b4 (own_B.ind BN (i := own_Lo N q) (by omega))
    have iH := own_ind_up b5 (own_B.ind BN (i := own_Hi N q) (by omega))
    have ps : 2 ^ (own_V N q + 1) = 2 * 2 ^ own_V N q := by rw [Nat.pow_succ, Nat.mul_comm]
    rw [lq] at dv le
    refine o_icmp_eq (pc := 11) (pc' := 52) B d32_11 (by decide) (by decide) (fun hc11 => False.elim ((q1 ((own_inj (b := 1) (by omega) (by decide)).mp hc11)))) (fun hc11 => ?_)
    refine o_aloadN (pc := 14) B d32_14 rfl rfl ?_
    refine o_getF (pc := 15) B d32_15 (hw _ (List.mem_of_getElem? (i := 30) rfl)) (D.f1) ?_
    refine o_iloadN (pc := 18) B d32_18 rfl ?_
    refine o_iaload (pc := 19) B (q) d32_19 (D.Ar 1) (rfl) (own_mapI r1) ?_
    refine o_if_ne (pc := 20) (pc' := 42) B d32_20 (by decide) (by decide) (fun hc20 => ?_) (fun hc20 => ?_)
    · have lo0 : own_Lo N q ≠ 0 := fun e => hc20 (by rw [e]; rfl)
      refine o_aloadN (pc := 42) B d32_42 rfl rfl ?_
      refine o_getF (pc := 43) B d32_43 (hw _ (List.mem_of_getElem? (i := 30) rfl)) (D.f1) ?_
      refine o_iloadN (pc := 46) B d32_46 rfl ?_
      refine o_iaload (pc := 47) B (q) d32_47 (D.Ar 1) (rfl) (own_mapI r1) ?_
      refine o_istoreN_4_3 (pc := 48) B d32_48 rfl ?_
      refine o_goto (pc := 49) (pc' := 9) B d32_49 (by decide) (by decide) ?_
      have pl : 2 ^ own_l N (own_Lo N q) ≤ 2 ^ (own_V N q + 1) := Nat.pow_le_pow_right (by decide) (Nat.le_succ_of_le b4)
      refine ih (own_Lo N q) acc T h (by show own_lv _ _ ≤ _; omega) (by omega) lo0 (Nat.dvd_trans (Nat.pow_dvd_pow 2 (Nat.le_succ_of_le b4)) dv) (by omega) eT HT AT D ?_
      rw [← own_low_lo b0 iH iL (own_B.nz BN (by omega) lo0), ← b6]
      exact K
    have lo0 : own_Lo N q = 0 := (own_inj (b := 0) (by omega) (by decide)).mp hc20
    have hi0 : own_Hi N q ≠ 0 := fun e => b3 (by rw [lo0, e])
    refine o_aloadN (pc := 23) B d32_23 rfl rfl ?_
    refine o_aloadN (pc := 24) B d32_24 rfl rfl ?_
    refine o_getF (pc := 25) B d32_25 (hw _ (List.mem_of_getElem? (i := 28) rfl)) (D.f0) ?_
    refine o_iloadN (pc := 28) B d32_28 rfl ?_
    refine o_iaload (pc := 29) B (q) d32_29 (D.Ar 0) (rfl) (own_mapI r0) ?_
    refine o_iconst (pc := 30) B (1 : Int32) d32_30 (by decide) ?_
    refine o_bastore (pc := 31) B (own_V N q) d32_31 (AT) (rfl) (own_mltI (by omega)) (ga) ?_
    intro h1 W1
    have AT1 := o_ZA.same (x := 1) AT W1
    have D1 := D.other W1 ao aA
    refine o_aloadN (pc := 32) B d32_32 rfl rfl ?_
    refine o_getF (pc := 33) B d32_33 (hw _ (List.mem_of_getElem? (i := 32) rfl)) (D1.f2) ?_
    refine o_iloadN (pc := 36) B d32_36 rfl ?_
    refine o_iaload (pc := 37) B (q) d32_37 (D1.Ar 2) (rfl) (own_mapI r2) ?_
    refine o_istoreN_4_3 (pc := 38) B d32_38 rfl ?_
    refine o_goto (pc := 39) (pc' := 9) B d32_39 (by decide) (by decide) ?_
    have pl : 2 ^ own_l N (own_Hi N q) ≤ 2 ^ own_V N q := Nat.pow_le_pow_right (by decide) b5
    have pp := Nat.two_pow_pos (own_V N q)
    refine ih (own_Hi N q) (acc + 2 ^ own_V N q) (T.set (own_V N q) 1) h1 (by show own_lv _ _ ≤ _; omega) (by omega) hi0 (Nat.dvd_add (Nat.dvd_trans (Nat.pow_dvd_pow 2 (Nat.le_succ_of_le b5)) dv) (Nat.pow_dvd_pow 2 b5)) (by omega) (by rw [List.length_set]; exact eT) ?_ AT1 D1 ?_
    · intro i hi
      rw [own_bt_add (by omega) b0 (by omega) (Nat.mod_eq_zero_of_dvd dv)]
      by_cases e : own_V N q = i
      · subst e; rw [List.getElem?_set_self (by omega), if_pos rfl]
      · rw [List.getElem?_set_ne e, if_neg (Ne.symm e)]; exact HT i hi
    · intro h' T' s3 K' A' eT' HT'
      refine K h' T' s3 (((Keep.of_wr W1)).trans K' (fun y hy => Or.inl hy)) A' eT' ?_
      intro i hi
      rw [HT' i hi, b6, lo0, show own_M N 0 = 0#8 from BN.2.1, own_low_hi b0 iH (own_B.nz BN (by omega) hi0), Nat.add_assoc]
set_option maxRecDepth 65536 in
set_option maxHeartbeats 40000000 in
theorem oc32 (l : Launch) (Z : State) (a0 : Array Value) (hw : ∀ d ∈ tables_1, d.before a0 Z = true) (n0 : Nat) (h : Heap) (o : Addr) (A : Fin 12 → Addr) (X : Fin 12 → List Int32) (nv c j q : Nat) (N : own_Nd) (D : own_D Z n0 h o A X (own_ct N) nv) (W : own_W N X c j) (hq : q < own_ct N) (q0 : q ≠ 0) (hnv : 3 ≤ nv ∧ nv ≤ 4) : o_C l Z n0 oy32 prog_26_method_10_code 4 (some (.array .boolean)) orm32 [(.ref o), (.int (Int32.ofNat q))] h (fun v h' kc nc => (∃ (a : Addr) (T : List Int32), v = some (.ref a) ∧ o_ZA Z h' a T ∧ T.length = nv ∧ ∀ i : Nat, i < nv → T[i]? = some (own_bt (own_low (own_M N q)) i)) ∧ kc = 1 ∧ nc = 4) := by
  refine o_body (Ls := [.val (.ref o), .val (.int (Int32.ofNat q)), .unset, .unset]) pn32 (by first | (simp [argsToLocals, Value.category]; done) | rfl) (fun κ B => ?_)
  obtain ⟨BN, Cn, RR, LL, ⟨c1, c2, c3⟩, -⟩ := W
  have pc_ : 2 ^ c ≤ 2 ^ 5 := Nat.pow_le_pow_right (by decide) c3
  refine o_aloadN (pc := 0) B d32_0 rfl rfl ?_
  refine o_getF (pc := 1) B d32_1 (hw _ (List.mem_of_getElem? (i := 26) rfl)) (D.VN) ?_
  refine o_newarray (pc := 4) B (nv) (4) d32_4 (hw _ (List.mem_of_getElem? (i := 202) rfl)) (rfl) (by first | decide | omega) (by first | decide | omega) (by decide) (by decide) ?_
  intro h1 X1 l1 A1
  have A1' : o_ZA Z h1 h.size (List.replicate nv 0) := by show o_AR Z h1 h.size .boolean ((List.replicate nv (0 : Int32)).map Value.int); rw [List.map_replicate]; exact A1
  have l3 := own_B.lv3 BN hq
  have p8 : 2 ^ own_l N q ≤ 2 ^ 3 := Nat.pow_le_pow_right (by decide) l3
  refine o_astoreN_4_2 (pc := 6) B d32_6 rfl rfl ?_
  refine o_iloadN (pc := 7) B d32_7 rfl ?_
  refine o_istoreN_4_3 (pc := 8) B d32_8 rfl ?_
  refine own_lst l Z a0 hw n0 κ B _ _ _ o h.size A X nv N _ BN RR (by omega) hnv (Nat.le_trans (o_le D.go) (Nat.le_of_lt (o_lt D.E.lt))) (o_ne (by have := o_lt D.E.lt; omega)) (fun i => o_ne (by have := o_lt (D.Ar i).lt; omega)) 3 q 0 (List.replicate nv 0) h1 l3 hq q0 (Nat.dvd_zero _) (by omega) (by simp) ?_ A1' (D.ext X1) ?_
  · intro i hi
    rw [List.getElem?_replicate, if_pos hi]
    simp [own_bt]
  · intro h' T' s3 K' A' eT' HT'
    refine o_aloadN (pc := 52) B d32_52 rfl rfl ?_
    exact o_areturn (pc := 53) B rfl rfl rfl d32_53 (by decide) (by decide) (⟨⟨_, T', rfl, A', eT', by simpa using HT'⟩, rfl, rfl⟩)
-- CUT
theorem own_exw {Z : State} {h h' : Heap} {o b : Addr} {O n d : String} {sl : Nat} {v : Value} (F : ∃ u, Fld Z h o O n d u) (W : Wr h h' b sl v) : ∃ u, Fld Z h' o O n d u := by
  obtain ⟨u, F⟩ := F
  by_cases e : o = b
  · subst e
    by_cases s : Jvm.RoadKit.slotOf Z O n d = sl
    · subst s; exact ⟨v, F.same W⟩
    · exact ⟨u, F.other W (Or.inr s)⟩
  · exact ⟨u, F.other W (Or.inl e)⟩
theorem own_exx {Z : State} {h h' : Heap} {o : Addr} {O n d : String} (F : ∃ u, Fld Z h o O n d u) (E : Ext h h') : ∃ u, Fld Z h' o O n d u := by obtain ⟨u, F⟩ := F; exact ⟨u, F.ext E⟩
theorem own_exk {Z : State} {h h' : Heap} {o : Addr} {O n d : String} {ws : List Addr} (F : ∃ u, Fld Z h o O n d u) (K : Keep h h' ws) (q : o ∉ ws) : ∃ u, Fld Z h' o O n d u := by obtain ⟨u, F⟩ := F; exact ⟨u, F.keep K q⟩
/-- the object under construction: the first m arrays are laid -/
def own_E (m : Nat) (Z : State) (n0 : Nat) (h : Heap) (o : Addr) (A : Fin 12 → Addr) (X : Fin 12 → List Int32) (nn nv : Value) : Prop :=
  n0 ≤ o ∧ Exa Z h o own_DD ∧ (∀ i : Fin 12, i.val < m → Fld Z h o own_DD (own_fn i) "[I" (.ref (A i))) ∧ (∀ i : Fin 12, ∃ u, Fld Z h o own_DD (own_fn i) "[I" u) ∧ Fld Z h o own_DD "nodes" "I" (nn) ∧ Fld Z h o own_DD "variables" "I" (nv) ∧ (∀ i : Fin 12, i.val < m → o_IA Z h (A i) (X i)) ∧ (∀ i j : Fin 12, i.val < m → j.val < m → i ≠ j → A i ≠ A j) ∧ (∀ i : Fin 12, i.val < m → A i ≠ o) ∧ (∀ i : Fin 12, i.val < m → n0 ≤ A i) ∧ (∃ u, Fld Z h o own_DD "solePairs" "[J" (u)) ∧ (∃ u, Fld Z h o own_DD "soleLabels" "[I" (u)) ∧ (∃ u, Fld Z h o own_DD "unwalkedSets" "[I" (u)) ∧ (∃ u, Fld Z h o own_DD "unwalkedLabellings" "[I" (u)) ∧ (∃ u, Fld Z h o own_DD "walked" "Lcom/example/perdure/perdure/check/DecisionDiagrams$PairSet;" (u))
section Ee
variable {m : Nat} {Z : State} {a0 : Array Value} {n0 : Nat} {h h' : Heap} {o b : Addr} {A : Fin 12 → Addr} {X : Fin 12 → List Int32} {nn nv v : Value} {sl : Nat} {ws : List Addr} {L : List Int32}
theorem own_E.go (D : own_E m Z n0 h o A X nn nv) : n0 ≤ o := D.1
theorem own_E.E (D : own_E m Z n0 h o A X nn nv) : Exa Z h o own_DD := D.2.1
theorem own_E.F (D : own_E m Z n0 h o A X nn nv) (i : Fin 12) : ∃ u, Fld Z h o own_DD (own_fn i) "[I" u := D.2.2.2.1 i
theorem own_E.R (D : own_E m Z n0 h o A X nn nv) (i : Fin 12) (hi : i.val < m) : Fld Z h o own_DD (own_fn i) "[I" (.ref (A i)) := D.2.2.1 i hi
theorem own_E.N (D : own_E m Z n0 h o A X nn nv) : Fld Z h o own_DD "nodes" "I" (nn) := D.2.2.2.2.1
theorem own_E.V (D : own_E m Z n0 h o A X nn nv) : Fld Z h o own_DD "variables" "I" (nv) := D.2.2.2.2.2.1
theorem own_E.Ar (D : own_E m Z n0 h o A X nn nv) (i : Fin 12) (hi : i.val < m) : o_IA Z h (A i) (X i) := D.2.2.2.2.2.2.1 i hi
theorem own_E.S (D : own_E m Z n0 h o A X nn nv) : (∃ u, Fld Z h o own_DD "solePairs" "[J" (u)) ∧ (∃ u, Fld Z h o own_DD "soleLabels" "[I" (u)) ∧ (∃ u, Fld Z h o own_DD "unwalkedSets" "[I" (u)) ∧ (∃ u, Fld Z h o own_DD "unwalkedLabellings" "[I" (u)) ∧ (∃ u, Fld Z h o own_DD "walked" "Lcom/example/perdure/perdure/check/DecisionDiagrams$PairSet;" (u)) := D.2.2.2.2.2.2.2.2.2.2
theorem own_E.ext (D : own_E m Z n0 h o A X nn nv) (E : Ext h h') : own_E m Z n0 h' o A X nn nv := by
  obtain ⟨a1, a2, a3, a4, a5, a6, a7, a8, a9, a10, e1, e2, e3, e4, e5⟩ := D
  exact ⟨a1, a2.ext E, fun i hi => (a3 i hi).ext E, fun i => own_exx (a4 i) E, a5.ext E, a6.ext E, fun i hi => (a7 i hi).ext E, a8, a9, a10, own_exx e1 E, own_exx e2 E, own_exx e3 E, own_exx e4 E, own_exx e5 E⟩
theorem own_E.keep (D : own_E m Z n0 h o A X nn nv) (K : Keep h h' ws) (q1 : o ∉ ws) (q2 : ∀ i : Fin 12, i.val < m → A i ∉ ws) : own_E m Z n0 h' o A X nn nv := by
  obtain ⟨a1, a2, a3, a4, a5, a6, a7, a8, a9, a10, e1, e2, e3, e4, e5⟩ := D
  exact ⟨a1, a2.keep K, fun i hi => (a3 i hi).keep K q1, fun i => own_exk (a4 i) K q1, a5.keep K q1, a6.keep K q1, fun i hi => (a7 i hi).keep K (q2 i hi), a8, a9, a10, own_exk e1 K q1, own_exk e2 K q1, own_exk e3 K q1, own_exk e4 K q1, own_exk e5 K q1⟩
theorem own_E.other (D : own_E m Z n0 h o A X nn nv) (W : Wr h h' b sl v) (q1 : b ≠ o) (q2 : ∀ i : Fin 12, i.val < m → b ≠ A i) : own_E m Z n0 h' o A X nn nv := D.keep (Keep.of_wr W) (by simpa using Ne.symm q1) (fun i hi => by simpa using Ne.symm (q2 i hi))
theorem own_E.re (D : own_E m Z n0 h o A X nn nv) (i : Fin 12) (hi : i.val < m) (K : Keep h h' [A i]) (B : o_IA Z h' (A i) L) : own_E m Z n0 h' o A (own_upF X i L) nn nv := by
  obtain ⟨a1, a2, a3, a4, a5, a6, a7, a8, a9, a10, e1, e2, e3, e4, e5⟩ := D
  have q1 : o ∉ [A i] := by simpa using Ne.symm (a9 i hi)
  refine ⟨a1, a2.keep K, fun i hi => (a3 i hi).keep K q1, fun i => own_exk (a4 i) K q1, a5.keep K q1, a6.keep K q1, fun j hj => ?_, a8, a9, a10, own_exk e1 K q1, own_exk e2 K q1, own_exk e3 K q1, own_exk e4 K q1, own_exk e5 K q1⟩
  by_cases e : j = i
  · subst e; rw [own_upF_eq]; exact B
  · rw [own_upF_ne _ _ e]; exact o_AR.keep (a7 j hj) K (by simpa using a8 j i hj hi e)
theorem own_E.misc (D : own_E m Z n0 h o A X nn nv) (W : Wr h h' o sl v) (s1 : ∀ i, Jvm.RoadKit.slotOf Z own_DD (own_fn i) "[I" ≠ sl) (s2 : Jvm.RoadKit.slotOf Z own_DD "nodes" "I" ≠ sl) (s3 : Jvm.RoadKit.slotOf Z own_DD "variables" "I" ≠ sl) : own_E m Z n0 h' o A X nn nv := by
  obtain ⟨a1, a2, a3, a4, a5, a6, a7, a8, a9, a10, e1, e2, e3, e4, e5⟩ := D
  exact ⟨a1, a2.wr W, fun i hi => (a3 i hi).other W (Or.inr (s1 i)), fun i => own_exw (a4 i) W, a5.other W (Or.inr s2), a6.other W (Or.inr s3), fun i hi => o_AR.other (a7 i hi) W (a9 i hi), a8, a9, a10, own_exw e1 W, own_exw e2 W, own_exw e3 W, own_exw e4 W, own_exw e5 W⟩
theorem own_E.nodes (hw : ∀ d ∈ tables_1, d.before a0 Z = true) (D : own_E m Z n0 h o A X nn nv) (W : Wr h h' o (Jvm.RoadKit.slotOf Z own_DD "nodes" "I") v) : own_E m Z n0 h' o A X v nv := by
  obtain ⟨a1, a2, a3, a4, a5, a6, a7, a8, a9, a10, e1, e2, e3, e4, e5⟩ := D
  exact ⟨a1, a2.wr W, fun i hi => (a3 i hi).other W (Or.inr (own_sn_nodes hw i)), fun i => own_exw (a4 i) W, a5.same W, a6.other W (Or.inr (slot_ne (C := own_DD) (Or.inr (hw _ (List.mem_of_getElem? (i := 27) rfl))) (Or.inl (hw _ (List.mem_of_getElem? (i := 35) rfl))) (by decide) (by decide : parseFieldDescriptor "I" = some .int) (by decide : parseFieldDescriptor "I" = some .int))), fun i hi => o_AR.other (a7 i hi) W (a9 i hi), a8, a9, a10, own_exw e1 W, own_exw e2 W, own_exw e3 W, own_exw e4 W, own_exw e5 W⟩
theorem own_E.vars (hw : ∀ d ∈ tables_1, d.before a0 Z = true) (D : own_E m Z n0 h o A X nn nv) (W : Wr h h' o (Jvm.RoadKit.slotOf Z own_DD "variables" "I") v) : own_E m Z n0 h' o A X nn v := by
  obtain ⟨a1, a2, a3, a4, a5, a6, a7, a8, a9, a10, e1, e2, e3, e4, e5⟩ := D
  exact ⟨a1, a2.wr W, fun i hi => (a3 i hi).other W (Or.inr (own_sn_variables hw i)), fun i => own_exw (a4 i) W, a5.other W (Or.inr (slot_ne (C := own_DD) (Or.inl (hw _ (List.mem_of_getElem? (i := 35) rfl))) (Or.inr (hw _ (List.mem_of_getElem? (i := 27) rfl))) (by decide) (by decide : parseFieldDescriptor "I" = some .int) (by decide : parseFieldDescriptor "I" = some .int))), a6.same W, fun i hi => o_AR.other (a7 i hi) W (a9 i hi), a8, a9, a10, own_exw e1 W, own_exw e2 W, own_exw e3 W, own_exw e4 W, own_exw e5 W⟩
theorem own_E.put (hw : ∀ d ∈ tables_1, d.before a0 Z = true) (D : own_E m Z n0 h o A X nn nv) (i : Fin 12) (him : i.val = m) (B : o_IA Z h b L) (g : n0 ≤ b) (q1 : b ≠ o) (q2 : ∀ j : Fin 12, j.val < m → b ≠ A j) (W : Wr h h' o (Jvm.RoadKit.slotOf Z own_DD (own_fn i) "[I") (.ref b)) : own_E (m + 1) Z n0 h' o (own_upF A i b) (own_upF X i L) nn nv := by
  obtain ⟨a1, a2, a3, a4, a5, a6, a7, a8, a9, a10, e1, e2, e3, e4, e5⟩ := D
  have lt : ∀ j : Fin 12, j.val < m + 1 → j ≠ i → j.val < m := fun j hj e => by have : j.val ≠ i.val := fun z => e (Fin.ext z); omega
  obtain ⟨u, Fi⟩ := a4 i
  refine ⟨a1, a2.wr W, fun j hj => ?_, fun j => own_exw (a4 j) W, a5.other W (Or.inr (Ne.symm (own_sn_nodes hw i))), a6.other W (Or.inr (Ne.symm (own_sn_variables hw i))), fun j hj => ?_, fun j j' hj hj' q => ?_, fun j hj => ?_, fun j hj => ?_, own_exw e1 W, own_exw e2 W, own_exw e3 W, own_exw e4 W, own_exw e5 W⟩
  · by_cases e : j = i
    · subst e; rw [own_upF_eq]; exact Fi.same W
    · rw [own_upF_ne _ _ e]; exact (a3 j (lt j hj e)).other W (Or.inr (own_sne hw e))
  · by_cases e : j = i
    · subst e; rw [own_upF_eq, own_upF_eq]; exact o_AR.other B W q1
    · rw [own_upF_ne _ _ e, own_upF_ne _ _ e]; exact o_AR.other (a7 j (lt j hj e)) W (a9 j (lt j hj e))
  · by_cases e : j = i
    · subst e; rw [own_upF_eq, own_upF_ne _ _ (Ne.symm q)]; exact q2 j' (lt j' hj' (Ne.symm q))
    · by_cases e' : j' = i
      · subst e'; rw [own_upF_eq, own_upF_ne _ _ e]; exact Ne.symm (q2 j (lt j hj e))
      · rw [own_upF_ne _ _ e, own_upF_ne _ _ e']; exact a8 j j' (lt j hj e) (lt j' hj' e') q
  · by_cases e : j = i
    · subst e; rw [own_upF_eq]; exact q1
    · rw [own_upF_ne _ _ e]; exact a9 j (lt j hj e)
  · by_cases e : j = i
    · subst e; rw [own_upF_eq]; exact g
    · rw [own_upF_ne _ _ e]; exact a10 j (lt j hj e)
theorem own_E.full {x y : Nat} (D : own_E 12 Z n0 h o A X (.int (Int32.ofNat x)) (.int (Int32.ofNat y))) : own_D Z n0 h o A X x y := by
  obtain ⟨a1, a2, a3, a4, a5, a6, a7, a8, a9, a10, e1, e2, e3, e4, e5⟩ := D
  exact ⟨a1, a2, fun i => a3 i i.isLt, a5, a6, fun i => a7 i i.isLt, fun i j q => a8 i j i.isLt j.isLt q, fun i => a9 i i.isLt, fun i => a10 i i.isLt, e1, e2⟩
end Ee
abbrev orm3 : Room := { frames := 1, cells := 2, slots := 32, locals := 12 }
set_option maxRecDepth 65536 in
set_option maxHeartbeats 40000000 in
theorem oc3 (l : Launch) (Z : State) (a0 : Array Value) (hw : ∀ d ∈ tables_1, d.before a0 Z = true) (n0 : Nat) (h : Heap) (p : Addr) (gp : n0 ≤ p) (E : Exa Z h p own_PS) (F1 : ∃ u, Fld Z h p own_PS "pairs" "[J" u) (F2 : ∃ u, Fld Z h p own_PS "fillings" "[I" u) (F3 : ∃ u, Fld Z h p own_PS "filling" "I" u) : o_C l Z n0 oy3 prog_27_method_1_code 1 none orm3 [(.ref p)] h (fun v h' kc nc => v = none ∧ Keep h h' [p] ∧ kc = 2 ∧ nc = 32) := by
  refine o_body (Ls := [.val (.ref p)]) pn3 (by first | (simp [argsToLocals, Value.category]; done) | rfl) (fun κ B => ?_)
  refine o_aloadN (pc := 0) B d3_0 rfl rfl ?_
  refine o_initO (pc := 1) B (W := 0) d3_1 (hw _ (List.mem_of_getElem? (i := 15) rfl)) (hw _ (List.mem_of_getElem? (i := 7) rfl)) (hw _ (List.mem_of_getElem? (i := 8) rfl)) (by decide) (by first | exact Nat.zero_le _ | exact Nat.le_of_ble_eq_true rfl | simp [Value.category]) (by decide) rfl ?_
  refine o_aloadN (pc := 4) B d3_4 rfl rfl ?_
  refine o_bipush (pc := 5) B (16 : Int32) d3_5 (by decide) ?_
  refine o_newarray (pc := 7) B (16) (16) d3_7 (hw _ (List.mem_of_getElem? (i := 16) rfl)) (rfl) (by first | decide | omega) (by first | decide | omega) (by decide) (by decide) ?_
  intro h1 X1 l1 A1
  obtain ⟨u1, G1⟩ := F1
  refine o_putF (pc := 9) (ty := (.array .long)) B d3_9 (hw _ (List.mem_of_getElem? (i := 17) rfl)) (G1.ext X1) (E.ext X1) (Or.inl (hw _ (List.mem_of_getElem? (i := 18) rfl))) (hw _ (List.mem_of_getElem? (i := 10) rfl)) (by decide) rfl rfl (gp) ?_
  intro h2 W2
  refine o_aloadN (pc := 12) B d3_12 rfl rfl ?_
  refine o_bipush (pc := 13) B (16 : Int32) d3_13 (by decide) ?_
  refine o_newarray (pc := 15) B (16) (16) d3_15 (hw _ (List.mem_of_getElem? (i := 19) rfl)) (rfl) (by first | decide | omega) (by first | decide | omega) (by decide) (by decide) ?_
  intro h3 X3 l3 A3
  obtain ⟨u2, G2⟩ := own_exx (own_exw (own_exx F2 X1) W2) X3
  refine o_putF (pc := 17) (ty := (.array .int)) B d3_17 (hw _ (List.mem_of_getElem? (i := 20) rfl)) (G2) (((E.ext X1).wr W2).ext X3) (Or.inl (hw _ (List.mem_of_getElem? (i := 21) rfl))) (hw _ (List.mem_of_getElem? (i := 10) rfl)) (by decide) rfl rfl (gp) ?_
  intro h4 W4
  obtain ⟨u3, G3⟩ := own_exw (own_exx (own_exw (own_exx F3 X1) W2) X3) W4
  refine o_aloadN (pc := 20) B d3_20 rfl rfl ?_
  refine o_iconst (pc := 21) B (1 : Int32) d3_21 (by decide) ?_
  refine o_putF (pc := 22) (ty := .int) B d3_22 (hw _ (List.mem_of_getElem? (i := 22) rfl)) (G3) ((((E.ext X1).wr W2).ext X3).wr W4) (Or.inl (hw _ (List.mem_of_getElem? (i := 23) rfl))) (hw _ (List.mem_of_getElem? (i := 10) rfl)) (by decide) rfl rfl (gp) ?_
  intro h5 W5
  exact o_return (pc := 25) B d3_25 (by decide) (by decide) (⟨rfl, (((((Keep.refl h [p]).ext X1).wr W2 (Or.inl (List.mem_cons_self ..))).ext X3).wr W4 (Or.inl (List.mem_cons_self ..))).wr W5 (Or.inl (List.mem_cons_self ..)), rfl, rfl⟩)
set_option maxRecDepth 65536 in
set_option maxHeartbeats 40000000 in
theorem oc4b (l : Launch) (Z : State) (a0 : Array Value) (hw : ∀ d ∈ tables_1, d.before a0 Z = true) (n0 : Nat) (h : Heap) (o : Addr) (A : Fin 12 → Addr) (X : Fin 12 → List Int32) (nn nv : Value) (j : Nat) (hj : j ≤ 20) (OL : Old Z n0 h) (D : own_E 4 Z n0 h o A X nn nv) : o_C l Z n0 oy4 prog_26_method_25_code 2 none (orm4 j) [(.ref o), (.int (Int32.ofNat (2 ^ j)))] h (fun v h' kc nc => v = none ∧ Old Z n0 h' ∧ (∃ A' X', own_E 8 Z n0 h' o A' X' nn nv ∧ (∀ i : Fin 12, i.val < 4 → X' i = X i) ∧ (X' 4).length = 2 ^ j ∧ (X' 5).length = 2 ^ j ∧ (X' 6).length = 2 ^ j ∧ own_new (X' 7) j) ∧ kc = 6 ∧ nc = 6 * 2 ^ j) := by
  refine o_body (Ls := [.val (.ref o), .val (.int (Int32.ofNat (2 ^ j)))]) pn4 (by first | (simp [argsToLocals, Value.category]; done) | rfl) (fun κ B => ?_)
  have pj : 2 ^ j ≤ 2 ^ 20 := Nat.pow_le_pow_right (by decide) hj
  refine o_aloadN (pc := 0) B d4_0 rfl rfl ?_
  refine o_iloadN (pc := 1) B d4_1 rfl ?_
  refine o_newarray (pc := 2) B (2 ^ j) (2 ^ j) d4_2 (hw _ (List.mem_of_getElem? (i := 19) rfl)) (rfl) (by first | decide | omega) (by first | decide | omega) (by first | decide | (dsimp only [orm4, orm5, orm6, orm9, orm10, orm11, orm12, orm13, orm14, orm15, orm16, orm17]; omega)) (by first | decide | (dsimp only [orm4, orm5, orm6, orm9, orm10, orm11, orm12, orm13, orm14, orm15, orm16, orm17]; omega)) ?_
  intro h1 E0 l0 B0
  have C0 : o_IA Z h1 h.size (List.replicate (2 ^ j) 0) := by show o_AR Z h1 h.size .int ((List.replicate (2 ^ j) (0 : Int32)).map Value.int); rw [List.map_replicate]; exact B0
  have fr0 : ∀ i : Fin 12, i.val < 4 → h.size ≠ A i := fun i hi => o_ne (by have := o_lt (D.Ar i hi).lt; omega)
  have fo0 : h.size ≠ o := o_ne (by have := o_lt D.E.lt; omega)
  obtain ⟨u0, G0⟩ := (D.ext E0).F 4
  refine o_putF (pc := 4) (ty := (.array .int)) B d4_4 (hw _ (List.mem_of_getElem? (i := 42) rfl)) (G0) ((D.ext E0).E) (Or.inl (hw _ (List.mem_of_getElem? (i := 43) rfl))) (hw _ (List.mem_of_getElem? (i := 1) rfl)) (by decide) rfl rfl (D.go) ?_
  intro h2 W0
  have g0 : n0 ≤ h.size := Nat.le_trans (o_le D.go) (Nat.le_of_lt (o_lt D.E.lt))
  have D0 := (D.ext E0).put hw 4 rfl C0 g0 fo0 fr0 W0
  have OL0 := (OL.ext E0).wr W0 D.go
  obtain ⟨A0, eA0⟩ : ∃ y, y = own_upF A 4 h.size := ⟨_, rfl⟩
  obtain ⟨X0, eX0⟩ : ∃ y, y = own_upF X 4 (List.replicate (2 ^ j) (0 : Int32)) := ⟨_, rfl⟩
  rw [← eA0, ← eX0] at D0
  clear B0
  refine o_aloadN (pc := 7) B d4_7 rfl rfl ?_
  refine o_iloadN (pc := 8) B d4_8 rfl ?_
  refine o_newarray (pc := 9) B (2 ^ j) (2 ^ j) d4_9 (hw _ (List.mem_of_getElem? (i := 19) rfl)) (rfl) (by first | decide | omega) (by first | decide | omega) (by first | decide | (dsimp only [orm4, orm5, orm6, orm9, orm10, orm11, orm12, orm13, orm14, orm15, orm16, orm17]; omega)) (by first | decide | (dsimp only [orm4, orm5, orm6, orm9, orm10, orm11, orm12, orm13, orm14, orm15, orm16, orm17]; omega)) ?_
  intro h3 E1 l1 B1
  have C1 : o_IA Z h3 h2.size (List.replicate (2 ^ j) 0) := by show o_AR Z h3 h2.size .int ((List.replicate (2 ^ j) (0 : Int32)).map Value.int); rw [List.map_replicate]; exact B1
  have fr1 : ∀ i : Fin 12, i.val < 5 → h2.size ≠ A0 i := fun i hi => o_ne (by have := o_lt (D0.Ar i hi).lt; omega)
  have fo1 : h2.size ≠ o := o_ne (by have := o_lt D0.E.lt; omega)
  obtain ⟨u1, G1⟩ := (D0.ext E1).F 5
  refine o_putF (pc := 11) (ty := (.array .int)) B d4_11 (hw _ (List.mem_of_getElem? (i := 44) rfl)) (G1) ((D0.ext E1).E) (Or.inl (hw _ (List.mem_of_getElem? (i := 45) rfl))) (hw _ (List.mem_of_getElem? (i := 1) rfl)) (by decide) rfl rfl (D.go) ?_
  intro h4 W1
  have g1 : n0 ≤ h2.size := Nat.le_trans (o_le D.go) (Nat.le_of_lt (o_lt D0.E.lt))
  have D1 := (D0.ext E1).put hw 5 rfl C1 g1 fo1 fr1 W1
  have OL1 := (OL0.ext E1).wr W1 D.go
  obtain ⟨A1, eA1⟩ : ∃ y, y = own_upF A0 5 h2.size := ⟨_, rfl⟩
  obtain ⟨X1, eX1⟩ : ∃ y, y = own_upF X0 5 (List.replicate (2 ^ j) (0 : Int32)) := ⟨_, rfl⟩
  rw [← eA1, ← eX1] at D1
  clear B1
  refine o_aloadN (pc := 14) B d4_14 rfl rfl ?_
  refine o_iloadN (pc := 15) B d4_15 rfl ?_
  refine o_newarray (pc := 16) B (2 ^ j) (2 ^ j) d4_16 (hw _ (List.mem_of_getElem? (i := 19) rfl)) (rfl) (by first | decide | omega) (by first | decide | omega) (by first | decide | (dsimp only [orm4, orm5, orm6, orm9, orm10, orm11, orm12, orm13, orm14, orm15, orm16, orm17]; omega)) (by first | decide | (dsimp only [orm4, orm5, orm6, orm9, orm10, orm11, orm12, orm13, orm14, orm15, orm16, orm17]; omega)) ?_
  intro h5 E2 l2 B2
  have C2 : o_IA Z h5 h4.size (List.replicate (2 ^ j) 0) := by show o_AR Z h5 h4.size .int ((List.replicate (2 ^ j) (0 : Int32)).map Value.int); rw [List.map_replicate]; exact B2
  have fr2 : ∀ i : Fin 12, i.val < 6 → h4.size ≠ A1 i := fun i hi => o_ne (by have := o_lt (D1.Ar i hi).lt; omega)
  have fo2 : h4.size ≠ o := o_ne (by have := o_lt D1.E.lt; omega)
  obtain ⟨u2, G2⟩ := (D1.ext E2).F 6
  refine o_putF (pc := 18) (ty := (.array .int)) B d4_18 (hw _ (List.mem_of_getElem? (i := 46) rfl)) (G2) ((D1.ext E2).E) (Or.inl (hw _ (List.mem_of_getElem? (i := 47) rfl))) (hw _ (List.mem_of_getElem? (i := 1) rfl)) (by decide) rfl rfl (D.go) ?_
  intro h6 W2
  have g2 : n0 ≤ h4.size := Nat.le_trans (o_le D.go) (Nat.le_of_lt (o_lt D1.E.lt))
  have D2 := (D1.ext E2).put hw 6 rfl C2 g2 fo2 fr2 W2
  have OL2 := (OL1.ext E2).wr W2 D.go
  obtain ⟨A2, eA2⟩ : ∃ y, y = own_upF A1 6 h4.size := ⟨_, rfl⟩
  obtain ⟨X2, eX2⟩ : ∃ y, y = own_upF X1 6 (List.replicate (2 ^ j) (0 : Int32)) := ⟨_, rfl⟩
  rw [← eA2, ← eX2] at D2
  clear B2
  refine o_aloadN (pc := 21) B d4_21 rfl rfl ?_
  refine o_iloadN (pc := 22) B d4_22 rfl ?_
  refine o_newarray (pc := 23) B (2 ^ j) (2 ^ j) d4_23 (hw _ (List.mem_of_getElem? (i := 19) rfl)) (rfl) (by first | decide | omega) (by first | decide | omega) (by first | decide | (dsimp only [orm4, orm5, orm6, orm9, orm10, orm11, orm12, orm13, orm14, orm15, orm16, orm17]; omega)) (by first | decide | (dsimp only [orm4, orm5, orm6, orm9, orm10, orm11, orm12, orm13, orm14, orm15, orm16, orm17]; omega)) ?_
  intro h7 E3 l3 B3
  have C3 : o_IA Z h7 h6.size (List.replicate (2 ^ j) 0) := by show o_AR Z h7 h6.size .int ((List.replicate (2 ^ j) (0 : Int32)).map Value.int); rw [List.map_replicate]; exact B3
  have fr3 : ∀ i : Fin 12, i.val < 7 → h6.size ≠ A2 i := fun i hi => o_ne (by have := o_lt (D2.Ar i hi).lt; omega)
  have fo3 : h6.size ≠ o := o_ne (by have := o_lt D2.E.lt; omega)
  obtain ⟨u3, G3⟩ := (D2.ext E3).F 7
  refine o_putF (pc := 25) (ty := (.array .int)) B d4_25 (hw _ (List.mem_of_getElem? (i := 48) rfl)) (G3) ((D2.ext E3).E) (Or.inl (hw _ (List.mem_of_getElem? (i := 49) rfl))) (hw _ (List.mem_of_getElem? (i := 1) rfl)) (by decide) rfl rfl (D.go) ?_
  intro h8 W3
  have g3 : n0 ≤ h6.size := Nat.le_trans (o_le D.go) (Nat.le_of_lt (o_lt D2.E.lt))
  have D3 := (D2.ext E3).put hw 7 rfl C3 g3 fo3 fr3 W3
  have OL3 := (OL2.ext E3).wr W3 D.go
  obtain ⟨A3, eA3⟩ : ∃ y, y = own_upF A2 7 h6.size := ⟨_, rfl⟩
  obtain ⟨X3, eX3⟩ : ∃ y, y = own_upF X2 7 (List.replicate (2 ^ j) (0 : Int32)) := ⟨_, rfl⟩
  rw [← eA3, ← eX3] at D3
  clear B3
  refine o_aloadN (pc := 28) B d4_28 rfl rfl ?_
  refine o_getF (pc := 29) B d4_29 (hw _ (List.mem_of_getElem? (i := 48) rfl)) (D3.R 7 (by decide)) ?_
  refine o_ldc (pc := 32) B (x := (-2147483648 : Int32)) d4_32 (hw _ (List.mem_of_getElem? (i := 50) rfl)) ?_
  have e7 : X3 7 = List.replicate (2 ^ j) 0 := by rw [eX3, own_upF_eq]
  have ge7 : n0 ≤ A3 7 := D3.2.2.2.2.2.2.2.2.2.1 7 (by decide)
  refine o_callS2 (pc := 34) B 0 d4_34 (hw _ (List.mem_of_getElem? (i := 51) rfl)) (hw _ (List.mem_of_getElem? (i := 52) rfl)) (hw _ (List.mem_of_getElem? (i := 53) rfl)) (hw _ (List.mem_of_getElem? (i := 54) rfl)) (by decide) pd5 rfl (by first | exact Nat.zero_le _ | exact Nat.le_of_ble_eq_true rfl | simp [Value.category]) (by first | decide | exact Nat.le_of_ble_eq_true rfl) (by first | decide | exact Nat.le_of_ble_eq_true rfl) (by first | decide | (dsimp only [orm4, orm5, orm6, orm9, orm10, orm11, orm12, orm13, orm14, orm15, orm16, orm17]; omega)) (by first | decide | (dsimp only [orm4, orm5, orm6, orm9, orm10, orm11, orm12, orm13, orm14, orm15, orm16, orm17]; omega)) rfl (oc5 l Z a0 hw n0 _ (A3 7) (-2147483648) (X3 7) (2 ^ j) (by rw [e7]; simp) ge7 (D3.Ar 7 (by decide))) ?_
  rintro _ h9 _ _ ⟨rfl, ⟨T, B9, eT, HT⟩, K9, rfl, rfl⟩ - -
  have D9 := D3.re 7 (by decide) K9 B9
  have OL9 := OL3.keep K9 (by intro x hx; rw [List.mem_singleton.mp hx]; exact ge7)
  refine o_aloadN (pc := 37) B d4_37 rfl rfl ?_
  refine o_iloadN (pc := 38) B d4_38 rfl ?_
  refine o_newarray (pc := 39) B (2 ^ j) (2 ^ j) d4_39 (hw _ (List.mem_of_getElem? (i := 16) rfl)) (rfl) (by first | decide | omega) (by first | decide | omega) (by first | decide | (dsimp only [orm4, orm5, orm6, orm9, orm10, orm11, orm12, orm13, orm14, orm15, orm16, orm17]; omega)) (by first | decide | (dsimp only [orm4, orm5, orm6, orm9, orm10, orm11, orm12, orm13, orm14, orm15, orm16, orm17]; omega)) ?_
  intro h10 E10 l10 B10
  have B10' : o_LA Z h10 h9.size (List.replicate (2 ^ j) 0) := by show o_AR Z h10 h9.size .long ((List.replicate (2 ^ j) (0 : Int64)).map Value.long); rw [List.map_replicate]; exact B10
  obtain ⟨v1, F1⟩ := (D9.ext E10).S.1
  refine o_putF (pc := 41) (ty := (.array .long)) B d4_41 (hw _ (List.mem_of_getElem? (i := 55) rfl)) (F1) ((D9.ext E10).E) (Or.inl (hw _ (List.mem_of_getElem? (i := 56) rfl))) (hw _ (List.mem_of_getElem? (i := 1) rfl)) (by decide) rfl rfl (D.go) ?_
  intro h11 W11
  have D11 := (D9.ext E10).misc W11 (fun i => own_sn_solePairs hw i) (slot_ne (C := own_DD) (Or.inl (hw _ (List.mem_of_getElem? (i := 35) rfl))) (Or.inl (hw _ (List.mem_of_getElem? (i := 56) rfl))) (by decide) (by decide : parseFieldDescriptor "I" = some .int) (by decide : parseFieldDescriptor "[J" = some (.array .long))) (slot_ne (C := own_DD) (Or.inr (hw _ (List.mem_of_getElem? (i := 27) rfl))) (Or.inl (hw _ (List.mem_of_getElem? (i := 56) rfl))) (by decide) (by decide : parseFieldDescriptor "I" = some .int) (by decide : parseFieldDescriptor "[J" = some (.array .long)))
  have F11 := F1.same W11
  have o9 : o ≠ h9.size := o_ne (by have := o_lt D9.E.lt; omega)
  have B11 := B10'.other W11 (Ne.symm o9)
  have OL11 := (OL9.ext E10).wr W11 D.go
  refine o_aloadN (pc := 44) B d4_44 rfl rfl ?_
  refine o_iloadN (pc := 45) B d4_45 rfl ?_
  refine o_newarray (pc := 46) B (2 ^ j) (2 ^ j) d4_46 (hw _ (List.mem_of_getElem? (i := 19) rfl)) (rfl) (by first | decide | omega) (by first | decide | omega) (by first | decide | (dsimp only [orm4, orm5, orm6, orm9, orm10, orm11, orm12, orm13, orm14, orm15, orm16, orm17]; omega)) (by first | decide | (dsimp only [orm4, orm5, orm6, orm9, orm10, orm11, orm12, orm13, orm14, orm15, orm16, orm17]; omega)) ?_
  intro h12 E12 l12 B12
  obtain ⟨v2, F2⟩ := (D11.ext E12).S.2.1
  refine o_putF (pc := 48) (ty := (.array .int)) B d4_48 (hw _ (List.mem_of_getElem? (i := 57) rfl)) (F2) ((D11.ext E12).E) (Or.inl (hw _ (List.mem_of_getElem? (i := 58) rfl))) (hw _ (List.mem_of_getElem? (i := 1) rfl)) (by decide) rfl rfl (D.go) ?_
  intro h13 W13
  have D13 := (D11.ext E12).misc W13 (fun i => own_sn_soleLabels hw i) (slot_ne (C := own_DD) (Or.inl (hw _ (List.mem_of_getElem? (i := 35) rfl))) (Or.inl (hw _ (List.mem_of_getElem? (i := 58) rfl))) (by decide) (by decide : parseFieldDescriptor "I" = some .int) (by decide : parseFieldDescriptor "[I" = some (.array .int))) (slot_ne (C := own_DD) (Or.inr (hw _ (List.mem_of_getElem? (i := 27) rfl))) (Or.inl (hw _ (List.mem_of_getElem? (i := 58) rfl))) (by decide) (by decide : parseFieldDescriptor "I" = some .int) (by decide : parseFieldDescriptor "[I" = some (.array .int)))
  have F13 := (F11.ext E12).other W13 (Or.inr (slot_ne (C := own_DD) (Or.inl (hw _ (List.mem_of_getElem? (i := 56) rfl))) (Or.inl (hw _ (List.mem_of_getElem? (i := 58) rfl))) (by decide) (by decide : parseFieldDescriptor "[J" = some (.array .long)) (by decide : parseFieldDescriptor "[I" = some (.array .int))))
  have B13 := (B11.ext E12).other W13 (Ne.symm o9)
  have OL13 := (OL11.ext E12).wr W13 D.go
  refine o_aloadN (pc := 51) B d4_51 rfl rfl ?_
  refine o_getF (pc := 52) B d4_52 (hw _ (List.mem_of_getElem? (i := 55) rfl)) (F13) ?_
  refine o_ldc2_w (pc := 55) B (x := (-1 : Int64)) d4_55 (hw _ (List.mem_of_getElem? (i := 59) rfl)) ?_
  have g9 : n0 ≤ h9.size := Nat.le_trans (o_le D.go) (Nat.le_of_lt (o_lt D9.E.lt))
  refine o_callS2 (pc := 58) B 0 d4_58 (hw _ (List.mem_of_getElem? (i := 60) rfl)) (hw _ (List.mem_of_getElem? (i := 61) rfl)) (hw _ (List.mem_of_getElem? (i := 53) rfl)) (hw _ (List.mem_of_getElem? (i := 62) rfl)) (by decide) pd6 rfl (by first | exact Nat.zero_le _ | exact Nat.le_of_ble_eq_true rfl | simp [Value.category]) (by first | decide | exact Nat.le_of_ble_eq_true rfl) (by first | decide | exact Nat.le_of_ble_eq_true rfl) (by first | decide | (dsimp only [orm4, orm5, orm6, orm9, orm10, orm11, orm12, orm13, orm14, orm15, orm16, orm17]; omega)) (by first | decide | (dsimp only [orm4, orm5, orm6, orm9, orm10, orm11, orm12, orm13, orm14, orm15, orm16, orm17]; omega)) rfl (oc6 l Z a0 hw n0 _ h9.size (-1) _ (2 ^ j) (by simp) g9 B13) ?_
  rintro _ h14 _ _ ⟨rfl, K14, rfl, rfl⟩ - -
  have D14 := D13.keep K14 (by simpa using o9) (fun i hi => by simp only [List.mem_singleton]; exact o_ne (by have := o_lt (D9.Ar i hi).lt; omega))
  have OL14 := OL13.keep K14 (by intro x hx; rw [List.mem_singleton.mp hx]; exact g9)
  have AA : ∀ i : Fin 12, i.val < 4 → own_upF X3 7 T i = X i := by
    intro i hi
    have n4 : i ≠ 4 := fun e => by rw [e] at hi; revert hi; decide
    have n5 : i ≠ 5 := fun e => by rw [e] at hi; revert hi; decide
    have n6 : i ≠ 6 := fun e => by rw [e] at hi; revert hi; decide
    have n7 : i ≠ 7 := fun e => by rw [e] at hi; revert hi; decide
    rw [own_upF_ne _ _ n7, eX3, own_upF_ne _ _ n7, eX2, own_upF_ne _ _ n6, eX1, own_upF_ne _ _ n5, eX0, own_upF_ne _ _ n4]
  have y4 : (own_upF X3 7 T 4).length = 2 ^ j := by rw [own_upF_ne _ _ (by decide), eX3, own_upF_ne _ _ (by decide), eX2, own_upF_ne _ _ (by decide), eX1, own_upF_ne _ _ (by decide), eX0, own_upF_eq]; simp
  have y5 : (own_upF X3 7 T 5).length = 2 ^ j := by rw [own_upF_ne _ _ (by decide), eX3, own_upF_ne _ _ (by decide), eX2, own_upF_ne _ _ (by decide), eX1, own_upF_eq]; simp
  have y6 : (own_upF X3 7 T 6).length = 2 ^ j := by rw [own_upF_ne _ _ (by decide), eX3, own_upF_ne _ _ (by decide), eX2, own_upF_eq]; simp
  have y7 : own_new (own_upF X3 7 T 7) j := by rw [own_upF_eq]; exact ⟨eT, HT⟩
  exact o_return (pc := 61) B d4_61 (by first | decide | (dsimp only [orm4, orm5, orm6, orm9, orm10, orm11, orm12, orm13, orm14, orm15, orm16, orm17]; omega)) (by first | decide | (dsimp only [orm4, orm5, orm6, orm9, orm10, orm11, orm12, orm13, orm14, orm15, orm16, orm17]; omega)) (⟨rfl, OL14, ⟨A3, own_upF X3 7 T, D14, AA, y4, y5, y6, y7⟩, by omega, by omega⟩)
/-- the first two nodes -/
def own_N0 : own_Nd := (2, fun _ => 0, fun _ => 0, fun _ => 0, fun i => if i = 0 then 0#8 else 255#8, 0)
abbrev orm1 : Room := { frames := 2, cells := 19, slots := 135, locals := 29 }
theorem own_W0 {X : Fin 12 → List Int32} (x0 : X 0 = [-1, -1, 0, 0]) (x1 : (X 1).length = 4) (x2 : (X 2).length = 4) (x3 : X 3 = List.replicate 8 0) (x4 : (X 4).length = 2 ^ 3) (x5 : (X 5).length = 2 ^ 3) (x6 : (X 6).length = 2 ^ 3) (x7 : own_new (X 7) 3) : own_W own_N0 X 2 3 := by
  refine ⟨⟨Nat.le_refl 2, rfl, rfl, fun i h2 h3 => absurd (show i < 2 from h3) (by omega)⟩, ⟨0, 0, by decide, by decide, rfl, fun z => absurd rfl z, fun z => absurd rfl z⟩, ⟨by rw [x0]; rfl, by rw [x0]; rfl, fun i h2 h3 => absurd (show i < 2 from h3) (by omega)⟩, ⟨by rw [x0]; rfl, x1, x2⟩, ⟨by decide, by decide, by decide⟩, ?_, ⟨by decide, by decide, by decide⟩, ⟨x4, x5, x6, x7.1⟩, fun s hs => Or.inl (x7.2 s hs)⟩
  rw [x3]; exact own_T.new own_H 3 own_N0
set_option maxRecDepth 65536 in
set_option maxHeartbeats 40000000 in
theorem oc1 (l : Launch) (Z : State) (a0 : Array Value) (hw : ∀ d ∈ tables_1, d.before a0 Z = true) (n0 : Nat) (h : Heap) (o : Addr) (nv : Nat) (hnv : 3 ≤ nv ∧ nv ≤ 4) (OL : Old Z n0 h) (D : own_E 0 Z n0 h o (fun _ => o) (fun _ => []) (.int 0) (.int 0)) : o_C l Z n0 oy1 prog_26_method_1_code 2 none orm1 [(.ref o), (.int (Int32.ofNat nv))] h (fun v h' kc nc => v = none ∧ Old Z n0 h' ∧ (∃ A X, own_CI Z n0 h' o A nv 2 3 h' A X own_N0 2 3 0 0) ∧ kc = 19 ∧ nc = 135) := by
  refine o_body (Ls := [.val (.ref o), .val (.int (Int32.ofNat nv))]) pn1 (by first | (simp [argsToLocals, Value.category]; done) | rfl) (fun κ B => ?_)
  refine o_aloadN (pc := 0) B d1_0 rfl rfl ?_
  refine o_initO (pc := 1) B (W := 0) d1_1 (hw _ (List.mem_of_getElem? (i := 6) rfl)) (hw _ (List.mem_of_getElem? (i := 7) rfl)) (hw _ (List.mem_of_getElem? (i := 8) rfl)) (by decide) (by first | exact Nat.zero_le _ | exact Nat.le_of_ble_eq_true rfl | simp [Value.category]) (by decide) rfl ?_
  refine o_aloadN (pc := 4) B d1_4 rfl rfl ?_
  refine o_new (pc := 5) B d1_5 (hw _ (List.mem_of_getElem? (i := 9) rfl)) (hw _ (List.mem_of_getElem? (i := 10) rfl)) (hw _ (List.mem_of_getElem? (i := 11) rfl)) (by first | decide | (dsimp only [orm1, orm3, orm4]; omega)) (by first | decide | (dsimp only [orm1, orm3, orm4]; omega)) ?_
  intro h1 X1 E1 FD _
  have D1 := D.ext X1
  have OL1 := OL.ext X1
  have gp : n0 ≤ h.size := Nat.le_trans (o_le D.go) (Nat.le_of_lt (o_lt D.E.lt))
  refine o_dup (pc := 8) B d1_8 rfl ?_
  refine o_callR0 (pc := 9) B 2 d1_9 rfl (hw _ (List.mem_of_getElem? (i := 12) rfl)) (hw _ (List.mem_of_getElem? (i := 13) rfl)) (hw _ (List.mem_of_getElem? (i := 11) rfl)) (hw _ (List.mem_of_getElem? (i := 14) rfl)) (by decide) pd3 rfl (by first | exact Nat.zero_le _ | exact Nat.le_of_ble_eq_true rfl | simp [Value.category]) (by first | decide | exact Nat.le_of_ble_eq_true rfl) (by first | decide | exact Nat.le_of_ble_eq_true rfl) (by first | decide | (dsimp only [orm1, orm3, orm4]; omega)) (by first | decide | (dsimp only [orm1, orm3, orm4]; omega)) rfl (oc3 l Z a0 hw n0 _ h.size gp E1 ⟨_, FD (Or.inl (hw _ (List.mem_of_getElem? (i := 18) rfl))) (by decide : parseFieldDescriptor "[J" = some (.array .long))⟩ ⟨_, FD (Or.inl (hw _ (List.mem_of_getElem? (i := 21) rfl))) (by decide : parseFieldDescriptor "[I" = some (.array .int))⟩ ⟨_, FD (Or.inl (hw _ (List.mem_of_getElem? (i := 23) rfl))) (by decide : parseFieldDescriptor "I" = some .int)⟩) ?_
  rintro _ h2 _ _ ⟨rfl, K2, rfl, rfl⟩ - -
  have D2 := D1.keep K2 (by simp only [List.mem_singleton]; exact o_ne (by have := o_lt D.E.lt; omega)) (fun i hi => absurd hi (Nat.not_lt_zero _))
  have OL2 := OL1.keep K2 (by intro x hx; rw [List.mem_singleton.mp hx]; exact gp)
  obtain ⟨v3, F3⟩ := D2.S.2.2.2.2
  refine o_putF (pc := 12) (ty := (.object "com/example/perdure/perdure/check/DecisionDiagrams$PairSet")) B d1_12 (hw _ (List.mem_of_getElem? (i := 24) rfl)) (F3) (D2.E) (Or.inr ⟨(hw _ (List.mem_of_getElem? (i := 25) rfl)), rfl, rfl⟩) (hw _ (List.mem_of_getElem? (i := 1) rfl)) (by decide) rfl rfl (D.go) ?_
  intro h3 W3
  have D3 := D2.misc W3 (fun i => own_sn_walked hw i) (slot_ne (C := own_DD) (Or.inl (hw _ (List.mem_of_getElem? (i := 35) rfl))) (Or.inr (hw _ (List.mem_of_getElem? (i := 25) rfl))) (by decide) (by decide : parseFieldDescriptor "I" = some .int) (by decide : parseFieldDescriptor "Lcom/example/perdure/perdure/check/DecisionDiagrams$PairSet;" = some (.object "com/example/perdure/perdure/check/DecisionDiagrams$PairSet"))) (slot_ne (C := own_DD) (Or.inr (hw _ (List.mem_of_getElem? (i := 27) rfl))) (Or.inr (hw _ (List.mem_of_getElem? (i := 25) rfl))) (by decide) (by decide : parseFieldDescriptor "I" = some .int) (by decide : parseFieldDescriptor "Lcom/example/perdure/perdure/check/DecisionDiagrams$PairSet;" = some (.object "com/example/perdure/perdure/check/DecisionDiagrams$PairSet")))
  have OL3 := OL2.wr W3 D.go
  refine o_aloadN (pc := 15) B d1_15 rfl rfl ?_
  refine o_iloadN (pc := 16) B d1_16 rfl ?_
  refine o_putF (pc := 17) (ty := .int) B d1_17 (hw _ (List.mem_of_getElem? (i := 26) rfl)) (D3.V) (D3.E) (Or.inr ⟨(hw _ (List.mem_of_getElem? (i := 27) rfl)), rfl, rfl⟩) (hw _ (List.mem_of_getElem? (i := 1) rfl)) (by decide) rfl rfl (D.go) ?_
  intro h4 W4
  have D4 := D3.vars hw W4
  have OL4 := OL3.wr W4 D.go
  refine o_aloadN (pc := 20) B d1_20 rfl rfl ?_
  refine o_iconst (pc := 21) B (4 : Int32) d1_21 (by decide) ?_
  refine o_newarray (pc := 22) B (4) (4) d1_22 (hw _ (List.mem_of_getElem? (i := 19) rfl)) (rfl) (by first | decide | omega) (by first | decide | omega) (by first | decide | (dsimp only [orm1, orm3, orm4]; omega)) (by first | decide | (dsimp only [orm1, orm3, orm4]; omega)) ?_
  intro h5 E5 l5 B5
  have C5 : o_IA Z h5 h4.size (List.replicate (4) 0) := by show o_AR Z h5 h4.size .int ((List.replicate (4) (0 : Int32)).map Value.int); rw [List.map_replicate]; exact B5
  clear B5
  have D5 := D4.ext E5
  have OL5 := OL4.ext E5
  have fr5 : ∀ i : Fin 12, i.val < 0 → h4.size ≠ (fun _ => o) i := fun i hi => o_ne (by have := o_lt (D4.Ar i hi).lt; omega)
  have fo5 : h4.size ≠ o := o_ne (by have := o_lt D4.E.lt; omega)
  have g5 : n0 ≤ h4.size := Nat.le_trans (o_le D.go) (Nat.le_of_lt (o_lt D4.E.lt))
  refine o_dup (pc := 24) B d1_24 rfl ?_
  refine o_iconst (pc := 25) B (0 : Int32) d1_25 (by decide) ?_
  refine o_iconst (pc := 26) B (-1 : Int32) d1_26 (by decide) ?_
  refine o_iastore (pc := 27) B (0) d1_27 (C5) (rfl) (own_mltI (by simp)) (g5) ?_
  intro h6 W6
  have C6 := o_IA.same C5 W6
  have D6 := D5.other W6 fo5 fr5
  have OL6 := OL5.wr W6 g5
  refine o_dup (pc := 28) B d1_28 rfl ?_
  refine o_iconst (pc := 29) B (1 : Int32) d1_29 (by decide) ?_
  refine o_iconst (pc := 30) B (-1 : Int32) d1_30 (by decide) ?_
  refine o_iastore (pc := 31) B (1) d1_31 (C6) (rfl) (own_mltI (by simp)) (g5) ?_
  intro h7 W7
  have C7 := o_IA.same C6 W7
  have D7 := D6.other W7 fo5 fr5
  have OL7 := OL6.wr W7 g5
  refine o_dup (pc := 32) B d1_32 rfl ?_
  refine o_iconst (pc := 33) B (2 : Int32) d1_33 (by decide) ?_
  refine o_iconst (pc := 34) B (0 : Int32) d1_34 (by decide) ?_
  refine o_iastore (pc := 35) B (2) d1_35 (C7) (rfl) (own_mltI (by simp)) (g5) ?_
  intro h8 W8
  have C8 := o_IA.same C7 W8
  have D8 := D7.other W8 fo5 fr5
  have OL8 := OL7.wr W8 g5
  refine o_dup (pc := 36) B d1_36 rfl ?_
  refine o_iconst (pc := 37) B (3 : Int32) d1_37 (by decide) ?_
  refine o_iconst (pc := 38) B (0 : Int32) d1_38 (by decide) ?_
  refine o_iastore (pc := 39) B (3) d1_39 (C8) (rfl) (own_mltI (by simp)) (g5) ?_
  intro h9 W9
  have C9 := o_IA.same C8 W9
  have D9 := D8.other W9 fo5 fr5
  have OL9 := OL8.wr W9 g5
  obtain ⟨u10, G10⟩ := D9.F 0
  refine o_putF (pc := 40) (ty := (.array .int)) B d1_40 (hw _ (List.mem_of_getElem? (i := 28) rfl)) (G10) (D9.E) (Or.inl (hw _ (List.mem_of_getElem? (i := 29) rfl))) (hw _ (List.mem_of_getElem? (i := 1) rfl)) (by decide) rfl rfl (D.go) ?_
  intro h10 W10
  have D10 := D9.put hw 0 rfl C9 g5 fo5 fr5 W10
  have OL10 := OL9.wr W10 D.go
  obtain ⟨A0_, eA0⟩ : ∃ y, y = own_upF (fun _ => o) 0 h4.size := ⟨_, rfl⟩
  obtain ⟨X0_, eX0⟩ : ∃ y, y = own_upF (fun _ => []) 0 (((((List.replicate (4) (0 : Int32)).set 0 (-1 : Int32)).set 1 (-1 : Int32)).set 2 (0 : Int32)).set 3 (0 : Int32)) := ⟨_, rfl⟩
  rw [← eA0, ← eX0] at D10
  refine o_aloadN (pc := 43) B d1_43 rfl rfl ?_
  refine o_iconst (pc := 44) B (4 : Int32) d1_44 (by decide) ?_
  refine o_newarray (pc := 45) B (4) (4) d1_45 (hw _ (List.mem_of_getElem? (i := 19) rfl)) (rfl) (by first | decide | omega) (by first | decide | omega) (by first | decide | (dsimp only [orm1, orm3, orm4]; omega)) (by first | decide | (dsimp only [orm1, orm3, orm4]; omega)) ?_
  intro h11 E11 l11 B11
  have C11 : o_IA Z h11 h10.size (List.replicate (4) 0) := by show o_AR Z h11 h10.size .int ((List.replicate (4) (0 : Int32)).map Value.int); rw [List.map_replicate]; exact B11
  clear B11
  have D11 := D10.ext E11
  have OL11 := OL10.ext E11
  have fr11 : ∀ i : Fin 12, i.val < 1 → h10.size ≠ A0_ i := fun i hi => o_ne (by have := o_lt (D10.Ar i hi).lt; omega)
  have fo11 : h10.size ≠ o := o_ne (by have := o_lt D10.E.lt; omega)
  have g11 : n0 ≤ h10.size := Nat.le_trans (o_le D.go) (Nat.le_of_lt (o_lt D10.E.lt))
  refine o_dup (pc := 47) B d1_47 rfl ?_
  refine o_iconst (pc := 48) B (0 : Int32) d1_48 (by decide) ?_
  refine o_iconst (pc := 49) B (0 : Int32) d1_49 (by decide) ?_
  refine o_iastore (pc := 50) B (0) d1_50 (C11) (rfl) (own_mltI (by simp)) (g11) ?_
  intro h12 W12
  have C12 := o_IA.same C11 W12
  have D12 := D11.other W12 fo11 fr11
  have OL12 := OL11.wr W12 g11
  refine o_dup (pc := 51) B d1_51 rfl ?_
  refine o_iconst (pc := 52) B (1 : Int32) d1_52 (by decide) ?_
  refine o_iconst (pc := 53) B (1 : Int32) d1_53 (by decide) ?_
  refine o_iastore (pc := 54) B (1) d1_54 (C12) (rfl) (own_mltI (by simp)) (g11) ?_
  intro h13 W13
  have C13 := o_IA.same C12 W13
  have D13 := D12.other W13 fo11 fr11
  have OL13 := OL12.wr W13 g11
  refine o_dup (pc := 55) B d1_55 rfl ?_
  refine o_iconst (pc := 56) B (2 : Int32) d1_56 (by decide) ?_
  refine o_iconst (pc := 57) B (0 : Int32) d1_57 (by decide) ?_
  refine o_iastore (pc := 58) B (2) d1_58 (C13) (rfl) (own_mltI (by simp)) (g11) ?_
  intro h14 W14
  have C14 := o_IA.same C13 W14
  have D14 := D13.other W14 fo11 fr11
  have OL14 := OL13.wr W14 g11
  refine o_dup (pc := 59) B d1_59 rfl ?_
  refine o_iconst (pc := 60) B (3 : Int32) d1_60 (by decide) ?_
  refine o_iconst (pc := 61) B (0 : Int32) d1_61 (by decide) ?_
  refine o_iastore (pc := 62) B (3) d1_62 (C14) (rfl) (own_mltI (by simp)) (g11) ?_
  intro h15 W15
  have C15 := o_IA.same C14 W15
  have D15 := D14.other W15 fo11 fr11
  have OL15 := OL14.wr W15 g11
  obtain ⟨u16, G16⟩ := D15.F 1
  refine o_putF (pc := 63) (ty := (.array .int)) B d1_63 (hw _ (List.mem_of_getElem? (i := 30) rfl)) (G16) (D15.E) (Or.inl (hw _ (List.mem_of_getElem? (i := 31) rfl))) (hw _ (List.mem_of_getElem? (i := 1) rfl)) (by decide) rfl rfl (D.go) ?_
  intro h16 W16
  have D16 := D15.put hw 1 rfl C15 g11 fo11 fr11 W16
  have OL16 := OL15.wr W16 D.go
  obtain ⟨A1_, eA1⟩ : ∃ y, y = own_upF A0_ 1 h10.size := ⟨_, rfl⟩
  obtain ⟨X1_, eX1⟩ : ∃ y, y = own_upF X0_ 1 (((((List.replicate (4) (0 : Int32)).set 0 (0 : Int32)).set 1 (1 : Int32)).set 2 (0 : Int32)).set 3 (0 : Int32)) := ⟨_, rfl⟩
  rw [← eA1, ← eX1] at D16
  refine o_aloadN (pc := 66) B d1_66 rfl rfl ?_
  refine o_iconst (pc := 67) B (4 : Int32) d1_67 (by decide) ?_
  refine o_newarray (pc := 68) B (4) (4) d1_68 (hw _ (List.mem_of_getElem? (i := 19) rfl)) (rfl) (by first | decide | omega) (by first | decide | omega) (by first | decide | (dsimp only [orm1, orm3, orm4]; omega)) (by first | decide | (dsimp only [orm1, orm3, orm4]; omega)) ?_
  intro h17 E17 l17 B17
  have C17 : o_IA Z h17 h16.size (List.replicate (4) 0) := by show o_AR Z h17 h16.size .int ((List.replicate (4) (0 : Int32)).map Value.int); rw [List.map_replicate]; exact B17
  clear B17
  have D17 := D16.ext E17
  have OL17 := OL16.ext E17
  have fr17 : ∀ i : Fin 12, i.val < 2 → h16.size ≠ A1_ i := fun i hi => o_ne (by have := o_lt (D16.Ar i hi).lt; omega)
  have fo17 : h16.size ≠ o := o_ne (by have := o_lt D16.E.lt; omega)
  have g17 : n0 ≤ h16.size := Nat.le_trans (o_le D.go) (Nat.le_of_lt (o_lt D16.E.lt))
  refine o_dup (pc := 70) B d1_70 rfl ?_
  refine o_iconst (pc := 71) B (0 : Int32) d1_71 (by decide) ?_
  refine o_iconst (pc := 72) B (0 : Int32) d1_72 (by decide) ?_
  refine o_iastore (pc := 73) B (0) d1_73 (C17) (rfl) (own_mltI (by simp)) (g17) ?_
  intro h18 W18
  have C18 := o_IA.same C17 W18
  have D18 := D17.other W18 fo17 fr17
  have OL18 := OL17.wr W18 g17
  refine o_dup (pc := 74) B d1_74 rfl ?_
  refine o_iconst (pc := 75) B (1 : Int32) d1_75 (by decide) ?_
  refine o_iconst (pc := 76) B (1 : Int32) d1_76 (by decide) ?_
  refine o_iastore (pc := 77) B (1) d1_77 (C18) (rfl) (own_mltI (by simp)) (g17) ?_
  intro h19 W19
  have C19 := o_IA.same C18 W19
  have D19 := D18.other W19 fo17 fr17
  have OL19 := OL18.wr W19 g17
  refine o_dup (pc := 78) B d1_78 rfl ?_
  refine o_iconst (pc := 79) B (2 : Int32) d1_79 (by decide) ?_
  refine o_iconst (pc := 80) B (0 : Int32) d1_80 (by decide) ?_
  refine o_iastore (pc := 81) B (2) d1_81 (C19) (rfl) (own_mltI (by simp)) (g17) ?_
  intro h20 W20
  have C20 := o_IA.same C19 W20
  have D20 := D19.other W20 fo17 fr17
  have OL20 := OL19.wr W20 g17
  refine o_dup (pc := 82) B d1_82 rfl ?_
  refine o_iconst (pc := 83) B (3 : Int32) d1_83 (by decide) ?_
  refine o_iconst (pc := 84) B (0 : Int32) d1_84 (by decide) ?_
  refine o_iastore (pc := 85) B (3) d1_85 (C20) (rfl) (own_mltI (by simp)) (g17) ?_
  intro h21 W21
  have C21 := o_IA.same C20 W21
  have D21 := D20.other W21 fo17 fr17
  have OL21 := OL20.wr W21 g17
  obtain ⟨u22, G22⟩ := D21.F 2
  refine o_putF (pc := 86) (ty := (.array .int)) B d1_86 (hw _ (List.mem_of_getElem? (i := 32) rfl)) (G22) (D21.E) (Or.inl (hw _ (List.mem_of_getElem? (i := 33) rfl))) (hw _ (List.mem_of_getElem? (i := 1) rfl)) (by decide) rfl rfl (D.go) ?_
  intro h22 W22
  have D22 := D21.put hw 2 rfl C21 g17 fo17 fr17 W22
  have OL22 := OL21.wr W22 D.go
  obtain ⟨A2_, eA2⟩ : ∃ y, y = own_upF A1_ 2 h16.size := ⟨_, rfl⟩
  obtain ⟨X2_, eX2⟩ : ∃ y, y = own_upF X1_ 2 (((((List.replicate (4) (0 : Int32)).set 0 (0 : Int32)).set 1 (1 : Int32)).set 2 (0 : Int32)).set 3 (0 : Int32)) := ⟨_, rfl⟩
  rw [← eA2, ← eX2] at D22
  refine o_aloadN (pc := 89) B d1_89 rfl rfl ?_
  refine o_iconst (pc := 90) B (2 : Int32) d1_90 (by decide) ?_
  refine o_putF (pc := 91) (ty := .int) B d1_91 (hw _ (List.mem_of_getElem? (i := 34) rfl)) (D22.N) (D22.E) (Or.inl (hw _ (List.mem_of_getElem? (i := 35) rfl))) (hw _ (List.mem_of_getElem? (i := 1) rfl)) (by decide) rfl rfl (D.go) ?_
  intro h23 W23
  have D23 := D22.nodes hw W23
  have OL23 := OL22.wr W23 D.go
  refine o_aloadN (pc := 94) B d1_94 rfl rfl ?_
  refine o_bipush (pc := 95) B (8 : Int32) d1_95 (by decide) ?_
  refine o_newarray (pc := 97) B (8) (8) d1_97 (hw _ (List.mem_of_getElem? (i := 19) rfl)) (rfl) (by first | decide | omega) (by first | decide | omega) (by first | decide | (dsimp only [orm1, orm3, orm4]; omega)) (by first | decide | (dsimp only [orm1, orm3, orm4]; omega)) ?_
  intro h24 E24 l24 B24
  have C24 : o_IA Z h24 h23.size (List.replicate (8) 0) := by show o_AR Z h24 h23.size .int ((List.replicate (8) (0 : Int32)).map Value.int); rw [List.map_replicate]; exact B24
  clear B24
  have D24 := D23.ext E24
  have OL24 := OL23.ext E24
  have fr24 : ∀ i : Fin 12, i.val < 3 → h23.size ≠ A2_ i := fun i hi => o_ne (by have := o_lt (D23.Ar i hi).lt; omega)
  have fo24 : h23.size ≠ o := o_ne (by have := o_lt D23.E.lt; omega)
  have g24 : n0 ≤ h23.size := Nat.le_trans (o_le D.go) (Nat.le_of_lt (o_lt D23.E.lt))
  obtain ⟨u25, G25⟩ := D24.F 3
  refine o_putF (pc := 99) (ty := (.array .int)) B d1_99 (hw _ (List.mem_of_getElem? (i := 36) rfl)) (G25) (D24.E) (Or.inl (hw _ (List.mem_of_getElem? (i := 37) rfl))) (hw _ (List.mem_of_getElem? (i := 1) rfl)) (by decide) rfl rfl (D.go) ?_
  intro h25 W25
  have D25 := D24.put hw 3 rfl C24 g24 fo24 fr24 W25
  have OL25 := OL24.wr W25 D.go
  obtain ⟨A3_, eA3⟩ : ∃ y, y = own_upF A2_ 3 h23.size := ⟨_, rfl⟩
  obtain ⟨X3_, eX3⟩ : ∃ y, y = own_upF X2_ 3 (List.replicate (8) (0 : Int32)) := ⟨_, rfl⟩
  rw [← eA3, ← eX3] at D25
  refine o_aloadN (pc := 102) B d1_102 rfl rfl ?_
  refine o_aloadN (pc := 103) B d1_103 rfl rfl ?_
  refine o_getF (pc := 104) B d1_104 (hw _ (List.mem_of_getElem? (i := 36) rfl)) (D25.R 3 (by decide)) ?_
  have x3 : X3_ 3 = List.replicate 8 0 := by rw [eX3, own_upF_eq]
  refine o_arraylen (pc := 107) B (Int32.ofNat (2 ^ 3)) d1_107 (D25.Ar 3 (by decide)) (by rw [List.length_map, x3]; rfl) ?_
  refine o_callP1 (pc := 108) B 0 d1_108 (hw _ (List.mem_of_getElem? (i := 38) rfl)) (hw _ (List.mem_of_getElem? (i := 39) rfl)) (hw _ (List.mem_of_getElem? (i := 40) rfl)) (hw _ (List.mem_of_getElem? (i := 1) rfl)) (hw _ (List.mem_of_getElem? (i := 2) rfl)) (hw _ (List.mem_of_getElem? (i := 41) rfl)) (by decide) pd4 rfl (by first | exact Nat.zero_le _ | exact Nat.le_of_ble_eq_true rfl | simp [Value.category]) (by first | decide | exact Nat.le_of_ble_eq_true rfl) (by first | decide | exact Nat.le_of_ble_eq_true rfl) (by first | decide | (dsimp only [orm1, orm3, orm4]; omega)) (by first | decide | (dsimp only [orm1, orm3, orm4]; omega)) rfl (D25.E) (oc4b l Z a0 hw n0 _ o A3_ X3_ _ _ 3 (by decide) OL25 D25) ?_
  rintro _ h26 _ _ ⟨rfl, OL26, ⟨A7_, X7_, D26, AA, y4, y5, y6, y7⟩, rfl, rfl⟩ - -
  refine o_aloadN (pc := 111) B d1_111 rfl rfl ?_
  refine o_iloadN (pc := 112) B d1_112 rfl ?_
  refine o_iconst (pc := 113) B (1 : Int32) d1_113 (by decide) ?_
  refine o_iadd (pc := 114) B d1_114 ?_
  rw [show Int32.ofNat nv + 1 = Int32.ofNat (nv + 1) from own_one nv]
  refine o_newarray (pc := 115) B (nv + 1) (5) d1_115 (hw _ (List.mem_of_getElem? (i := 19) rfl)) (rfl) (by first | decide | omega) (by first | decide | omega) (by first | decide | (dsimp only [orm1, orm3, orm4]; omega)) (by first | decide | (dsimp only [orm1, orm3, orm4]; omega)) ?_
  intro h27 E27 l27 B27
  have C27 : o_IA Z h27 h26.size (List.replicate (nv + 1) 0) := by show o_AR Z h27 h26.size .int ((List.replicate (nv + 1) (0 : Int32)).map Value.int); rw [List.map_replicate]; exact B27
  clear B27
  have D27 := D26.ext E27
  have OL27 := OL26.ext E27
  have fr27 : ∀ i : Fin 12, i.val < 8 → h26.size ≠ A7_ i := fun i hi => o_ne (by have := o_lt (D26.Ar i hi).lt; omega)
  have fo27 : h26.size ≠ o := o_ne (by have := o_lt D26.E.lt; omega)
  have g27 : n0 ≤ h26.size := Nat.le_trans (o_le D.go) (Nat.le_of_lt (o_lt D26.E.lt))
  obtain ⟨u28, G28⟩ := D27.F 8
  refine o_putF (pc := 117) (ty := (.array .int)) B d1_117 (hw _ (List.mem_of_getElem? (i := 63) rfl)) (G28) (D27.E) (Or.inr ⟨(hw _ (List.mem_of_getElem? (i := 64) rfl)), rfl, rfl⟩) (hw _ (List.mem_of_getElem? (i := 1) rfl)) (by decide) rfl rfl (D.go) ?_
  intro h28 W28
  have D28 := D27.put hw 8 rfl C27 g27 fo27 fr27 W28
  have OL28 := OL27.wr W28 D.go
  obtain ⟨A8_, eA8⟩ : ∃ y, y = own_upF A7_ 8 h26.size := ⟨_, rfl⟩
  obtain ⟨X8_, eX8⟩ : ∃ y, y = own_upF X7_ 8 (List.replicate (nv + 1) (0 : Int32)) := ⟨_, rfl⟩
  rw [← eA8, ← eX8] at D28
  refine o_aloadN (pc := 120) B d1_120 rfl rfl ?_
  refine o_iloadN (pc := 121) B d1_121 rfl ?_
  refine o_iconst (pc := 122) B (1 : Int32) d1_122 (by decide) ?_
  refine o_iadd (pc := 123) B d1_123 ?_
  rw [show Int32.ofNat nv + 1 = Int32.ofNat (nv + 1) from own_one nv]
  refine o_newarray (pc := 124) B (nv + 1) (5) d1_124 (hw _ (List.mem_of_getElem? (i := 19) rfl)) (rfl) (by first | decide | omega) (by first | decide | omega) (by first | decide | (dsimp only [orm1, orm3, orm4]; omega)) (by first | decide | (dsimp only [orm1, orm3, orm4]; omega)) ?_
  intro h29 E29 l29 B29
  have C29 : o_IA Z h29 h28.size (List.replicate (nv + 1) 0) := by show o_AR Z h29 h28.size .int ((List.replicate (nv + 1) (0 : Int32)).map Value.int); rw [List.map_replicate]; exact B29
  clear B29
  have D29 := D28.ext E29
  have OL29 := OL28.ext E29
  have fr29 : ∀ i : Fin 12, i.val < 9 → h28.size ≠ A8_ i := fun i hi => o_ne (by have := o_lt (D28.Ar i hi).lt; omega)
  have fo29 : h28.size ≠ o := o_ne (by have := o_lt D28.E.lt; omega)
  have g29 : n0 ≤ h28.size := Nat.le_trans (o_le D.go) (Nat.le_of_lt (o_lt D28.E.lt))
  obtain ⟨u30, G30⟩ := D29.F 9
  refine o_putF (pc := 126) (ty := (.array .int)) B d1_126 (hw _ (List.mem_of_getElem? (i := 65) rfl)) (G30) (D29.E) (Or.inr ⟨(hw _ (List.mem_of_getElem? (i := 66) rfl)), rfl, rfl⟩) (hw _ (List.mem_of_getElem? (i := 1) rfl)) (by decide) rfl rfl (D.go) ?_
  intro h30 W30
  have D30 := D29.put hw 9 rfl C29 g29 fo29 fr29 W30
  have OL30 := OL29.wr W30 D.go
  obtain ⟨A9_, eA9⟩ : ∃ y, y = own_upF A8_ 9 h28.size := ⟨_, rfl⟩
  obtain ⟨X9_, eX9⟩ : ∃ y, y = own_upF X8_ 9 (List.replicate (nv + 1) (0 : Int32)) := ⟨_, rfl⟩
  rw [← eA9, ← eX9] at D30
  refine o_aloadN (pc := 129) B d1_129 rfl rfl ?_
  refine o_iloadN (pc := 130) B d1_130 rfl ?_
  refine o_iconst (pc := 131) B (1 : Int32) d1_131 (by decide) ?_
  refine o_iadd (pc := 132) B d1_132 ?_
  rw [show Int32.ofNat nv + 1 = Int32.ofNat (nv + 1) from own_one nv]
  refine o_newarray (pc := 133) B (nv + 1) (5) d1_133 (hw _ (List.mem_of_getElem? (i := 19) rfl)) (rfl) (by first | decide | omega) (by first | decide | omega) (by first | decide | (dsimp only [orm1, orm3, orm4]; omega)) (by first | decide | (dsimp only [orm1, orm3, orm4]; omega)) ?_
  intro h31 E31 l31 B31
  have C31 : o_IA Z h31 h30.size (List.replicate (nv + 1) 0) := by show o_AR Z h31 h30.size .int ((List.replicate (nv + 1) (0 : Int32)).map Value.int); rw [List.map_replicate]; exact B31
  clear B31
  have D31 := D30.ext E31
  have OL31 := OL30.ext E31
  have fr31 : ∀ i : Fin 12, i.val < 10 → h30.size ≠ A9_ i := fun i hi => o_ne (by have := o_lt (D30.Ar i hi).lt; omega)
  have fo31 : h30.size ≠ o := o_ne (by have := o_lt D30.E.lt; omega)
  have g31 : n0 ≤ h30.size := Nat.le_trans (o_le D.go) (Nat.le_of_lt (o_lt D30.E.lt))
  obtain ⟨u32, G32⟩ := D31.F 10
  refine o_putF (pc := 135) (ty := (.array .int)) B d1_135 (hw _ (List.mem_of_getElem? (i := 67) rfl)) (G32) (D31.E) (Or.inr ⟨(hw _ (List.mem_of_getElem? (i := 68) rfl)), rfl, rfl⟩) (hw _ (List.mem_of_getElem? (i := 1) rfl)) (by decide) rfl rfl (D.go) ?_
  intro h32 W32
  have D32 := D31.put hw 10 rfl C31 g31 fo31 fr31 W32
  have OL32 := OL31.wr W32 D.go
  obtain ⟨A10_, eA10⟩ : ∃ y, y = own_upF A9_ 10 h30.size := ⟨_, rfl⟩
  obtain ⟨X10_, eX10⟩ : ∃ y, y = own_upF X9_ 10 (List.replicate (nv + 1) (0 : Int32)) := ⟨_, rfl⟩
  rw [← eA10, ← eX10] at D32
  refine o_aloadN (pc := 138) B d1_138 rfl rfl ?_
  refine o_iloadN (pc := 139) B d1_139 rfl ?_
  refine o_iconst (pc := 140) B (2 : Int32) d1_140 (by decide) ?_
  refine o_iadd (pc := 141) B d1_141 ?_
  rw [show Int32.ofNat nv + 2 = Int32.ofNat (nv + 2) from (Int32.ofNat_add nv 2).symm]
  refine o_newarray (pc := 142) B (nv + 2) (6) d1_142 (hw _ (List.mem_of_getElem? (i := 19) rfl)) (rfl) (by first | decide | omega) (by first | decide | omega) (by first | decide | (dsimp only [orm1, orm3, orm4]; omega)) (by first | decide | (dsimp only [orm1, orm3, orm4]; omega)) ?_
  intro h33 E33 l33 B33
  have C33 : o_IA Z h33 h32.size (List.replicate (nv + 2) 0) := by show o_AR Z h33 h32.size .int ((List.replicate (nv + 2) (0 : Int32)).map Value.int); rw [List.map_replicate]; exact B33
  clear B33
  have D33 := D32.ext E33
  have OL33 := OL32.ext E33
  have fr33 : ∀ i : Fin 12, i.val < 11 → h32.size ≠ A10_ i := fun i hi => o_ne (by have := o_lt (D32.Ar i hi).lt; omega)
  have fo33 : h32.size ≠ o := o_ne (by have := o_lt D32.E.lt; omega)
  have g33 : n0 ≤ h32.size := Nat.le_trans (o_le D.go) (Nat.le_of_lt (o_lt D32.E.lt))
  obtain ⟨u34, G34⟩ := D33.F 11
  refine o_putF (pc := 144) (ty := (.array .int)) B d1_144 (hw _ (List.mem_of_getElem? (i := 69) rfl)) (G34) (D33.E) (Or.inr ⟨(hw _ (List.mem_of_getElem? (i := 70) rfl)), rfl, rfl⟩) (hw _ (List.mem_of_getElem? (i := 1) rfl)) (by decide) rfl rfl (D.go) ?_
  intro h34 W34
  have D34 := D33.put hw 11 rfl C33 g33 fo33 fr33 W34
  have OL34 := OL33.wr W34 D.go
  obtain ⟨A11_, eA11⟩ : ∃ y, y = own_upF A10_ 11 h32.size := ⟨_, rfl⟩
  obtain ⟨X11_, eX11⟩ : ∃ y, y = own_upF X10_ 11 (List.replicate (nv + 2) (0 : Int32)) := ⟨_, rfl⟩
  rw [← eA11, ← eX11] at D34
  refine o_aloadN (pc := 147) B d1_147 rfl rfl ?_
  refine o_iloadN (pc := 148) B d1_148 rfl ?_
  refine o_iconst (pc := 149) B (1 : Int32) d1_149 (by decide) ?_
  refine o_iadd (pc := 150) B d1_150 ?_
  rw [show Int32.ofNat nv + 1 = Int32.ofNat (nv + 1) from own_one nv]
  refine o_newarray (pc := 151) B (nv + 1) (5) d1_151 (hw _ (List.mem_of_getElem? (i := 19) rfl)) (rfl) (by first | decide | omega) (by first | decide | omega) (by first | decide | (dsimp only [orm1, orm3, orm4]; omega)) (by first | decide | (dsimp only [orm1, orm3, orm4]; omega)) ?_
  intro h35 E35 l35 B35
  have D35 := D34.ext E35
  obtain ⟨u36, G36⟩ := D35.S.2.2.1
  refine o_putF (pc := 153) (ty := (.array .int)) B d1_153 (hw _ (List.mem_of_getElem? (i := 71) rfl)) (G36) (D35.E) (Or.inr ⟨(hw _ (List.mem_of_getElem? (i := 72) rfl)), rfl, rfl⟩) (hw _ (List.mem_of_getElem? (i := 1) rfl)) (by decide) rfl rfl (D.go) ?_
  intro h36 W36
  have D36 := D35.misc W36 (fun i => own_sn_unwalkedSets hw i) (slot_ne (C := own_DD) (Or.inl (hw _ (List.mem_of_getElem? (i := 35) rfl))) (Or.inr (hw _ (List.mem_of_getElem? (i := 72) rfl))) (by decide) (by decide : parseFieldDescriptor "I" = some .int) (by decide : parseFieldDescriptor "[I" = some (.array .int))) (slot_ne (C := own_DD) (Or.inr (hw _ (List.mem_of_getElem? (i := 27) rfl))) (Or.inr (hw _ (List.mem_of_getElem? (i := 72) rfl))) (by decide) (by decide : parseFieldDescriptor "I" = some .int) (by decide : parseFieldDescriptor "[I" = some (.array .int)))
  have OL36 := (OL34.ext E35).wr W36 D.go
  refine o_aloadN (pc := 156) B d1_156 rfl rfl ?_
  refine o_iloadN (pc := 157) B d1_157 rfl ?_
  refine o_iconst (pc := 158) B (1 : Int32) d1_158 (by decide) ?_
  refine o_iadd (pc := 159) B d1_159 ?_
  rw [show Int32.ofNat nv + 1 = Int32.ofNat (nv + 1) from own_one nv]
  refine o_newarray (pc := 160) B (nv + 1) (5) d1_160 (hw _ (List.mem_of_getElem? (i := 19) rfl)) (rfl) (by first | decide | omega) (by first | decide | omega) (by first | decide | (dsimp only [orm1, orm3, orm4]; omega)) (by first | decide | (dsimp only [orm1, orm3, orm4]; omega)) ?_
  intro h37 E37 l37 B37
  have D37 := D36.ext E37
  obtain ⟨u38, G38⟩ := D37.S.2.2.2.1
  refine o_putF (pc := 162) (ty := (.array .int)) B d1_162 (hw _ (List.mem_of_getElem? (i := 73) rfl)) (G38) (D37.E) (Or.inr ⟨(hw _ (List.mem_of_getElem? (i := 74) rfl)), rfl, rfl⟩) (hw _ (List.mem_of_getElem? (i := 1) rfl)) (by decide) rfl rfl (D.go) ?_
  intro h38 W38
  have D38 := D37.misc W38 (fun i => own_sn_unwalkedLabellings hw i) (slot_ne (C := own_DD) (Or.inl (hw _ (List.mem_of_getElem? (i := 35) rfl))) (Or.inr (hw _ (List.mem_of_getElem? (i := 74) rfl))) (by decide) (by decide : parseFieldDescriptor "I" = some .int) (by decide : parseFieldDescriptor "[I" = some (.array .int))) (slot_ne (C := own_DD) (Or.inr (hw _ (List.mem_of_getElem? (i := 27) rfl))) (Or.inr (hw _ (List.mem_of_getElem? (i := 74) rfl))) (by decide) (by decide : parseFieldDescriptor "I" = some .int) (by decide : parseFieldDescriptor "[I" = some (.array .int)))
  have OL38 := (OL36.ext E37).wr W38 D.go
  have DF := D38.full
  have z0 : X11_ 0 = [-1, -1, 0, 0] := by rw [eX11, own_upF_ne _ _ (by decide), eX10, own_upF_ne _ _ (by decide), eX9, own_upF_ne _ _ (by decide), eX8, own_upF_ne _ _ (by decide), AA 0 (by decide), eX3, own_upF_ne _ _ (by decide), eX2, own_upF_ne _ _ (by decide), eX1, own_upF_ne _ _ (by decide), eX0, own_upF_eq]; rfl
  have z1 : (X11_ 1).length = 4 := by rw [eX11, own_upF_ne _ _ (by decide), eX10, own_upF_ne _ _ (by decide), eX9, own_upF_ne _ _ (by decide), eX8, own_upF_ne _ _ (by decide), AA 1 (by decide), eX3, own_upF_ne _ _ (by decide), eX2, own_upF_ne _ _ (by decide), eX1, own_upF_eq]; rfl
  have z2 : (X11_ 2).length = 4 := by rw [eX11, own_upF_ne _ _ (by decide), eX10, own_upF_ne _ _ (by decide), eX9, own_upF_ne _ _ (by decide), eX8, own_upF_ne _ _ (by decide), AA 2 (by decide), eX3, own_upF_ne _ _ (by decide), eX2, own_upF_eq]; rfl
  have z3 : X11_ 3 = List.replicate 8 0 := by rw [eX11, own_upF_ne _ _ (by decide), eX10, own_upF_ne _ _ (by decide), eX9, own_upF_ne _ _ (by decide), eX8, own_upF_ne _ _ (by decide), AA 3 (by decide)]; exact x3
  have z4 : (X11_ 4).length = 2 ^ 3 := by rw [eX11, own_upF_ne _ _ (by decide), eX10, own_upF_ne _ _ (by decide), eX9, own_upF_ne _ _ (by decide), eX8, own_upF_ne _ _ (by decide)]; exact y4
  have z5 : (X11_ 5).length = 2 ^ 3 := by rw [eX11, own_upF_ne _ _ (by decide), eX10, own_upF_ne _ _ (by decide), eX9, own_upF_ne _ _ (by decide), eX8, own_upF_ne _ _ (by decide)]; exact y5
  have z6 : (X11_ 6).length = 2 ^ 3 := by rw [eX11, own_upF_ne _ _ (by decide), eX10, own_upF_ne _ _ (by decide), eX9, own_upF_ne _ _ (by decide), eX8, own_upF_ne _ _ (by decide)]; exact y6
  have z7 : own_new (X11_ 7) 3 := by rw [eX11, own_upF_ne _ _ (by decide), eX10, own_upF_ne _ _ (by decide), eX9, own_upF_ne _ _ (by decide), eX8, own_upF_ne _ _ (by decide)]; exact y7
  have z8 : (X11_ 8).length = nv + 1 := by rw [eX11, own_upF_ne _ _ (by decide), eX10, own_upF_ne _ _ (by decide), eX9, own_upF_ne _ _ (by decide), eX8, own_upF_eq]; simp
  have z9 : (X11_ 9).length = nv + 1 := by rw [eX11, own_upF_ne _ _ (by decide), eX10, own_upF_ne _ _ (by decide), eX9, own_upF_eq]; simp
  have z10 : (X11_ 10).length = nv + 1 := by rw [eX11, own_upF_ne _ _ (by decide), eX10, own_upF_eq]; simp
  have z11 : (X11_ 11).length = nv + 2 := by rw [eX11, own_upF_eq]; simp
  exact o_return (pc := 165) B d1_165 (by first | decide | (dsimp only [orm1, orm3, orm4]; omega)) (by first | decide | (dsimp only [orm1, orm3, orm4]; omega)) (⟨rfl, OL38, ⟨A11_, X11_, DF, own_W0 z0 z1 z2 z3 z4 z5 z6 z7, ⟨z8, z9, z10, z11⟩, Keep.refl _ _, fun _ => Or.inl rfl, ⟨Nat.le_refl _, Nat.le_refl _⟩, rfl, rfl⟩, rfl, rfl⟩)
-- CUT
theorem own_eqr {s : State} {args : Array Value} {a b : Term} {r : Addr} (hb : b.eval args s none [] s = some (.ref r)) (h : (Cond.eq a b).value args s none s [] = some true) : a.eval args s none [] s = some (.ref r) := by
  cases ha : a.eval args s none [] s with
  | none => simp [Cond.value, ha] at h
  | some x => cases x <;> simp [Cond.value, ha, hb] at h ⊢; exact h
theorem own_len4 {s : State} {args : Array Value} {t : Term} {x : Addr} {cl : Cell} (ht : t.eval args s none [] s = some (.ref x)) (ha : s.arrayAt? x = some cl) (h : (Term.length t).eval args s none [] s = some (.int 4)) : cl.slots.size = 4 := by
  simp [Term.eval, ht, ha] at h
  obtain ⟨h1, h2⟩ := h
  have e := congrArg Int32.toInt h2
  rw [show cl.slots.size.toInt32 = Int32.ofNat cl.slots.size from rfl, Int32.toInt_ofNat_of_lt h1] at e
  have z : (4 : Int32).toInt = 4 := rfl
  omega
set_option maxRecDepth 65536 in
theorem own_start (s : State) (args : Array Value) (hw : ∀ d ∈ tables_1, d.before args s = true) (hn : narrow_1.value args s none s [] = some true) : ∃ b arr, own_SC s b arr := by
  obtain ⟨x1, hn⟩ := and_e (show (Jvm.Cond.and _ _).value args s none s [] = some true from hn)
  obtain ⟨x2, hn⟩ := and_e hn
  obtain ⟨x3, hn⟩ := and_e hn
  obtain ⟨x4, hn⟩ := and_e hn
  obtain ⟨x5, hn⟩ := and_e hn
  obtain ⟨x6, hn⟩ := and_e hn
  obtain ⟨x7, hn⟩ := and_e hn
  obtain ⟨x8, hn⟩ := and_e hn
  obtain ⟨x9, hn⟩ := and_e hn
  obtain ⟨x10, hn⟩ := and_e hn
  obtain ⟨x11, hn⟩ := and_e hn
  obtain ⟨x12, hn⟩ := and_e hn
  obtain ⟨x13, x14⟩ := and_e hn
  obtain ⟨b3, e3⟩ := exa_v x1
  obtain ⟨b0, e0⟩ := exa_v x6
  obtain ⟨b2, e2⟩ := exa_v x9
  obtain ⟨b1, e1⟩ := exa_v x12
  obtain ⟨ar, ea⟩ := arr_v x3
  obtain ⟨cl, A⟩ := Arr.start ea x3
  have at_ := A.fin (Vm.Alike.refl _)
  have sz := own_len4 ea at_ (eqv_i (Term.int_eval (4)) x4)
  have s3 := (elem_f ea (Term.int_eval (3)) at_ (by decide)).symm.trans (own_eqr e3 x5)
  have s0 := (elem_f ea (Term.int_eval (0)) at_ (by decide)).symm.trans (own_eqr e0 x8)
  have s2 := (elem_f ea (Term.int_eval (2)) at_ (by decide)).symm.trans (own_eqr e2 x11)
  have s1 := (elem_f ea (Term.int_eval (1)) at_ (by decide)).symm.trans (own_eqr e1 x14)
  refine ⟨fun i => match i with | 0 => b0 | 1 => b1 | 2 => b2 | _ => b3, ar, fun i hi => ?_, Sta.start e0 (Or.inr ⟨(hw _ (List.mem_of_getElem? (i := 135) rfl)), (hw _ (List.mem_of_getElem? (i := 176) rfl))⟩), Sta.start e1 (Or.inr ⟨(hw _ (List.mem_of_getElem? (i := 135) rfl)), (hw _ (List.mem_of_getElem? (i := 207) rfl))⟩), Sta.start e2 (Or.inr ⟨(hw _ (List.mem_of_getElem? (i := 135) rfl)), (hw _ (List.mem_of_getElem? (i := 181) rfl))⟩), Sta.start e3 (Or.inr ⟨(hw _ (List.mem_of_getElem? (i := 135) rfl)), (hw _ (List.mem_of_getElem? (i := 136) rfl))⟩), Sta.start ea (Or.inr ⟨(hw _ (List.mem_of_getElem? (i := 2) rfl)), (hw _ (List.mem_of_getElem? (i := 159) rfl))⟩), cl, A, ?_, by simp⟩
  · have q : i = 0 ∨ i = 1 ∨ i = 2 ∨ i = 3 := by omega
    rcases q with rfl | rfl | rfl | rfl
    · exact ⟨Exa.start e0 x6, Fld.start ((fld_at e0).symm.trans (eqv_i (Term.int_eval (0)) x7))⟩
    · exact ⟨Exa.start e1 x12, Fld.start ((fld_at e1).symm.trans (eqv_i (Term.int_eval (1)) x13))⟩
    · exact ⟨Exa.start e2 x9, Fld.start ((fld_at e2).symm.trans (eqv_i (Term.int_eval (2)) x10))⟩
    · exact ⟨Exa.start e3 x1, Fld.start ((fld_at e3).symm.trans (eqv_i (Term.int_eval (3)) x2))⟩
  · apply Array.ext
    · rw [sz]; rfl
    · intro i h1 h2
      have q : i = 0 ∨ i = 1 ∨ i = 2 ∨ i = 3 := by omega
      rcases q with rfl | rfl | rfl | rfl
      · exact Option.some.inj ((Array.getElem?_eq_getElem h1).symm.trans s0)
      · exact Option.some.inj ((Array.getElem?_eq_getElem h1).symm.trans s1)
      · exact Option.some.inj ((Array.getElem?_eq_getElem h1).symm.trans s2)
      · exact Option.some.inj ((Array.getElem?_eq_getElem h1).symm.trans s3)
theorem own_bt_and {a : Nat} (ha : a < 8) (k : Fin 3) : (Int32.ofNat a &&& Int32.ofNat (2 ^ k.val) = 0 ∧ own_bt a k.val = 0) ∨ (¬ Int32.ofNat a &&& Int32.ofNat (2 ^ k.val) = 0 ∧ own_bt a k.val = 1) := by
  have all : ∀ (a : Fin 8) (k : Fin 3), (Int32.ofNat a.val &&& Int32.ofNat (2 ^ k.val) = 0 ∧ own_bt a.val k.val = 0) ∨ (¬ Int32.ofNat a.val &&& Int32.ofNat (2 ^ k.val) = 0 ∧ own_bt a.val k.val = 1) := by decide
  exact all ⟨a, ha⟩ k
theorem own_bt3 {a : Nat} (ha : a < 8) : own_bt a 3 = 0 := by
  have all : ∀ a : Fin 8, own_bt a.val 3 = 0 := by decide
  exact all ⟨a, ha⟩
theorem own_ws_lt {Z : State} {n0 : Nat} {h : Heap} {o : Addr} {A : Fin 12 → Addr} {X : Fin 12 → List Int32} {nn nv : Nat} (D : own_D Z n0 h o A X nn nv) {a : Addr} (ha : h.size ≤ a) : a ∉ own_ws o A := by
  intro hx
  rcases List.mem_cons.mp hx with rfl | hx
  · exact Nat.lt_irrefl _ (Nat.lt_of_lt_of_le (o_lt D.E.lt) (o_le ha))
  · obtain ⟨i, rfl⟩ := List.mem_ofFn.mp hx
    exact Nat.lt_irrefl _ (Nat.lt_of_lt_of_le (o_lt (D.Ar i).lt) (o_le ha))
theorem own_CI.extS {Z : State} {n0 : Nat} {h h' : Heap} {o : Addr} {A : Fin 12 → Addr} {X : Fin 12 → List Int32} {nv c j : Nat} {N : own_Nd} (C : own_CI Z n0 h o A nv c j h A X N c j 0 0) (E : Ext h h') : own_CI Z n0 h' o A nv c j h' A X N c j 0 0 :=
  ⟨C.1.ext E, C.2.1, C.2.2.1, Keep.refl _ _, fun _ => Or.inl rfl, ⟨Nat.le_refl _, Nat.le_refl _⟩, by omega, by omega⟩
/-- where the law stands: k sets are made -/
def own_LB (Z : State) (n0 : Nat) (o ss ms : Addr) (nv : Nat) (h : Heap) (A : Fin 12 → Addr) (X : Fin 12 → List Int32) (N : own_Nd) (c j : Nat) (S T : List Int32) (k : Nat) : Prop :=
  own_CI Z n0 h o A nv c j h A X N c j 0 0 ∧ Old Z n0 h ∧ own_SM N S T k ∧ o_IA Z h ss S ∧ o_IA Z h ms T ∧ ss ∉ own_ws o A ∧ ms ∉ own_ws o A
theorem own_LB.st {Z : State} {n0 : Nat} {o ss ms : Addr} {nv : Nat} {h h1 h2 : Heap} {A : Fin 12 → Addr} {X : Fin 12 → List Int32} {N : own_Nd} {c j k r : Nat} {S T : List Int32} {m : Int32} (L : own_LB Z n0 o ss ms nv h A X N c j S T k) (gs : n0 ≤ ss) (gm : n0 ≤ ms) (ne : ss ≠ ms) (hk : k < 10) (hr : r < own_ct N) (hm : m = own_mi (own_M N r)) (W1 : Wr h h1 ss k (.int (Int32.ofNat r))) (W2 : Wr h1 h2 ms k (.int m)) : own_LB Z n0 o ss ms nv h2 A X N c j (S.set k (Int32.ofNat r)) (T.set k m) (k + 1) := by
  obtain ⟨C, OL, SM, AS, AM, ns, nm⟩ := L
  exact ⟨(C.oth ns W1).oth nm W2, (OL.wr W1 gs).wr W2 gm, SM.add (own_Ext.refl N) hk hr hm, o_AR.other (o_IA.same AS W1) W2 ne, o_IA.same (o_AR.other AM W1 (Ne.symm ne)) W2, ns, nm⟩
theorem own_LB.node {Z : State} {n0 : Nat} {o ss ms : Addr} {nv : Nat} {h h1 : Heap} {A A' : Fin 12 → Addr} {X X' : Fin 12 → List Int32} {N N' : own_Nd} {c j c' j' k : Nat} {S T : List Int32} (L : own_LB Z n0 o ss ms nv h A X N c j S T k) (D : own_D Z n0 h1 o A' X' (own_ct N') nv) (W : own_W N' X' c' j') (E : own_Ext N N') (FA : ∀ i : Fin 12, 8 ≤ i.val → A' i = A i ∧ X' i = X i) (FR : ∀ i, A' i = A i ∨ h.size ≤ A' i) (K : Keep h h1 [o, A 0, A 1, A 2, A 3]) (cc : c ≤ c') (jj : j ≤ j') : own_LB Z n0 o ss ms nv h1 A' X' N' c' j' S T k := by
  obtain ⟨C, OL, SM, AS, AM, ns, nm⟩ := L
  have C1 := C.node D W FA FR K cc jj
  have K1 := C1.2.2.2.1
  refine ⟨C1.self, C1.old OL (own_ws_ge C.1.go C.1.ge), ⟨SM.1, SM.2.1, fun i hi => ?_⟩, AS.keep K1 ns, AM.keep K1 nm, own_ws_fresh ns AS.lt FR, own_ws_fresh nm AM.lt FR⟩
  obtain ⟨q, q1, q2, q3⟩ := SM.2.2 i hi
  exact ⟨q, q1, Nat.lt_of_lt_of_le q2 E.1, by rw [(E.2 q q2).2.2.2]; exact q3⟩
theorem own_wv {N : own_Nd} (B : own_BN N) (v : Nat) : own_ite v (own_M N 1) (own_M N 0) = own_w v := by
  rw [show own_M N 1 = 255#8 from B.2.2.1, show own_M N 0 = 0#8 from B.2.1]
  unfold own_ite own_w
  split <;> decide
set_option maxRecDepth 65536 in
set_option maxHeartbeats 40000000 in
theorem own_l3 (l : Launch) (Z : State) (a0 : Array Value) (hw : ∀ d ∈ tables_1, d.before a0 Z = true) (n0 : Nat) (b : Nat → Addr) (arr : Addr) (SC : own_SC Z b arr) (κ : o_K) (B : o_Bo κ l Z n0 room_1 x code maxLocals ret) (p : Int64) (w : Int32) (o ss ms : Addr) (nv : Nat) (hnv : 3 ≤ nv ∧ nv ≤ 4) (gs : n0 ≤ ss) (gm : n0 ≤ ms) (ne : ss ≠ ms) (h : Heap) (A : Fin 12 → Addr) (X : Fin 12 → List Int32) (N : own_Nd) (c j k n : Nat) (S T : List Int32) (L : own_LB Z n0 o ss ms nv h A X N c j S T 10) (hk : k + 1 ≤ 96) (hn : n + 4 ≤ 1280) : o_Go κ (fun v h' kc nc => v = some (.int 1)) h k n 197 [.val (.long p), .second, .val (.int w), .val (.int (Int32.ofNat nv)), .val (.ref o), .val (.ref ss), .val (.ref ms), .unset, .unset, .unset, .unset, .unset] [] := by
  obtain ⟨C, OL, SM, AS, AM, ns, nm⟩ := L
  obtain ⟨q, q1, q2, q3⟩ := SM.2.2 9 (by decide)
  have c32 := C.ct
  refine o_aload (pc := 197) B at_197 rfl rfl ?_
  refine o_bipush (pc := 199) B (9 : Int32) at_199 (by decide) ?_
  refine o_iaload (pc := 201) B (9) at_201 (AS) (rfl) (own_mapI q1) ?_
  refine o_istore_12_7 (pc := 202) B at_202 rfl ?_
  refine o_aload (pc := 204) B at_204 rfl rfl ?_
  refine o_bipush (pc := 206) B (9 : Int32) at_206 (by decide) ?_
  refine o_iaload (pc := 208) B (9) at_208 (AM) (rfl) (own_mapI q3) ?_
  refine o_istore_12_8 (pc := 209) B at_209 rfl ?_
  refine o_iload (pc := 211) B at_211 rfl ?_
  refine o_if_ne (pc := 213) (pc' := 227) B at_213 (by decide) (by decide) (fun hc213 => ?_) (fun hc213 => ?_)
  rotate_left
  · have z : q = 0 := Classical.byContradiction fun y => own_B.nz C.2.1.1 q2 y ((own_mi_zero _).mp hc213)
    subst z
    refine o_iload (pc := 216) B at_216 rfl ?_
    refine o_if_ne (pc := 218) (pc' := 225) B at_218 (by decide) (by decide) (fun hc218 => False.elim ((hc218 rfl))) (fun hc218 => ?_)
    refine o_iconst (pc := 221) B (1 : Int32) at_221 (by decide) ?_
    refine o_goto (pc := 222) (pc' := 226) B at_222 (by decide) (by decide) ?_
    exact o_zreturn (pc := 226) B at_226 (by first | decide | (dsimp only [room_1, orm1, orm7, orm18, orm32, orm33]; omega)) (by first | decide | (dsimp only [room_1, orm1, orm7, orm18, orm32, orm33]; omega)) (rfl)
  have q0 : q ≠ 0 := fun e => hc213 ((own_mi_zero _).mpr (by rw [e]; exact C.2.1.1.2.1))
  refine o_aload (pc := 227) B at_227 rfl rfl ?_
  refine o_iload (pc := 229) B at_229 rfl ?_
  refine o_callV1 (pc := 231) B 0 at_231 (hw _ (List.mem_of_getElem? (i := 197) rfl)) (hw _ (List.mem_of_getElem? (i := 198) rfl)) (hw _ (List.mem_of_getElem? (i := 200) rfl)) (hw _ (List.mem_of_getElem? (i := 199) rfl)) (hw _ (List.mem_of_getElem? (i := 2) rfl)) (hw _ (List.mem_of_getElem? (i := 201) rfl)) (by decide) pd32 rfl (by first | exact Nat.zero_le _ | exact Nat.le_of_ble_eq_true rfl | simp [Value.category]) (by first | decide | exact Nat.le_of_ble_eq_true rfl) (by first | decide | exact Nat.le_of_ble_eq_true rfl) (by first | decide | (dsimp only [room_1, orm1, orm7, orm18, orm32, orm33]; omega)) (by first | decide | (dsimp only [room_1, orm1, orm7, orm18, orm32, orm33]; omega)) rfl (C.1.E) (oc32 l Z a0 hw n0 _ o A X nv c j q N C.1 C.2.1 q2 q0 hnv) ?_
  rintro _ h kc nc ⟨⟨va, V, rfl, AV, eV, HV⟩, rfl, rfl⟩ - -
  refine o_astore_12_9 (pc := 234) B at_234 rfl rfl ?_
  refine o_iload (pc := 236) B at_236 rfl ?_
  refine o_callS1 (pc := 238) B 0 at_238 (hw _ (List.mem_of_getElem? (i := 203) rfl)) (hw _ (List.mem_of_getElem? (i := 204) rfl)) (hw _ (List.mem_of_getElem? (i := 129) rfl)) (hw _ (List.mem_of_getElem? (i := 205) rfl)) (by decide) pd33 rfl (by first | exact Nat.zero_le _ | exact Nat.le_of_ble_eq_true rfl | simp [Value.category]) (by first | decide | exact Nat.le_of_ble_eq_true rfl) (by first | decide | exact Nat.le_of_ble_eq_true rfl) (by first | decide | (dsimp only [room_1, orm1, orm7, orm18, orm32, orm33]; omega)) (by first | decide | (dsimp only [room_1, orm1, orm7, orm18, orm32, orm33]; omega)) rfl (oc33 l Z a0 hw n0 _ (own_M N q)) ?_
  rintro _ h _ _ ⟨rfl, rfl, rfl, rfl⟩ - -
  have a8 := own_low8 (own_M N q)
  obtain ⟨a, ea⟩ : ∃ a, a = own_low (own_M N q) := ⟨_, rfl⟩
  rw [← ea] at a8 HV
  rw [← ea]
  refine o_istore_12_10 (pc := 241) B at_241 rfl ?_
  refine o_aload (pc := 243) B at_243 rfl rfl ?_
  refine o_arraylen (pc := 245) B (Int32.ofNat nv) at_245 (AV) (by rw [List.length_map, eV]) ?_
  refine o_iloadN (pc := 246) B at_246 rfl ?_
  refine o_icmp_ne (pc := 247) (pc' := 311) B at_247 (by decide) (by decide) (fun hc247 => False.elim ((hc247 rfl))) (fun hc247 => ?_)
  have T307 : o_Go κ (fun v h' kc nc => v = some (.int 1)) h (k + 1) (n + 4) 307 [.val (.long p), .second, .val (.int w), .val (.int (Int32.ofNat nv)), .val (.ref o), .val (.ref ss), .val (.ref ms), .val (.int (Int32.ofNat (q))), .val (.int (own_mi (own_M N q))), .val (.ref va), .val (.int (Int32.ofNat (a))), .unset] [] := by
    refine o_iconst (pc := 307) B (1 : Int32) at_307 (by decide) ?_
    refine o_goto (pc := 308) (pc' := 312) B at_308 (by decide) (by decide) ?_
    refine o_istore_12_11 (pc := 312) B at_312 rfl ?_
    refine o_iloadN (pc := 314) B at_314 rfl ?_
    refine o_iconst (pc := 315) B (4 : Int32) at_315 (by decide) ?_
    refine o_icmp_ne (pc := 316) (pc' := 338) B at_316 (by decide) (by decide) (fun hc316 => ?_) (fun hc316 => ?_)
    · refine o_iload (pc := 338) B at_338 rfl ?_
      exact o_zreturn (pc := 340) B at_340 (by first | decide | (dsimp only [room_1, orm1, orm7, orm18, orm32, orm33]; omega)) (by first | decide | (dsimp only [room_1, orm1, orm7, orm18, orm32, orm33]; omega)) (rfl)
    have n4 : nv = 4 := (own_inj (b := 4) (by omega) (by decide)).mp hc316
    refine o_iload (pc := 319) B at_319 rfl ?_
    refine o_if_eq (pc := 321) (pc' := 335) B at_321 (by decide) (by decide) (fun hc321 => False.elim (by revert hc321; decide)) (fun hc321 => ?_)
    refine o_aload (pc := 324) B at_324 rfl rfl ?_
    refine o_iconst (pc := 326) B (3 : Int32) at_326 (by decide) ?_
    refine o_baload (pc := 327) B (3) at_327 (AV) (rfl) (own_mapI (HV 3 (by omega))) ?_
    rw [own_bt3 a8]
    refine o_if_ne (pc := 328) (pc' := 335) B at_328 (by decide) (by decide) (fun hc328 => False.elim ((hc328 rfl))) (fun hc328 => ?_)
    refine o_iconst (pc := 331) B (1 : Int32) at_331 (by decide) ?_
    refine o_goto (pc := 332) (pc' := 336) B at_332 (by decide) (by decide) ?_
    refine o_istore_12_11 (pc := 336) B at_336 rfl ?_
    refine o_iload (pc := 338) B at_338 rfl ?_
    exact o_zreturn (pc := 340) B at_340 (by first | decide | (dsimp only [room_1, orm1, orm7, orm18, orm32, orm33]; omega)) (by first | decide | (dsimp only [room_1, orm1, orm7, orm18, orm32, orm33]; omega)) (rfl)
  have T288 : o_Go κ (fun v h' kc nc => v = some (.int 1)) h (k + 1) (n + 4) 288 [.val (.long p), .second, .val (.int w), .val (.int (Int32.ofNat nv)), .val (.ref o), .val (.ref ss), .val (.ref ms), .val (.int (Int32.ofNat (q))), .val (.int (own_mi (own_M N q))), .val (.ref va), .val (.int (Int32.ofNat (a))), .unset] [] := by
    refine o_aload (pc := 288) B at_288 rfl rfl ?_
    refine o_iconst (pc := 290) B (2 : Int32) at_290 (by decide) ?_
    refine o_baload (pc := 291) B (2) at_291 (AV) (rfl) (own_mapI (HV 2 (by omega))) ?_
    refine o_iload (pc := 292) B at_292 rfl ?_
    refine o_iconst (pc := 294) B (4 : Int32) at_294 (by decide) ?_
    refine o_iand (pc := 295) B at_295 ?_
    refine o_if_eq (pc := 296) (pc' := 303) B at_296 (by decide) (by decide) (fun hc296 => ?_) (fun hc296 => ?_)
    · refine o_iconst (pc := 303) B (0 : Int32) at_303 (by decide) ?_
      rcases own_bt_and a8 2 with ⟨y1, y2⟩ | ⟨y1, y2⟩
      · rw [show own_bt a 2 = 0 from y2]
        refine o_icmp_ne (pc := 304) (pc' := 311) B at_304 (by decide) (by decide) (fun hc304 => False.elim ((hc304 rfl))) (fun hc304 => ?_)
        exact T307
      · exact absurd hc296 y1
    refine o_iconst (pc := 299) B (1 : Int32) at_299 (by decide) ?_
    refine o_goto (pc := 300) (pc' := 304) B at_300 (by decide) (by decide) ?_
    rcases own_bt_and a8 2 with ⟨y1, y2⟩ | ⟨y1, y2⟩
    · exact absurd y1 hc296
    · rw [show own_bt a 2 = 1 from y2]
      refine o_icmp_ne (pc := 304) (pc' := 311) B at_304 (by decide) (by decide) (fun hc304 => False.elim ((hc304 rfl))) (fun hc304 => ?_)
      exact T307
  have T269 : o_Go κ (fun v h' kc nc => v = some (.int 1)) h (k + 1) (n + 4) 269 [.val (.long p), .second, .val (.int w), .val (.int (Int32.ofNat nv)), .val (.ref o), .val (.ref ss), .val (.ref ms), .val (.int (Int32.ofNat (q))), .val (.int (own_mi (own_M N q))), .val (.ref va), .val (.int (Int32.ofNat (a))), .unset] [] := by
    refine o_aload (pc := 269) B at_269 rfl rfl ?_
    refine o_iconst (pc := 271) B (1 : Int32) at_271 (by decide) ?_
    refine o_baload (pc := 272) B (1) at_272 (AV) (rfl) (own_mapI (HV 1 (by omega))) ?_
    refine o_iload (pc := 273) B at_273 rfl ?_
    refine o_iconst (pc := 275) B (2 : Int32) at_275 (by decide) ?_
    refine o_iand (pc := 276) B at_276 ?_
    refine o_if_eq (pc := 277) (pc' := 284) B at_277 (by decide) (by decide) (fun hc277 => ?_) (fun hc277 => ?_)
    · refine o_iconst (pc := 284) B (0 : Int32) at_284 (by decide) ?_
      rcases own_bt_and a8 1 with ⟨y1, y2⟩ | ⟨y1, y2⟩
      · rw [show own_bt a 1 = 0 from y2]
        refine o_icmp_ne (pc := 285) (pc' := 311) B at_285 (by decide) (by decide) (fun hc285 => False.elim ((hc285 rfl))) (fun hc285 => ?_)
        exact T288
      · exact absurd hc277 y1
    refine o_iconst (pc := 280) B (1 : Int32) at_280 (by decide) ?_
    refine o_goto (pc := 281) (pc' := 285) B at_281 (by decide) (by decide) ?_
    rcases own_bt_and a8 1 with ⟨y1, y2⟩ | ⟨y1, y2⟩
    · exact absurd y1 hc277
    · rw [show own_bt a 1 = 1 from y2]
      refine o_icmp_ne (pc := 285) (pc' := 311) B at_285 (by decide) (by decide) (fun hc285 => False.elim ((hc285 rfl))) (fun hc285 => ?_)
      exact T288
  refine o_aload (pc := 250) B at_250 rfl rfl ?_
  refine o_iconst (pc := 252) B (0 : Int32) at_252 (by decide) ?_
  refine o_baload (pc := 253) B (0) at_253 (AV) (rfl) (own_mapI (HV 0 (by omega))) ?_
  refine o_iload (pc := 254) B at_254 rfl ?_
  refine o_iconst (pc := 256) B (1 : Int32) at_256 (by decide) ?_
  refine o_iand (pc := 257) B at_257 ?_
  refine o_if_eq (pc := 258) (pc' := 265) B at_258 (by decide) (by decide) (fun hc258 => ?_) (fun hc258 => ?_)
  · refine o_iconst (pc := 265) B (0 : Int32) at_265 (by decide) ?_
    rcases own_bt_and a8 0 with ⟨y1, y2⟩ | ⟨y1, y2⟩
    · rw [show own_bt a 0 = 0 from y2]
      refine o_icmp_ne (pc := 266) (pc' := 311) B at_266 (by decide) (by decide) (fun hc266 => False.elim ((hc266 rfl))) (fun hc266 => ?_)
      exact T269
    · exact absurd hc258 y1
  refine o_iconst (pc := 261) B (1 : Int32) at_261 (by decide) ?_
  refine o_goto (pc := 262) (pc' := 266) B at_262 (by decide) (by decide) ?_
  rcases own_bt_and a8 0 with ⟨y1, y2⟩ | ⟨y1, y2⟩
  · exact absurd y1 hc258
  · rw [show own_bt a 0 = 1 from y2]
    refine o_icmp_ne (pc := 266) (pc' := 311) B at_266 (by decide) (by decide) (fun hc266 => False.elim ((hc266 rfl))) (fun hc266 => ?_)
    exact T269
set_option maxRecDepth 65536 in
set_option maxHeartbeats 40000000 in
theorem own_l2 (l : Launch) (Z : State) (a0 : Array Value) (hw : ∀ d ∈ tables_1, d.before a0 Z = true) (n0 : Nat) (b : Nat → Addr) (arr : Addr) (SC : own_SC Z b arr) (κ : o_K) (B : o_Bo κ l Z n0 room_1 x code maxLocals ret) (p : Int64) (w : Int32) (o ss ms : Addr) (nv : Nat) (hnv : 3 ≤ nv ∧ nv ≤ 4) (gs : n0 ≤ ss) (gm : n0 ≤ ms) (ne : ss ≠ ms) (h : Heap) (A : Fin 12 → Addr) (X : Fin 12 → List Int32) (N : own_Nd) (c j k n : Nat) (S T : List Int32) (L : own_LB Z n0 o ss ms nv h A X N c j S T 5) (hb : own_b N ≤ 2) (ek : k = 22 + 3 * (c - 2) + 7 * (j - 3)) (en : n = 174 + 3 * (2 * 2 ^ c - 8) + 7 * (2 * 2 ^ j - 16)) : o_Go κ (fun v h' kc nc => v = some (.int 1)) h k n 101 [.val (.long p), .second, .val (.int w), .val (.int (Int32.ofNat nv)), .val (.ref o), .val (.ref ss), .val (.ref ms), .unset, .unset, .unset, .unset, .unset] [] := by
  obtain ⟨C, OL, SM, AS, AM, ns, nm⟩ := L
  obtain ⟨-, p2, -, p4, p5, p6, p7, p8⟩ := C.pows
  have pc2 : 2 ^ 2 ≤ 2 ^ c := Nat.pow_le_pow_right (by decide) p7
  have pj3 : 2 ^ 3 ≤ 2 ^ j := Nat.pow_le_pow_right (by decide) p8
  refine o_aload (pc := 101) B at_101 rfl rfl ?_
  refine o_aload (pc := 103) B at_103 rfl rfl ?_
  refine o_aload (pc := 105) B at_105 rfl rfl ?_
  refine o_iconst (pc := 107) B (5 : Int32) at_107 (by decide) ?_
  refine o_lloadN (pc := 108) B at_108 rfl ?_
  refine o_ldc2_w (pc := 109) B (x := (1023 : Int64)) at_109 (hw _ (List.mem_of_getElem? (i := 126) rfl)) ?_
  refine o_land (pc := 112) B at_112 ?_
  refine o_l2i (pc := 113) B at_113 ?_
  refine o_callS5 (pc := 114) B 0 at_114 (hw _ (List.mem_of_getElem? (i := 127) rfl)) (hw _ (List.mem_of_getElem? (i := 128) rfl)) (hw _ (List.mem_of_getElem? (i := 129) rfl)) (hw _ (List.mem_of_getElem? (i := 130) rfl)) (by decide) pd18 rfl (by first | exact Nat.zero_le _ | exact Nat.le_of_ble_eq_true rfl | simp [Value.category]) (by first | decide | exact Nat.le_of_ble_eq_true rfl) (by first | decide | exact Nat.le_of_ble_eq_true rfl) (by first | decide | (dsimp only [room_1, orm1, orm7, orm18, orm32, orm33]; omega)) (by first | decide | (dsimp only [room_1, orm1, orm7, orm18, orm32, orm33]; omega)) rfl (oc18 l Z a0 hw n0 _ b arr SC o A X nv c j 5 N ss ms S T _ C OL (by decide) SM AS AM gs gm ne ns nm (by omega) (by omega)) ?_
  rintro _ h1 kc nc ⟨rfl, N1, A1, X1, c1, j1, S1, T1, C1, OL1, SM1, AS1, AM1, ns1, nm1, hb1, ⟨cc1, jj1⟩, rfl, rfl⟩ - -
  obtain ⟨-, r12, -, r14, r15, r16, r17, r18⟩ := C1.pows
  have pc1 : 2 ^ c ≤ 2 ^ c1 := Nat.pow_le_pow_right (by decide) cc1
  have pj1 : 2 ^ j ≤ 2 ^ j1 := Nat.pow_le_pow_right (by decide) jj1
  refine o_aload (pc := 117) B at_117 rfl rfl ?_
  refine o_aload (pc := 119) B at_119 rfl rfl ?_
  refine o_aload (pc := 121) B at_121 rfl rfl ?_
  refine o_bipush (pc := 123) B (6 : Int32) at_123 (by decide) ?_
  refine o_lloadN (pc := 125) B at_125 rfl ?_
  refine o_bipush (pc := 126) B (10 : Int32) at_126 (by decide) ?_
  refine o_lushr (pc := 128) B at_128 ?_
  refine o_ldc2_w (pc := 129) B (x := (1023 : Int64)) at_129 (hw _ (List.mem_of_getElem? (i := 126) rfl)) ?_
  refine o_land (pc := 132) B at_132 ?_
  refine o_l2i (pc := 133) B at_133 ?_
  refine o_callS5 (pc := 134) B 0 at_134 (hw _ (List.mem_of_getElem? (i := 127) rfl)) (hw _ (List.mem_of_getElem? (i := 128) rfl)) (hw _ (List.mem_of_getElem? (i := 129) rfl)) (hw _ (List.mem_of_getElem? (i := 130) rfl)) (by decide) pd18 rfl (by first | exact Nat.zero_le _ | exact Nat.le_of_ble_eq_true rfl | simp [Value.category]) (by first | decide | exact Nat.le_of_ble_eq_true rfl) (by first | decide | exact Nat.le_of_ble_eq_true rfl) (by first | decide | (dsimp only [room_1, orm1, orm7, orm18, orm32, orm33]; omega)) (by first | decide | (dsimp only [room_1, orm1, orm7, orm18, orm32, orm33]; omega)) rfl (oc18 l Z a0 hw n0 _ b arr SC o A1 X1 nv c1 j1 6 N1 ss ms S1 T1 _ C1 OL1 (by decide) SM1 AS1 AM1 gs gm ne ns1 nm1 (by omega) (by omega)) ?_
  rintro _ h2 kc nc ⟨rfl, N2, A2, X2, c2, j2, S2, T2, C2, OL2, SM2, AS2, AM2, ns2, nm2, hb2, ⟨cc2, jj2⟩, rfl, rfl⟩ - -
  obtain ⟨-, r22, -, r24, r25, r26, r27, r28⟩ := C2.pows
  have pc2 : 2 ^ c1 ≤ 2 ^ c2 := Nat.pow_le_pow_right (by decide) cc2
  have pj2 : 2 ^ j1 ≤ 2 ^ j2 := Nat.pow_le_pow_right (by decide) jj2
  refine o_aload (pc := 137) B at_137 rfl rfl ?_
  refine o_aload (pc := 139) B at_139 rfl rfl ?_
  refine o_aload (pc := 141) B at_141 rfl rfl ?_
  refine o_bipush (pc := 143) B (7 : Int32) at_143 (by decide) ?_
  refine o_lloadN (pc := 145) B at_145 rfl ?_
  refine o_bipush (pc := 146) B (20 : Int32) at_146 (by decide) ?_
  refine o_lushr (pc := 148) B at_148 ?_
  refine o_ldc2_w (pc := 149) B (x := (1023 : Int64)) at_149 (hw _ (List.mem_of_getElem? (i := 126) rfl)) ?_
  refine o_land (pc := 152) B at_152 ?_
  refine o_l2i (pc := 153) B at_153 ?_
  refine o_callS5 (pc := 154) B 0 at_154 (hw _ (List.mem_of_getElem? (i := 127) rfl)) (hw _ (List.mem_of_getElem? (i := 128) rfl)) (hw _ (List.mem_of_getElem? (i := 129) rfl)) (hw _ (List.mem_of_getElem? (i := 130) rfl)) (by decide) pd18 rfl (by first | exact Nat.zero_le _ | exact Nat.le_of_ble_eq_true rfl | simp [Value.category]) (by first | decide | exact Nat.le_of_ble_eq_true rfl) (by first | decide | exact Nat.le_of_ble_eq_true rfl) (by first | decide | (dsimp only [room_1, orm1, orm7, orm18, orm32, orm33]; omega)) (by first | decide | (dsimp only [room_1, orm1, orm7, orm18, orm32, orm33]; omega)) rfl (oc18 l Z a0 hw n0 _ b arr SC o A2 X2 nv c2 j2 7 N2 ss ms S2 T2 _ C2 OL2 (by decide) SM2 AS2 AM2 gs gm ne ns2 nm2 (by omega) (by omega)) ?_
  rintro _ h3 kc nc ⟨rfl, N3, A3, X3, c3, j3, S3, T3, C3, OL3, SM3, AS3, AM3, ns3, nm3, hb3, ⟨cc3, jj3⟩, rfl, rfl⟩ - -
  obtain ⟨-, r32, -, r34, r35, r36, r37, r38⟩ := C3.pows
  have pc3 : 2 ^ c2 ≤ 2 ^ c3 := Nat.pow_le_pow_right (by decide) cc3
  have pj3 : 2 ^ j2 ≤ 2 ^ j3 := Nat.pow_le_pow_right (by decide) jj3
  refine o_aload (pc := 157) B at_157 rfl rfl ?_
  refine o_aload (pc := 159) B at_159 rfl rfl ?_
  refine o_aload (pc := 161) B at_161 rfl rfl ?_
  refine o_bipush (pc := 163) B (8 : Int32) at_163 (by decide) ?_
  refine o_lloadN (pc := 165) B at_165 rfl ?_
  refine o_bipush (pc := 166) B (30 : Int32) at_166 (by decide) ?_
  refine o_lushr (pc := 168) B at_168 ?_
  refine o_ldc2_w (pc := 169) B (x := (1023 : Int64)) at_169 (hw _ (List.mem_of_getElem? (i := 126) rfl)) ?_
  refine o_land (pc := 172) B at_172 ?_
  refine o_l2i (pc := 173) B at_173 ?_
  refine o_callS5 (pc := 174) B 0 at_174 (hw _ (List.mem_of_getElem? (i := 127) rfl)) (hw _ (List.mem_of_getElem? (i := 128) rfl)) (hw _ (List.mem_of_getElem? (i := 129) rfl)) (hw _ (List.mem_of_getElem? (i := 130) rfl)) (by decide) pd18 rfl (by first | exact Nat.zero_le _ | exact Nat.le_of_ble_eq_true rfl | simp [Value.category]) (by first | decide | exact Nat.le_of_ble_eq_true rfl) (by first | decide | exact Nat.le_of_ble_eq_true rfl) (by first | decide | (dsimp only [room_1, orm1, orm7, orm18, orm32, orm33]; omega)) (by first | decide | (dsimp only [room_1, orm1, orm7, orm18, orm32, orm33]; omega)) rfl (oc18 l Z a0 hw n0 _ b arr SC o A3 X3 nv c3 j3 8 N3 ss ms S3 T3 _ C3 OL3 (by decide) SM3 AS3 AM3 gs gm ne ns3 nm3 (by omega) (by omega)) ?_
  rintro _ h4 kc nc ⟨rfl, N4, A4, X4, c4, j4, S4, T4, C4, OL4, SM4, AS4, AM4, ns4, nm4, hb4, ⟨cc4, jj4⟩, rfl, rfl⟩ - -
  obtain ⟨-, r42, -, r44, r45, r46, r47, r48⟩ := C4.pows
  have pc4 : 2 ^ c3 ≤ 2 ^ c4 := Nat.pow_le_pow_right (by decide) cc4
  have pj4 : 2 ^ j3 ≤ 2 ^ j4 := Nat.pow_le_pow_right (by decide) jj4
  refine o_aload (pc := 177) B at_177 rfl rfl ?_
  refine o_aload (pc := 179) B at_179 rfl rfl ?_
  refine o_aload (pc := 181) B at_181 rfl rfl ?_
  refine o_bipush (pc := 183) B (9 : Int32) at_183 (by decide) ?_
  refine o_lloadN (pc := 185) B at_185 rfl ?_
  refine o_bipush (pc := 186) B (40 : Int32) at_186 (by decide) ?_
  refine o_lushr (pc := 188) B at_188 ?_
  refine o_ldc2_w (pc := 189) B (x := (1023 : Int64)) at_189 (hw _ (List.mem_of_getElem? (i := 126) rfl)) ?_
  refine o_land (pc := 192) B at_192 ?_
  refine o_l2i (pc := 193) B at_193 ?_
  refine o_callS5 (pc := 194) B 0 at_194 (hw _ (List.mem_of_getElem? (i := 127) rfl)) (hw _ (List.mem_of_getElem? (i := 128) rfl)) (hw _ (List.mem_of_getElem? (i := 129) rfl)) (hw _ (List.mem_of_getElem? (i := 130) rfl)) (by decide) pd18 rfl (by first | exact Nat.zero_le _ | exact Nat.le_of_ble_eq_true rfl | simp [Value.category]) (by first | decide | exact Nat.le_of_ble_eq_true rfl) (by first | decide | exact Nat.le_of_ble_eq_true rfl) (by first | decide | (dsimp only [room_1, orm1, orm7, orm18, orm32, orm33]; omega)) (by first | decide | (dsimp only [room_1, orm1, orm7, orm18, orm32, orm33]; omega)) rfl (oc18 l Z a0 hw n0 _ b arr SC o A4 X4 nv c4 j4 9 N4 ss ms S4 T4 _ C4 OL4 (by decide) SM4 AS4 AM4 gs gm ne ns4 nm4 (by omega) (by omega)) ?_
  rintro _ h5 kc nc ⟨rfl, N5, A5, X5, c5, j5, S5, T5, C5, OL5, SM5, AS5, AM5, ns5, nm5, hb5, ⟨cc5, jj5⟩, rfl, rfl⟩ - -
  obtain ⟨-, r52, -, r54, r55, r56, r57, r58⟩ := C5.pows
  have pc5 : 2 ^ c4 ≤ 2 ^ c5 := Nat.pow_le_pow_right (by decide) cc5
  have pj5 : 2 ^ j4 ≤ 2 ^ j5 := Nat.pow_le_pow_right (by decide) jj5
  exact own_l3 l Z a0 hw n0 b arr SC κ B p w o ss ms nv hnv gs gm ne h5 A5 X5 N5 c5 j5 _ _ S5 T5 ⟨C5, OL5, SM5, AS5, AM5, ns5, nm5⟩ (by omega) (by omega)
set_option maxRecDepth 65536 in
set_option maxHeartbeats 40000000 in
theorem oc0 (l : Launch) (Z : State) (a0 : Array Value) (hw : ∀ d ∈ tables_1, d.before a0 Z = true) (n0 : Nat) (h : Heap) (p : Int64) (w : Int32) (b : Nat → Addr) (arr : Addr) (SC : own_SC Z b arr) (OL : Old Z n0 h) : o_C l Z n0 Jvm.Pilot.@@N@@.x code maxLocals ret room_1 [(.long p), (.int w)] h (fun v h' kc nc => v = some (.int 1)) := by
  refine o_body (Ls := [.val (.long p), .second, .val (.int w), .unset, .unset, .unset, .unset, .unset, .unset, .unset, .unset, .unset]) pn0 (by first | (simp [argsToLocals, Value.category, maxLocals]; done) | rfl) (fun κ B => ?_)
  obtain ⟨u, hu, eu⟩ : ∃ u : Nat, u < 2 ∧ w &&& 1 = Int32.ofNat u := ⟨_, Nat.mod_lt _ (by decide), own_and w (j := 1) (by decide)⟩
  obtain ⟨nv, env⟩ : ∃ nv, nv = 3 + u := ⟨_, rfl⟩
  refine o_iconst (pc := 0) B (3 : Int32) at_0 (by decide) ?_
  refine o_iloadN (pc := 1) B at_1 rfl ?_
  refine o_iconst (pc := 2) B (1 : Int32) at_2 (by decide) ?_
  refine o_iand (pc := 3) B at_3 ?_
  rw [eu]
  refine o_iadd (pc := 4) B at_4 ?_
  rw [show (3 : Int32) + Int32.ofNat u = Int32.ofNat nv by rw [env]; exact (Int32.ofNat_add 3 u).symm]
  refine o_istoreN_12_3 (pc := 5) B at_5 rfl ?_
  refine o_new (pc := 6) B at_6 (hw _ (List.mem_of_getElem? (i := 0) rfl)) (hw _ (List.mem_of_getElem? (i := 1) rfl)) (hw _ (List.mem_of_getElem? (i := 2) rfl)) (by first | decide | (dsimp only [room_1, orm1, orm7, orm18, orm32, orm33]; omega)) (by first | decide | (dsimp only [room_1, orm1, orm7, orm18, orm32, orm33]; omega)) ?_
  intro h1 X1 E1 FD _
  have OL1 := OL.ext X1
  have g0 : n0 ≤ h.size := by have q := OL.2.1; rw [OL.1] at q; exact q
  have D0 : own_E 0 Z n0 h1 h.size (fun _ => h.size) (fun _ => []) (.int 0) (.int 0) := ⟨g0, E1, fun i hi => absurd hi (Nat.not_lt_zero _), fun i => ⟨_, FD (own_laid hw i) (by decide : parseFieldDescriptor "[I" = some (.array .int))⟩, FD (Or.inl (hw _ (List.mem_of_getElem? (i := 35) rfl))) (by decide : parseFieldDescriptor "I" = some .int), FD (Or.inr (hw _ (List.mem_of_getElem? (i := 27) rfl))) (by decide : parseFieldDescriptor "I" = some .int), fun i hi => absurd hi (Nat.not_lt_zero _), fun i j hi => absurd hi (Nat.not_lt_zero _), fun i hi => absurd hi (Nat.not_lt_zero _), fun i hi => absurd hi (Nat.not_lt_zero _), ⟨_, FD (Or.inl (hw _ (List.mem_of_getElem? (i := 56) rfl))) (by decide : parseFieldDescriptor "[J" = some (.array .long))⟩, ⟨_, FD (Or.inl (hw _ (List.mem_of_getElem? (i := 58) rfl))) (by decide : parseFieldDescriptor "[I" = some (.array .int))⟩, ⟨_, FD (Or.inr (hw _ (List.mem_of_getElem? (i := 72) rfl))) (by decide : parseFieldDescriptor "[I" = some (.array .int))⟩, ⟨_, FD (Or.inr (hw _ (List.mem_of_getElem? (i := 74) rfl))) (by decide : parseFieldDescriptor "[I" = some (.array .int))⟩, ⟨_, FD (Or.inr (hw _ (List.mem_of_getElem? (i := 25) rfl))) (by decide : parseFieldDescriptor "Lcom/example/perdure/perdure/check/DecisionDiagrams$PairSet;" = some (.object "com/example/perdure/perdure/check/DecisionDiagrams$PairSet"))⟩⟩
  refine o_dup (pc := 9) B at_9 rfl ?_
  refine o_iloadN (pc := 10) B at_10 rfl ?_
  refine o_callN1 (pc := 11) B 1 at_11 rfl (hw _ (List.mem_of_getElem? (i := 3) rfl)) (hw _ (List.mem_of_getElem? (i := 4) rfl)) (hw _ (List.mem_of_getElem? (i := 2) rfl)) (hw _ (List.mem_of_getElem? (i := 5) rfl)) (by decide) pd1 rfl (by first | exact Nat.zero_le _ | exact Nat.le_of_ble_eq_true rfl | simp [Value.category]) (by first | decide | exact Nat.le_of_ble_eq_true rfl) (by first | decide | exact Nat.le_of_ble_eq_true rfl) (by first | decide | (dsimp only [room_1, orm1, orm7, orm18, orm32, orm33]; omega)) (by first | decide | (dsimp only [room_1, orm1, orm7, orm18, orm32, orm33]; omega)) rfl (oc1 l Z a0 hw n0 _ h.size nv (by omega) OL1 D0) ?_
  rintro _ h2 _ _ ⟨rfl, OL2, ⟨A, X, C2⟩, rfl, rfl⟩ - -
  obtain ⟨o, eo⟩ : ∃ y : Addr, y = h.size := ⟨_, rfl⟩
  rw [← eo] at C2
  rw [← eo]
  refine o_astore_12_4 (pc := 14) B at_14 rfl rfl ?_
  refine o_bipush (pc := 16) B (10 : Int32) at_16 (by decide) ?_
  refine o_newarray (pc := 18) B (10) (10) at_18 (hw _ (List.mem_of_getElem? (i := 19) rfl)) (rfl) (by first | decide | omega) (by first | decide | omega) (by first | decide | (dsimp only [room_1, orm1, orm7, orm18, orm32, orm33]; omega)) (by first | decide | (dsimp only [room_1, orm1, orm7, orm18, orm32, orm33]; omega)) ?_
  intro h3 X3 l3 A3
  have AS3 : o_IA Z h3 h2.size (List.replicate 10 0) := by show o_AR Z h3 h2.size .int ((List.replicate 10 (0 : Int32)).map Value.int); rw [List.map_replicate]; exact A3
  refine o_astore_12_5 (pc := 20) B at_20 rfl rfl ?_
  refine o_bipush (pc := 22) B (10 : Int32) at_22 (by decide) ?_
  refine o_newarray (pc := 24) B (10) (10) at_24 (hw _ (List.mem_of_getElem? (i := 19) rfl)) (rfl) (by first | decide | omega) (by first | decide | omega) (by first | decide | (dsimp only [room_1, orm1, orm7, orm18, orm32, orm33]; omega)) (by first | decide | (dsimp only [room_1, orm1, orm7, orm18, orm32, orm33]; omega)) ?_
  intro h4 X4 l4 A4
  have AM4 : o_IA Z h4 h3.size (List.replicate 10 0) := by show o_AR Z h4 h3.size .int ((List.replicate 10 (0 : Int32)).map Value.int); rw [List.map_replicate]; exact A4
  have C4 := (C2.extS X3).extS X4
  have lt3 := o_lt l3
  have ns := own_ws_lt C2.1 (a := h2.size) (Nat.le_refl _)
  have nm := own_ws_lt (C2.extS X3).1 (a := h3.size) (Nat.le_refl _)
  have gs : n0 ≤ h2.size := by have q := OL2.2.1; rw [OL2.1] at q; exact q
  have gm : n0 ≤ h3.size := o_le (by have := o_le gs; omega)
  have ne : h2.size ≠ h3.size := o_ne (by omega)
  have L0 : own_LB Z n0 o h2.size h3.size nv h4 A X own_N0 2 3 (List.replicate 10 0) (List.replicate 10 0) 0 := ⟨C4, (OL2.ext X3).ext X4, ⟨by simp, by simp, fun i hi => absurd hi (Nat.not_lt_zero _)⟩, AS3.ext X4, AM4, ns, nm⟩
  generalize h2.size = ss at L0 gs ne ⊢
  generalize h3.size = ms at L0 gm ne ⊢
  clear ns nm AS3 AM4 A3 A4 lt3
  refine o_astore_12_6 (pc := 26) B at_26 rfl rfl ?_
  refine o_aload (pc := 28) B at_28 rfl rfl ?_
  refine o_iconst (pc := 30) B (0 : Int32) at_30 (by decide) ?_
  refine o_iconst (pc := 31) B (0 : Int32) at_31 (by decide) ?_
  refine o_iastore (pc := 32) B (0) at_32 (L0.2.2.2.1) (rfl) (own_mltI (by have := L0.2.2.1.1; omega)) (gs) ?_
  intro h5 W5
  refine o_aload (pc := 33) B at_33 rfl rfl ?_
  refine o_iconst (pc := 35) B (0 : Int32) at_35 (by decide) ?_
  refine o_iconst (pc := 36) B (0 : Int32) at_36 (by decide) ?_
  refine o_iastore (pc := 37) B (0) at_37 (o_AR.other L0.2.2.2.2.1 W5 (Ne.symm ne)) (rfl) (own_mltI (by have := L0.2.2.1.2.1; omega)) (gm) ?_
  intro h6 W6
  have L5 := L0.st (r := 0) gs gm ne (by decide) (by decide) (by decide) W5 W6
  refine o_aload (pc := 38) B at_38 rfl rfl ?_
  refine o_iconst (pc := 40) B (1 : Int32) at_40 (by decide) ?_
  refine o_iconst (pc := 41) B (1 : Int32) at_41 (by decide) ?_
  refine o_iastore (pc := 42) B (1) at_42 (L5.2.2.2.1) (rfl) (own_mltI (by have := L5.2.2.1.1; omega)) (gs) ?_
  intro h7 W7
  refine o_aload (pc := 43) B at_43 rfl rfl ?_
  refine o_iconst (pc := 45) B (1 : Int32) at_45 (by decide) ?_
  refine o_sipush (pc := 46) B (255 : Int32) at_46 (by decide) ?_
  refine o_iastore (pc := 49) B (1) at_49 (o_AR.other L5.2.2.2.2.1 W7 (Ne.symm ne)) (rfl) (own_mltI (by have := L5.2.2.1.2.1; omega)) (gm) ?_
  intro h8 W8
  have L7 := L5.st (r := 1) gs gm ne (by decide) (by decide) (by decide) W7 W8
  have B7 : 2 ^ 2 ≤ 2 ^ 2 ∧ 2 ^ 3 ≤ 2 ^ 3 := ⟨Nat.le_refl _, Nat.le_refl _⟩
  have b7 : own_b own_N0 ≤ 0 := Nat.le_refl _
  have ct1 := L7.1.2.1.2.1.le
  obtain ⟨-, pa1, -, pb1, pc1, pd1, pe1, pf1⟩ := L7.1.pows
  refine o_aload (pc := 50) B at_50 rfl rfl ?_
  refine o_iconst (pc := 52) B (2 : Int32) at_52 (by decide) ?_
  refine o_aload (pc := 53) B at_53 rfl rfl ?_
  refine o_iconst (pc := 55) B (0 : Int32) at_55 (by decide) ?_
  refine o_callV1 (pc := 56) B 2 at_56 (hw _ (List.mem_of_getElem? (i := 75) rfl)) (hw _ (List.mem_of_getElem? (i := 76) rfl)) (hw _ (List.mem_of_getElem? (i := 78) rfl)) (hw _ (List.mem_of_getElem? (i := 77) rfl)) (hw _ (List.mem_of_getElem? (i := 2) rfl)) (hw _ (List.mem_of_getElem? (i := 79) rfl)) (by decide) pd7 rfl (by first | exact Nat.zero_le _ | exact Nat.le_of_ble_eq_true rfl | simp [Value.category]) (by first | decide | exact Nat.le_of_ble_eq_true rfl) (by first | decide | exact Nat.le_of_ble_eq_true rfl) (by first | decide | (dsimp only [room_1, orm1, orm7, orm18, orm32, orm33]; omega)) (by first | decide | (dsimp only [room_1, orm1, orm7, orm18, orm32, orm33]; omega)) rfl (L7.1.1.E) (oc7 l Z a0 hw n0 _ o A X nv 2 3 0 own_N0 L7.1.1 L7.1.2.1 (by decide) (by omega)) ?_
  rintro _ g1 kc nc ⟨r1, N1, A1, X1_, c1, j1, rfl, D1, W1_, E1_, rr1, m1, lv1, bd1, FA1, FR1, K1_, ⟨cc1, jj1⟩, rfl, rfl⟩ - -
  have M1 := L7.node D1 W1_ E1_ FA1 FR1 K1_ cc1 jj1
  rw [own_wv L7.1.2.1.1] at m1
  have px1 : 2 ^ 2 ≤ 2 ^ c1 := Nat.pow_le_pow_right (by decide) cc1
  have py1 : 2 ^ 3 ≤ 2 ^ j1 := Nat.pow_le_pow_right (by decide) jj1
  have be1 : own_b N1 ≤ 0 := by have z := bd1; simp at z; omega
  refine o_iastore (pc := 59) B (2) at_59 (M1.2.2.2.1) (rfl) (own_mltI (by have := M1.2.2.1.1; omega)) (gs) ?_
  intro h9 W9
  refine o_aload (pc := 60) B at_60 rfl rfl ?_
  refine o_iconst (pc := 62) B (2 : Int32) at_62 (by decide) ?_
  refine o_sipush (pc := 63) B (170 : Int32) at_63 (by decide) ?_
  refine o_iastore (pc := 66) B (2) at_66 (o_AR.other M1.2.2.2.2.1 W9 (Ne.symm ne)) (rfl) (own_mltI (by have := M1.2.2.1.2.1; omega)) (gm) ?_
  intro h10 W10
  have L9 := M1.st (r := r1) gs gm ne (by decide) (rr1) (by rw [m1]; decide) W9 W10
  have ct2 := L9.1.2.1.2.1.le
  obtain ⟨-, pa2, -, pb2, pc2, pd2, pe2, pf2⟩ := L9.1.pows
  refine o_aload (pc := 67) B at_67 rfl rfl ?_
  refine o_iconst (pc := 69) B (3 : Int32) at_69 (by decide) ?_
  refine o_aload (pc := 70) B at_70 rfl rfl ?_
  refine o_iconst (pc := 72) B (1 : Int32) at_72 (by decide) ?_
  refine o_callV1 (pc := 73) B 2 at_73 (hw _ (List.mem_of_getElem? (i := 75) rfl)) (hw _ (List.mem_of_getElem? (i := 76) rfl)) (hw _ (List.mem_of_getElem? (i := 78) rfl)) (hw _ (List.mem_of_getElem? (i := 77) rfl)) (hw _ (List.mem_of_getElem? (i := 2) rfl)) (hw _ (List.mem_of_getElem? (i := 79) rfl)) (by decide) pd7 rfl (by first | exact Nat.zero_le _ | exact Nat.le_of_ble_eq_true rfl | simp [Value.category]) (by first | decide | exact Nat.le_of_ble_eq_true rfl) (by first | decide | exact Nat.le_of_ble_eq_true rfl) (by first | decide | (dsimp only [room_1, orm1, orm7, orm18, orm32, orm33]; omega)) (by first | decide | (dsimp only [room_1, orm1, orm7, orm18, orm32, orm33]; omega)) rfl (L9.1.1.E) (oc7 l Z a0 hw n0 _ o A1 X1_ nv c1 j1 1 N1 L9.1.1 L9.1.2.1 (by decide) (by omega)) ?_
  rintro _ g2 kc nc ⟨r2, N2, A2, X2_, c2, j2, rfl, D2, W2_, E2_, rr2, m2, lv2, bd2, FA2, FR2, K2_, ⟨cc2, jj2⟩, rfl, rfl⟩ - -
  have M2 := L9.node D2 W2_ E2_ FA2 FR2 K2_ cc2 jj2
  rw [own_wv L9.1.2.1.1] at m2
  have px2 : 2 ^ c1 ≤ 2 ^ c2 := Nat.pow_le_pow_right (by decide) cc2
  have py2 : 2 ^ j1 ≤ 2 ^ j2 := Nat.pow_le_pow_right (by decide) jj2
  have be2 : own_b N2 ≤ 1 := by have z := bd2; simp at z; omega
  refine o_iastore (pc := 76) B (3) at_76 (M2.2.2.2.1) (rfl) (own_mltI (by have := M2.2.2.1.1; omega)) (gs) ?_
  intro h13 W13
  refine o_aload (pc := 77) B at_77 rfl rfl ?_
  refine o_iconst (pc := 79) B (3 : Int32) at_79 (by decide) ?_
  refine o_sipush (pc := 80) B (204 : Int32) at_80 (by decide) ?_
  refine o_iastore (pc := 83) B (3) at_83 (o_AR.other M2.2.2.2.2.1 W13 (Ne.symm ne)) (rfl) (own_mltI (by have := M2.2.2.1.2.1; omega)) (gm) ?_
  intro h14 W14
  have L13 := M2.st (r := r2) gs gm ne (by decide) (rr2) (by rw [m2]; decide) W13 W14
  have ct3 := L13.1.2.1.2.1.le
  obtain ⟨-, pa3, -, pb3, pc3, pd3, pe3, pf3⟩ := L13.1.pows
  refine o_aload (pc := 84) B at_84 rfl rfl ?_
  refine o_iconst (pc := 86) B (4 : Int32) at_86 (by decide) ?_
  refine o_aload (pc := 87) B at_87 rfl rfl ?_
  refine o_iconst (pc := 89) B (2 : Int32) at_89 (by decide) ?_
  refine o_callV1 (pc := 90) B 2 at_90 (hw _ (List.mem_of_getElem? (i := 75) rfl)) (hw _ (List.mem_of_getElem? (i := 76) rfl)) (hw _ (List.mem_of_getElem? (i := 78) rfl)) (hw _ (List.mem_of_getElem? (i := 77) rfl)) (hw _ (List.mem_of_getElem? (i := 2) rfl)) (hw _ (List.mem_of_getElem? (i := 79) rfl)) (by decide) pd7 rfl (by first | exact Nat.zero_le _ | exact Nat.le_of_ble_eq_true rfl | simp [Value.category]) (by first | decide | exact Nat.le_of_ble_eq_true rfl) (by first | decide | exact Nat.le_of_ble_eq_true rfl) (by first | decide | (dsimp only [room_1, orm1, orm7, orm18, orm32, orm33]; omega)) (by first | decide | (dsimp only [room_1, orm1, orm7, orm18, orm32, orm33]; omega)) rfl (L13.1.1.E) (oc7 l Z a0 hw n0 _ o A2 X2_ nv c2 j2 2 N2 L13.1.1 L13.1.2.1 (by decide) (by omega)) ?_
  rintro _ g3 kc nc ⟨r3, N3, A3, X3_, c3, j3, rfl, D3, W3_, E3_, rr3, m3, lv3, bd3, FA3, FR3, K3_, ⟨cc3, jj3⟩, rfl, rfl⟩ - -
  have M3 := L13.node D3 W3_ E3_ FA3 FR3 K3_ cc3 jj3
  rw [own_wv L13.1.2.1.1] at m3
  have px3 : 2 ^ c2 ≤ 2 ^ c3 := Nat.pow_le_pow_right (by decide) cc3
  have py3 : 2 ^ j2 ≤ 2 ^ j3 := Nat.pow_le_pow_right (by decide) jj3
  have be3 : own_b N3 ≤ 2 := by have z := bd3; simp at z; omega
  refine o_iastore (pc := 93) B (4) at_93 (M3.2.2.2.1) (rfl) (own_mltI (by have := M3.2.2.1.1; omega)) (gs) ?_
  intro h17 W17
  refine o_aload (pc := 94) B at_94 rfl rfl ?_
  refine o_iconst (pc := 96) B (4 : Int32) at_96 (by decide) ?_
  refine o_sipush (pc := 97) B (240 : Int32) at_97 (by decide) ?_
  refine o_iastore (pc := 100) B (4) at_100 (o_AR.other M3.2.2.2.2.1 W17 (Ne.symm ne)) (rfl) (own_mltI (by have := M3.2.2.1.2.1; omega)) (gm) ?_
  intro h18 W18
  have L17 := M3.st (r := r3) gs gm ne (by decide) (rr3) (by rw [m3]; decide) W17 W18
  obtain ⟨-, pa4, -, pb4, pc4, pd4, pe4, pf4⟩ := L17.1.pows
  exact own_l2 l Z a0 hw n0 b arr SC κ B p w o ss ms nv (by omega) gs gm ne h18 A3 X3_ N3 c3 j3 _ _ _ _ L17 (by omega) (by omega) (by omega)
set_option maxRecDepth 65536 in
set_option maxHeartbeats 40000000 in
theorem comes_1 {Post : Tables → Env → Array Value → State → Outcome → State → Prop} (hpost : ∀ tb e args s v u, (limb_1_1.after args s (.returned v) u = true ∧ limb_1_2.after args s (.returned v) u = true ∧ True) → FrameEnd s (.returned v) u (Jvm.fieldLocs frame_1_writes args s ++ Jvm.arrayLocs frame_1_arrays args s ++ Jvm.staticLocs frame_1_statics s) 96 1280 → Post tb e args s (.returned v) u) :
    ArmFor flags0 classFile x code maxLocals ret World_1 tables_1 room_1 Calls_1 rest_1 Pre_1 Post := by
  intro l hfl _ _ p e ha hc hk s m args below hf hA hF happ hP
  obtain ⟨hcalls, hrest, hpre⟩ := hP
  obtain ⟨-, -, -, hnamed, -, -, -, hat⟩ := (Spec.applies_iff hf).mp happ
  obtain ⟨hg, hn⟩ := and_e (Cond.before_iff.mp (show (Jvm.Cond.and given_1 narrow_1).before args s = true from hpre))
  obtain ⟨hcnt, g0⟩ := and_e hg
  obtain ⟨q0, g1⟩ := and_e g0
  obtain ⟨w0, w1, rfl⟩ : ∃ w0 w1 : Value, args = #[w0, w1] := by
    have hs : args.size = 2 := by simpa [Cond.value, given_1] using hcnt
    obtain ⟨L⟩ := args
    match L, hs with
    | [w0, w1], _ => exact ⟨w0, w1, rfl⟩
  have hw := fun d (hd : d ∈ tables_1) => atoms_spec (ws := Jvm.Cond.code x code maxLocals ret :: tables_1) hat d (List.mem_cons_of_mem _ hd)
  obtain ⟨i0, e0⟩ := isL_v q0
  obtain rfl : w0 = (.long i0) := Option.some.inj e0
  obtain ⟨i1, e1⟩ := is_v g1
  obtain rfl : w1 = (.int i1) := Option.some.inj e1
  obtain ⟨b, arr, SC⟩ := own_start s _ hw hn
  obtain ⟨n, o, h1, h2, h3, _, L, kc, nc, rfl, ⟨rfl, N⟩, hkn, hq⟩ := (oc0 l s _ hw s.heap.size s.heap i0 i1 b arr SC (Old.start s)) tables_1 p e ha hc hk s m _ below hf ((Spec.applies_iff_loose hf).mp happ).1 ⟨rfl, State.Warmed39.refl s, rfl⟩ trivial
  refine ⟨n, _, h1, h2, h3, hpost _ _ _ _ _ _ ⟨Cond.after_iff.mpr rfl, Cond.after_iff.mpr (eq_i res_at (Term.int_eval (1)) rfl), trivial⟩ ⟨hq.1, hq.2.1, (hq.2.2.sift fun y hy => Or.inr (N y hy)).mono hkn.1 hkn.2⟩⟩
theorem main_1_1 : Claimed_1_1 := comes_1 fun _ _ _ _ _ _ h hF => ⟨h.1, hF⟩
theorem main_1_2 : Claimed_1_2 := comes_1 fun _ _ _ _ _ _ h hF => ⟨h.2.1, hF⟩
end Jvm.Pilot.@@N@@
namespace Jvm.Pilot.@@N@@
open Jvm Jvm.ClassFile Sem Op Lib Jvm.Free Jvm.Stand Jvm.Pilot.@@N@@.Jvm.D
/-! MADE BY PROGRAM (witnessworld.py) out of the Statement's table words and the real class files: 23 classes; the members and pool entries that the words name. The judged class is class 1, her method 1. -/
namespace start1
open Jvm.ClassFile
def u (s : String) : CpInfo := .utf8 (stringToUtf16 s)
/-- a pool by its gaps: so many unusable entries, then the entry; so many at the end -/
def gap : Nat → List CpInfo → List CpInfo
  | 0, r => r
  | n + 1, r => .unusable :: gap n r
def poolList (es : List (Nat × CpInfo)) (last : Nat) : List CpInfo := es.foldr (fun e r => gap e.1 (e.2 :: r)) (gap last [])
def pool (es : List (Nat × CpInfo)) (last : Nat) : Array CpInfo := ⟨poolList es last⟩
def fileOf (pool : Array CpInfo) (this : Nat) (attrs : Array Attribute := #[]) (ms : Array MethodInfo := #[]) (fl : Nat := 33) (sup : Nat := 0) (ifs : Array Nat := #[]) (fds : Array FieldInfo := #[]) : ClassFile where
  minorVersion := 0
  majorVersion := 65
  constantPool := pool
  accessFlags := fl
  thisClass := this
  superClass := sup
  interfaces := ifs
  fields := fds
  methods := ms
  attributes := attrs
def plain (name : String) (sup : Option ClassId) : Class where
  name := name
  kind := .ordinary
  loader := none
  accessFlags := 33
  super := sup
  interfaces := #[]
  cf := none
  fields := #[]
  methods := #[]
  instanceTypes := #[]
  staticTypes := #[]
  resolved := #[]
  callSites := []
  init := .initialized
  statics := none
  mirror := none

def pool0 : Array CpInfo := pool [(5, u "<init>"), (0, u "()V"), (1, .class_ 10), (1, u "java/lang/Object")] 113

def k0c0 : Code := { maxStack := 0, maxLocals := 1, code := object_method_1_code, exceptionTable := #[], attributes := #[] }
def k0m0 : Method := { name := "<init>", desc := "()V", sig := { parameters := [], returnType := none }, accessFlags := 1, code := some k0c0 }
/-- java/lang/Object -/
def k0 : Class := { plain "java/lang/Object" none with
  accessFlags := 33
  interfaces := #[]
  cf := some (fileOf pool0 8 #[] #[{ accessFlags := 1, nameIndex := 5, descriptorIndex := 6, attributes := #[] }] 33 0 #[] #[])
  fields := #[]
  methods := #[k0m0]
  instanceTypes := #[]
  staticTypes := #[]
  resolved := Array.replicate 124 none
  statics := none }

def pool1 : Array CpInfo := pool [(2, .class_ 4), (1, u "java/lang/Object"), (0, u "<init>"), (0, u "()V"), (0, .class_ 8), (0, u "com/example/perdure/perdure/check/DecisionDiagrams"), (0, .methodref 7 10), (0, .nameAndType 5 11), (0, u "(I)V"), (0, .methodref 7 13), (0, .nameAndType 14 15), (0, u "variable"), (0, u "(I)I"), (0, .long 1023), (1, .methodref 19 20), (0, .class_ 21), (0, .nameAndType 22 23), (0, u "com/example/perdure/perdure/check/DecisionDiagramsLeastPinLaw"), (0, u "step"), (0, u "(Lcom/example/perdure/perdure/check/DecisionDiagrams;[I[III)V"), (0, .methodref 7 25), (0, .nameAndType 26 27), (0, u "least"), (0, u "(I)[Z"), (0, .methodref 19 29), (0, .nameAndType 30 15), (0, u "lowest"), (0, .methodref 19 32), (0, .nameAndType 33 34), (0, u "connective"), (0, u "(I)Lcom/example/perdure/perdure/model/Connective;"), (0, .methodref 7 36), (0, .nameAndType 37 38), (0, u "apply"), (0, u "(Lcom/example/perdure/perdure/model/Connective;II)I"), (0, .methodref 19 40), (0, .nameAndType 41 42), (0, u "table"), (0, u "(III)I"), (0, .fieldref 44 45), (0, .class_ 46), (0, .nameAndType 47 48), (0, u "com/example/perdure/perdure/model/Connective"), (0, u "AND"), (0, u "Lcom/example/perdure/perdure/model/Connective;"), (0, .fieldref 44 50), (0, .nameAndType 51 48), (0, u "OR"), (0, .fieldref 44 53), (0, .nameAndType 54 48), (0, u "IMPLIES"), (0, .fieldref 44 56), (0, .nameAndType 57 48), (0, u "IFF"), (2, u "law"), (0, u "(JI)Z")] 7

def k1m0 : Method := { name := "<init>", desc := "()V", sig := { parameters := [], returnType := none }, accessFlags := 2, code := none }
def k1c1 : Code := { maxStack := 8, maxLocals := 12, code := code, exceptionTable := #[], attributes := #[] }
def k1m1 : Method := { name := "law", desc := "(JI)Z", sig := { parameters := [.long, .int], returnType := some .boolean }, accessFlags := 9, code := some k1c1 }
def k1c2 : Code := { maxStack := 7, maxLocals := 8, code := method_3_code, exceptionTable := #[], attributes := #[] }
def k1m2 : Method := { name := "step", desc := "(Lcom/example/perdure/perdure/check/DecisionDiagrams;[I[III)V", sig := { parameters := [(.object "com/example/perdure/perdure/check/DecisionDiagrams"), (.array .int), (.array .int), .int, .int], returnType := none }, accessFlags := 10, code := some k1c2 }
def k1c3 : Code := { maxStack := 2, maxLocals := 1, code := method_4_code, exceptionTable := #[], attributes := #[] }
def k1m3 : Method := { name := "connective", desc := "(I)Lcom/example/perdure/perdure/model/Connective;", sig := { parameters := [.int], returnType := some (.object "com/example/perdure/perdure/model/Connective") }, accessFlags := 10, code := some k1c3 }
def k1c4 : Code := { maxStack := 2, maxLocals := 3, code := method_5_code, exceptionTable := #[], attributes := #[] }
def k1m4 : Method := { name := "table", desc := "(III)I", sig := { parameters := [.int, .int, .int], returnType := some .int }, accessFlags := 10, code := some k1c4 }
def k1c5 : Code := { maxStack := 2, maxLocals := 1, code := method_6_code, exceptionTable := #[], attributes := #[] }
def k1m5 : Method := { name := "lowest", desc := "(I)I", sig := { parameters := [.int], returnType := some .int }, accessFlags := 10, code := some k1c5 }
/-- com/example/perdure/perdure/check/DecisionDiagramsLeastPinLaw -/
def k1 : Class := { plain "com/example/perdure/perdure/check/DecisionDiagramsLeastPinLaw" (some 0) with
  accessFlags := 49
  interfaces := #[]
  cf := some (fileOf pool1 19 #[] #[{ accessFlags := 2, nameIndex := 5, descriptorIndex := 6, attributes := #[] }, { accessFlags := 9, nameIndex := 60, descriptorIndex := 61, attributes := #[] }, { accessFlags := 10, nameIndex := 22, descriptorIndex := 23, attributes := #[] }, { accessFlags := 10, nameIndex := 33, descriptorIndex := 34, attributes := #[] }, { accessFlags := 10, nameIndex := 41, descriptorIndex := 42, attributes := #[] }, { accessFlags := 10, nameIndex := 30, descriptorIndex := 15, attributes := #[] }] 49 2 #[] #[])
  fields := #[]
  methods := #[k1m0, k1m1, k1m2, k1m3, k1m4, k1m5]
  instanceTypes := #[]
  staticTypes := #[]
  resolved := Array.replicate 69 none
  statics := none }

def pool2 : Array CpInfo := pool [(3, .methodref 4 5), (0, .class_ 6), (0, .nameAndType 7 8), (0, u "java/lang/Object"), (0, u "<init>"), (0, u "()V"), (0, .class_ 10), (0, u "com/example/perdure/perdure/check/DecisionDiagrams$PairSet"), (0, .methodref 9 5), (0, .fieldref 13 14), (0, .class_ 15), (0, .nameAndType 16 17), (0, u "com/example/perdure/perdure/check/DecisionDiagrams"), (0, u "walked"), (0, u "Lcom/example/perdure/perdure/check/DecisionDiagrams$PairSet;"), (0, .fieldref 13 19), (0, .nameAndType 20 21), (0, u "variables"), (0, u "I"), (0, .fieldref 13 23), (0, .nameAndType 24 25), (0, u "decided"), (0, u "[I"), (0, .fieldref 13 27), (0, .nameAndType 28 25), (0, u "low"), (0, .fieldref 13 30), (0, .nameAndType 31 25), (0, u "high"), (0, .fieldref 13 33), (0, .nameAndType 34 21), (0, u "nodes"), (0, .fieldref 13 36), (0, .nameAndType 37 25), (0, u "unique"), (0, .methodref 13 39), (0, .nameAndType 40 41), (0, u "resizeCache"), (0, u "(I)V"), (0, .fieldref 13 43), (0, .nameAndType 44 25), (0, u "pendingLeft"), (0, .fieldref 13 46), (0, .nameAndType 47 25), (0, u "pendingRight"), (0, .fieldref 13 49), (0, .nameAndType 50 25), (0, u "pendingStage"), (0, .fieldref 13 52), (0, .nameAndType 53 25), (0, u "results"), (0, .fieldref 13 55), (0, .nameAndType 56 25), (0, u "unwalkedSets"), (0, .fieldref 13 58), (0, .nameAndType 59 25), (0, u "unwalkedLabellings"), (0, .methodref 13 61), (0, .nameAndType 62 63), (0, u "node"), (0, u "(III)I"), (1, .class_ 67), (1, u "com/example/perdure/perdure/model/Connective"), (4, u "apply"), (0, u "(Lcom/example/perdure/perdure/model/Connective;II)I"), (6, .methodref 65 81), (0, .nameAndType 82 83), (0, u "ordinal"), (0, u "()I"), (0, .methodref 13 85), (0, .nameAndType 86 63), (0, u "combine"), (3, u "(I)I"), (4, .methodref 96 97), (0, .class_ 98), (0, .nameAndType 99 100), (0, u "com/example/perdure/perdure/check/Tables"), (0, u "hash"), (0, u "(II)I"), (0, .fieldref 13 102), (0, .nameAndType 103 104), (0, u "solePairs"), (0, u "[J"), (0, .methodref 96 106), (0, .nameAndType 107 100), (0, u "slot"), (0, .fieldref 13 109), (0, .nameAndType 110 25), (0, u "soleLabels"), (3, .methodref 13 115), (0, .nameAndType 116 90), (0, u "level"), (0, .methodref 118 119), (0, .class_ 120), (0, .nameAndType 121 100), (0, u "java/lang/Math"), (0, u "max"), (4, .methodref 13 127), (0, .nameAndType 128 63), (0, u "shortcut"), (0, .integer 2147483648), (0, .methodref 13 131), (0, .nameAndType 132 63), (0, u "cached"), (0, .methodref 13 134), (0, .nameAndType 135 63), (0, u "cacheSlot"), (0, .fieldref 13 137), (0, .nameAndType 138 25), (0, u "cachedOperation"), (0, .fieldref 13 140), (0, .nameAndType 141 25), (0, u "cachedLeft"), (0, .fieldref 13 143), (0, .nameAndType 144 25), (0, u "cachedRight"), (0, .fieldref 13 146), (0, .nameAndType 147 25), (0, u "cachedResult"), (16, .class_ 166), (1, u "java/util/Arrays"), (8, .fieldref 13 176), (0, .nameAndType 177 178), (0, u "CONNECTIVES"), (0, u "[Lcom/example/perdure/perdure/model/Connective;"), (0, .methodref 65 180), (0, .nameAndType 72 181), (0, u "(ZZ)Z"), (0, .methodref 13 183), (0, .nameAndType 184 185), (0, u "follows"), (0, u "(ZZI)I"), (2, .methodref 13 189), (0, .nameAndType 190 191), (0, u "uniqueSlot"), (0, u "(IIII)I"), (0, .methodref 96 193), (0, .nameAndType 194 195), (0, u "grown"), (0, u "(IJ)I"), (0, .methodref 164 197), (0, .nameAndType 198 199), (0, u "copyOf"), (0, u "([II)[I"), (0, .long 2), (1, .methodref 13 203), (0, .nameAndType 204 8), (0, u "rehash"), (0, .integer 4194304), (0, .methodref 118 207), (0, .nameAndType 208 100), (0, u "min"), (0, .methodref 164 210), (0, .nameAndType 211 212), (0, u "fill"), (0, u "([II)V"), (0, .long 18446744073709551615), (1, .methodref 164 216), (0, .nameAndType 211 217), (0, u "([JJ)V"), (4, u "NONE"), (2, u "ALL"), (1, u "SHORT_SORT"), (1, u "MAX_CACHE"), (0, u "UNKNOWN"), (2, u "variable"), (9, u "least"), (0, u "(I)[Z")] 34

def k2c0 : Code := { maxStack := 5, maxLocals := 2, code := prog_26_method_1_code, exceptionTable := #[], attributes := #[] }
def k2m0 : Method := { name := "<init>", desc := "(I)V", sig := { parameters := [.int], returnType := none }, accessFlags := 0, code := some k2c0 }
def k2c1 : Code := { maxStack := 4, maxLocals := 2, code := prog_26_method_2_code, exceptionTable := #[], attributes := #[] }
def k2m1 : Method := { name := "variable", desc := "(I)I", sig := { parameters := [.int], returnType := some .int }, accessFlags := 0, code := some k2c1 }
def k2c2 : Code := { maxStack := 4, maxLocals := 4, code := prog_26_method_6_code, exceptionTable := #[], attributes := #[] }
def k2m2 : Method := { name := "apply", desc := "(Lcom/example/perdure/perdure/model/Connective;II)I", sig := { parameters := [(.object "com/example/perdure/perdure/model/Connective"), .int, .int], returnType := some .int }, accessFlags := 0, code := some k2c2 }
def k2c3 : Code := { maxStack := 4, maxLocals := 15, code := prog_26_method_9_code, exceptionTable := #[], attributes := #[] }
def k2m3 : Method := { name := "combine", desc := "(III)I", sig := { parameters := [.int, .int, .int], returnType := some .int }, accessFlags := 2, code := some k2c3 }
def k2c4 : Code := { maxStack := 3, maxLocals := 4, code := prog_26_method_10_code, exceptionTable := #[], attributes := #[] }
def k2m4 : Method := { name := "least", desc := "(I)[Z", sig := { parameters := [.int], returnType := some (.array .boolean) }, accessFlags := 0, code := some k2c4 }
def k2c5 : Code := { maxStack := 5, maxLocals := 5, code := prog_26_method_14_code, exceptionTable := #[], attributes := #[] }
def k2m5 : Method := { name := "shortcut", desc := "(III)I", sig := { parameters := [.int, .int, .int], returnType := some .int }, accessFlags := 10, code := some k2c5 }
def k2c6 : Code := { maxStack := 2, maxLocals := 4, code := prog_26_method_15_code, exceptionTable := #[], attributes := #[] }
def k2m6 : Method := { name := "follows", desc := "(ZZI)I", sig := { parameters := [.boolean, .boolean, .int], returnType := some .int }, accessFlags := 10, code := some k2c6 }
def k2c7 : Code := { maxStack := 4, maxLocals := 6, code := prog_26_method_17_code, exceptionTable := #[], attributes := #[] }
def k2m7 : Method := { name := "cached", desc := "(III)I", sig := { parameters := [.int, .int, .int], returnType := some .int }, accessFlags := 2, code := some k2c7 }
def k2c8 : Code := { maxStack := 2, maxLocals := 4, code := prog_26_method_18_code, exceptionTable := #[], attributes := #[] }
def k2m8 : Method := { name := "cacheSlot", desc := "(III)I", sig := { parameters := [.int, .int, .int], returnType := some .int }, accessFlags := 2, code := some k2c8 }
def k2c9 : Code := { maxStack := 2, maxLocals := 2, code := prog_26_method_21_code, exceptionTable := #[], attributes := #[] }
def k2m9 : Method := { name := "level", desc := "(I)I", sig := { parameters := [.int], returnType := some .int }, accessFlags := 2, code := some k2c9 }
def k2c10 : Code := { maxStack := 5, maxLocals := 7, code := prog_26_method_22_code, exceptionTable := #[], attributes := #[] }
def k2m10 : Method := { name := "node", desc := "(III)I", sig := { parameters := [.int, .int, .int], returnType := some .int }, accessFlags := 2, code := some k2c10 }
def k2c11 : Code := { maxStack := 2, maxLocals := 4, code := prog_26_method_23_code, exceptionTable := #[], attributes := #[] }
def k2m11 : Method := { name := "uniqueSlot", desc := "(IIII)I", sig := { parameters := [.int, .int, .int, .int], returnType := some .int }, accessFlags := 10, code := some k2c11 }
def k2c12 : Code := { maxStack := 6, maxLocals := 4, code := prog_26_method_24_code, exceptionTable := #[], attributes := #[] }
def k2m12 : Method := { name := "rehash", desc := "()V", sig := { parameters := [], returnType := none }, accessFlags := 2, code := some k2c12 }
def k2c13 : Code := { maxStack := 3, maxLocals := 2, code := prog_26_method_25_code, exceptionTable := #[], attributes := #[] }
def k2m13 : Method := { name := "resizeCache", desc := "(I)V", sig := { parameters := [.int], returnType := none }, accessFlags := 2, code := some k2c13 }
/-- com/example/perdure/perdure/check/DecisionDiagrams -/
def k2 : Class := { plain "com/example/perdure/perdure/check/DecisionDiagrams" (some 0) with
  accessFlags := 48
  interfaces := #[]
  cf := some (fileOf pool2 13 #[.nestMembers #[9]] #[{ accessFlags := 0, nameIndex := 7, descriptorIndex := 41, attributes := #[] }, { accessFlags := 0, nameIndex := 233, descriptorIndex := 90, attributes := #[] }, { accessFlags := 0, nameIndex := 72, descriptorIndex := 73, attributes := #[] }, { accessFlags := 2, nameIndex := 86, descriptorIndex := 63, attributes := #[] }, { accessFlags := 0, nameIndex := 243, descriptorIndex := 244, attributes := #[] }, { accessFlags := 10, nameIndex := 128, descriptorIndex := 63, attributes := #[] }, { accessFlags := 10, nameIndex := 184, descriptorIndex := 185, attributes := #[] }, { accessFlags := 2, nameIndex := 132, descriptorIndex := 63, attributes := #[] }, { accessFlags := 2, nameIndex := 135, descriptorIndex := 63, attributes := #[] }, { accessFlags := 2, nameIndex := 116, descriptorIndex := 90, attributes := #[] }, { accessFlags := 2, nameIndex := 62, descriptorIndex := 63, attributes := #[] }, { accessFlags := 10, nameIndex := 190, descriptorIndex := 191, attributes := #[] }, { accessFlags := 2, nameIndex := 204, descriptorIndex := 8, attributes := #[] }, { accessFlags := 2, nameIndex := 40, descriptorIndex := 41, attributes := #[] }] 48 4 #[] #[{ accessFlags := 24, nameIndex := 222, descriptorIndex := 21, attributes := #[] }, { accessFlags := 24, nameIndex := 225, descriptorIndex := 21, attributes := #[] }, { accessFlags := 26, nameIndex := 227, descriptorIndex := 21, attributes := #[] }, { accessFlags := 26, nameIndex := 229, descriptorIndex := 21, attributes := #[] }, { accessFlags := 26, nameIndex := 177, descriptorIndex := 178, attributes := #[] }, { accessFlags := 26, nameIndex := 230, descriptorIndex := 21, attributes := #[] }, { accessFlags := 18, nameIndex := 20, descriptorIndex := 21, attributes := #[] }, { accessFlags := 2, nameIndex := 24, descriptorIndex := 25, attributes := #[] }, { accessFlags := 2, nameIndex := 28, descriptorIndex := 25, attributes := #[] }, { accessFlags := 2, nameIndex := 31, descriptorIndex := 25, attributes := #[] }, { accessFlags := 2, nameIndex := 34, descriptorIndex := 21, attributes := #[] }, { accessFlags := 2, nameIndex := 37, descriptorIndex := 25, attributes := #[] }, { accessFlags := 2, nameIndex := 138, descriptorIndex := 25, attributes := #[] }, { accessFlags := 2, nameIndex := 141, descriptorIndex := 25, attributes := #[] }, { accessFlags := 2, nameIndex := 144, descriptorIndex := 25, attributes := #[] }, { accessFlags := 2, nameIndex := 147, descriptorIndex := 25, attributes := #[] }, { accessFlags := 2, nameIndex := 103, descriptorIndex := 104, attributes := #[] }, { accessFlags := 2, nameIndex := 110, descriptorIndex := 25, attributes := #[] }, { accessFlags := 18, nameIndex := 44, descriptorIndex := 25, attributes := #[] }, { accessFlags := 18, nameIndex := 47, descriptorIndex := 25, attributes := #[] }, { accessFlags := 18, nameIndex := 50, descriptorIndex := 25, attributes := #[] }, { accessFlags := 18, nameIndex := 53, descriptorIndex := 25, attributes := #[] }, { accessFlags := 18, nameIndex := 56, descriptorIndex := 25, attributes := #[] }, { accessFlags := 18, nameIndex := 59, descriptorIndex := 25, attributes := #[] }, { accessFlags := 18, nameIndex := 16, descriptorIndex := 17, attributes := #[] }])
  fields := #[{ name := "NONE", type := .int, accessFlags := 24, slot := 0, constantValue := 0 }, { name := "ALL", type := .int, accessFlags := 24, slot := 1, constantValue := 0 }, { name := "SHORT_SORT", type := .int, accessFlags := 26, slot := 2, constantValue := 0 }, { name := "MAX_CACHE", type := .int, accessFlags := 26, slot := 3, constantValue := 0 }, { name := "CONNECTIVES", type := (.array (.object "com/example/perdure/perdure/model/Connective")), accessFlags := 26, slot := 4, constantValue := 0 }, { name := "UNKNOWN", type := .int, accessFlags := 26, slot := 5, constantValue := 0 }, { name := "variables", type := .int, accessFlags := 18, slot := 0, constantValue := 0 }, { name := "decided", type := (.array .int), accessFlags := 2, slot := 1, constantValue := 0 }, { name := "low", type := (.array .int), accessFlags := 2, slot := 2, constantValue := 0 }, { name := "high", type := (.array .int), accessFlags := 2, slot := 3, constantValue := 0 }, { name := "nodes", type := .int, accessFlags := 2, slot := 4, constantValue := 0 }, { name := "unique", type := (.array .int), accessFlags := 2, slot := 5, constantValue := 0 }, { name := "cachedOperation", type := (.array .int), accessFlags := 2, slot := 6, constantValue := 0 }, { name := "cachedLeft", type := (.array .int), accessFlags := 2, slot := 7, constantValue := 0 }, { name := "cachedRight", type := (.array .int), accessFlags := 2, slot := 8, constantValue := 0 }, { name := "cachedResult", type := (.array .int), accessFlags := 2, slot := 9, constantValue := 0 }, { name := "solePairs", type := (.array .long), accessFlags := 2, slot := 10, constantValue := 0 }, { name := "soleLabels", type := (.array .int), accessFlags := 2, slot := 11, constantValue := 0 }, { name := "pendingLeft", type := (.array .int), accessFlags := 18, slot := 12, constantValue := 0 }, { name := "pendingRight", type := (.array .int), accessFlags := 18, slot := 13, constantValue := 0 }, { name := "pendingStage", type := (.array .int), accessFlags := 18, slot := 14, constantValue := 0 }, { name := "results", type := (.array .int), accessFlags := 18, slot := 15, constantValue := 0 }, { name := "unwalkedSets", type := (.array .int), accessFlags := 18, slot := 16, constantValue := 0 }, { name := "unwalkedLabellings", type := (.array .int), accessFlags := 18, slot := 17, constantValue := 0 }, { name := "walked", type := (.object "com/example/perdure/perdure/check/DecisionDiagrams$PairSet"), accessFlags := 18, slot := 18, constantValue := 0 }]
  methods := #[k2m0, k2m1, k2m2, k2m3, k2m4, k2m5, k2m6, k2m7, k2m8, k2m9, k2m10, k2m11, k2m12, k2m13]
  instanceTypes := #[.int, (.array .int), (.array .int), (.array .int), .int, (.array .int), (.array .int), (.array .int), (.array .int), (.array .int), (.array .long), (.array .int), (.array .int), (.array .int), (.array .int), (.array .int), (.array .int), (.array .int), (.object "com/example/perdure/perdure/check/DecisionDiagrams$PairSet")]
  staticTypes := #[.int, .int, .int, .int, (.array (.object "com/example/perdure/perdure/model/Connective")), .int]
  resolved := ((Array.replicate 279 none).setIfInBounds 9 (some (.cls 3))).setIfInBounds 11 (some (.method ⟨3, 0⟩))
  statics := some 0 }

def pool3 : Array CpInfo := pool [(1, .methodref 2 3), (0, .class_ 4), (0, .nameAndType 5 6), (0, u "java/lang/Object"), (0, u "<init>"), (0, u "()V"), (0, .fieldref 8 9), (0, .class_ 10), (0, .nameAndType 11 12), (0, u "com/example/perdure/perdure/check/DecisionDiagrams$PairSet"), (0, u "pairs"), (0, u "[J"), (0, .fieldref 8 14), (0, .nameAndType 15 16), (0, u "fillings"), (0, u "[I"), (0, .fieldref 8 18), (0, .nameAndType 19 20), (0, u "filling"), (0, u "I"), (1, .class_ 24), (1, u "com/example/perdure/perdure/check/DecisionDiagrams"), (13, u "size")] 31

def k3c0 : Code := { maxStack := 2, maxLocals := 1, code := prog_27_method_1_code, exceptionTable := #[], attributes := #[] }
def k3m0 : Method := { name := "<init>", desc := "()V", sig := { parameters := [], returnType := none }, accessFlags := 2, code := some k3c0 }
/-- com/example/perdure/perdure/check/DecisionDiagrams$PairSet -/
def k3 : Class := { plain "com/example/perdure/perdure/check/DecisionDiagrams$PairSet" (some 0) with
  accessFlags := 48
  interfaces := #[]
  cf := some (fileOf pool3 8 #[.nestHost 22] #[{ accessFlags := 2, nameIndex := 5, descriptorIndex := 6, attributes := #[] }] 48 2 #[] #[{ accessFlags := 2, nameIndex := 11, descriptorIndex := 12, attributes := #[] }, { accessFlags := 2, nameIndex := 15, descriptorIndex := 16, attributes := #[] }, { accessFlags := 2, nameIndex := 19, descriptorIndex := 20, attributes := #[] }, { accessFlags := 2, nameIndex := 38, descriptorIndex := 20, attributes := #[] }])
  fields := #[{ name := "pairs", type := (.array .long), accessFlags := 2, slot := 0, constantValue := 0 }, { name := "fillings", type := (.array .int), accessFlags := 2, slot := 1, constantValue := 0 }, { name := "filling", type := .int, accessFlags := 2, slot := 2, constantValue := 0 }, { name := "size", type := .int, accessFlags := 2, slot := 3, constantValue := 0 }]
  methods := #[k3m0]
  instanceTypes := #[(.array .long), (.array .int), .int, .int]
  staticTypes := #[]
  resolved := Array.replicate 70 none
  statics := none }

def pool4 : Array CpInfo := pool [(2, .class_ 4), (1, u "java/lang/Object"), (0, u "<init>"), (0, u "()V"), (7, .class_ 16), (1, u "java/util/Arrays"), (57, .class_ 76), (1, u "java/util/Arrays$NaturalOrder"), (36, .class_ 115), (1, u "java/util/Arrays$LegacyMergeSort"), (1, u "Z"), (32, .methodref 151 152), (0, .class_ 153), (0, .nameAndType 154 155), (0, u "java/lang/System"), (0, u "arraycopy"), (0, u "(Ljava/lang/Object;ILjava/lang/Object;II)V"), (146, u "copyOf"), (1, .methodref 305 306), (0, .class_ 307), (0, .nameAndType 308 309), (0, u "java/lang/Math"), (0, u "min"), (0, u "(II)I"), (65, .class_ 376), (0, u "java/util/Arrays$ArrayList"), (68, u "$assertionsDisabled"), (269, u "MIN_ARRAY_SORT_GRAN"), (0, u "I"), (2, u "INSERTIONSORT_THRESHOLD"), (120, u "fill"), (0, u "([JJ)V"), (3, u "([II)V"), (25, u "([II)[I"), (103, .class_ 976), (0, u "java/util/Arrays$ArrayItr")] 52

def k4m0 : Method := { name := "<init>", desc := "()V", sig := { parameters := [], returnType := none }, accessFlags := 2, code := none }
def k4c1 : Code := { maxStack := 4, maxLocals := 5, code := jdk_65_method_101_code, exceptionTable := #[], attributes := #[] }
def k4m1 : Method := { name := "fill", desc := "([JJ)V", sig := { parameters := [(.array .long), .long], returnType := none }, accessFlags := 9, code := some k4c1 }
def k4c2 : Code := { maxStack := 3, maxLocals := 4, code := jdk_65_method_103_code, exceptionTable := #[], attributes := #[] }
def k4m2 : Method := { name := "fill", desc := "([II)V", sig := { parameters := [(.array .int), .int], returnType := none }, accessFlags := 9, code := some k4c2 }
def k4c3 : Code := { maxStack := 6, maxLocals := 3, code := jdk_65_method_123_code, exceptionTable := #[], attributes := #[] }
def k4m3 : Method := { name := "copyOf", desc := "([II)[I", sig := { parameters := [(.array .int), .int], returnType := some (.array .int) }, accessFlags := 9, code := some k4c3 }
/-- java/util/Arrays -/
def k4 : Class := { plain "java/util/Arrays" (some 0) with
  accessFlags := 49
  interfaces := #[]
  cf := some (fileOf pool4 14 #[.nestMembers #[975, 375, 113, 74]] #[{ accessFlags := 2, nameIndex := 5, descriptorIndex := 6, attributes := #[] }, { accessFlags := 9, nameIndex := 840, descriptorIndex := 841, attributes := #[] }, { accessFlags := 9, nameIndex := 840, descriptorIndex := 845, attributes := #[] }, { accessFlags := 9, nameIndex := 302, descriptorIndex := 871, attributes := #[] }] 49 2 #[] #[{ accessFlags := 26, nameIndex := 715, descriptorIndex := 716, attributes := #[] }, { accessFlags := 26, nameIndex := 719, descriptorIndex := 716, attributes := #[] }, { accessFlags := 4120, nameIndex := 445, descriptorIndex := 117, attributes := #[] }])
  fields := #[{ name := "MIN_ARRAY_SORT_GRAN", type := .int, accessFlags := 26, slot := 0, constantValue := 0 }, { name := "INSERTIONSORT_THRESHOLD", type := .int, accessFlags := 26, slot := 1, constantValue := 0 }, { name := "$assertionsDisabled", type := .boolean, accessFlags := 4120, slot := 2, constantValue := 0 }]
  methods := #[k4m0, k4m1, k4m2, k4m3]
  instanceTypes := #[]
  staticTypes := #[.int, .int, .boolean]
  resolved := Array.replicate 1029 none
  statics := none }

def pool5 : Array CpInfo := pool [(4, .class_ 6), (1, u "java/lang/Object"), (0, u "<init>"), (0, u "()V"), (0, .class_ 10), (0, u "com/example/perdure/perdure/check/Tables"), (0, .long 2147483639), (10, .long 2), (1, .methodref 25 26), (0, .class_ 27), (0, .nameAndType 28 29), (0, u "java/lang/Math"), (0, u "max"), (0, u "(JJ)J"), (0, .methodref 25 31), (0, .nameAndType 32 29), (0, u "min"), (0, .integer 2654435761), (0, .integer 2246822507), (0, .integer 3266489909), (0, u "MAX_LENGTH"), (0, u "I"), (4, u "grown"), (0, u "(IJ)I"), (1, u "hash"), (0, u "(II)I"), (0, u "slot")] 17

def k5m0 : Method := { name := "<init>", desc := "()V", sig := { parameters := [], returnType := none }, accessFlags := 2, code := none }
def k5c1 : Code := { maxStack := 4, maxLocals := 3, code := prog_53_method_2_code, exceptionTable := #[], attributes := #[] }
def k5m1 : Method := { name := "grown", desc := "(IJ)I", sig := { parameters := [.int, .long], returnType := some .int }, accessFlags := 8, code := some k5c1 }
def k5c2 : Code := { maxStack := 2, maxLocals := 2, code := prog_53_method_3_code, exceptionTable := #[], attributes := #[] }
def k5m2 : Method := { name := "hash", desc := "(II)I", sig := { parameters := [.int, .int], returnType := some .int }, accessFlags := 8, code := some k5c2 }
def k5c3 : Code := { maxStack := 3, maxLocals := 3, code := prog_53_method_4_code, exceptionTable := #[], attributes := #[] }
def k5m3 : Method := { name := "slot", desc := "(II)I", sig := { parameters := [.int, .int], returnType := some .int }, accessFlags := 8, code := some k5c3 }
/-- com/example/perdure/perdure/check/Tables -/
def k5 : Class := { plain "com/example/perdure/perdure/check/Tables" (some 0) with
  accessFlags := 48
  interfaces := #[]
  cf := some (fileOf pool5 9 #[] #[{ accessFlags := 2, nameIndex := 7, descriptorIndex := 8, attributes := #[] }, { accessFlags := 8, nameIndex := 42, descriptorIndex := 43, attributes := #[] }, { accessFlags := 8, nameIndex := 45, descriptorIndex := 46, attributes := #[] }, { accessFlags := 8, nameIndex := 47, descriptorIndex := 46, attributes := #[] }] 48 4 #[] #[{ accessFlags := 24, nameIndex := 36, descriptorIndex := 37, attributes := #[] }])
  fields := #[{ name := "MAX_LENGTH", type := .int, accessFlags := 24, slot := 0, constantValue := 0 }]
  methods := #[k5m0, k5m1, k5m2, k5m3]
  instanceTypes := #[]
  staticTypes := #[.int]
  resolved := Array.replicate 65 none
  statics := none }

def pool6 : Array CpInfo := pool [(1, .class_ 2), (0, u "java/lang/Math"), (1, .class_ 6), (1, u "java/lang/Object"), (0, u "<init>"), (0, u "()V"), (89, .class_ 100), (1, u "java/lang/Math$RandomNumberGeneratorHolder"), (20, u "(JJ)J"), (50, u "negativeZeroFloatBits"), (0, u "J"), (2, u "negativeZeroDoubleBits"), (21, u "max"), (2, u "min"), (43, u "$assertionsDisabled"), (0, u "Z"), (88, u "(II)I"), (2, u "twoToTheDoubleScaleDown"), (0, u "D"), (4, u "twoToTheDoubleScaleUp"), (9, u "E"), (3, u "PI"), (2, u "TAU"), (2, u "DEGREES_TO_RADIANS"), (0, u "RADIANS_TO_DEGREES")] 94

def k6m0 : Method := { name := "<init>", desc := "()V", sig := { parameters := [], returnType := none }, accessFlags := 2, code := none }
def k6c1 : Code := { maxStack := 2, maxLocals := 2, code := jdk_29_method_65_code, exceptionTable := #[], attributes := #[] }
def k6m1 : Method := { name := "max", desc := "(II)I", sig := { parameters := [.int, .int], returnType := some .int }, accessFlags := 9, code := some k6c1 }
def k6c2 : Code := { maxStack := 4, maxLocals := 4, code := jdk_29_method_66_code, exceptionTable := #[], attributes := #[] }
def k6m2 : Method := { name := "max", desc := "(JJ)J", sig := { parameters := [.long, .long], returnType := some .long }, accessFlags := 9, code := some k6c2 }
def k6c3 : Code := { maxStack := 2, maxLocals := 2, code := jdk_29_method_69_code, exceptionTable := #[], attributes := #[] }
def k6m3 : Method := { name := "min", desc := "(II)I", sig := { parameters := [.int, .int], returnType := some .int }, accessFlags := 9, code := some k6c3 }
def k6c4 : Code := { maxStack := 4, maxLocals := 4, code := jdk_29_method_70_code, exceptionTable := #[], attributes := #[] }
def k6m4 : Method := { name := "min", desc := "(JJ)J", sig := { parameters := [.long, .long], returnType := some .long }, accessFlags := 9, code := some k6c4 }
/-- java/lang/Math -/
def k6 : Class := { plain "java/lang/Math" (some 0) with
  accessFlags := 49
  interfaces := #[]
  cf := some (fileOf pool6 1 #[.nestMembers #[98]] #[{ accessFlags := 2, nameIndex := 7, descriptorIndex := 8, attributes := #[] }, { accessFlags := 9, nameIndex := 198, descriptorIndex := 335, attributes := #[] }, { accessFlags := 9, nameIndex := 198, descriptorIndex := 121, attributes := #[] }, { accessFlags := 9, nameIndex := 201, descriptorIndex := 335, attributes := #[] }, { accessFlags := 9, nameIndex := 201, descriptorIndex := 121, attributes := #[] }] 49 4 #[] #[{ accessFlags := 25, nameIndex := 354, descriptorIndex := 339, attributes := #[] }, { accessFlags := 25, nameIndex := 358, descriptorIndex := 339, attributes := #[] }, { accessFlags := 25, nameIndex := 361, descriptorIndex := 339, attributes := #[] }, { accessFlags := 26, nameIndex := 364, descriptorIndex := 339, attributes := #[] }, { accessFlags := 26, nameIndex := 365, descriptorIndex := 339, attributes := #[] }, { accessFlags := 26, nameIndex := 172, descriptorIndex := 173, attributes := #[] }, { accessFlags := 26, nameIndex := 176, descriptorIndex := 173, attributes := #[] }, { accessFlags := 8, nameIndex := 344, descriptorIndex := 339, attributes := #[] }, { accessFlags := 8, nameIndex := 338, descriptorIndex := 339, attributes := #[] }, { accessFlags := 4120, nameIndex := 245, descriptorIndex := 246, attributes := #[] }])
  fields := #[{ name := "E", type := .double, accessFlags := 25, slot := 0, constantValue := 0 }, { name := "PI", type := .double, accessFlags := 25, slot := 1, constantValue := 0 }, { name := "TAU", type := .double, accessFlags := 25, slot := 2, constantValue := 0 }, { name := "DEGREES_TO_RADIANS", type := .double, accessFlags := 26, slot := 3, constantValue := 0 }, { name := "RADIANS_TO_DEGREES", type := .double, accessFlags := 26, slot := 4, constantValue := 0 }, { name := "negativeZeroFloatBits", type := .long, accessFlags := 26, slot := 5, constantValue := 0 }, { name := "negativeZeroDoubleBits", type := .long, accessFlags := 26, slot := 6, constantValue := 0 }, { name := "twoToTheDoubleScaleUp", type := .double, accessFlags := 8, slot := 7, constantValue := 0 }, { name := "twoToTheDoubleScaleDown", type := .double, accessFlags := 8, slot := 8, constantValue := 0 }, { name := "$assertionsDisabled", type := .boolean, accessFlags := 4120, slot := 9, constantValue := 0 }]
  methods := #[k6m0, k6m1, k6m2, k6m3, k6m4]
  instanceTypes := #[]
  staticTypes := #[.double, .double, .double, .double, .double, .long, .long, .double, .double, .boolean]
  resolved := Array.replicate 460 none
  statics := none }

def pool7 : Array CpInfo := pool [(2, .class_ 4), (1, u "java/lang/Object"), (0, u "<init>"), (0, u "()V"), (1, .class_ 10), (1, u "java/lang/System"), (0, u "allowSecurityManager"), (0, u "I"), (16, u "cons"), (0, u "Ljava/io/Console;"), (77, .class_ 110), (1, u "java/lang/System$CallersHolder"), (43, u "initialErrStream"), (0, u "Ljava/io/PrintStream;"), (19, u "security"), (0, u "Ljava/lang/SecurityManager;"), (31, .class_ 209), (0, u "java/lang/System$1"), (7, u "props"), (0, u "Ljava/util/Properties;"), (2, u "lineSeparator"), (0, u "Ljava/lang/String;"), (96, .class_ 321), (1, u "java/lang/System$LoggerFinder"), (5, .class_ 328), (0, u "java/lang/System$Logger"), (67, u "err"), (2, u "out"), (91, u "notSupportedJnuEncoding"), (15, u "in"), (17, u "initialIn"), (0, u "Ljava/io/InputStream;"), (35, u "bootLayer"), (0, u "Ljava/lang/ModuleLayer;"), (99, .class_ 664), (0, u "java/lang/System$2"), (9, u "NEVER"), (2, u "MAYBE"), (49, u "arraycopy"), (0, u "(Ljava/lang/Object;ILjava/lang/Object;II)V"), (72, .class_ 802), (0, u "java/lang/System$Logger$Level")] 31

def k7m0 : Method := { name := "<init>", desc := "()V", sig := { parameters := [], returnType := none }, accessFlags := 2, code := none }
def k7m1 : Method := { name := "arraycopy", desc := "(Ljava/lang/Object;ILjava/lang/Object;II)V", sig := { parameters := [(.object "java/lang/Object"), .int, (.object "java/lang/Object"), .int, .int], returnType := none }, accessFlags := 265, code := none }
/-- java/lang/System -/
def k7 : Class := { plain "java/lang/System" (some 0) with
  accessFlags := 49
  interfaces := #[]
  cf := some (fileOf pool7 8 #[.nestMembers #[319, 327, 801, 108, 663, 208]] #[{ accessFlags := 2, nameIndex := 5, descriptorIndex := 6, attributes := #[] }, { accessFlags := 265, nameIndex := 727, descriptorIndex := 728, attributes := #[] }] 49 2 #[] #[{ accessFlags := 25, nameIndex := 507, descriptorIndex := 526, attributes := #[] }, { accessFlags := 25, nameIndex := 399, descriptorIndex := 155, attributes := #[] }, { accessFlags := 25, nameIndex := 396, descriptorIndex := 155, attributes := #[] }, { accessFlags := 10, nameIndex := 525, descriptorIndex := 526, attributes := #[] }, { accessFlags := 26, nameIndex := 674, descriptorIndex := 12, attributes := #[] }, { accessFlags := 26, nameIndex := 677, descriptorIndex := 12, attributes := #[] }, { accessFlags := 10, nameIndex := 11, descriptorIndex := 12, attributes := #[] }, { accessFlags := 74, nameIndex := 175, descriptorIndex := 176, attributes := #[] }, { accessFlags := 10, nameIndex := 491, descriptorIndex := 222, attributes := #[] }, { accessFlags := 74, nameIndex := 29, descriptorIndex := 30, attributes := #[] }, { accessFlags := 74, nameIndex := 154, descriptorIndex := 155, attributes := #[] }, { accessFlags := 10, nameIndex := 217, descriptorIndex := 218, attributes := #[] }, { accessFlags := 10, nameIndex := 221, descriptorIndex := 222, attributes := #[] }, { accessFlags := 8, nameIndex := 562, descriptorIndex := 563, attributes := #[] }])
  fields := #[{ name := "in", type := (.object "java/io/InputStream"), accessFlags := 25, slot := 0, constantValue := 0 }, { name := "out", type := (.object "java/io/PrintStream"), accessFlags := 25, slot := 1, constantValue := 0 }, { name := "err", type := (.object "java/io/PrintStream"), accessFlags := 25, slot := 2, constantValue := 0 }, { name := "initialIn", type := (.object "java/io/InputStream"), accessFlags := 10, slot := 3, constantValue := 0 }, { name := "NEVER", type := .int, accessFlags := 26, slot := 4, constantValue := 0 }, { name := "MAYBE", type := .int, accessFlags := 26, slot := 5, constantValue := 0 }, { name := "allowSecurityManager", type := .int, accessFlags := 10, slot := 6, constantValue := 0 }, { name := "security", type := (.object "java/lang/SecurityManager"), accessFlags := 74, slot := 7, constantValue := 0 }, { name := "notSupportedJnuEncoding", type := (.object "java/lang/String"), accessFlags := 10, slot := 8, constantValue := 0 }, { name := "cons", type := (.object "java/io/Console"), accessFlags := 74, slot := 9, constantValue := 0 }, { name := "initialErrStream", type := (.object "java/io/PrintStream"), accessFlags := 74, slot := 10, constantValue := 0 }, { name := "props", type := (.object "java/util/Properties"), accessFlags := 10, slot := 11, constantValue := 0 }, { name := "lineSeparator", type := (.object "java/lang/String"), accessFlags := 10, slot := 12, constantValue := 0 }, { name := "bootLayer", type := (.object "java/lang/ModuleLayer"), accessFlags := 8, slot := 13, constantValue := 0 }]
  methods := #[k7m0, k7m1]
  instanceTypes := #[]
  staticTypes := #[(.object "java/io/InputStream"), (.object "java/io/PrintStream"), (.object "java/io/PrintStream"), (.object "java/io/InputStream"), .int, .int, .int, (.object "java/lang/SecurityManager"), (.object "java/lang/String"), (.object "java/io/Console"), (.object "java/io/PrintStream"), (.object "java/util/Properties"), (.object "java/lang/String"), (.object "java/lang/ModuleLayer")]
  resolved := Array.replicate 834 none
  statics := none }

def pool8 : Array CpInfo := pool [(1, .class_ 2), (0, u "java/lang/constant/Constable"), (0, .class_ 4), (0, u "java/lang/Object")] 6

/-- java/lang/constant/Constable -/
def k8 : Class := { plain "java/lang/constant/Constable" (some 0) with
  accessFlags := 1537
  interfaces := #[]
  cf := some (fileOf pool8 1 #[] #[] 1537 3 #[] #[])
  fields := #[]
  methods := #[]
  instanceTypes := #[]
  staticTypes := #[]
  resolved := Array.replicate 11 none
  statics := none }

def pool9 : Array CpInfo := pool [(1, .class_ 2), (0, u "java/lang/Comparable"), (0, .class_ 4), (0, u "java/lang/Object")] 7

/-- java/lang/Comparable -/
def k9 : Class := { plain "java/lang/Comparable" (some 0) with
  accessFlags := 1537
  interfaces := #[]
  cf := some (fileOf pool9 1 #[] #[] 1537 3 #[] #[])
  fields := #[]
  methods := #[]
  instanceTypes := #[]
  staticTypes := #[]
  resolved := Array.replicate 12 none
  statics := none }

def pool10 : Array CpInfo := pool [(1, .class_ 2), (0, u "java/io/Serializable"), (0, .class_ 4), (0, u "java/lang/Object")] 2

/-- java/io/Serializable -/
def k10 : Class := { plain "java/io/Serializable" (some 0) with
  accessFlags := 1537
  interfaces := #[]
  cf := some (fileOf pool10 1 #[] #[] 1537 3 #[] #[])
  fields := #[]
  methods := #[]
  instanceTypes := #[]
  staticTypes := #[]
  resolved := Array.replicate 7 none
  statics := none }

def pool11 : Array CpInfo := pool [(2, .class_ 4), (1, u "java/lang/Enum"), (0, u "name"), (0, u "Ljava/lang/String;"), (0, .fieldref 2 8), (0, .nameAndType 9 10), (0, u "ordinal"), (0, u "I"), (1, .class_ 14), (1, u "java/lang/Object"), (4, u "hash"), (86, .class_ 108), (1, u "java/lang/Enum$EnumDesc"), (2, .class_ 112), (0, u "java/lang/constant/Constable"), (0, .class_ 114), (0, u "java/lang/Comparable"), (0, .class_ 116), (0, u "java/io/Serializable"), (9, u "()I")] 77

def k11c0 : Code := { maxStack := 1, maxLocals := 1, code := jdk_37_method_2_code, exceptionTable := #[], attributes := #[] }
def k11m0 : Method := { name := "ordinal", desc := "()I", sig := { parameters := [], returnType := some .int }, accessFlags := 17, code := some k11c0 }
/-- java/lang/Enum -/
def k11 : Class := { plain "java/lang/Enum" (some 0) with
  accessFlags := 1057
  interfaces := #[8, 9, 10]
  cf := some (fileOf pool11 2 #[.nestMembers #[106]] #[{ accessFlags := 17, nameIndex := 9, descriptorIndex := 126, attributes := #[] }] 1057 12 #[111, 113, 115] #[{ accessFlags := 18, nameIndex := 5, descriptorIndex := 6, attributes := #[] }, { accessFlags := 18, nameIndex := 9, descriptorIndex := 10, attributes := #[] }, { accessFlags := 2, nameIndex := 19, descriptorIndex := 10, attributes := #[] }])
  fields := #[{ name := "name", type := (.object "java/lang/String"), accessFlags := 18, slot := 0, constantValue := 0 }, { name := "ordinal", type := .int, accessFlags := 18, slot := 1, constantValue := 0 }, { name := "hash", type := .int, accessFlags := 2, slot := 2, constantValue := 0 }]
  methods := #[k11m0]
  instanceTypes := #[(.object "java/lang/String"), .int, .int]
  staticTypes := #[]
  resolved := Array.replicate 204 none
  statics := none }

def pool12 : Array CpInfo := pool [(1, .class_ 2), (0, u "com/example/perdure/perdure/model/Connective"), (2, u "AND"), (0, u "Lcom/example/perdure/perdure/model/Connective;"), (2, u "OR"), (2, u "IMPLIES"), (2, u "IFF"), (2, u "$VALUES"), (0, u "[Lcom/example/perdure/perdure/model/Connective;"), (6, .class_ 28), (1, u "java/lang/Enum"), (8, u "symbol"), (0, u "Ljava/lang/String;"), (0, .methodref 1 40), (0, .nameAndType 41 42), (0, u "ordinal"), (0, u "()I"), (5, .long 18446744073709551615), (1, .methodref 1 51), (0, .nameAndType 52 53), (0, u "applyToBits"), (0, u "(JJ)J"), (27, u "apply"), (0, u "(ZZ)Z")] 7

def k12c0 : Code := { maxStack := 4, maxLocals := 5, code := prog_108_method_4_code, exceptionTable := #[], attributes := #[] }
def k12m0 : Method := { name := "applyToBits", desc := "(JJ)J", sig := { parameters := [.long, .long], returnType := some .long }, accessFlags := 1, code := some k12c0 }
def k12c1 : Code := { maxStack := 5, maxLocals := 3, code := prog_108_method_5_code, exceptionTable := #[], attributes := #[] }
def k12m1 : Method := { name := "apply", desc := "(ZZ)Z", sig := { parameters := [.boolean, .boolean], returnType := some .boolean }, accessFlags := 1, code := some k12c1 }
/-- com/example/perdure/perdure/model/Connective -/
def k12 : Class := { plain "com/example/perdure/perdure/model/Connective" (some 11) with
  accessFlags := 16433
  interfaces := #[]
  cf := some (fileOf pool12 1 #[] #[{ accessFlags := 1, nameIndex := 52, descriptorIndex := 53, attributes := #[] }, { accessFlags := 1, nameIndex := 81, descriptorIndex := 82, attributes := #[] }] 16433 26 #[] #[{ accessFlags := 16409, nameIndex := 5, descriptorIndex := 6, attributes := #[] }, { accessFlags := 16409, nameIndex := 9, descriptorIndex := 6, attributes := #[] }, { accessFlags := 16409, nameIndex := 12, descriptorIndex := 6, attributes := #[] }, { accessFlags := 16409, nameIndex := 15, descriptorIndex := 6, attributes := #[] }, { accessFlags := 18, nameIndex := 37, descriptorIndex := 38, attributes := #[] }, { accessFlags := 4122, nameIndex := 18, descriptorIndex := 19, attributes := #[] }])
  fields := #[{ name := "AND", type := (.object "com/example/perdure/perdure/model/Connective"), accessFlags := 16409, slot := 0, constantValue := 0 }, { name := "OR", type := (.object "com/example/perdure/perdure/model/Connective"), accessFlags := 16409, slot := 1, constantValue := 0 }, { name := "IMPLIES", type := (.object "com/example/perdure/perdure/model/Connective"), accessFlags := 16409, slot := 2, constantValue := 0 }, { name := "IFF", type := (.object "com/example/perdure/perdure/model/Connective"), accessFlags := 16409, slot := 3, constantValue := 0 }, { name := "symbol", type := (.object "java/lang/String"), accessFlags := 18, slot := 3, constantValue := 0 }, { name := "$VALUES", type := (.array (.object "com/example/perdure/perdure/model/Connective")), accessFlags := 4122, slot := 4, constantValue := 0 }]
  methods := #[k12m0, k12m1]
  instanceTypes := #[(.object "java/lang/String"), .int, .int, (.object "java/lang/String")]
  staticTypes := #[(.object "com/example/perdure/perdure/model/Connective"), (.object "com/example/perdure/perdure/model/Connective"), (.object "com/example/perdure/perdure/model/Connective"), (.object "com/example/perdure/perdure/model/Connective"), (.array (.object "com/example/perdure/perdure/model/Connective"))]
  resolved := Array.replicate 90 none
  statics := some 1 }

def pool13 : Array CpInfo := pool [(1, u "java/lang/Cloneable"), (0, .class_ 1), (0, u "java/lang/Object"), (0, .class_ 3)] 3

/-- java/lang/Cloneable -/
def k13 : Class := { plain "java/lang/Cloneable" (some 0) with
  accessFlags := 1537
  interfaces := #[]
  cf := some (fileOf pool13 2 #[] #[] 1537 4 #[] #[])
  fields := #[]
  methods := #[]
  instanceTypes := #[]
  staticTypes := #[]
  resolved := Array.replicate 8 none
  statics := none }

/-- the primitive boolean -/
def k14 : Class := { plain "boolean" none with kind := .primitive 'Z', accessFlags := 0x411 }
/-- [Z -/
def k15 : Class := { plain "[Z" (some 0) with kind := .array 14 .boolean, interfaces := #[13, 10], accessFlags := 1041 }

/-- the primitive byte -/
def k16 : Class := { plain "byte" none with kind := .primitive 'B', accessFlags := 0x411 }
/-- [B -/
def k17 : Class := { plain "[B" (some 0) with kind := .array 16 .byte, interfaces := #[13, 10], accessFlags := 1041 }

/-- the primitive int -/
def k18 : Class := { plain "int" none with kind := .primitive 'I', accessFlags := 0x411 }
/-- [I -/
def k19 : Class := { plain "[I" (some 0) with kind := .array 18 .int, interfaces := #[13, 10], accessFlags := 1041 }

/-- the primitive long -/
def k20 : Class := { plain "long" none with kind := .primitive 'J', accessFlags := 0x411 }
/-- [J -/
def k21 : Class := { plain "[J" (some 0) with kind := .array 20 .long, interfaces := #[13, 10], accessFlags := 1041 }

/-- [Lcom/example/perdure/perdure/model/Connective; -/
def k22 : Class := { plain "[Lcom/example/perdure/perdure/model/Connective;" (some 0) with kind := .array 12 (.object "com/example/perdure/perdure/model/Connective"), interfaces := #[13, 10], accessFlags := 1041 }

def heap : Heap := #[{ cls := 2, slots := #[.int 0, .int 0, .int 0, .int 0, .ref 2, .int 0], vm := .statics 2 },
  { cls := 12, slots := #[.ref 3, .ref 4, .ref 5, .ref 6, .null], vm := .statics 12 },
  { cls := 22, slots := #[.ref 3, .ref 4, .ref 5, .ref 6], vm := .none },
  { cls := 12, slots := #[.null, .int 0, .int 0, .null], vm := .none },
  { cls := 12, slots := #[.null, .int 1, .int 0, .null], vm := .none },
  { cls := 12, slots := #[.null, .int 2, .int 0, .null], vm := .none },
  { cls := 12, slots := #[.null, .int 3, .int 0, .null], vm := .none }]
def classes : Array Class := #[k0, k1, k2, k3, k4, k5, k6, k7, k8, k9, k10, k11, k12, k13, k14, k15, k16, k17, k18, k19, k20, k21, k22]
def interned : List (Array UInt16 × Addr) := []
def slotsUsed : Nat := 31
def theMethod : MethodId := ⟨1, 1⟩
def args0 : Array Value := #[.long 5, .int 0]
def aboutOver (below : List Frame) : State where
  vm := { classes := classes, interned := interned.toArray }
  heap := heap
  slotsUsed := slotsUsed
  threads := #[{ frames := .invoking theMethod args0 :: below }]
def below0 : List Frame := [.native { method := ⟨0, 0⟩, args := #[] }]
def about1 : State := aboutOver below0
def p0 : Program := .bare "" "" ""
def e0 : Env := launch0.env 0 0 0
theorem w_frames : about1.frames = Frame.invoking theMethod args0 :: below0 := rfl
set_option maxRecDepth 65536 in
theorem w_args : argsFit about1.vm theMethod args0 = true := by decide +kernel
set_option maxRecDepth 65536 in
theorem w_heap : heapFits about1 = true := by decide +kernel
set_option maxRecDepth 65536 in
theorem w_runnable : about1.curStatus? = some .runnable := by decide +kernel
set_option maxRecDepth 65536 in
theorem w_alone : about1.alone = true := by decide +kernel
set_option maxRecDepth 65536 in
theorem w_named : about1.methodNamed? x = some theMethod := by decide +kernel
set_option maxRecDepth 65536 in
theorem w_hears : about1.hears theMethod below0 = true := by decide +kernel
set_option maxRecDepth 65536 in
theorem w_ripe : about1.ripe theMethod args0 below0 = true := by decide +kernel
theorem w_running : about1.status = .running := rfl
set_option maxRecDepth 65536 in
theorem w_room : about1.hasRoom e0.platform room_1 = true :=
  launch0.hasRoom_least _ room_1 (by decide +kernel) (by decide +kernel) (by decide +kernel) (by decide +kernel) (by decide +kernel) (by decide +kernel)
theorem allAtoms_all (ts : List Jvm.Cond) (a : Array Jvm.Value) (st : Jvm.State) : (allAtoms ts).before a st = ts.all (fun c => c.before a st) := by
  induction ts with
  | nil => rfl
  | cons c t ih =>
    show (Jvm.Cond.and c (allAtoms t)).before a st = _
    rw [Jvm.Cond.before_and, ih, List.all_cons]
def words1 : List Jvm.Cond := Jvm.Cond.code x code maxLocals ret :: tables_1
/-- a 'code' word, met by the world's own term for the bytes: nothing is compared byte by byte -/
theorem code_word {y : MethodName} {bytes : ByteArray} {mx : Nat} {rt : Option FieldType} {a : Array Value} {s : State} {m : MethodId} {meth : Method} {c : Code} (h1 : s.methodNamed? y = some m) (h2 : s.vm.method? m = some meth) (h3 : meth.code = some c) (h4 : c.code = bytes)
    (h5 : (c.maxLocals == mx && c.exceptionTable.isEmpty && decide (c.maxStack ≤ mostOperands) && decide (meth.sig.returnType = rt) && !meth.locks && decide (parseMethodDescriptor y.desc = some meth.sig)) = true) : (Jvm.Cond.code y bytes mx rt).before a s = true := by
  simp only [Bool.and_eq_true, beq_iff_eq, Bool.not_eq_true', decide_eq_true_eq] at h5
  obtain ⟨⟨⟨⟨⟨g1, g2⟩, g3⟩, g4⟩, g5⟩, g6⟩ := h5
  simp [Cond.before, Cond.holds, Cond.value, h1, h2, h3, h4, g1, g2, g3, g4, g5, g6]
def isCode : Jvm.Cond → Bool
  | .code _ _ _ _ => true
  | _ => false
theorem all_split {L : List Jvm.Cond} {P : Jvm.Cond → Bool} (h1 : L.all (fun c => isCode c || P c) = true) (h2 : ∀ c ∈ L.filter isCode, P c = true) : L.all P = true := by
  refine List.all_eq_true.mpr fun c hc => ?_
  have h := List.all_eq_true.mp h1 c hc
  rcases Bool.eq_false_or_eq_true (isCode c) with hi | hi
  · exact h2 c (List.mem_filter.mpr ⟨hc, hi⟩)
  · simpa [hi] using h
set_option maxRecDepth 65536 in
theorem w_c0 : (Jvm.Cond.code x code maxLocals ret).before args0 about1 = true := code_word (m := ⟨1, 1⟩) (meth := k1m1) (c := k1c1) (by decide +kernel) rfl rfl rfl (by decide +kernel)
set_option maxRecDepth 65536 in
theorem w_c1 : (Jvm.Cond.code ({ cls := "com/example/perdure/perdure/check/DecisionDiagrams", name := "<init>", desc := "(I)V" } : Jvm.MethodName) prog_26_method_1_code (2 : Nat) (Option.none : Option Jvm.ClassFile.FieldType)).before args0 about1 = true := code_word (m := ⟨2, 0⟩) (meth := k2m0) (c := k2c0) (by decide +kernel) rfl rfl rfl (by decide +kernel)
set_option maxRecDepth 65536 in
theorem w_c2 : (Jvm.Cond.code ({ cls := "java/lang/Object", name := "<init>", desc := "()V" } : Jvm.MethodName) object_method_1_code (1 : Nat) (Option.none : Option Jvm.ClassFile.FieldType)).before args0 about1 = true := code_word (m := ⟨0, 0⟩) (meth := k0m0) (c := k0c0) (by decide +kernel) rfl rfl rfl (by decide +kernel)
set_option maxRecDepth 65536 in
theorem w_c3 : (Jvm.Cond.code ({ cls := "com/example/perdure/perdure/check/DecisionDiagrams$PairSet", name := "<init>", desc := "()V" } : Jvm.MethodName) prog_27_method_1_code (1 : Nat) (Option.none : Option Jvm.ClassFile.FieldType)).before args0 about1 = true := code_word (m := ⟨3, 0⟩) (meth := k3m0) (c := k3c0) (by decide +kernel) rfl rfl rfl (by decide +kernel)
set_option maxRecDepth 65536 in
theorem w_c4 : (Jvm.Cond.code ({ cls := "com/example/perdure/perdure/check/DecisionDiagrams", name := "resizeCache", desc := "(I)V" } : Jvm.MethodName) prog_26_method_25_code (2 : Nat) (Option.none : Option Jvm.ClassFile.FieldType)).before args0 about1 = true := code_word (m := ⟨2, 13⟩) (meth := k2m13) (c := k2c13) (by decide +kernel) rfl rfl rfl (by decide +kernel)
set_option maxRecDepth 65536 in
theorem w_c5 : (Jvm.Cond.code ({ cls := "java/util/Arrays", name := "fill", desc := "([II)V" } : Jvm.MethodName) jdk_65_method_103_code (4 : Nat) (Option.none : Option Jvm.ClassFile.FieldType)).before args0 about1 = true := code_word (m := ⟨4, 2⟩) (meth := k4m2) (c := k4c2) (by decide +kernel) rfl rfl rfl (by decide +kernel)
set_option maxRecDepth 65536 in
theorem w_c6 : (Jvm.Cond.code ({ cls := "java/util/Arrays", name := "fill", desc := "([JJ)V" } : Jvm.MethodName) jdk_65_method_101_code (5 : Nat) (Option.none : Option Jvm.ClassFile.FieldType)).before args0 about1 = true := code_word (m := ⟨4, 1⟩) (meth := k4m1) (c := k4c1) (by decide +kernel) rfl rfl rfl (by decide +kernel)
set_option maxRecDepth 65536 in
theorem w_c7 : (Jvm.Cond.code ({ cls := "com/example/perdure/perdure/check/DecisionDiagrams", name := "variable", desc := "(I)I" } : Jvm.MethodName) prog_26_method_2_code (2 : Nat) (Option.some Jvm.ClassFile.FieldType.int)).before args0 about1 = true := code_word (m := ⟨2, 1⟩) (meth := k2m1) (c := k2c1) (by decide +kernel) rfl rfl rfl (by decide +kernel)
set_option maxRecDepth 65536 in
theorem w_c8 : (Jvm.Cond.code ({ cls := "com/example/perdure/perdure/check/DecisionDiagrams", name := "node", desc := "(III)I" } : Jvm.MethodName) prog_26_method_22_code (7 : Nat) (Option.some Jvm.ClassFile.FieldType.int)).before args0 about1 = true := code_word (m := ⟨2, 10⟩) (meth := k2m10) (c := k2c10) (by decide +kernel) rfl rfl rfl (by decide +kernel)
set_option maxRecDepth 65536 in
theorem w_c9 : (Jvm.Cond.code ({ cls := "com/example/perdure/perdure/check/DecisionDiagrams", name := "uniqueSlot", desc := "(IIII)I" } : Jvm.MethodName) prog_26_method_23_code (4 : Nat) (Option.some Jvm.ClassFile.FieldType.int)).before args0 about1 = true := code_word (m := ⟨2, 11⟩) (meth := k2m11) (c := k2c11) (by decide +kernel) rfl rfl rfl (by decide +kernel)
set_option maxRecDepth 65536 in
theorem w_c10 : (Jvm.Cond.code ({ cls := "com/example/perdure/perdure/check/Tables", name := "hash", desc := "(II)I" } : Jvm.MethodName) prog_53_method_3_code (2 : Nat) (Option.some Jvm.ClassFile.FieldType.int)).before args0 about1 = true := code_word (m := ⟨5, 2⟩) (meth := k5m2) (c := k5c2) (by decide +kernel) rfl rfl rfl (by decide +kernel)
set_option maxRecDepth 65536 in
theorem w_c11 : (Jvm.Cond.code ({ cls := "com/example/perdure/perdure/check/Tables", name := "slot", desc := "(II)I" } : Jvm.MethodName) prog_53_method_4_code (3 : Nat) (Option.some Jvm.ClassFile.FieldType.int)).before args0 about1 = true := code_word (m := ⟨5, 3⟩) (meth := k5m3) (c := k5c3) (by decide +kernel) rfl rfl rfl (by decide +kernel)
set_option maxRecDepth 65536 in
theorem w_c12 : (Jvm.Cond.code ({ cls := "com/example/perdure/perdure/check/Tables", name := "grown", desc := "(IJ)I" } : Jvm.MethodName) prog_53_method_2_code (3 : Nat) (Option.some Jvm.ClassFile.FieldType.int)).before args0 about1 = true := code_word (m := ⟨5, 1⟩) (meth := k5m1) (c := k5c1) (by decide +kernel) rfl rfl rfl (by decide +kernel)
set_option maxRecDepth 65536 in
theorem w_c13 : (Jvm.Cond.code ({ cls := "java/lang/Math", name := "max", desc := "(JJ)J" } : Jvm.MethodName) jdk_29_method_66_code (4 : Nat) (Option.some Jvm.ClassFile.FieldType.long)).before args0 about1 = true := code_word (m := ⟨6, 2⟩) (meth := k6m2) (c := k6c2) (by decide +kernel) rfl rfl rfl (by decide +kernel)
set_option maxRecDepth 65536 in
theorem w_c14 : (Jvm.Cond.code ({ cls := "java/lang/Math", name := "min", desc := "(JJ)J" } : Jvm.MethodName) jdk_29_method_70_code (4 : Nat) (Option.some Jvm.ClassFile.FieldType.long)).before args0 about1 = true := code_word (m := ⟨6, 4⟩) (meth := k6m4) (c := k6c4) (by decide +kernel) rfl rfl rfl (by decide +kernel)
set_option maxRecDepth 65536 in
theorem w_c15 : (Jvm.Cond.code ({ cls := "java/util/Arrays", name := "copyOf", desc := "([II)[I" } : Jvm.MethodName) jdk_65_method_123_code (3 : Nat) (Option.some (Jvm.ClassFile.FieldType.array Jvm.ClassFile.FieldType.int))).before args0 about1 = true := code_word (m := ⟨4, 3⟩) (meth := k4m3) (c := k4c3) (by decide +kernel) rfl rfl rfl (by decide +kernel)
set_option maxRecDepth 65536 in
theorem w_c16 : (Jvm.Cond.code ({ cls := "java/lang/Math", name := "min", desc := "(II)I" } : Jvm.MethodName) jdk_29_method_69_code (2 : Nat) (Option.some Jvm.ClassFile.FieldType.int)).before args0 about1 = true := code_word (m := ⟨6, 3⟩) (meth := k6m3) (c := k6c3) (by decide +kernel) rfl rfl rfl (by decide +kernel)
set_option maxRecDepth 65536 in
theorem w_c17 : (Jvm.Cond.code ({ cls := "com/example/perdure/perdure/check/DecisionDiagrams", name := "rehash", desc := "()V" } : Jvm.MethodName) prog_26_method_24_code (4 : Nat) (Option.none : Option Jvm.ClassFile.FieldType)).before args0 about1 = true := code_word (m := ⟨2, 12⟩) (meth := k2m12) (c := k2c12) (by decide +kernel) rfl rfl rfl (by decide +kernel)
set_option maxRecDepth 65536 in
theorem w_c18 : (Jvm.Cond.code ({ cls := "com/example/perdure/perdure/check/DecisionDiagramsLeastPinLaw", name := "step", desc := "(Lcom/example/perdure/perdure/check/DecisionDiagrams;[I[III)V" } : Jvm.MethodName) method_3_code (8 : Nat) (Option.none : Option Jvm.ClassFile.FieldType)).before args0 about1 = true := code_word (m := ⟨1, 2⟩) (meth := k1m2) (c := k1c2) (by decide +kernel) rfl rfl rfl (by decide +kernel)
set_option maxRecDepth 65536 in
theorem w_c19 : (Jvm.Cond.code ({ cls := "com/example/perdure/perdure/check/DecisionDiagramsLeastPinLaw", name := "connective", desc := "(I)Lcom/example/perdure/perdure/model/Connective;" } : Jvm.MethodName) method_4_code (1 : Nat) (Option.some (Jvm.ClassFile.FieldType.object "com/example/perdure/perdure/model/Connective"))).before args0 about1 = true := code_word (m := ⟨1, 3⟩) (meth := k1m3) (c := k1c3) (by decide +kernel) rfl rfl rfl (by decide +kernel)
set_option maxRecDepth 65536 in
theorem w_c20 : (Jvm.Cond.code ({ cls := "com/example/perdure/perdure/check/DecisionDiagrams", name := "apply", desc := "(Lcom/example/perdure/perdure/model/Connective;II)I" } : Jvm.MethodName) prog_26_method_6_code (4 : Nat) (Option.some Jvm.ClassFile.FieldType.int)).before args0 about1 = true := code_word (m := ⟨2, 2⟩) (meth := k2m2) (c := k2c2) (by decide +kernel) rfl rfl rfl (by decide +kernel)
set_option maxRecDepth 65536 in
theorem w_c21 : (Jvm.Cond.code ({ cls := "java/lang/Enum", name := "ordinal", desc := "()I" } : Jvm.MethodName) jdk_37_method_2_code (1 : Nat) (Option.some Jvm.ClassFile.FieldType.int)).before args0 about1 = true := code_word (m := ⟨11, 0⟩) (meth := k11m0) (c := k11c0) (by decide +kernel) rfl rfl rfl (by decide +kernel)
set_option maxRecDepth 65536 in
theorem w_c22 : (Jvm.Cond.code ({ cls := "com/example/perdure/perdure/check/DecisionDiagrams", name := "combine", desc := "(III)I" } : Jvm.MethodName) prog_26_method_9_code (15 : Nat) (Option.some Jvm.ClassFile.FieldType.int)).before args0 about1 = true := code_word (m := ⟨2, 3⟩) (meth := k2m3) (c := k2c3) (by decide +kernel) rfl rfl rfl (by decide +kernel)
set_option maxRecDepth 65536 in
theorem w_c23 : (Jvm.Cond.code ({ cls := "com/example/perdure/perdure/check/DecisionDiagrams", name := "shortcut", desc := "(III)I" } : Jvm.MethodName) prog_26_method_14_code (5 : Nat) (Option.some Jvm.ClassFile.FieldType.int)).before args0 about1 = true := code_word (m := ⟨2, 5⟩) (meth := k2m5) (c := k2c5) (by decide +kernel) rfl rfl rfl (by decide +kernel)
set_option maxRecDepth 65536 in
theorem w_c24 : (Jvm.Cond.code ({ cls := "com/example/perdure/perdure/model/Connective", name := "apply", desc := "(ZZ)Z" } : Jvm.MethodName) prog_108_method_5_code (3 : Nat) (Option.some Jvm.ClassFile.FieldType.boolean)).before args0 about1 = true := code_word (m := ⟨12, 1⟩) (meth := k12m1) (c := k12c1) (by decide +kernel) rfl rfl rfl (by decide +kernel)
set_option maxRecDepth 65536 in
theorem w_c25 : (Jvm.Cond.code ({ cls := "com/example/perdure/perdure/model/Connective", name := "applyToBits", desc := "(JJ)J" } : Jvm.MethodName) prog_108_method_4_code (5 : Nat) (Option.some Jvm.ClassFile.FieldType.long)).before args0 about1 = true := code_word (m := ⟨12, 0⟩) (meth := k12m0) (c := k12c0) (by decide +kernel) rfl rfl rfl (by decide +kernel)
set_option maxRecDepth 65536 in
theorem w_c26 : (Jvm.Cond.code ({ cls := "com/example/perdure/perdure/check/DecisionDiagramsLeastPinLaw", name := "table", desc := "(III)I" } : Jvm.MethodName) method_5_code (3 : Nat) (Option.some Jvm.ClassFile.FieldType.int)).before args0 about1 = true := code_word (m := ⟨1, 4⟩) (meth := k1m4) (c := k1c4) (by decide +kernel) rfl rfl rfl (by decide +kernel)
set_option maxRecDepth 65536 in
theorem w_c27 : (Jvm.Cond.code ({ cls := "com/example/perdure/perdure/check/DecisionDiagrams", name := "follows", desc := "(ZZI)I" } : Jvm.MethodName) prog_26_method_15_code (4 : Nat) (Option.some Jvm.ClassFile.FieldType.int)).before args0 about1 = true := code_word (m := ⟨2, 6⟩) (meth := k2m6) (c := k2c6) (by decide +kernel) rfl rfl rfl (by decide +kernel)
set_option maxRecDepth 65536 in
theorem w_c28 : (Jvm.Cond.code ({ cls := "com/example/perdure/perdure/check/DecisionDiagrams", name := "level", desc := "(I)I" } : Jvm.MethodName) prog_26_method_21_code (2 : Nat) (Option.some Jvm.ClassFile.FieldType.int)).before args0 about1 = true := code_word (m := ⟨2, 9⟩) (meth := k2m9) (c := k2c9) (by decide +kernel) rfl rfl rfl (by decide +kernel)
set_option maxRecDepth 65536 in
theorem w_c29 : (Jvm.Cond.code ({ cls := "java/lang/Math", name := "max", desc := "(II)I" } : Jvm.MethodName) jdk_29_method_65_code (2 : Nat) (Option.some Jvm.ClassFile.FieldType.int)).before args0 about1 = true := code_word (m := ⟨6, 1⟩) (meth := k6m1) (c := k6c1) (by decide +kernel) rfl rfl rfl (by decide +kernel)
set_option maxRecDepth 65536 in
theorem w_c30 : (Jvm.Cond.code ({ cls := "com/example/perdure/perdure/check/DecisionDiagrams", name := "cached", desc := "(III)I" } : Jvm.MethodName) prog_26_method_17_code (6 : Nat) (Option.some Jvm.ClassFile.FieldType.int)).before args0 about1 = true := code_word (m := ⟨2, 7⟩) (meth := k2m7) (c := k2c7) (by decide +kernel) rfl rfl rfl (by decide +kernel)
set_option maxRecDepth 65536 in
theorem w_c31 : (Jvm.Cond.code ({ cls := "com/example/perdure/perdure/check/DecisionDiagrams", name := "cacheSlot", desc := "(III)I" } : Jvm.MethodName) prog_26_method_18_code (4 : Nat) (Option.some Jvm.ClassFile.FieldType.int)).before args0 about1 = true := code_word (m := ⟨2, 8⟩) (meth := k2m8) (c := k2c8) (by decide +kernel) rfl rfl rfl (by decide +kernel)
set_option maxRecDepth 65536 in
theorem w_c32 : (Jvm.Cond.code ({ cls := "com/example/perdure/perdure/check/DecisionDiagrams", name := "least", desc := "(I)[Z" } : Jvm.MethodName) prog_26_method_10_code (4 : Nat) (Option.some (Jvm.ClassFile.FieldType.array Jvm.ClassFile.FieldType.boolean))).before args0 about1 = true := code_word (m := ⟨2, 4⟩) (meth := k2m4) (c := k2c4) (by decide +kernel) rfl rfl rfl (by decide +kernel)
set_option maxRecDepth 65536 in
theorem w_c33 : (Jvm.Cond.code ({ cls := "com/example/perdure/perdure/check/DecisionDiagramsLeastPinLaw", name := "lowest", desc := "(I)I" } : Jvm.MethodName) method_6_code (1 : Nat) (Option.some Jvm.ClassFile.FieldType.int)).before args0 about1 = true := code_word (m := ⟨1, 5⟩) (meth := k1m5) (c := k1c5) (by decide +kernel) rfl rfl rfl (by decide +kernel)
def codes1 : List Jvm.Cond := [Jvm.Cond.code x code maxLocals ret, Jvm.Cond.code ({ cls := "com/example/perdure/perdure/check/DecisionDiagrams", name := "<init>", desc := "(I)V" } : Jvm.MethodName) prog_26_method_1_code (2 : Nat) (Option.none : Option Jvm.ClassFile.FieldType), Jvm.Cond.code ({ cls := "java/lang/Object", name := "<init>", desc := "()V" } : Jvm.MethodName) object_method_1_code (1 : Nat) (Option.none : Option Jvm.ClassFile.FieldType), Jvm.Cond.code ({ cls := "com/example/perdure/perdure/check/DecisionDiagrams$PairSet", name := "<init>", desc := "()V" } : Jvm.MethodName) prog_27_method_1_code (1 : Nat) (Option.none : Option Jvm.ClassFile.FieldType), Jvm.Cond.code ({ cls := "com/example/perdure/perdure/check/DecisionDiagrams", name := "resizeCache", desc := "(I)V" } : Jvm.MethodName) prog_26_method_25_code (2 : Nat) (Option.none : Option Jvm.ClassFile.FieldType), Jvm.Cond.code ({ cls := "java/util/Arrays", name := "fill", desc := "([II)V" } : Jvm.MethodName) jdk_65_method_103_code (4 : Nat) (Option.none : Option Jvm.ClassFile.FieldType), Jvm.Cond.code ({ cls := "java/util/Arrays", name := "fill", desc := "([JJ)V" } : Jvm.MethodName) jdk_65_method_101_code (5 : Nat) (Option.none : Option Jvm.ClassFile.FieldType), Jvm.Cond.code ({ cls := "com/example/perdure/perdure/check/DecisionDiagrams", name := "variable", desc := "(I)I" } : Jvm.MethodName) prog_26_method_2_code (2 : Nat) (Option.some Jvm.ClassFile.FieldType.int), Jvm.Cond.code ({ cls := "com/example/perdure/perdure/check/DecisionDiagrams", name := "node", desc := "(III)I" } : Jvm.MethodName) prog_26_method_22_code (7 : Nat) (Option.some Jvm.ClassFile.FieldType.int), Jvm.Cond.code ({ cls := "com/example/perdure/perdure/check/DecisionDiagrams", name := "uniqueSlot", desc := "(IIII)I" } : Jvm.MethodName) prog_26_method_23_code (4 : Nat) (Option.some Jvm.ClassFile.FieldType.int), Jvm.Cond.code ({ cls := "com/example/perdure/perdure/check/Tables", name := "hash", desc := "(II)I" } : Jvm.MethodName) prog_53_method_3_code (2 : Nat) (Option.some Jvm.ClassFile.FieldType.int), Jvm.Cond.code ({ cls := "com/example/perdure/perdure/check/Tables", name := "slot", desc := "(II)I" } : Jvm.MethodName) prog_53_method_4_code (3 : Nat) (Option.some Jvm.ClassFile.FieldType.int), Jvm.Cond.code ({ cls := "com/example/perdure/perdure/check/Tables", name := "grown", desc := "(IJ)I" } : Jvm.MethodName) prog_53_method_2_code (3 : Nat) (Option.some Jvm.ClassFile.FieldType.int), Jvm.Cond.code ({ cls := "java/lang/Math", name := "max", desc := "(JJ)J" } : Jvm.MethodName) jdk_29_method_66_code (4 : Nat) (Option.some Jvm.ClassFile.FieldType.long), Jvm.Cond.code ({ cls := "java/lang/Math", name := "min", desc := "(JJ)J" } : Jvm.MethodName) jdk_29_method_70_code (4 : Nat) (Option.some Jvm.ClassFile.FieldType.long), Jvm.Cond.code ({ cls := "java/util/Arrays", name := "copyOf", desc := "([II)[I" } : Jvm.MethodName) jdk_65_method_123_code (3 : Nat) (Option.some (Jvm.ClassFile.FieldType.array Jvm.ClassFile.FieldType.int)), Jvm.Cond.code ({ cls := "java/lang/Math", name := "min", desc := "(II)I" } : Jvm.MethodName) jdk_29_method_69_code (2 : Nat) (Option.some Jvm.ClassFile.FieldType.int), Jvm.Cond.code ({ cls := "com/example/perdure/perdure/check/DecisionDiagrams", name := "rehash", desc := "()V" } : Jvm.MethodName) prog_26_method_24_code (4 : Nat) (Option.none : Option Jvm.ClassFile.FieldType), Jvm.Cond.code ({ cls := "com/example/perdure/perdure/check/DecisionDiagramsLeastPinLaw", name := "step", desc := "(Lcom/example/perdure/perdure/check/DecisionDiagrams;[I[III)V" } : Jvm.MethodName) method_3_code (8 : Nat) (Option.none : Option Jvm.ClassFile.FieldType), Jvm.Cond.code ({ cls := "com/example/perdure/perdure/check/DecisionDiagramsLeastPinLaw", name := "connective", desc := "(I)Lcom/example/perdure/perdure/model/Connective;" } : Jvm.MethodName) method_4_code (1 : Nat) (Option.some (Jvm.ClassFile.FieldType.object "com/example/perdure/perdure/model/Connective")), Jvm.Cond.code ({ cls := "com/example/perdure/perdure/check/DecisionDiagrams", name := "apply", desc := "(Lcom/example/perdure/perdure/model/Connective;II)I" } : Jvm.MethodName) prog_26_method_6_code (4 : Nat) (Option.some Jvm.ClassFile.FieldType.int), Jvm.Cond.code ({ cls := "java/lang/Enum", name := "ordinal", desc := "()I" } : Jvm.MethodName) jdk_37_method_2_code (1 : Nat) (Option.some Jvm.ClassFile.FieldType.int), Jvm.Cond.code ({ cls := "com/example/perdure/perdure/check/DecisionDiagrams", name := "combine", desc := "(III)I" } : Jvm.MethodName) prog_26_method_9_code (15 : Nat) (Option.some Jvm.ClassFile.FieldType.int), Jvm.Cond.code ({ cls := "com/example/perdure/perdure/check/DecisionDiagrams", name := "shortcut", desc := "(III)I" } : Jvm.MethodName) prog_26_method_14_code (5 : Nat) (Option.some Jvm.ClassFile.FieldType.int), Jvm.Cond.code ({ cls := "com/example/perdure/perdure/model/Connective", name := "apply", desc := "(ZZ)Z" } : Jvm.MethodName) prog_108_method_5_code (3 : Nat) (Option.some Jvm.ClassFile.FieldType.boolean), Jvm.Cond.code ({ cls := "com/example/perdure/perdure/model/Connective", name := "applyToBits", desc := "(JJ)J" } : Jvm.MethodName) prog_108_method_4_code (5 : Nat) (Option.some Jvm.ClassFile.FieldType.long), Jvm.Cond.code ({ cls := "com/example/perdure/perdure/check/DecisionDiagramsLeastPinLaw", name := "table", desc := "(III)I" } : Jvm.MethodName) method_5_code (3 : Nat) (Option.some Jvm.ClassFile.FieldType.int), Jvm.Cond.code ({ cls := "com/example/perdure/perdure/check/DecisionDiagrams", name := "follows", desc := "(ZZI)I" } : Jvm.MethodName) prog_26_method_15_code (4 : Nat) (Option.some Jvm.ClassFile.FieldType.int), Jvm.Cond.code ({ cls := "com/example/perdure/perdure/check/DecisionDiagrams", name := "level", desc := "(I)I" } : Jvm.MethodName) prog_26_method_21_code (2 : Nat) (Option.some Jvm.ClassFile.FieldType.int), Jvm.Cond.code ({ cls := "java/lang/Math", name := "max", desc := "(II)I" } : Jvm.MethodName) jdk_29_method_65_code (2 : Nat) (Option.some Jvm.ClassFile.FieldType.int), Jvm.Cond.code ({ cls := "com/example/perdure/perdure/check/DecisionDiagrams", name := "cached", desc := "(III)I" } : Jvm.MethodName) prog_26_method_17_code (6 : Nat) (Option.some Jvm.ClassFile.FieldType.int), Jvm.Cond.code ({ cls := "com/example/perdure/perdure/check/DecisionDiagrams", name := "cacheSlot", desc := "(III)I" } : Jvm.MethodName) prog_26_method_18_code (4 : Nat) (Option.some Jvm.ClassFile.FieldType.int), Jvm.Cond.code ({ cls := "com/example/perdure/perdure/check/DecisionDiagrams", name := "least", desc := "(I)[Z" } : Jvm.MethodName) prog_26_method_10_code (4 : Nat) (Option.some (Jvm.ClassFile.FieldType.array Jvm.ClassFile.FieldType.boolean)), Jvm.Cond.code ({ cls := "com/example/perdure/perdure/check/DecisionDiagramsLeastPinLaw", name := "lowest", desc := "(I)I" } : Jvm.MethodName) method_6_code (1 : Nat) (Option.some Jvm.ClassFile.FieldType.int)]
set_option maxRecDepth 65536 in
theorem codes_eq : words1.filter isCode = codes1 := rfl
theorem w_codes : ∀ c ∈ words1.filter isCode, c.before args0 about1 = true := by
  rw [codes_eq]
  intro c hc
  simp only [codes1, List.mem_cons, List.not_mem_nil, or_false] at hc
  rcases hc with rfl | rfl | rfl | rfl | rfl | rfl | rfl | rfl | rfl | rfl | rfl | rfl | rfl | rfl | rfl | rfl | rfl | rfl | rfl | rfl | rfl | rfl | rfl | rfl | rfl | rfl | rfl | rfl | rfl | rfl | rfl | rfl | rfl | rfl
  · exact w_c0
  · exact w_c1
  · exact w_c2
  · exact w_c3
  · exact w_c4
  · exact w_c5
  · exact w_c6
  · exact w_c7
  · exact w_c8
  · exact w_c9
  · exact w_c10
  · exact w_c11
  · exact w_c12
  · exact w_c13
  · exact w_c14
  · exact w_c15
  · exact w_c16
  · exact w_c17
  · exact w_c18
  · exact w_c19
  · exact w_c20
  · exact w_c21
  · exact w_c22
  · exact w_c23
  · exact w_c24
  · exact w_c25
  · exact w_c26
  · exact w_c27
  · exact w_c28
  · exact w_c29
  · exact w_c30
  · exact w_c31
  · exact w_c32
  · exact w_c33
set_option maxRecDepth 65536 in
theorem w_t1 : (words1.take 24).all (fun c => isCode c || c.before args0 about1) = true := by decide +kernel
set_option maxRecDepth 65536 in
theorem w_t2 : ((words1.drop 24).take 24).all (fun c => isCode c || c.before args0 about1) = true := by decide +kernel
set_option maxRecDepth 65536 in
theorem w_t3 : (((words1.drop 24).drop 24).take 24).all (fun c => isCode c || c.before args0 about1) = true := by decide +kernel
set_option maxRecDepth 65536 in
theorem w_t4 : ((((words1.drop 24).drop 24).drop 24).take 24).all (fun c => isCode c || c.before args0 about1) = true := by decide +kernel
set_option maxRecDepth 65536 in
theorem w_t5 : (((((words1.drop 24).drop 24).drop 24).drop 24).take 24).all (fun c => isCode c || c.before args0 about1) = true := by decide +kernel
set_option maxRecDepth 65536 in
theorem w_t6 : ((((((words1.drop 24).drop 24).drop 24).drop 24).drop 24).take 24).all (fun c => isCode c || c.before args0 about1) = true := by decide +kernel
set_option maxRecDepth 65536 in
theorem w_t7 : (((((((words1.drop 24).drop 24).drop 24).drop 24).drop 24).drop 24).take 24).all (fun c => isCode c || c.before args0 about1) = true := by decide +kernel
set_option maxRecDepth 65536 in
theorem w_t8 : ((((((((words1.drop 24).drop 24).drop 24).drop 24).drop 24).drop 24).drop 24).take 24).all (fun c => isCode c || c.before args0 about1) = true := by decide +kernel
set_option maxRecDepth 65536 in
theorem w_t9 : ((((((((words1.drop 24).drop 24).drop 24).drop 24).drop 24).drop 24).drop 24).drop 24).all (fun c => isCode c || c.before args0 about1) = true := by decide +kernel
theorem w_tables : (allAtoms (Jvm.Cond.code x code maxLocals ret :: tables_1)).before args0 about1 = true := by
  rw [allAtoms_all]
  show words1.all (fun c => c.before args0 about1) = true
  refine all_split ?_ w_codes
  rw [← List.take_append_drop 24 words1, List.all_append, w_t1, ← List.take_append_drop 24 (words1.drop 24), List.all_append, w_t2, ← List.take_append_drop 24 ((words1.drop 24).drop 24), List.all_append, w_t3, ← List.take_append_drop 24 (((words1.drop 24).drop 24).drop 24), List.all_append, w_t4, ← List.take_append_drop 24 ((((words1.drop 24).drop 24).drop 24).drop 24), List.all_append, w_t5, ← List.take_append_drop 24 (((((words1.drop 24).drop 24).drop 24).drop 24).drop 24), List.all_append, w_t6, ← List.take_append_drop 24 ((((((words1.drop 24).drop 24).drop 24).drop 24).drop 24).drop 24), List.all_append, w_t7, ← List.take_append_drop 24 (((((((words1.drop 24).drop 24).drop 24).drop 24).drop 24).drop 24).drop 24), List.all_append, w_t8, w_t9]
  rfl
set_option maxRecDepth 65536 in
theorem w_case : (Jvm.Cond.and given_1 narrow_1).before args0 about1 = true := by decide +kernel
theorem w_applies : (headSpec (Jvm.Cond.code x code maxLocals ret :: tables_1) room_1).applies x e0.platform about1 = true :=
  (Spec.applies_iff w_frames).mpr ⟨w_running, w_runnable, w_alone, w_named, w_hears, w_ripe, w_room, w_tables⟩
theorem atStart : AtStart classFile x code maxLocals ret World_1 tables_1 room_1 Calls_1 rest_1 Pre_1 launch0 p0 e0 about1 theMethod args0 below0 :=
  ⟨lists_1, trivial, launch0.admits_env _ _ _, launch0.least_env, fairChoices_fair.cas, fairChoices_fair.clock, w_frames, w_args, w_heap, w_applies, trivial, trivial, w_case⟩
end start1
theorem witness_1 : WitnessClaimed_1 := ⟨start1.p0, start1.e0, start1.about1, start1.theMethod, start1.args0, start1.below0, start1.atStart⟩
end Jvm.Pilot.@@N@@
