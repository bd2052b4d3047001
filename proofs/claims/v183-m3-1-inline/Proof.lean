import JvmDerived
import JvmDerived.Pilot.@@N@@Statement
import JvmDerived.Pilot.@@N@@Code
set_option linter.unusedVariables false
set_option linter.unusedSimpArgs false
namespace Jvm.Own
open Sem ClassFile Op Lib Jvm.Stand Jvm.Free Jvm.LawKit Jvm.RoadKit
/-! A walk, forward: 'Run' says that the invocation's first state reaches this frame. -/
abbrev Cx := Program × Launch × Env × State × MethodId × Array Value × List Frame × Method × Code × State
def EL : List (String × Nat) := [("com/example/vidare/vidare/core/Gate", 10), ("com/example/vidare/vidare/core/Gate", 16), ("com/example/vidare/vidare/core/Gate", 26), ("com/example/vidare/vidare/core/Gate", 28), ("java/lang/String", 7)]
/-- addresses that may be written: none of them is a held constant's -/
def SF (Z : State) (vm : Vm) (h : Heap) (sf : List Addr) : Prop := ∀ x ∈ sf, Safe Z EL vm h x ∧ x < h.size
section Held
variable {Z : State} {vm vm1 : Vm} {h h' : Heap} {a : Addr} {sl : Nat} {v : Value} {sf : List Addr}
theorem SF.wr (W : Wr h h' a sl v) (S : Safe Z EL vm h a) (H : CHv Z EL vm h) (F : SF Z vm h sf) : SF Z vm h' sf := fun x hx => ⟨Safe.wr W S H (F x hx).1, by rw [Wr.size W]; exact (F x hx).2⟩
theorem SF.new (E : Ext h h') (hb : h.size < h'.size) (H : CHv Z EL vm h) (F : SF Z vm h sf) : SF Z vm h' (h.size :: sf) := fun x hx => by
  rcases List.mem_cons.mp hx with q | q
  · subst q; exact ⟨Safe.ext E H (Safe.new (Nat.le_refl _)), hb⟩
  · exact ⟨Safe.ext E H (F x q).1, Nat.lt_of_lt_of_le (F x q).2 E.1⟩
theorem SF.call (R : CHr Z EL vm h vm1 h') (F : SF Z vm h sf) : SF Z vm1 h' sf := fun x hx => ⟨R.safe (F x hx).2 (F x hx).1, Nat.lt_of_lt_of_le (F x hx).2 R.2.1⟩
theorem SF.sub {l : List Addr} (F : SF Z vm h sf) (q : ∀ x ∈ l, x ∈ sf) : SF Z vm h l := fun x hx => F x (q x hx)
theorem SF.app {l : List Addr} (F : SF Z vm h sf) (G : SF Z vm h l) : SF Z vm h (l ++ sf) := fun x hx => (List.mem_append.mp hx).elim (G x) (F x)
end Held
def RunI (p : Program) (l : Launch) (e : Env) (s : State) (m : MethodId) (args : Array Value) (below : List Frame) (meth : Method) (c : Code) (A : State) (R : Room) (Z : State) (n0 : Nat) (own nm : String) (ret : Option FieldType) (bytes : ByteArray) (mx : Nat) (sf : List Addr) (h : Heap) (cells slots pc : Nat) (L : Array Slot) (S : List Value) : Prop :=
  p.tables.exec = Jvm.exec ∧ c.code = bytes ∧ c.maxLocals = mx ∧ meth.name = nm ∧ meth.sig.returnType = ret ∧ meth.locks = false ∧
    ∃ (vm0 : Vm) (k0 : Nat), s.Since vm0 k0 ∧ k0 ≤ h.size ∧ (s.setVm vm0).vm.findClass own = some m.cls ∧ Z.Warmed39 (s.setVm vm0).vm ∧ (∃ b0, EW Z b0 EL) ∧ CHr Z EL s.vm s.heap vm0 h ∧ SF Z vm0 h sf ∧
    ∃ (T : State) (locs : List Loc), Stand p l e R (s.setVm vm0) m args below meth c T locs cells slots ∧ Fr n0 locs ∧ T.heap = h ∧ ∀ t, Steps p.tables e below (T.setTop (mkF m pc L S)) t → Steps p.tables e below A t
def Run (C : Cx) (R : Room) (Z : State) (n0 : Nat) (own nm : String) (ret : Option FieldType) (bytes : ByteArray) (mx : Nat) (sf : List Addr) (h : Heap) (cells slots pc : Nat) (L : Array Slot) (S : List Value) : Prop :=
  RunI C.1 C.2.1 C.2.2.1 C.2.2.2.1 C.2.2.2.2.1 C.2.2.2.2.2.1 C.2.2.2.2.2.2.1 C.2.2.2.2.2.2.2.1 C.2.2.2.2.2.2.2.2.1 C.2.2.2.2.2.2.2.2.2 R Z n0 own nm ret bytes mx sf h cells slots pc L S
def FinI (Z : State) (p : Program) (e : Env) (s : State) (below : List Frame) (A : State) (R : Room) (n0 : Nat) (Q : Option Value → Heap → (Addr → Prop) → Prop) : Prop :=
  ∃ s₂ o, Steps p.tables e below A s₂ ∧ s₂.status = .running ∧ Ended s₂ below o ∧ ∃ v L, o = .returned v ∧ (Q v s₂.heap (Safe Z EL s₂.vm s₂.heap) ∧ Fr n0 L) ∧ CHr Z EL s.vm s.heap s₂.vm s₂.heap ∧ ReturnedEndW s o s₂ L R.cells R.slots
def Fini (C : Cx) (Z : State) (R : Room) (n0 : Nat) (Q : Option Value → Heap → (Addr → Prop) → Prop) : Prop := FinI Z C.1 C.2.2.1 C.2.2.2.1 C.2.2.2.2.2.2.1 C.2.2.2.2.2.2.2.2.2 R n0 Q
/-- a method's contract: called with 'as' at the heap h0 it returns, and Q says what; nothing that stood below n0 is written -/
def Con (Z : State) (n0 : Nat) (y : MethodName) (bytes : ByteArray) (mx : Nat) (ret : Option FieldType) (ws : List Jvm.Cond) (rm : Room) (as : Array Value) (h0 : Heap) (sc : List Addr) (Q : Option Value → Heap → (Addr → Prop) → Prop) : Prop :=
  ∀ l : Launch, MetFree l y (head1 (Jvm.Cond.code y bytes mx ret :: ws) rm) (fun a U => a = as ∧ Z.Warmed39 U.vm ∧ U.heap = h0 ∧ CHv Z EL U.vm h0 ∧ SF Z U.vm h0 sc) (fun _ _ _ _ _ => True) (fun _ U o U' => ∃ v L, o = .returned v ∧ (Q v U'.heap (Safe Z EL U'.vm U'.heap) ∧ Fr n0 L) ∧ CHr Z EL U.vm U.heap U'.vm U'.heap ∧ ReturnedEndW U o U' L rm.cells rm.slots)
theorem own_since0 (s : State) : s.Since s.vm 0 := (State.WarmedH.refl s).since 0
theorem Con.intro {Z : State} {n0 : Nat} {y : MethodName} {bytes : ByteArray} {mx : Nat} {ret : Option FieldType} {ws : List Jvm.Cond} {rm : Room} {as : Array Value} {h0 : Heap} {sc : List Addr} {Q : Option Value → Heap → (Addr → Prop) → Prop} {L0 : Array Slot}
    (hEW : ∃ b0, EW Z b0 EL) (hp : plainFor y = true) (hef : ∀ m, entryFrame m as mx = mkF m 0 L0 []) (body : ∀ C : Cx, Run C rm Z n0 y.cls y.name ret bytes mx sc h0 0 0 0 L0 [] → Fini C Z rm n0 Q) : Con Z n0 y bytes mx ret ws rm as h0 sc Q := by
  intro l
  refine MetFree.of_bodySF hp hisR ?_
  intro p e s m args below meth c s₁ Bd hml0 hP hK
  obtain ⟨rfl, hZ, hh, hCH, hSF⟩ := hP
  have hown : s.vm.findClass y.cls = some m.cls := findClass_of_methodNamed Bd.named
  have X0 : Stand p l e rm s m args below meth c s₁ [] 0 0 := Stand.of_body Bd
  have e0 : s₁.heap = h0 := by rw [← hh, Bd.state]; rfl
  have k : Run (p, l, e, s, m, args, below, meth, c, s₁.setTop (entryFrame m args mx)) rm Z n0 y.cls y.name ret bytes mx sc h0 0 0 0 L0 [] :=
    ⟨Bd.exec, Bd.bytes, hml0, (name_of_methodNamed Bd.named Bd.method).1, Bd.returns, Bd.notSynchronized, s.vm, 0, own_since0 s, Nat.zero_le _, hown, hZ, hEW, (by rw [hh]; exact CHr.refl hCH), hSF, s₁, [], X0, Fr.nil n0, e0, fun t kt => castTop (hef m) kt⟩
  exact body _ k
theorem ac_eq {x y : Value} (q : x = y) : XT.acmp .eq x y = true ∧ XT.acmp .ne x y = false := ⟨decide_eq_true q, decide_eq_false (fun z => z q)⟩
theorem ac_ne {x y : Value} (q : x ≠ y) : XT.acmp .eq x y = false ∧ XT.acmp .ne x y = true := ⟨decide_eq_false q, decide_eq_true q⟩
/-! an array by a function of the place -/
def updV (f : Nat → Value) (i : Nat) (v : Value) : Nat → Value := fun j => if j = i then v else f j
theorem updV_same (f : Nat → Value) (i : Nat) (v : Value) : updV f i v i = v := if_pos rfl
theorem updV_ne {f : Nat → Value} {i j : Nat} {v : Value} (q : j ≠ i) : updV f i v j = f j := if_neg q
def Arf (Z : State) (h : Heap) (a : Addr) (ty : FieldType) (n : Nat) (f : Nat → Value) : Prop := ∃ c : Cell, Arr Z h a c ty ∧ c.slots.size = n ∧ ∀ i, i < n → c.slots[i]? = some (f i)
section Arrays
variable {Z : State} {h h' : Heap} {a b : Addr} {ty : FieldType} {n sl : Nat} {f g : Nat → Value} {v : Value} {ws : List Addr}
theorem Arf.lt (F : Arf Z h a ty n f) : a < h.size := by obtain ⟨c, A, -⟩ := F; exact A.lt
theorem Arf.ext (F : Arf Z h a ty n f) (E : Ext h h') : Arf Z h' a ty n f := by obtain ⟨c, A, r⟩ := F; exact ⟨c, Arr.ext E A, r⟩
theorem Arf.other (F : Arf Z h b ty n f) (W : Wr h h' a sl v) (q : b ≠ a) : Arf Z h' b ty n f := by obtain ⟨c, A, r⟩ := F; exact ⟨c, Arr.other W A q, r⟩
theorem Arf.keep (F : Arf Z h a ty n f) (K : Keep h h' ws) (q : a ∉ ws) : Arf Z h' a ty n f := by obtain ⟨c, A, r⟩ := F; exact ⟨c, ⟨K.2.1 a c A.1 q, A.2⟩, r⟩
theorem Arf.set (F : Arf Z h a ty n f) {i : Nat} (W : Wr h h' a i v) (hi : i < n) : Arf Z h' a ty n (updV f i v) := by
  obtain ⟨c, A, S, H⟩ := F
  refine ⟨_, Arr.same W A, (sz_set _ _ _).trans S, fun j hj => ?_⟩
  by_cases q : j = i
  · subst q
    rw [updV_same]
    have hs : j < c.slots.size := by omega
    simp [Cell.setSlot, hs]
  · rw [updV_ne q]
    simp only [Cell.setSlot]
    rw [Array.getElem?_setIfInBounds_ne (Ne.symm q)]
    exact H j hj
theorem Arf.congr (F : Arf Z h a ty n f) (q : ∀ i, i < n → f i = g i) : Arf Z h a ty n g := by obtain ⟨c, A, S, H⟩ := F; exact ⟨c, A, S, fun i hi => q i hi ▸ H i hi⟩
theorem Sta.keepN {Cn m d : String} (F : Sta Z h Cn m d v) (K : Keep h h' ws) (q : ∀ x ∈ ws, ∀ c : Cell, h[x]? = some c → c.vm.isStatics = false) : Sta Z h' Cn m d v := by
  obtain ⟨cf, i, k, f, st, cell, h1, h2, h3, h4, h5, h6, h7⟩ := F
  refine ⟨cf, i, k, f, st, cell, h1, h2, h3, h4, K.2.1 st cell h5 (fun z => ?_), h6, h7⟩
  rw [q st z cell h5] at h6; cases h6
theorem Exa.nost {Cn : String} (F : Exa Z h a Cn) : ∀ c : Cell, h[a]? = some c → c.vm.isStatics = false := fun c hc => by
  obtain ⟨cell, k, h1, -, -, h4, -⟩ := F
  cases hc.symm.trans h1; exact h4
theorem Arf.nost (F : Arf Z h a ty n f) : ∀ c : Cell, h[a]? = some c → c.vm.isStatics = false := fun c hc => by
  obtain ⟨cell, A, -⟩ := F
  cases hc.symm.trans A.1; exact A.plain
end Arrays
theorem backH {p : Program} {l : Launch} {e : Env} {R : Room} {s : State} {args : Array Value} {below : List Frame} {Z : State} {a0 : Array Value} {h : Heap} {vm0 : Vm} {sc : List Addr} {y : MethodName} {bytes : ByteArray} {maxL : Nat} {ret : Option FieldType} {rm : Room} {len W : Nat} {as' : Array Value} {Q : Option Value → Heap → (Addr → Prop) → List Loc → Prop} {b0 : Array Value}
    (hM : MetFree l y (head1 [Jvm.Cond.code y bytes maxL ret] rm) (fun a U => a = as' ∧ Z.Warmed39 U.vm ∧ U.heap = h ∧ CHv Z EL U.vm h ∧ SF Z U.vm h sc) (fun _ _ _ _ _ => True) (fun _ U o U' => ∃ v L, o = .returned v ∧ Q v U'.heap (Safe Z EL U'.vm U'.heap) L ∧ CHr Z EL U.vm U.heap U'.vm U'.heap ∧ ReturnedEndW U o U' L rm.cells rm.slots))
    (hZ : Z.Warmed39 vm0) (wc : (Jvm.Cond.code y bytes maxL ret).before a0 Z = true) (wz : (Jvm.Cond.initialized y.cls).before a0 Z = true) (hf : rm.frames + 1 ≤ R.frames) (hl : W + (maxL + 11) + rm.locals ≤ R.locals) (hEL : EW Z b0 EL) (H : CHv Z EL vm0 h) (hs : SF Z vm0 h sc) :
    BackS l R p e below (s.setVm vm0) args y len W (fun A a => a = as' ∧ A.U.heap = h ∧ A.cells + rm.cells ≤ R.cells ∧ A.slots + rm.slots ≤ R.slots)
      (fun A _ v B => ∃ L, Q v B.U.heap (Safe Z EL B.U.vm B.U.heap) L ∧ B.locs = A.locs ++ L ∧ B.cells = A.cells + rm.cells ∧ B.slots = A.slots + rm.slots ∧ CHr Z EL vm0 h B.U.vm B.U.heap) :=
  BackS.of_freeW (bytes := bytes) (maxL := maxL) (ret := ret) (E := fun _ first o t L k n => k = rm.cells ∧ n = rm.slots ∧ (∃ v, o = .returned v ∧ Q v t.heap (Safe Z EL t.vm t.heap) L) ∧ CHr Z EL first.vm first.heap t.vm t.heap) hM hf hl
    (fun m meth c A a Y hp => have hU : Z.Warmed39 A.U.vm := wtrans (s := s.setVm vm0) hZ Y.warmed
      ⟨by show (Jvm.Cond.and _ .tt).before a A.U = true; rw [Cond.before_and, mv hU wc]; rfl, mv hU wc, mv hU wz, hp.2.2.1, hp.2.2.2⟩)
    (fun m meth c A a g mk Y hp => ⟨hp.1, wtrans (s := s.setVm vm0) hZ Y.warmed, hp.2.1, (CHv.at Y hZ hEL H).1, (show SF Z A.U.vm h sc from hs.call (CHv.at Y hZ hEL H))⟩) (fun _ _ _ _ _ _ _ _ _ => trivial)
    (fun _ _ _ _ ⟨v, L, h1, h2, h3, h4⟩ => ⟨L, _, _, h4, rfl, rfl, ⟨v, h1, h2⟩, h3⟩)
    (fun m meth c A a g mk v t L k n Y hp _ _ ⟨e1, e2, ⟨v', e3, e4⟩, e5⟩ => by
      cases e3; subst e1 e2
      refine ⟨L, e4, rfl, rfl, rfl, (CHv.at Y hZ hEL H).trans ?_⟩
      rw [← hp.2.1]; exact e5)
theorem List.getD_map_int (vs : List Int32) (i : Nat) : (vs.map Value.int).getD i (.int 0) = .int (vs.getD i 0) := by
  simp only [List.getD, List.getElem?_map]
  cases vs[i]? <;> rfl
section Steps
variable {C : Cx} {R : Room} {Z : State} {n0 : Nat} {own nm : String} {ret : Option FieldType} {bytes : ByteArray} {mx : Nat} {sf : List Addr} {h : Heap} {cells slots pc : Nat} {L : Array Slot} {S : List Value}

theorem Run.iloadN {k : Fin 4} {v : Int32} (K : Run C R Z n0 own nm ret bytes mx sf h cells slots pc L S) (hd : decode bytes pc = .ok (.iload_n k, 1)) (hl : L[k.val]? = some (.val (.int v))) : Run C R Z n0 own nm ret bytes mx sf h cells slots (pc + 1) L (.int v :: S) := by
  obtain ⟨hx, hby, hml, hnm, hrt, hlk, vm0, k0, hS, hk, hown, hZ, hEW, hC, hF, T, locs, X, N, eT, st⟩ := K
  exact ⟨hx, hby, hml, hnm, hrt, hlk, vm0, k0, hS, hk, hown, hZ, hEW, hC, hF, T, locs, X, N, eT, fun t kt => st t (XS.iloadN X.here hx rfl (hb hby hd) hl kt)⟩
theorem Run.iload {k : Nat} {v : Int32} (K : Run C R Z n0 own nm ret bytes mx sf h cells slots pc L S) (hd : decode bytes pc = .ok (.iload k, 2)) (hl : L[k]? = some (.val (.int v))) : Run C R Z n0 own nm ret bytes mx sf h cells slots (pc + 2) L (.int v :: S) := by
  obtain ⟨hx, hby, hml, hnm, hrt, hlk, vm0, k0, hS, hk, hown, hZ, hEW, hC, hF, T, locs, X, N, eT, st⟩ := K
  exact ⟨hx, hby, hml, hnm, hrt, hlk, vm0, k0, hS, hk, hown, hZ, hEW, hC, hF, T, locs, X, N, eT, fun t kt => st t (XS.iload X.here hx rfl (hb hby hd) hl kt)⟩
theorem Run.lloadN {k : Fin 4} {v : Int64} (K : Run C R Z n0 own nm ret bytes mx sf h cells slots pc L S) (hd : decode bytes pc = .ok (.lload_n k, 1)) (hl : L[k.val]? = some (.val (.long v))) : Run C R Z n0 own nm ret bytes mx sf h cells slots (pc + 1) L (.long v :: S) := by
  obtain ⟨hx, hby, hml, hnm, hrt, hlk, vm0, k0, hS, hk, hown, hZ, hEW, hC, hF, T, locs, X, N, eT, st⟩ := K
  exact ⟨hx, hby, hml, hnm, hrt, hlk, vm0, k0, hS, hk, hown, hZ, hEW, hC, hF, T, locs, X, N, eT, fun t kt => st t (XS.lloadN X.here hx rfl (hb hby hd) hl kt)⟩
theorem Run.lload {k : Nat} {v : Int64} (K : Run C R Z n0 own nm ret bytes mx sf h cells slots pc L S) (hd : decode bytes pc = .ok (.lload k, 2)) (hl : L[k]? = some (.val (.long v))) : Run C R Z n0 own nm ret bytes mx sf h cells slots (pc + 2) L (.long v :: S) := by
  obtain ⟨hx, hby, hml, hnm, hrt, hlk, vm0, k0, hS, hk, hown, hZ, hEW, hC, hF, T, locs, X, N, eT, st⟩ := K
  exact ⟨hx, hby, hml, hnm, hrt, hlk, vm0, k0, hS, hk, hown, hZ, hEW, hC, hF, T, locs, X, N, eT, fun t kt => st t (XS.lload X.here hx rfl (hb hby hd) hl kt)⟩
theorem Run.aloadN {k : Fin 4} {v : Value} (K : Run C R Z n0 own nm ret bytes mx sf h cells slots pc L S) (hd : decode bytes pc = .ok (.aload_n k, 1)) (hl : L[k.val]? = some (.val v)) (hv : v.isRef = true) : Run C R Z n0 own nm ret bytes mx sf h cells slots (pc + 1) L (v :: S) := by
  obtain ⟨hx, hby, hml, hnm, hrt, hlk, vm0, k0, hS, hk, hown, hZ, hEW, hC, hF, T, locs, X, N, eT, st⟩ := K
  exact ⟨hx, hby, hml, hnm, hrt, hlk, vm0, k0, hS, hk, hown, hZ, hEW, hC, hF, T, locs, X, N, eT, fun t kt => st t (XS.aloadN X.here hx rfl (hb hby hd) hl hv kt)⟩
theorem Run.aload {k : Nat} {v : Value} (K : Run C R Z n0 own nm ret bytes mx sf h cells slots pc L S) (hd : decode bytes pc = .ok (.aload k, 2)) (hl : L[k]? = some (.val v)) (hv : v.isRef = true) : Run C R Z n0 own nm ret bytes mx sf h cells slots (pc + 2) L (v :: S) := by
  obtain ⟨hx, hby, hml, hnm, hrt, hlk, vm0, k0, hS, hk, hown, hZ, hEW, hC, hF, T, locs, X, N, eT, st⟩ := K
  exact ⟨hx, hby, hml, hnm, hrt, hlk, vm0, k0, hS, hk, hown, hZ, hEW, hC, hF, T, locs, X, N, eT, fun t kt => st t (XS.aload X.here hx rfl (hb hby hd) hl hv kt)⟩
theorem Run.istoreN {k : Fin 4} {v : Int32} (l' : Array Slot) (K : Run C R Z n0 own nm ret bytes mx sf h cells slots pc L (.int v :: S)) (hd : decode bytes pc = .ok (.istore_n k, 1)) (hl : storeLocals L k.val (.int v) = some l') : Run C R Z n0 own nm ret bytes mx sf h cells slots (pc + 1) l' S := by
  obtain ⟨hx, hby, hml, hnm, hrt, hlk, vm0, k0, hS, hk, hown, hZ, hEW, hC, hF, T, locs, X, N, eT, st⟩ := K
  exact ⟨hx, hby, hml, hnm, hrt, hlk, vm0, k0, hS, hk, hown, hZ, hEW, hC, hF, T, locs, X, N, eT, fun t kt => st t (XS.istoreN X.here hx rfl (hb hby hd) rfl hl kt)⟩
theorem Run.istore {k : Nat} {v : Int32} (l' : Array Slot) (K : Run C R Z n0 own nm ret bytes mx sf h cells slots pc L (.int v :: S)) (hd : decode bytes pc = .ok (.istore k, 2)) (hl : storeLocals L k (.int v) = some l') : Run C R Z n0 own nm ret bytes mx sf h cells slots (pc + 2) l' S := by
  obtain ⟨hx, hby, hml, hnm, hrt, hlk, vm0, k0, hS, hk, hown, hZ, hEW, hC, hF, T, locs, X, N, eT, st⟩ := K
  exact ⟨hx, hby, hml, hnm, hrt, hlk, vm0, k0, hS, hk, hown, hZ, hEW, hC, hF, T, locs, X, N, eT, fun t kt => st t (XS.istore X.here hx rfl (hb hby hd) rfl hl kt)⟩
theorem Run.lstoreN {k : Fin 4} {v : Int64} (l' : Array Slot) (K : Run C R Z n0 own nm ret bytes mx sf h cells slots pc L (.long v :: S)) (hd : decode bytes pc = .ok (.lstore_n k, 1)) (hl : storeLocals L k.val (.long v) = some l') : Run C R Z n0 own nm ret bytes mx sf h cells slots (pc + 1) l' S := by
  obtain ⟨hx, hby, hml, hnm, hrt, hlk, vm0, k0, hS, hk, hown, hZ, hEW, hC, hF, T, locs, X, N, eT, st⟩ := K
  exact ⟨hx, hby, hml, hnm, hrt, hlk, vm0, k0, hS, hk, hown, hZ, hEW, hC, hF, T, locs, X, N, eT, fun t kt => st t (XS.lstoreN X.here hx rfl (hb hby hd) rfl hl kt)⟩
theorem Run.lstore {k : Nat} {v : Int64} (l' : Array Slot) (K : Run C R Z n0 own nm ret bytes mx sf h cells slots pc L (.long v :: S)) (hd : decode bytes pc = .ok (.lstore k, 2)) (hl : storeLocals L k (.long v) = some l') : Run C R Z n0 own nm ret bytes mx sf h cells slots (pc + 2) l' S := by
  obtain ⟨hx, hby, hml, hnm, hrt, hlk, vm0, k0, hS, hk, hown, hZ, hEW, hC, hF, T, locs, X, N, eT, st⟩ := K
  exact ⟨hx, hby, hml, hnm, hrt, hlk, vm0, k0, hS, hk, hown, hZ, hEW, hC, hF, T, locs, X, N, eT, fun t kt => st t (XS.lstore X.here hx rfl (hb hby hd) rfl hl kt)⟩
theorem Run.astoreN {k : Fin 4} {v : Value} (l' : Array Slot) (K : Run C R Z n0 own nm ret bytes mx sf h cells slots pc L (v :: S)) (hd : decode bytes pc = .ok (.astore_n k, 1)) (hv : v.isRef = true) (hl : storeLocals L k.val v = some l') : Run C R Z n0 own nm ret bytes mx sf h cells slots (pc + 1) l' S := by
  obtain ⟨hx, hby, hml, hnm, hrt, hlk, vm0, k0, hS, hk, hown, hZ, hEW, hC, hF, T, locs, X, N, eT, st⟩ := K
  exact ⟨hx, hby, hml, hnm, hrt, hlk, vm0, k0, hS, hk, hown, hZ, hEW, hC, hF, T, locs, X, N, eT, fun t kt => st t (XS.astoreN X.here hx rfl (hb hby hd) rfl hv hl kt)⟩
theorem Run.astore {k : Nat} {v : Value} (l' : Array Slot) (K : Run C R Z n0 own nm ret bytes mx sf h cells slots pc L (v :: S)) (hd : decode bytes pc = .ok (.astore k, 2)) (hv : v.isRef = true) (hl : storeLocals L k v = some l') : Run C R Z n0 own nm ret bytes mx sf h cells slots (pc + 2) l' S := by
  obtain ⟨hx, hby, hml, hnm, hrt, hlk, vm0, k0, hS, hk, hown, hZ, hEW, hC, hF, T, locs, X, N, eT, st⟩ := K
  exact ⟨hx, hby, hml, hnm, hrt, hlk, vm0, k0, hS, hk, hown, hZ, hEW, hC, hF, T, locs, X, N, eT, fun t kt => st t (XS.astore X.here hx rfl (hb hby hd) rfl hv hl kt)⟩
theorem Run.iconst {i : Int} (z : Int32) (K : Run C R Z n0 own nm ret bytes mx sf h cells slots pc L S) (hd : decode bytes pc = .ok (.iconst i, 1)) (hz : Int32.ofInt i = z) : Run C R Z n0 own nm ret bytes mx sf h cells slots (pc + 1) L (.int z :: S) := by
  obtain ⟨hx, hby, hml, hnm, hrt, hlk, vm0, k0, hS, hk, hown, hZ, hEW, hC, hF, T, locs, X, N, eT, st⟩ := K
  exact ⟨hx, hby, hml, hnm, hrt, hlk, vm0, k0, hS, hk, hown, hZ, hEW, hC, hF, T, locs, X, N, eT, fun t kt => st t (XS.iconst X.here hx rfl (hb hby hd) (by rw [hz]; exact kt))⟩
theorem Run.bipush {i : Int} (z : Int32) (K : Run C R Z n0 own nm ret bytes mx sf h cells slots pc L S) (hd : decode bytes pc = .ok (.bipush i, 2)) (hz : (Int8.ofInt i).toInt32 = z) : Run C R Z n0 own nm ret bytes mx sf h cells slots (pc + 2) L (.int z :: S) := by
  obtain ⟨hx, hby, hml, hnm, hrt, hlk, vm0, k0, hS, hk, hown, hZ, hEW, hC, hF, T, locs, X, N, eT, st⟩ := K
  exact ⟨hx, hby, hml, hnm, hrt, hlk, vm0, k0, hS, hk, hown, hZ, hEW, hC, hF, T, locs, X, N, eT, fun t kt => st t (XS.bipush X.here hx rfl (hb hby hd) (by rw [hz]; exact kt))⟩
theorem Run.sipush {i : Int} (z : Int32) (K : Run C R Z n0 own nm ret bytes mx sf h cells slots pc L S) (hd : decode bytes pc = .ok (.sipush i, 3)) (hz : (Int16.ofInt i).toInt32 = z) : Run C R Z n0 own nm ret bytes mx sf h cells slots (pc + 3) L (.int z :: S) := by
  obtain ⟨hx, hby, hml, hnm, hrt, hlk, vm0, k0, hS, hk, hown, hZ, hEW, hC, hF, T, locs, X, N, eT, st⟩ := K
  exact ⟨hx, hby, hml, hnm, hrt, hlk, vm0, k0, hS, hk, hown, hZ, hEW, hC, hF, T, locs, X, N, eT, fun t kt => st t (XS.sipush X.here hx rfl (hb hby hd) (by rw [hz]; exact kt))⟩
theorem Run.lconst {i : Fin 2} (z : Int64) (K : Run C R Z n0 own nm ret bytes mx sf h cells slots pc L S) (hd : decode bytes pc = .ok (.lconst i, 1)) (hz : Int64.ofNat i = z) : Run C R Z n0 own nm ret bytes mx sf h cells slots (pc + 1) L (.long z :: S) := by
  obtain ⟨hx, hby, hml, hnm, hrt, hlk, vm0, k0, hS, hk, hown, hZ, hEW, hC, hF, T, locs, X, N, eT, st⟩ := K
  exact ⟨hx, hby, hml, hnm, hrt, hlk, vm0, k0, hS, hk, hown, hZ, hEW, hC, hF, T, locs, X, N, eT, fun t kt => st t (XS.lconst X.here hx rfl (hb hby hd) (by rw [hz]; exact kt))⟩
theorem Run.aconstNull  (K : Run C R Z n0 own nm ret bytes mx sf h cells slots pc L S) (hd : decode bytes pc = .ok (.aconst_null, 1))  : Run C R Z n0 own nm ret bytes mx sf h cells slots (pc + 1) L (.null :: S) := by
  obtain ⟨hx, hby, hml, hnm, hrt, hlk, vm0, k0, hS, hk, hown, hZ, hEW, hC, hF, T, locs, X, N, eT, st⟩ := K
  exact ⟨hx, hby, hml, hnm, hrt, hlk, vm0, k0, hS, hk, hown, hZ, hEW, hC, hF, T, locs, X, N, eT, fun t kt => st t (XS.aconstNull X.here hx rfl (hb hby hd) kt)⟩
theorem Run.iadd {x y : Int32} (K : Run C R Z n0 own nm ret bytes mx sf h cells slots pc L (.int y :: .int x :: S)) (hd : decode bytes pc = .ok (.iadd, 1))  : Run C R Z n0 own nm ret bytes mx sf h cells slots (pc + 1) L (.int (x + y) :: S) := by
  obtain ⟨hx, hby, hml, hnm, hrt, hlk, vm0, k0, hS, hk, hown, hZ, hEW, hC, hF, T, locs, X, N, eT, st⟩ := K
  exact ⟨hx, hby, hml, hnm, hrt, hlk, vm0, k0, hS, hk, hown, hZ, hEW, hC, hF, T, locs, X, N, eT, fun t kt => st t (XS.iadd X.here hx rfl (hb hby hd) rfl kt)⟩
theorem Run.isub {x y : Int32} (K : Run C R Z n0 own nm ret bytes mx sf h cells slots pc L (.int y :: .int x :: S)) (hd : decode bytes pc = .ok (.isub, 1))  : Run C R Z n0 own nm ret bytes mx sf h cells slots (pc + 1) L (.int (x - y) :: S) := by
  obtain ⟨hx, hby, hml, hnm, hrt, hlk, vm0, k0, hS, hk, hown, hZ, hEW, hC, hF, T, locs, X, N, eT, st⟩ := K
  exact ⟨hx, hby, hml, hnm, hrt, hlk, vm0, k0, hS, hk, hown, hZ, hEW, hC, hF, T, locs, X, N, eT, fun t kt => st t (XS.isub X.here hx rfl (hb hby hd) rfl kt)⟩
theorem Run.imul {x y : Int32} (K : Run C R Z n0 own nm ret bytes mx sf h cells slots pc L (.int y :: .int x :: S)) (hd : decode bytes pc = .ok (.imul, 1))  : Run C R Z n0 own nm ret bytes mx sf h cells slots (pc + 1) L (.int (x * y) :: S) := by
  obtain ⟨hx, hby, hml, hnm, hrt, hlk, vm0, k0, hS, hk, hown, hZ, hEW, hC, hF, T, locs, X, N, eT, st⟩ := K
  exact ⟨hx, hby, hml, hnm, hrt, hlk, vm0, k0, hS, hk, hown, hZ, hEW, hC, hF, T, locs, X, N, eT, fun t kt => st t (XS.imul X.here hx rfl (hb hby hd) rfl kt)⟩
theorem Run.iand {x y : Int32} (K : Run C R Z n0 own nm ret bytes mx sf h cells slots pc L (.int y :: .int x :: S)) (hd : decode bytes pc = .ok (.iand, 1))  : Run C R Z n0 own nm ret bytes mx sf h cells slots (pc + 1) L (.int (x &&& y) :: S) := by
  obtain ⟨hx, hby, hml, hnm, hrt, hlk, vm0, k0, hS, hk, hown, hZ, hEW, hC, hF, T, locs, X, N, eT, st⟩ := K
  exact ⟨hx, hby, hml, hnm, hrt, hlk, vm0, k0, hS, hk, hown, hZ, hEW, hC, hF, T, locs, X, N, eT, fun t kt => st t (XS.iand X.here hx rfl (hb hby hd) rfl kt)⟩
theorem Run.ior {x y : Int32} (K : Run C R Z n0 own nm ret bytes mx sf h cells slots pc L (.int y :: .int x :: S)) (hd : decode bytes pc = .ok (.ior, 1))  : Run C R Z n0 own nm ret bytes mx sf h cells slots (pc + 1) L (.int (x ||| y) :: S) := by
  obtain ⟨hx, hby, hml, hnm, hrt, hlk, vm0, k0, hS, hk, hown, hZ, hEW, hC, hF, T, locs, X, N, eT, st⟩ := K
  exact ⟨hx, hby, hml, hnm, hrt, hlk, vm0, k0, hS, hk, hown, hZ, hEW, hC, hF, T, locs, X, N, eT, fun t kt => st t (XS.ior X.here hx rfl (hb hby hd) rfl kt)⟩
theorem Run.ixor {x y : Int32} (K : Run C R Z n0 own nm ret bytes mx sf h cells slots pc L (.int y :: .int x :: S)) (hd : decode bytes pc = .ok (.ixor, 1))  : Run C R Z n0 own nm ret bytes mx sf h cells slots (pc + 1) L (.int (x ^^^ y) :: S) := by
  obtain ⟨hx, hby, hml, hnm, hrt, hlk, vm0, k0, hS, hk, hown, hZ, hEW, hC, hF, T, locs, X, N, eT, st⟩ := K
  exact ⟨hx, hby, hml, hnm, hrt, hlk, vm0, k0, hS, hk, hown, hZ, hEW, hC, hF, T, locs, X, N, eT, fun t kt => st t (XS.ixor X.here hx rfl (hb hby hd) rfl kt)⟩
theorem Run.ishl {x y : Int32} (K : Run C R Z n0 own nm ret bytes mx sf h cells slots pc L (.int y :: .int x :: S)) (hd : decode bytes pc = .ok (.ishl, 1))  : Run C R Z n0 own nm ret bytes mx sf h cells slots (pc + 1) L (.int (x <<< (y &&& 31)) :: S) := by
  obtain ⟨hx, hby, hml, hnm, hrt, hlk, vm0, k0, hS, hk, hown, hZ, hEW, hC, hF, T, locs, X, N, eT, st⟩ := K
  exact ⟨hx, hby, hml, hnm, hrt, hlk, vm0, k0, hS, hk, hown, hZ, hEW, hC, hF, T, locs, X, N, eT, fun t kt => st t (XS.ishl X.here hx rfl (hb hby hd) rfl kt)⟩
theorem Run.ishr {x y : Int32} (K : Run C R Z n0 own nm ret bytes mx sf h cells slots pc L (.int y :: .int x :: S)) (hd : decode bytes pc = .ok (.ishr, 1))  : Run C R Z n0 own nm ret bytes mx sf h cells slots (pc + 1) L (.int (x >>> (y &&& 31)) :: S) := by
  obtain ⟨hx, hby, hml, hnm, hrt, hlk, vm0, k0, hS, hk, hown, hZ, hEW, hC, hF, T, locs, X, N, eT, st⟩ := K
  exact ⟨hx, hby, hml, hnm, hrt, hlk, vm0, k0, hS, hk, hown, hZ, hEW, hC, hF, T, locs, X, N, eT, fun t kt => st t (XS.ishr X.here hx rfl (hb hby hd) rfl kt)⟩
theorem Run.iushr {x y : Int32} (K : Run C R Z n0 own nm ret bytes mx sf h cells slots pc L (.int y :: .int x :: S)) (hd : decode bytes pc = .ok (.iushr, 1))  : Run C R Z n0 own nm ret bytes mx sf h cells slots (pc + 1) L (.int ((x.toUInt32 >>> (y &&& 31).toUInt32).toInt32) :: S) := by
  obtain ⟨hx, hby, hml, hnm, hrt, hlk, vm0, k0, hS, hk, hown, hZ, hEW, hC, hF, T, locs, X, N, eT, st⟩ := K
  exact ⟨hx, hby, hml, hnm, hrt, hlk, vm0, k0, hS, hk, hown, hZ, hEW, hC, hF, T, locs, X, N, eT, fun t kt => st t (XS.iushr X.here hx rfl (hb hby hd) rfl kt)⟩
theorem Run.irem {x y : Int32} (K : Run C R Z n0 own nm ret bytes mx sf h cells slots pc L (.int y :: .int x :: S)) (hd : decode bytes pc = .ok (.irem, 1)) (hy : y ≠ 0) : Run C R Z n0 own nm ret bytes mx sf h cells slots (pc + 1) L (.int (x % y) :: S) := by
  obtain ⟨hx, hby, hml, hnm, hrt, hlk, vm0, k0, hS, hk, hown, hZ, hEW, hC, hF, T, locs, X, N, eT, st⟩ := K
  exact ⟨hx, hby, hml, hnm, hrt, hlk, vm0, k0, hS, hk, hown, hZ, hEW, hC, hF, T, locs, X, N, eT, fun t kt => st t (iremM X hx rfl (hb hby hd) rfl hy kt)⟩
theorem Run.idiv {x y : Int32} (K : Run C R Z n0 own nm ret bytes mx sf h cells slots pc L (.int y :: .int x :: S)) (hd : decode bytes pc = .ok (.idiv, 1)) (hy : y ≠ 0) : Run C R Z n0 own nm ret bytes mx sf h cells slots (pc + 1) L (.int (x / y) :: S) := by
  obtain ⟨hx, hby, hml, hnm, hrt, hlk, vm0, k0, hS, hk, hown, hZ, hEW, hC, hF, T, locs, X, N, eT, st⟩ := K
  exact ⟨hx, hby, hml, hnm, hrt, hlk, vm0, k0, hS, hk, hown, hZ, hEW, hC, hF, T, locs, X, N, eT, fun t kt => st t (XS.idiv X.here hx rfl (hb hby hd) rfl hy kt)⟩
theorem Run.ineg {x : Int32} (K : Run C R Z n0 own nm ret bytes mx sf h cells slots pc L (.int x :: S)) (hd : decode bytes pc = .ok (.ineg, 1))  : Run C R Z n0 own nm ret bytes mx sf h cells slots (pc + 1) L (.int (-x) :: S) := by
  obtain ⟨hx, hby, hml, hnm, hrt, hlk, vm0, k0, hS, hk, hown, hZ, hEW, hC, hF, T, locs, X, N, eT, st⟩ := K
  exact ⟨hx, hby, hml, hnm, hrt, hlk, vm0, k0, hS, hk, hown, hZ, hEW, hC, hF, T, locs, X, N, eT, fun t kt => st t (XS.ineg X.here hx rfl (hb hby hd) rfl kt)⟩
theorem Run.ladd {x y : Int64} (K : Run C R Z n0 own nm ret bytes mx sf h cells slots pc L (.long y :: .long x :: S)) (hd : decode bytes pc = .ok (.ladd, 1))  : Run C R Z n0 own nm ret bytes mx sf h cells slots (pc + 1) L (.long (x + y) :: S) := by
  obtain ⟨hx, hby, hml, hnm, hrt, hlk, vm0, k0, hS, hk, hown, hZ, hEW, hC, hF, T, locs, X, N, eT, st⟩ := K
  exact ⟨hx, hby, hml, hnm, hrt, hlk, vm0, k0, hS, hk, hown, hZ, hEW, hC, hF, T, locs, X, N, eT, fun t kt => st t (XS.ladd X.here hx rfl (hb hby hd) rfl kt)⟩
theorem Run.lsub {x y : Int64} (K : Run C R Z n0 own nm ret bytes mx sf h cells slots pc L (.long y :: .long x :: S)) (hd : decode bytes pc = .ok (.lsub, 1))  : Run C R Z n0 own nm ret bytes mx sf h cells slots (pc + 1) L (.long (x - y) :: S) := by
  obtain ⟨hx, hby, hml, hnm, hrt, hlk, vm0, k0, hS, hk, hown, hZ, hEW, hC, hF, T, locs, X, N, eT, st⟩ := K
  exact ⟨hx, hby, hml, hnm, hrt, hlk, vm0, k0, hS, hk, hown, hZ, hEW, hC, hF, T, locs, X, N, eT, fun t kt => st t (XS.lsub X.here hx rfl (hb hby hd) rfl kt)⟩
theorem Run.lmul {x y : Int64} (K : Run C R Z n0 own nm ret bytes mx sf h cells slots pc L (.long y :: .long x :: S)) (hd : decode bytes pc = .ok (.lmul, 1))  : Run C R Z n0 own nm ret bytes mx sf h cells slots (pc + 1) L (.long (x * y) :: S) := by
  obtain ⟨hx, hby, hml, hnm, hrt, hlk, vm0, k0, hS, hk, hown, hZ, hEW, hC, hF, T, locs, X, N, eT, st⟩ := K
  exact ⟨hx, hby, hml, hnm, hrt, hlk, vm0, k0, hS, hk, hown, hZ, hEW, hC, hF, T, locs, X, N, eT, fun t kt => st t (XS.lmul X.here hx rfl (hb hby hd) rfl kt)⟩
theorem Run.land {x y : Int64} (K : Run C R Z n0 own nm ret bytes mx sf h cells slots pc L (.long y :: .long x :: S)) (hd : decode bytes pc = .ok (.land, 1))  : Run C R Z n0 own nm ret bytes mx sf h cells slots (pc + 1) L (.long (x &&& y) :: S) := by
  obtain ⟨hx, hby, hml, hnm, hrt, hlk, vm0, k0, hS, hk, hown, hZ, hEW, hC, hF, T, locs, X, N, eT, st⟩ := K
  exact ⟨hx, hby, hml, hnm, hrt, hlk, vm0, k0, hS, hk, hown, hZ, hEW, hC, hF, T, locs, X, N, eT, fun t kt => st t (XS.land X.here hx rfl (hb hby hd) rfl kt)⟩
theorem Run.lor {x y : Int64} (K : Run C R Z n0 own nm ret bytes mx sf h cells slots pc L (.long y :: .long x :: S)) (hd : decode bytes pc = .ok (.lor, 1))  : Run C R Z n0 own nm ret bytes mx sf h cells slots (pc + 1) L (.long (x ||| y) :: S) := by
  obtain ⟨hx, hby, hml, hnm, hrt, hlk, vm0, k0, hS, hk, hown, hZ, hEW, hC, hF, T, locs, X, N, eT, st⟩ := K
  exact ⟨hx, hby, hml, hnm, hrt, hlk, vm0, k0, hS, hk, hown, hZ, hEW, hC, hF, T, locs, X, N, eT, fun t kt => st t (XS.lor X.here hx rfl (hb hby hd) rfl kt)⟩
theorem Run.lxor {x y : Int64} (K : Run C R Z n0 own nm ret bytes mx sf h cells slots pc L (.long y :: .long x :: S)) (hd : decode bytes pc = .ok (.lxor, 1))  : Run C R Z n0 own nm ret bytes mx sf h cells slots (pc + 1) L (.long (x ^^^ y) :: S) := by
  obtain ⟨hx, hby, hml, hnm, hrt, hlk, vm0, k0, hS, hk, hown, hZ, hEW, hC, hF, T, locs, X, N, eT, st⟩ := K
  exact ⟨hx, hby, hml, hnm, hrt, hlk, vm0, k0, hS, hk, hown, hZ, hEW, hC, hF, T, locs, X, N, eT, fun t kt => st t (XS.lxor X.here hx rfl (hb hby hd) rfl kt)⟩
theorem Run.lcmp {x y : Int64} (K : Run C R Z n0 own nm ret bytes mx sf h cells slots pc L (.long y :: .long x :: S)) (hd : decode bytes pc = .ok (.lcmp, 1))  : Run C R Z n0 own nm ret bytes mx sf h cells slots (pc + 1) L (.int (lcmpW x y) :: S) := by
  obtain ⟨hx, hby, hml, hnm, hrt, hlk, vm0, k0, hS, hk, hown, hZ, hEW, hC, hF, T, locs, X, N, eT, st⟩ := K
  exact ⟨hx, hby, hml, hnm, hrt, hlk, vm0, k0, hS, hk, hown, hZ, hEW, hC, hF, T, locs, X, N, eT, fun t kt => st t (XS.lcmp X.here hx rfl (hb hby hd) rfl kt)⟩
theorem Run.lushr {x : Int64} {y : Int32} (K : Run C R Z n0 own nm ret bytes mx sf h cells slots pc L (.int y :: .long x :: S)) (hd : decode bytes pc = .ok (.lushr, 1))  : Run C R Z n0 own nm ret bytes mx sf h cells slots (pc + 1) L (.long ((x.toUInt64 >>> (y &&& 0x3f).toInt64.toUInt64).toInt64) :: S) := by
  obtain ⟨hx, hby, hml, hnm, hrt, hlk, vm0, k0, hS, hk, hown, hZ, hEW, hC, hF, T, locs, X, N, eT, st⟩ := K
  exact ⟨hx, hby, hml, hnm, hrt, hlk, vm0, k0, hS, hk, hown, hZ, hEW, hC, hF, T, locs, X, N, eT, fun t kt => st t (XS.lushr X.here hx rfl (hb hby hd) rfl kt)⟩
theorem Run.lshr {x : Int64} {y : Int32} (K : Run C R Z n0 own nm ret bytes mx sf h cells slots pc L (.int y :: .long x :: S)) (hd : decode bytes pc = .ok (.lshr, 1))  : Run C R Z n0 own nm ret bytes mx sf h cells slots (pc + 1) L (.long (x >>> (y &&& 0x3f).toInt64) :: S) := by
  obtain ⟨hx, hby, hml, hnm, hrt, hlk, vm0, k0, hS, hk, hown, hZ, hEW, hC, hF, T, locs, X, N, eT, st⟩ := K
  exact ⟨hx, hby, hml, hnm, hrt, hlk, vm0, k0, hS, hk, hown, hZ, hEW, hC, hF, T, locs, X, N, eT, fun t kt => st t (XS.lshr X.here hx rfl (hb hby hd) rfl kt)⟩
theorem Run.lshl {x : Int64} {y : Int32} (K : Run C R Z n0 own nm ret bytes mx sf h cells slots pc L (.int y :: .long x :: S)) (hd : decode bytes pc = .ok (.lshl, 1))  : Run C R Z n0 own nm ret bytes mx sf h cells slots (pc + 1) L (.long (x <<< (y &&& 0x3f).toInt64) :: S) := by
  obtain ⟨hx, hby, hml, hnm, hrt, hlk, vm0, k0, hS, hk, hown, hZ, hEW, hC, hF, T, locs, X, N, eT, st⟩ := K
  exact ⟨hx, hby, hml, hnm, hrt, hlk, vm0, k0, hS, hk, hown, hZ, hEW, hC, hF, T, locs, X, N, eT, fun t kt => st t (XS.lshl X.here hx rfl (hb hby hd) rfl kt)⟩
theorem Run.i2l {x : Int32} (K : Run C R Z n0 own nm ret bytes mx sf h cells slots pc L (.int x :: S)) (hd : decode bytes pc = .ok (.i2l, 1))  : Run C R Z n0 own nm ret bytes mx sf h cells slots (pc + 1) L (.long (x.toInt64) :: S) := by
  obtain ⟨hx, hby, hml, hnm, hrt, hlk, vm0, k0, hS, hk, hown, hZ, hEW, hC, hF, T, locs, X, N, eT, st⟩ := K
  exact ⟨hx, hby, hml, hnm, hrt, hlk, vm0, k0, hS, hk, hown, hZ, hEW, hC, hF, T, locs, X, N, eT, fun t kt => st t (XS.i2l X.here hx rfl (hb hby hd) rfl kt)⟩
theorem Run.l2i {x : Int64} (K : Run C R Z n0 own nm ret bytes mx sf h cells slots pc L (.long x :: S)) (hd : decode bytes pc = .ok (.l2i, 1))  : Run C R Z n0 own nm ret bytes mx sf h cells slots (pc + 1) L (.int (x.toInt32) :: S) := by
  obtain ⟨hx, hby, hml, hnm, hrt, hlk, vm0, k0, hS, hk, hown, hZ, hEW, hC, hF, T, locs, X, N, eT, st⟩ := K
  exact ⟨hx, hby, hml, hnm, hrt, hlk, vm0, k0, hS, hk, hown, hZ, hEW, hC, hF, T, locs, X, N, eT, fun t kt => st t (XS.l2i X.here hx rfl (hb hby hd) rfl kt)⟩
theorem Run.i2b {x : Int32} (K : Run C R Z n0 own nm ret bytes mx sf h cells slots pc L (.int x :: S)) (hd : decode bytes pc = .ok (.i2b, 1))  : Run C R Z n0 own nm ret bytes mx sf h cells slots (pc + 1) L (.int (x.toInt8.toInt32) :: S) := by
  obtain ⟨hx, hby, hml, hnm, hrt, hlk, vm0, k0, hS, hk, hown, hZ, hEW, hC, hF, T, locs, X, N, eT, st⟩ := K
  exact ⟨hx, hby, hml, hnm, hrt, hlk, vm0, k0, hS, hk, hown, hZ, hEW, hC, hF, T, locs, X, N, eT, fun t kt => st t (XS.i2b X.here hx rfl (hb hby hd) rfl kt)⟩
theorem Run.i2s {x : Int32} (K : Run C R Z n0 own nm ret bytes mx sf h cells slots pc L (.int x :: S)) (hd : decode bytes pc = .ok (.i2s, 1))  : Run C R Z n0 own nm ret bytes mx sf h cells slots (pc + 1) L (.int (x.toInt16.toInt32) :: S) := by
  obtain ⟨hx, hby, hml, hnm, hrt, hlk, vm0, k0, hS, hk, hown, hZ, hEW, hC, hF, T, locs, X, N, eT, st⟩ := K
  exact ⟨hx, hby, hml, hnm, hrt, hlk, vm0, k0, hS, hk, hown, hZ, hEW, hC, hF, T, locs, X, N, eT, fun t kt => st t (XS.i2s X.here hx rfl (hb hby hd) rfl kt)⟩
theorem Run.i2c {x : Int32} (K : Run C R Z n0 own nm ret bytes mx sf h cells slots pc L (.int x :: S)) (hd : decode bytes pc = .ok (.i2c, 1))  : Run C R Z n0 own nm ret bytes mx sf h cells slots (pc + 1) L (.int (x.toUInt32.toUInt16.toUInt32.toInt32) :: S) := by
  obtain ⟨hx, hby, hml, hnm, hrt, hlk, vm0, k0, hS, hk, hown, hZ, hEW, hC, hF, T, locs, X, N, eT, st⟩ := K
  exact ⟨hx, hby, hml, hnm, hrt, hlk, vm0, k0, hS, hk, hown, hZ, hEW, hC, hF, T, locs, X, N, eT, fun t kt => st t (XS.i2c X.here hx rfl (hb hby hd) rfl kt)⟩
theorem Run.iinc {k : Nat} {cst : Int} {x : Int32} (z : Int32) (l' : Array Slot) (K : Run C R Z n0 own nm ret bytes mx sf h cells slots pc L S) (hd : decode bytes pc = .ok (.iinc k cst, 3)) (hl : L[k]? = some (.val (.int x))) (hz : Int32.ofInt cst = z) (hl' : storeLocals L k (.int (x + z)) = some l') : Run C R Z n0 own nm ret bytes mx sf h cells slots (pc + 3) l' S := by
  obtain ⟨hx, hby, hml, hnm, hrt, hlk, vm0, k0, hS, hk, hown, hZ, hEW, hC, hF, T, locs, X, N, eT, st⟩ := K
  exact ⟨hx, hby, hml, hnm, hrt, hlk, vm0, k0, hS, hk, hown, hZ, hEW, hC, hF, T, locs, X, N, eT, fun t kt => st t (XS.iinc X.here hx rfl (hb hby hd) hl (by rw [hz]; exact hl') kt)⟩
theorem Run.dup {x : Value} (K : Run C R Z n0 own nm ret bytes mx sf h cells slots pc L (x :: S)) (hd : decode bytes pc = .ok (.dup, 1)) (hc : x.category = 1) : Run C R Z n0 own nm ret bytes mx sf h cells slots (pc + 1) L (x :: x :: S) := by
  obtain ⟨hx, hby, hml, hnm, hrt, hlk, vm0, k0, hS, hk, hown, hZ, hEW, hC, hF, T, locs, X, N, eT, st⟩ := K
  exact ⟨hx, hby, hml, hnm, hrt, hlk, vm0, k0, hS, hk, hown, hZ, hEW, hC, hF, T, locs, X, N, eT, fun t kt => st t (XS.dup X.here hx rfl (hb hby hd) rfl hc kt)⟩
theorem Run.dupX1 {x y : Value} (K : Run C R Z n0 own nm ret bytes mx sf h cells slots pc L (x :: y :: S)) (hd : decode bytes pc = .ok (.dup_x1, 1)) (hc : x.category = 1) (hc' : y.category = 1) : Run C R Z n0 own nm ret bytes mx sf h cells slots (pc + 1) L (x :: y :: x :: S) := by
  obtain ⟨hx, hby, hml, hnm, hrt, hlk, vm0, k0, hS, hk, hown, hZ, hEW, hC, hF, T, locs, X, N, eT, st⟩ := K
  exact ⟨hx, hby, hml, hnm, hrt, hlk, vm0, k0, hS, hk, hown, hZ, hEW, hC, hF, T, locs, X, N, eT, fun t kt => st t (XS.dupX1 X.here hx rfl (hb hby hd) rfl hc hc' kt)⟩
theorem Run.pop {x : Value} (K : Run C R Z n0 own nm ret bytes mx sf h cells slots pc L (x :: S)) (hd : decode bytes pc = .ok (.pop, 1)) (hc : x.category = 1) : Run C R Z n0 own nm ret bytes mx sf h cells slots (pc + 1) L S := by
  obtain ⟨hx, hby, hml, hnm, hrt, hlk, vm0, k0, hS, hk, hown, hZ, hEW, hC, hF, T, locs, X, N, eT, st⟩ := K
  exact ⟨hx, hby, hml, hnm, hrt, hlk, vm0, k0, hS, hk, hown, hZ, hEW, hC, hF, T, locs, X, N, eT, fun t kt => st t (XS.pop X.here hx rfl (hb hby hd) rfl hc kt)⟩
theorem Run.goto {o : Int} {pc' : Nat} (K : Run C R Z n0 own nm ret bytes mx sf h cells slots pc L S) (hd : decode bytes pc = .ok (.goto o, 3)) (ho : 0 ≤ (pc : Int) + o) (hp : ((pc : Int) + o).toNat = pc') : Run C R Z n0 own nm ret bytes mx sf h cells slots pc' L S := by
  obtain ⟨hx, hby, hml, hnm, hrt, hlk, vm0, k0, hS, hk, hown, hZ, hEW, hC, hF, T, locs, X, N, eT, st⟩ := K
  exact ⟨hx, hby, hml, hnm, hrt, hlk, vm0, k0, hS, hk, hown, hZ, hEW, hC, hF, T, locs, X, N, eT, fun t kt => st t (XS.goto X.here hx rfl (pc0 := pc) rfl (hb hby hd) ho hp kt)⟩
theorem Run.ifYes {cd : ClassFile.Cond} {x : Int32} {o : Int} {pc' : Nat} (K : Run C R Z n0 own nm ret bytes mx sf h cells slots pc L (.int x :: S)) (hd : decode bytes pc = .ok (.ifCond cd o, 3)) (hc : if_icmp.holds cd x 0 = true) (ho : 0 ≤ (pc : Int) + o) (hp : ((pc : Int) + o).toNat = pc') : Run C R Z n0 own nm ret bytes mx sf h cells slots pc' L S := by
  obtain ⟨hx, hby, hml, hnm, hrt, hlk, vm0, k0, hS, hk, hown, hZ, hEW, hC, hF, T, locs, X, N, eT, st⟩ := K
  exact ⟨hx, hby, hml, hnm, hrt, hlk, vm0, k0, hS, hk, hown, hZ, hEW, hC, hF, T, locs, X, N, eT, fun t kt => st t (XS.ifYes X.here hx rfl (pc0 := pc) rfl (hb hby hd) rfl ((if0 _ _).trans hc) ho hp kt)⟩
theorem Run.ifNo {cd : ClassFile.Cond} {x : Int32} {o : Int} (K : Run C R Z n0 own nm ret bytes mx sf h cells slots pc L (.int x :: S)) (hd : decode bytes pc = .ok (.ifCond cd o, 3)) (hc : if_icmp.holds cd x 0 = false) : Run C R Z n0 own nm ret bytes mx sf h cells slots (pc + 3) L S := by
  obtain ⟨hx, hby, hml, hnm, hrt, hlk, vm0, k0, hS, hk, hown, hZ, hEW, hC, hF, T, locs, X, N, eT, st⟩ := K
  exact ⟨hx, hby, hml, hnm, hrt, hlk, vm0, k0, hS, hk, hown, hZ, hEW, hC, hF, T, locs, X, N, eT, fun t kt => st t (XS.ifNo X.here hx rfl (hb hby hd) rfl ((if0 _ _).trans hc) kt)⟩
theorem Run.icmpYes {cd : ClassFile.Cond} {x y : Int32} {o : Int} {pc' : Nat} (K : Run C R Z n0 own nm ret bytes mx sf h cells slots pc L (.int y :: .int x :: S)) (hd : decode bytes pc = .ok (.if_icmp cd o, 3)) (hc : if_icmp.holds cd x y = true) (ho : 0 ≤ (pc : Int) + o) (hp : ((pc : Int) + o).toNat = pc') : Run C R Z n0 own nm ret bytes mx sf h cells slots pc' L S := by
  obtain ⟨hx, hby, hml, hnm, hrt, hlk, vm0, k0, hS, hk, hown, hZ, hEW, hC, hF, T, locs, X, N, eT, st⟩ := K
  exact ⟨hx, hby, hml, hnm, hrt, hlk, vm0, k0, hS, hk, hown, hZ, hEW, hC, hF, T, locs, X, N, eT, fun t kt => st t (XS.icmpYes X.here hx rfl (pc0 := pc) rfl (hb hby hd) rfl hc ho hp kt)⟩
theorem Run.icmpNo {cd : ClassFile.Cond} {x y : Int32} {o : Int} (K : Run C R Z n0 own nm ret bytes mx sf h cells slots pc L (.int y :: .int x :: S)) (hd : decode bytes pc = .ok (.if_icmp cd o, 3)) (hc : if_icmp.holds cd x y = false) : Run C R Z n0 own nm ret bytes mx sf h cells slots (pc + 3) L S := by
  obtain ⟨hx, hby, hml, hnm, hrt, hlk, vm0, k0, hS, hk, hown, hZ, hEW, hC, hF, T, locs, X, N, eT, st⟩ := K
  exact ⟨hx, hby, hml, hnm, hrt, hlk, vm0, k0, hS, hk, hown, hZ, hEW, hC, hF, T, locs, X, N, eT, fun t kt => st t (XS.icmpNo X.here hx rfl (hb hby hd) rfl hc kt)⟩
theorem Run.ifnullYes {o : Int} {pc' : Nat} (K : Run C R Z n0 own nm ret bytes mx sf h cells slots pc L (.null :: S)) (hd : decode bytes pc = .ok (.ifnull o, 3)) (ho : 0 ≤ (pc : Int) + o) (hp : ((pc : Int) + o).toNat = pc') : Run C R Z n0 own nm ret bytes mx sf h cells slots pc' L S := by
  obtain ⟨hx, hby, hml, hnm, hrt, hlk, vm0, k0, hS, hk, hown, hZ, hEW, hC, hF, T, locs, X, N, eT, st⟩ := K
  exact ⟨hx, hby, hml, hnm, hrt, hlk, vm0, k0, hS, hk, hown, hZ, hEW, hC, hF, T, locs, X, N, eT, fun t kt => st t (XS.ifnullYes X.here hx rfl (pc0 := pc) rfl (hb hby hd) rfl ho hp kt)⟩
theorem Run.ifnullNo {o : Int} {b : Addr} (K : Run C R Z n0 own nm ret bytes mx sf h cells slots pc L (.ref b :: S)) (hd : decode bytes pc = .ok (.ifnull o, 3))  : Run C R Z n0 own nm ret bytes mx sf h cells slots (pc + 3) L S := by
  obtain ⟨hx, hby, hml, hnm, hrt, hlk, vm0, k0, hS, hk, hown, hZ, hEW, hC, hF, T, locs, X, N, eT, st⟩ := K
  exact ⟨hx, hby, hml, hnm, hrt, hlk, vm0, k0, hS, hk, hown, hZ, hEW, hC, hF, T, locs, X, N, eT, fun t kt => st t (XS.ifnullNo X.here hx rfl (hb hby hd) rfl kt)⟩
theorem Run.ifnonnullYes {o : Int} {b : Addr} {pc' : Nat} (K : Run C R Z n0 own nm ret bytes mx sf h cells slots pc L (.ref b :: S)) (hd : decode bytes pc = .ok (.ifnonnull o, 3)) (ho : 0 ≤ (pc : Int) + o) (hp : ((pc : Int) + o).toNat = pc') : Run C R Z n0 own nm ret bytes mx sf h cells slots pc' L S := by
  obtain ⟨hx, hby, hml, hnm, hrt, hlk, vm0, k0, hS, hk, hown, hZ, hEW, hC, hF, T, locs, X, N, eT, st⟩ := K
  exact ⟨hx, hby, hml, hnm, hrt, hlk, vm0, k0, hS, hk, hown, hZ, hEW, hC, hF, T, locs, X, N, eT, fun t kt => st t (XS.ifnonnullYes X.here hx rfl (pc0 := pc) rfl (hb hby hd) rfl ho hp kt)⟩
theorem Run.ifnonnullNo {o : Int} (K : Run C R Z n0 own nm ret bytes mx sf h cells slots pc L (.null :: S)) (hd : decode bytes pc = .ok (.ifnonnull o, 3))  : Run C R Z n0 own nm ret bytes mx sf h cells slots (pc + 3) L S := by
  obtain ⟨hx, hby, hml, hnm, hrt, hlk, vm0, k0, hS, hk, hown, hZ, hEW, hC, hF, T, locs, X, N, eT, st⟩ := K
  exact ⟨hx, hby, hml, hnm, hrt, hlk, vm0, k0, hS, hk, hown, hZ, hEW, hC, hF, T, locs, X, N, eT, fun t kt => st t (XS.ifnonnullNo X.here hx rfl (hb hby hd) rfl kt)⟩
theorem Run.acmpYes {cd : ClassFile.ACond} {x y : Value} {o : Int} {pc' : Nat} (K : Run C R Z n0 own nm ret bytes mx sf h cells slots pc L (y :: x :: S)) (hd : decode bytes pc = .ok (.if_acmp cd o, 3)) (h1 : x.isRef = true) (h2 : y.isRef = true) (hc : XT.acmp cd x y = true) (ho : 0 ≤ (pc : Int) + o) (hp : ((pc : Int) + o).toNat = pc') : Run C R Z n0 own nm ret bytes mx sf h cells slots pc' L S := by
  obtain ⟨hx, hby, hml, hnm, hrt, hlk, vm0, k0, hS, hk, hown, hZ, hEW, hC, hF, T, locs, X, N, eT, st⟩ := K
  exact ⟨hx, hby, hml, hnm, hrt, hlk, vm0, k0, hS, hk, hown, hZ, hEW, hC, hF, T, locs, X, N, eT, fun t kt => st t (XT.acmpYes X.here hx rfl (pc0 := pc) rfl (hb hby hd) rfl h1 h2 hc ho hp kt)⟩
theorem Run.acmpNo {cd : ClassFile.ACond} {x y : Value} {o : Int} (K : Run C R Z n0 own nm ret bytes mx sf h cells slots pc L (y :: x :: S)) (hd : decode bytes pc = .ok (.if_acmp cd o, 3)) (h1 : x.isRef = true) (h2 : y.isRef = true) (hc : XT.acmp cd x y = false) : Run C R Z n0 own nm ret bytes mx sf h cells slots (pc + 3) L S := by
  obtain ⟨hx, hby, hml, hnm, hrt, hlk, vm0, k0, hS, hk, hown, hZ, hEW, hC, hF, T, locs, X, N, eT, st⟩ := K
  exact ⟨hx, hby, hml, hnm, hrt, hlk, vm0, k0, hS, hk, hown, hZ, hEW, hC, hF, T, locs, X, N, eT, fun t kt => st t (XT.acmpNo X.here hx rfl (hb hby hd) rfl h1 h2 hc kt)⟩
theorem Run.dloadN {k : Fin 4} {v : UInt64} (K : Run C R Z n0 own nm ret bytes mx sf h cells slots pc L S) (hd : decode bytes pc = .ok (.dload_n k, 1)) (hl : L[k.val]? = some (.val (.double v))) : Run C R Z n0 own nm ret bytes mx sf h cells slots (pc + 1) L (.double v :: S) := by
  obtain ⟨hx, hby, hml, hnm, hrt, hlk, vm0, k0, hS, hk, hown, hZ, hEW, hC, hF, T, locs, X, N, eT, st⟩ := K
  exact ⟨hx, hby, hml, hnm, hrt, hlk, vm0, k0, hS, hk, hown, hZ, hEW, hC, hF, T, locs, X, N, eT, fun t kt => st t (XS.dloadN X.here hx rfl (hb hby hd) hl kt)⟩
theorem Run.dload {k : Nat} {v : UInt64} (K : Run C R Z n0 own nm ret bytes mx sf h cells slots pc L S) (hd : decode bytes pc = .ok (.dload k, 2)) (hl : L[k]? = some (.val (.double v))) : Run C R Z n0 own nm ret bytes mx sf h cells slots (pc + 2) L (.double v :: S) := by
  obtain ⟨hx, hby, hml, hnm, hrt, hlk, vm0, k0, hS, hk, hown, hZ, hEW, hC, hF, T, locs, X, N, eT, st⟩ := K
  exact ⟨hx, hby, hml, hnm, hrt, hlk, vm0, k0, hS, hk, hown, hZ, hEW, hC, hF, T, locs, X, N, eT, fun t kt => st t (XS.dload X.here hx rfl (hb hby hd) hl kt)⟩
theorem Run.dstoreN {k : Fin 4} {v : UInt64} (l' : Array Slot) (K : Run C R Z n0 own nm ret bytes mx sf h cells slots pc L (.double v :: S)) (hd : decode bytes pc = .ok (.dstore_n k, 1)) (hl : storeLocals L k.val (.double v) = some l') : Run C R Z n0 own nm ret bytes mx sf h cells slots (pc + 1) l' S := by
  obtain ⟨hx, hby, hml, hnm, hrt, hlk, vm0, k0, hS, hk, hown, hZ, hEW, hC, hF, T, locs, X, N, eT, st⟩ := K
  exact ⟨hx, hby, hml, hnm, hrt, hlk, vm0, k0, hS, hk, hown, hZ, hEW, hC, hF, T, locs, X, N, eT, fun t kt => st t (XS.dstoreN X.here hx rfl (hb hby hd) rfl hl kt)⟩
theorem Run.dstore {k : Nat} {v : UInt64} (l' : Array Slot) (K : Run C R Z n0 own nm ret bytes mx sf h cells slots pc L (.double v :: S)) (hd : decode bytes pc = .ok (.dstore k, 2)) (hl : storeLocals L k (.double v) = some l') : Run C R Z n0 own nm ret bytes mx sf h cells slots (pc + 2) l' S := by
  obtain ⟨hx, hby, hml, hnm, hrt, hlk, vm0, k0, hS, hk, hown, hZ, hEW, hC, hF, T, locs, X, N, eT, st⟩ := K
  exact ⟨hx, hby, hml, hnm, hrt, hlk, vm0, k0, hS, hk, hown, hZ, hEW, hC, hF, T, locs, X, N, eT, fun t kt => st t (XS.dstore X.here hx rfl (hb hby hd) rfl hl kt)⟩
theorem Run.dconst0 (z : UInt64) (K : Run C R Z n0 own nm ret bytes mx sf h cells slots pc L S) (hd : decode bytes pc = .ok (.dconst 0, 1)) (hz : FP.dconst0 = z) : Run C R Z n0 own nm ret bytes mx sf h cells slots (pc + 1) L (.double z :: S) := by
  obtain ⟨hx, hby, hml, hnm, hrt, hlk, vm0, k0, hS, hk, hown, hZ, hEW, hC, hF, T, locs, X, N, eT, st⟩ := K
  exact ⟨hx, hby, hml, hnm, hrt, hlk, vm0, k0, hS, hk, hown, hZ, hEW, hC, hF, T, locs, X, N, eT, fun t kt => st t (XS.dconst0 X.here hx rfl (hb hby hd) hz kt)⟩
theorem Run.i2d {x : Int32} (z : UInt64) (K : Run C R Z n0 own nm ret bytes mx sf h cells slots pc L (.int x :: S)) (hd : decode bytes pc = .ok (.i2d, 1)) (hz : FP.i2d x = z) : Run C R Z n0 own nm ret bytes mx sf h cells slots (pc + 1) L (.double z :: S) := by
  obtain ⟨hx, hby, hml, hnm, hrt, hlk, vm0, k0, hS, hk, hown, hZ, hEW, hC, hF, T, locs, X, N, eT, st⟩ := K
  exact ⟨hx, hby, hml, hnm, hrt, hlk, vm0, k0, hS, hk, hown, hZ, hEW, hC, hF, T, locs, X, N, eT, fun t kt => st t (XS.i2dS X.here hx rfl (hb hby hd) rfl hz kt)⟩
theorem Run.l2d {x : Int64} (z : UInt64) (K : Run C R Z n0 own nm ret bytes mx sf h cells slots pc L (.long x :: S)) (hd : decode bytes pc = .ok (.l2d, 1)) (hz : FP.l2d x = z) : Run C R Z n0 own nm ret bytes mx sf h cells slots (pc + 1) L (.double z :: S) := by
  obtain ⟨hx, hby, hml, hnm, hrt, hlk, vm0, k0, hS, hk, hown, hZ, hEW, hC, hF, T, locs, X, N, eT, st⟩ := K
  exact ⟨hx, hby, hml, hnm, hrt, hlk, vm0, k0, hS, hk, hown, hZ, hEW, hC, hF, T, locs, X, N, eT, fun t kt => st t (XS.l2dS X.here hx rfl (hb hby hd) rfl hz kt)⟩
theorem Run.dadd {x y : UInt64} (z : UInt64) (K : Run C R Z n0 own nm ret bytes mx sf h cells slots pc L (.double y :: .double x :: S)) (hd : decode bytes pc = .ok (.dadd, 1)) (hn : Jvm.Free.Fl.NoNaN64 (FP.dadd x y)) (hz : FP.dadd x y = z) : Run C R Z n0 own nm ret bytes mx sf h cells slots (pc + 1) L (.double z :: S) := by
  obtain ⟨hx, hby, hml, hnm, hrt, hlk, vm0, k0, hS, hk, hown, hZ, hEW, hC, hF, T, locs, X, N, eT, st⟩ := K
  exact ⟨hx, hby, hml, hnm, hrt, hlk, vm0, k0, hS, hk, hown, hZ, hEW, hC, hF, T, locs, X, N, eT, fun t kt => st t (XS.daddS X.here hx rfl (hb hby hd) rfl hn hz kt)⟩
theorem Run.ddiv {x y : UInt64} (z : UInt64) (K : Run C R Z n0 own nm ret bytes mx sf h cells slots pc L (.double y :: .double x :: S)) (hd : decode bytes pc = .ok (.ddiv, 1)) (hn : Jvm.Free.Fl.NoNaN64 (FP.ddiv x y)) (hz : FP.ddiv x y = z) : Run C R Z n0 own nm ret bytes mx sf h cells slots (pc + 1) L (.double z :: S) := by
  obtain ⟨hx, hby, hml, hnm, hrt, hlk, vm0, k0, hS, hk, hown, hZ, hEW, hC, hF, T, locs, X, N, eT, st⟩ := K
  exact ⟨hx, hby, hml, hnm, hrt, hlk, vm0, k0, hS, hk, hown, hZ, hEW, hC, hF, T, locs, X, N, eT, fun t kt => st t (XS.ddivS X.here hx rfl (hb hby hd) rfl hn hz kt)⟩
theorem Run.dcmp {o : CmpOp} {x y : UInt64} (z : Int32) (K : Run C R Z n0 own nm ret bytes mx sf h cells slots pc L (.double y :: .double x :: S)) (hd : decode bytes pc = .ok (.dcmp o, 1)) (hz : cmpValue (FP.dcmp x y) o = z) : Run C R Z n0 own nm ret bytes mx sf h cells slots (pc + 1) L (.int z :: S) := by
  obtain ⟨hx, hby, hml, hnm, hrt, hlk, vm0, k0, hS, hk, hown, hZ, hEW, hC, hF, T, locs, X, N, eT, st⟩ := K
  exact ⟨hx, hby, hml, hnm, hrt, hlk, vm0, k0, hS, hk, hown, hZ, hEW, hC, hF, T, locs, X, N, eT, fun t kt => st t (XS.dcmpS X.here hx rfl (hb hby hd) rfl hz kt)⟩
theorem Run.foldI {w : Int32} (K : Run C R Z n0 own nm ret bytes mx sf h cells slots pc L (.int w :: S)) (z : Int32) (q : w = z) : Run C R Z n0 own nm ret bytes mx sf h cells slots pc L (.int z :: S) := q ▸ K
theorem Run.foldJ {w : Int64} (K : Run C R Z n0 own nm ret bytes mx sf h cells slots pc L (.long w :: S)) (z : Int64) (q : w = z) : Run C R Z n0 own nm ret bytes mx sf h cells slots pc L (.long z :: S) := q ▸ K
theorem Run.stk (K : Run C R Z n0 own nm ret bytes mx sf h cells slots pc L S) (S' : List Value) (q : S = S') : Run C R Z n0 own nm ret bytes mx sf h cells slots pc L S' := q ▸ K
theorem Run.loc (K : Run C R Z n0 own nm ret bytes mx sf h cells slots pc L S) (L' : Array Slot) (q : L = L') : Run C R Z n0 own nm ret bytes mx sf h cells slots pc L' S := q ▸ K
theorem Run.atpc (K : Run C R Z n0 own nm ret bytes mx sf h cells slots pc L S) (pc' : Nat) (q : pc = pc') : Run C R Z n0 own nm ret bytes mx sf h cells slots pc' L S := q ▸ K
theorem Run.ldcInt {a0 : Array Value} {index : Nat} {v : Int32} (K : Run C R Z n0 own nm ret bytes mx sf h cells slots pc L S) (hd : decode bytes pc = .ok (.ldc index, 2)) (w : (Jvm.Cond.constant own index v).before a0 Z = true) : Run C R Z n0 own nm ret bytes mx sf h cells slots (pc + 2) L (.int v :: S) := by
  obtain ⟨hx, hby, hml, hnm, hrt, hlk, vm0, k0, hS, hk, hown, hZ, hEW, hC, hF, T, locs, X, N, eT, st⟩ := K
  exact ⟨hx, hby, hml, hnm, hrt, hlk, vm0, k0, hS, hk, hown, hZ, hEW, hC, hF, T, locs, X, N, eT, fun t kt => st t (X.ldcInt hx hown (mvT hZ w) (g := mkF C.2.2.2.2.1 pc L S) rfl (hb hby hd) t kt)⟩
theorem Run.ldc2Long {a0 : Array Value} {index : Nat} {v : Int64} (K : Run C R Z n0 own nm ret bytes mx sf h cells slots pc L S) (hd : decode bytes pc = .ok (.ldc2_w index, 3)) (w : (Jvm.Cond.constantLong own index v).before a0 Z = true) : Run C R Z n0 own nm ret bytes mx sf h cells slots (pc + 3) L (.long v :: S) := by
  obtain ⟨hx, hby, hml, hnm, hrt, hlk, vm0, k0, hS, hk, hown, hZ, hEW, hC, hF, T, locs, X, N, eT, st⟩ := K
  exact ⟨hx, hby, hml, hnm, hrt, hlk, vm0, k0, hS, hk, hown, hZ, hEW, hC, hF, T, locs, X, N, eT, fun t kt => st t (X.ldc2Long hx hown (mvT hZ w) (g := mkF C.2.2.2.2.1 pc L S) rfl (hb hby hd) t kt)⟩
/-! returns -/
theorem Run.iret {z : Int32} {Q : Option Value → Heap → (Addr → Prop) → Prop} (K : Run C R Z n0 own nm ret bytes mx sf h cells slots pc L (.int z :: S)) (hd : decode bytes pc = .ok (.ireturn, 1)) {ty : FieldType} (hr : ret = some ty) (ht : ty = .int ∨ ty = .boolean ∨ ty = .byte ∨ ty = .char ∨ ty = .short) (hn : narrow ty (.int z) = .int z) (hQ : ∀ sp : Addr → Prop, (∀ x ∈ sf, sp x) → Q (some (.int z)) h sp) (hc : cells ≤ R.cells) (hs : slots ≤ R.slots) : Fini C Z R n0 Q := by
  obtain ⟨hx, hby, hml, hnm, hrt, hlk, vm0, k0, hS, hk, hown, hZ, hEW, hC, hF, T, locs, X, N, eT, st⟩ := K
  obtain ⟨fs, hr', hrun, hended, hE⟩ := X.leaveW hS (by rw [eT]; exact hk) (v := some (.int z)) (fun q => by rw [hrt, hr] at q; cases q) hlk
  exact ⟨_, _, st _ (retOut X hx (hrt.trans hr) hn (Or.inl ⟨rfl, ht, _, rfl⟩) (hb hby hd) hr'), hrun, hended, _, _, rfl, ⟨by rw [show (T.setFrames fs).heap = T.heap from rfl, show (T.setFrames fs).vm = T.vm from rfl, eT]; exact hQ _ (fun x hx => (hF.call (hEW.elim fun b hE => CHv.at X hZ hE hC.1) x hx).1), N⟩, (by rw [show (T.setFrames fs).heap = T.heap from rfl, show (T.setFrames fs).vm = T.vm from rfl, eT]; exact hC.trans (hEW.elim fun b hE => CHv.at X hZ hE hC.1)), hE.1, hE.2.1, hE.2.2.1, hE.2.2.2.mono hc hs⟩
theorem Run.lret {z : Int64} {Q : Option Value → Heap → (Addr → Prop) → Prop} (K : Run C R Z n0 own nm ret bytes mx sf h cells slots pc L (.long z :: S)) (hd : decode bytes pc = .ok (.lreturn, 1)) (hr : ret = some .long) (hQ : ∀ sp : Addr → Prop, (∀ x ∈ sf, sp x) → Q (some (.long z)) h sp) (hc : cells ≤ R.cells) (hs : slots ≤ R.slots) : Fini C Z R n0 Q := by
  obtain ⟨hx, hby, hml, hnm, hrt, hlk, vm0, k0, hS, hk, hown, hZ, hEW, hC, hF, T, locs, X, N, eT, st⟩ := K
  obtain ⟨fs, hr', hrun, hended, hE⟩ := X.leaveW hS (by rw [eT]; exact hk) (v := some (.long z)) (fun q => by rw [hrt, hr] at q; cases q) hlk
  exact ⟨_, _, st _ (retOut X hx (hrt.trans hr) rfl (Or.inr (Or.inl ⟨rfl, rfl, _, rfl⟩)) (hb hby hd) hr'), hrun, hended, _, _, rfl, ⟨by rw [show (T.setFrames fs).heap = T.heap from rfl, show (T.setFrames fs).vm = T.vm from rfl, eT]; exact hQ _ (fun x hx => (hF.call (hEW.elim fun b hE => CHv.at X hZ hE hC.1) x hx).1), N⟩, (by rw [show (T.setFrames fs).heap = T.heap from rfl, show (T.setFrames fs).vm = T.vm from rfl, eT]; exact hC.trans (hEW.elim fun b hE => CHv.at X hZ hE hC.1)), hE.1, hE.2.1, hE.2.2.1, hE.2.2.2.mono hc hs⟩
theorem Run.dret {z : UInt64} {Q : Option Value → Heap → (Addr → Prop) → Prop} (K : Run C R Z n0 own nm ret bytes mx sf h cells slots pc L (.double z :: S)) (hd : decode bytes pc = .ok (.dreturn, 1)) (hr : ret = some .double) (hQ : ∀ sp : Addr → Prop, (∀ x ∈ sf, sp x) → Q (some (.double z)) h sp) (hc : cells ≤ R.cells) (hs : slots ≤ R.slots) : Fini C Z R n0 Q := by
  obtain ⟨hx, hby, hml, hnm, hrt, hlk, vm0, k0, hS, hk, hown, hZ, hEW, hC, hF, T, locs, X, N, eT, st⟩ := K
  obtain ⟨fs, hr', hrun, hended, hE⟩ := X.leaveW hS (by rw [eT]; exact hk) (v := some (.double z)) (fun q => by rw [hrt, hr] at q; cases q) hlk
  exact ⟨_, _, st _ (retOut X hx (hrt.trans hr) rfl (Or.inr (Or.inr (Or.inl ⟨rfl, rfl, _, rfl⟩))) (hb hby hd) hr'), hrun, hended, _, _, rfl, ⟨by rw [show (T.setFrames fs).heap = T.heap from rfl, show (T.setFrames fs).vm = T.vm from rfl, eT]; exact hQ _ (fun x hx => (hF.call (hEW.elim fun b hE => CHv.at X hZ hE hC.1) x hx).1), N⟩, (by rw [show (T.setFrames fs).heap = T.heap from rfl, show (T.setFrames fs).vm = T.vm from rfl, eT]; exact hC.trans (hEW.elim fun b hE => CHv.at X hZ hE hC.1)), hE.1, hE.2.1, hE.2.2.1, hE.2.2.2.mono hc hs⟩
theorem Run.aret {w : Value} {Q : Option Value → Heap → (Addr → Prop) → Prop} (K : Run C R Z n0 own nm ret bytes mx sf h cells slots pc L (w :: S)) (hd : decode bytes pc = .ok (.areturn, 1)) {ty : FieldType} (hr : ret = some ty) (ht : ty.isReference = true) (hn : narrow ty w = w) (hw : w.isRef = true) (hQ : ∀ sp : Addr → Prop, (∀ x ∈ sf, sp x) → Q (some w) h sp) (hc : cells ≤ R.cells) (hs : slots ≤ R.slots) : Fini C Z R n0 Q := by
  obtain ⟨hx, hby, hml, hnm, hrt, hlk, vm0, k0, hS, hk, hown, hZ, hEW, hC, hF, T, locs, X, N, eT, st⟩ := K
  obtain ⟨fs, hr', hrun, hended, hE⟩ := X.leaveW hS (by rw [eT]; exact hk) (v := some w) (fun q => by rw [hrt, hr] at q; cases q) hlk
  exact ⟨_, _, st _ (retOut X hx (hrt.trans hr) hn (Or.inr (Or.inr (Or.inr (Or.inr ⟨rfl, ht, hw⟩)))) (hb hby hd) hr'), hrun, hended, _, _, rfl, ⟨by rw [show (T.setFrames fs).heap = T.heap from rfl, show (T.setFrames fs).vm = T.vm from rfl, eT]; exact hQ _ (fun x hx => (hF.call (hEW.elim fun b hE => CHv.at X hZ hE hC.1) x hx).1), N⟩, (by rw [show (T.setFrames fs).heap = T.heap from rfl, show (T.setFrames fs).vm = T.vm from rfl, eT]; exact hC.trans (hEW.elim fun b hE => CHv.at X hZ hE hC.1)), hE.1, hE.2.1, hE.2.2.1, hE.2.2.2.mono hc hs⟩
theorem Run.vret {Q : Option Value → Heap → (Addr → Prop) → Prop} (K : Run C R Z n0 own nm ret bytes mx sf h cells slots pc L []) (hd : decode bytes pc = .ok (.return_, 1)) (hr : ret = none) (hQ : ∀ sp : Addr → Prop, (∀ x ∈ sf, sp x) → Q none h sp) (hc : cells ≤ R.cells) (hs : slots ≤ R.slots) : Fini C Z R n0 Q := by
  obtain ⟨hx, hby, hml, hnm, hrt, hlk, vm0, k0, hS, hk, hown, hZ, hEW, hC, hF, T, locs, X, N, eT, st⟩ := K
  obtain ⟨fs, hr', hrun, hended, hE⟩ := X.leaveW hS (by rw [eT]; exact hk) (v := none) (fun _ => rfl) hlk
  exact ⟨_, _, st _ (X.returnOut hx (hrt.trans hr) (hb hby hd) hr'), hrun, hended, _, _, rfl, ⟨by rw [show (T.setFrames fs).heap = T.heap from rfl, show (T.setFrames fs).vm = T.vm from rfl, eT]; exact hQ _ (fun x hx => (hF.call (hEW.elim fun b hE => CHv.at X hZ hE hC.1) x hx).1), N⟩, (by rw [show (T.setFrames fs).heap = T.heap from rfl, show (T.setFrames fs).vm = T.vm from rfl, eT]; exact hC.trans (hEW.elim fun b hE => CHv.at X hZ hE hC.1)), hE.1, hE.2.1, hE.2.2.1, hE.2.2.2.mono hc hs⟩
/-! calls -/
theorem Run.callS {a0 : Array Value} {index : Nat} {y : MethodName} {by2 : ByteArray} {mx2 W : Nat} {rt2 : Option FieldType} {rm : Room} {argsL rest : List Value} {Q : Option Value → Heap → (Addr → Prop) → Prop} {ps : List FieldType} {sc : List Addr} (K : Run C R Z n0 own nm ret bytes mx sf h cells slots pc L S) (hd : decode bytes pc = .ok (.invokestatic index, 3))
    (wl : (Jvm.Cond.methodLink own index y).before a0 Z = true) (wst : (Jvm.Cond.static y).before a0 Z = true) (wi : (Jvm.Cond.initialized y.cls).before a0 Z = true) (wc : (Jvm.Cond.code y by2 mx2 rt2).before a0 Z = true)
    (con : Con Z n0 y by2 mx2 rt2 [] rm argsL.toArray h sc Q) (hsc : ∀ x ∈ sc, x ∈ sf) (hSt : S = argsL.reverse ++ rest) (hpd : parseMethodDescriptor y.desc = some ⟨ps, rt2⟩) (hlen : argsL.length = ps.length) (hW : (rest.map fun v => v.category).sum = W) (hLs : L.size = mx)
    (hfr : rm.frames + 1 ≤ R.frames) (hlo : W + (mx2 + 11) + rm.locals ≤ R.locals) (hce : cells + rm.cells ≤ R.cells) (hsl : slots + rm.slots ≤ R.slots) (hy : y.cls ≠ "java/lang/invoke/MethodHandle" ∧ y.cls ≠ "java/lang/invoke/VarHandle") :
    ∃ v h' sp, Q v h' sp ∧ ∀ l : List Addr, (∀ x ∈ l, sp x ∧ x < h'.size) → Run C R Z n0 own nm ret bytes mx (l ++ sf) h' (cells + rm.cells) (slots + rm.slots) (pc + 3) L (v.toList ++ rest) := by
  obtain ⟨hx, hby, hml, hnm, hrt, hlk, vm0, k0, hS, hk, hown, hZ, hEW, hC, hF, T, locs, X, N, eT, st⟩ := K
  obtain ⟨b0, hEL⟩ := hEW
  obtain ⟨v, _, ⟨T', L', k', n'⟩, -, X', hS', hg', ⟨Lc, hQ, l1, y1, z1, hR⟩, st'⟩ := callSS X hx (y := y) hown (mvT hZ wl) (mvT hZ wst) (mvT hZ wi) (mvT hZ wc) hy (backH (Q := fun v h sp L => Q v h sp ∧ Fr n0 L) (W := W) (con C.2.1) hZ wc wi hfr hlo hEL hC.1 (hF.sub hsc)) (g := mkF C.2.2.2.2.1 pc L S) rfl (by rw [hml]; exact hLs) (argsL := argsL) (rest := rest) (lenOf hpd hlen) hSt (by show 2 * 0 + _ ≤ _; omega) (hb hby hd) (fun _ _ => ⟨rfl, eT, hce, hsl⟩)
  dsimp only [Pt.U, Pt.locs, Pt.cells, Pt.slots] at X' hS' hg' l1 y1 z1 st' hQ hR
  subst l1 y1 z1
  obtain ⟨X'', hS'', hZ'', hown''⟩ := rebS hS (by rw [eT]; exact hk : k0 ≤ T.heap.size) X' hS' hg' hZ hown
  exact ⟨v, T'.heap, _, hQ.1, fun l hl => ⟨hx, hby, hml, hnm, hrt, hlk, _, _, hS'', Nat.le_refl _, hown'', hZ'', ⟨b0, hEL⟩, hC.trans hR, (hF.call hR).app hl, T', _, X'', Fr.app N hQ.2, rfl, fun t kt => st t (st'.trans kt)⟩⟩
theorem Run.callI {a0 : Array Value} {index : Nat} {y : MethodName} {by2 : ByteArray} {mx2 W : Nat} {rm : Room} {a : Addr} {argsL rest : List Value} {Q : Option Value → Heap → (Addr → Prop) → Prop} {ps : List FieldType} {sc : List Addr} (K : Run C R Z n0 own nm ret bytes mx sf h cells slots pc L S) (hd : decode bytes pc = .ok (.invokespecial index, 3))
    (hy1 : y.name = "<init>") (wl : (Jvm.Cond.methodLink own index y).before a0 Z = true) (wst : (Jvm.Cond.instanceMethod y).before a0 Z = true) (wi : (Jvm.Cond.initialized y.cls).before a0 Z = true) (wc : (Jvm.Cond.code y by2 mx2 none).before a0 Z = true)
    (con : Con Z n0 y by2 mx2 none [] rm (.ref a :: argsL).toArray h sc Q) (hsc : ∀ x ∈ sc, x ∈ sf) (hSt : S = argsL.reverse ++ .ref a :: rest) (hpd : parseMethodDescriptor y.desc = some ⟨ps, none⟩) (hlen : argsL.length = ps.length) (hW : (rest.map fun v => v.category).sum = W) (hLs : L.size = mx)
    (hfr : rm.frames + 1 ≤ R.frames) (hlo : W + (mx2 + 11) + rm.locals ≤ R.locals) (hce : cells + rm.cells ≤ R.cells) (hsl : slots + rm.slots ≤ R.slots) (hy : y.cls ≠ "java/lang/invoke/MethodHandle" ∧ y.cls ≠ "java/lang/invoke/VarHandle") :
    ∃ v h' sp, Q v h' sp ∧ ∀ l : List Addr, (∀ x ∈ l, sp x ∧ x < h'.size) → Run C R Z n0 own nm ret bytes mx (l ++ sf) h' (cells + rm.cells) (slots + rm.slots) (pc + 3) L (v.toList ++ rest) := by
  obtain ⟨hx, hby, hml, hnm, hrt, hlk, vm0, k0, hS, hk, hown, hZ, hEW, hC, hF, T, locs, X, N, eT, st⟩ := K
  obtain ⟨b0, hEL⟩ := hEW
  obtain ⟨v, _, ⟨T', L', k', n'⟩, -, X', hS', hg', ⟨Lc, hQ, l1, y1, z1, hR⟩, st'⟩ := X.specialBackS hx (y := y) hy1 hown (mvT hZ wl) (mvT hZ wst) (mvT hZ wc) hy (backH (Q := fun v h sp L => Q v h sp ∧ Fr n0 L) (W := W) (con C.2.1) hZ wc wi hfr hlo hEL hC.1 (hF.sub hsc)) (g := mkF C.2.2.2.2.1 pc L S) rfl (by rw [hml]; exact hLs) (Steps.refl _) (a := a) (argsL := argsL) (rest := rest) (lenOf hpd hlen) hSt (by show 2 * 0 + _ ≤ _; omega) (hb hby hd) (fun _ _ => ⟨rfl, eT, hce, hsl⟩)
  dsimp only [Pt.U, Pt.locs, Pt.cells, Pt.slots] at X' hS' hg' l1 y1 z1 st' hQ hR
  subst l1 y1 z1
  obtain ⟨X'', hS'', hZ'', hown''⟩ := rebS hS (by rw [eT]; exact hk : k0 ≤ T.heap.size) X' hS' hg' hZ hown
  exact ⟨v, T'.heap, _, hQ.1, fun l hl => ⟨hx, hby, hml, hnm, hrt, hlk, _, _, hS'', Nat.le_refl _, hown'', hZ'', ⟨b0, hEL⟩, hC.trans hR, (hF.call hR).app hl, T', _, X'', Fr.app N hQ.2, rfl, fun t kt => st t (st'.trans kt)⟩⟩
theorem Run.callV {a0 : Array Value} {index : Nat} {y z : MethodName} {Cl : String} {by2 : ByteArray} {mx2 W : Nat} {rt2 : Option FieldType} {rm : Room} {a : Addr} {argsL rest : List Value} {Q : Option Value → Heap → (Addr → Prop) → Prop} {ps : List FieldType} {sc : List Addr} (K : Run C R Z n0 own nm ret bytes mx sf h cells slots pc L S) (hd : decode bytes pc = .ok (.invokevirtual index, 3))
    (wl : (Jvm.Cond.methodLink own index y).before a0 Z = true) (wd : (Jvm.Cond.declares y).before a0 Z = true) (nf : ∀ s : State, Z.Warmed39 s.vm → NotFace s y) (ws : (Jvm.Cond.selects Cl y z).before a0 Z = true) (wst : (Jvm.Cond.instanceMethod z).before a0 Z = true) (wi : (Jvm.Cond.initialized z.cls).before a0 Z = true) (wc : (Jvm.Cond.code z by2 mx2 rt2).before a0 Z = true)
    (E : Exa Z h a Cl) (con : Con Z n0 z by2 mx2 rt2 [] rm (.ref a :: argsL).toArray h sc Q) (hsc : ∀ x ∈ sc, x ∈ sf) (hSt : S = argsL.reverse ++ .ref a :: rest) (hpd : parseMethodDescriptor y.desc = some ⟨ps, rt2⟩) (hlen : argsL.length = ps.length) (hW : (rest.map fun v => v.category).sum = W) (hLs : L.size = mx)
    (hfr : rm.frames + 1 ≤ R.frames) (hlo : W + (mx2 + 11) + rm.locals ≤ R.locals) (hce : cells + rm.cells ≤ R.cells) (hsl : slots + rm.slots ≤ R.slots) (hy : y.cls ≠ "java/lang/invoke/MethodHandle" ∧ y.cls ≠ "java/lang/invoke/VarHandle") :
    ∃ v h' sp, Q v h' sp ∧ ∀ l : List Addr, (∀ x ∈ l, sp x ∧ x < h'.size) → Run C R Z n0 own nm ret bytes mx (l ++ sf) h' (cells + rm.cells) (slots + rm.slots) (pc + 3) L (v.toList ++ rest) := by
  obtain ⟨hx, hby, hml, hnm, hrt, hlk, vm0, k0, hS, hk, hown, hZ, hEW, hC, hF, T, locs, X, N, eT, st⟩ := K
  obtain ⟨b0, hEL⟩ := hEW
  obtain ⟨cq, kq, qa, qb, qc⟩ := isOf hZ eT E
  obtain ⟨v, _, ⟨T', L', k', n'⟩, -, X', hS', hg', ⟨Lc, hQ, l1, y1, z1, hR⟩, st'⟩ := X.virtualBackS hx (y := y) (z := z) hown (mvT hZ wl) (mvT hZ wd) (nf _ hZ) (mvT hZ ws) (mvT hZ wst) hy (backH (Q := fun v h sp L => Q v h sp ∧ Fr n0 L) (W := W) (con C.2.1) hZ wc wi hfr hlo hEL hC.1 (hF.sub hsc)) qa qc (g := mkF C.2.2.2.2.1 pc L S) rfl (by rw [hml]; exact hLs) (Steps.refl _) (argsL := argsL) (rest := rest) (lenOf hpd hlen) hSt (by show 2 * 0 + _ ≤ _; omega) (hb hby hd) (fun _ _ => ⟨rfl, eT, hce, hsl⟩)
  dsimp only [Pt.U, Pt.locs, Pt.cells, Pt.slots] at X' hS' hg' l1 y1 z1 st' hQ hR
  subst l1 y1 z1
  obtain ⟨X'', hS'', hZ'', hown''⟩ := rebS hS (by rw [eT]; exact hk : k0 ≤ T.heap.size) X' hS' hg' hZ hown
  exact ⟨v, T'.heap, _, hQ.1, fun l hl => ⟨hx, hby, hml, hnm, hrt, hlk, _, _, hS'', Nat.le_refl _, hown'', hZ'', ⟨b0, hEL⟩, hC.trans hR, (hF.call hR).app hl, T', _, X'', Fr.app N hQ.2, rfl, fun t kt => st t (st'.trans kt)⟩⟩
/-! fields, statics, objects -/
theorem Run.getF {a0 : Array Value} {index : Nat} {R0 O n d host : String} {a : Addr} {v : Value} (K : Run C R Z n0 own nm ret bytes mx sf h cells slots pc L (.ref a :: S)) (hd : decode bytes pc = .ok (.getfield index, 3)) (w : (Jvm.Cond.fieldLink own index R0 n d).before a0 Z = true ∨ (Jvm.Cond.fieldLinkNest own index R0 n d host).before a0 Z = true) (via : Via Z R0 O n d) (F : Fld Z h a O n d v) :
    Run C R Z n0 own nm ret bytes mx sf h cells slots (pc + 3) L (v :: S) := by
  obtain ⟨hx, hby, hml, hnm, hrt, hlk, vm0, k0, hS, hk, hown, hZ, hEW, hC, hF, T, locs, X, N, eT, st⟩ := K
  obtain ⟨T', X', e', st'⟩ := RoadKit.getF X hx hZ hown w via eT F (g := mkF C.2.2.2.2.1 pc L (.ref a :: S)) rfl rfl (hb hby hd)
  exact ⟨hx, hby, hml, hnm, hrt, hlk, vm0, k0, hS, hk, hown, hZ, hEW, hC, hF, T', locs, X', N, e', fun t kt => st t (st' t kt)⟩
theorem Run.getS {a0 : Array Value} {index : Nat} {R0 O n d host : String} {v : Value} (K : Run C R Z n0 own nm ret bytes mx sf h cells slots pc L S) (hd : decode bytes pc = .ok (.getstatic index, 3)) (w : (Jvm.Cond.fieldLink own index R0 n d).before a0 Z = true ∨ (Jvm.Cond.fieldLinkNest own index R0 n d host).before a0 Z = true) (via : Via Z R0 O n d) (F : Sta Z h O n d v) :
    Run C R Z n0 own nm ret bytes mx sf h cells slots (pc + 3) L (v :: S) := by
  obtain ⟨hx, hby, hml, hnm, hrt, hlk, vm0, k0, hS, hk, hown, hZ, hEW, hC, hF, T, locs, X, N, eT, st⟩ := K
  obtain ⟨T', X', e', st'⟩ := RoadKit.getS2 X hx hZ hown w via eT F (g := mkF C.2.2.2.2.1 pc L S) rfl (hb hby hd)
  exact ⟨hx, hby, hml, hnm, hrt, hlk, vm0, k0, hS, hk, hown, hZ, hEW, hC, hF, T', locs, X', N, e', fun t kt => st t (st' t kt)⟩
theorem Run.putF {a0 : Array Value} {index kk : Nat} {R0 O n d host Cl : String} {ty : FieldType} {a : Addr} {v old : Value} (K : Run C R Z n0 own nm ret bytes mx sf h cells slots pc L (v :: .ref a :: S)) (hd : decode bytes pc = .ok (.putfield index, 3)) (w : (Jvm.Cond.fieldLink own index R0 n d).before a0 Z = true ∨ (Jvm.Cond.fieldLinkNest own index R0 n d host).before a0 Z = true) (via : Via Z R0 O n d)
    (F : Fld Z h a O n d old) (E : Exa Z h a Cl) (Lw : (Jvm.Cond.lays Cl O n d).before a0 Z = true ∨ ((Jvm.Cond.laysFinal Cl O n d).before a0 Z = true ∧ own = O ∧ nm = "<init>")) (wi : (Jvm.Cond.instantiable Cl kk).before a0 Z = true) (hty : parseFieldDescriptor d = some ty) (hn : narrow ty v = v) (hf : fits ty v = true) (ga : n0 ≤ a) (hsf : a ∈ sf) :
    ∃ h', Wr h h' a (RoadKit.slotOf Z O n d) v ∧ Run C R Z n0 own nm ret bytes mx sf h' cells slots (pc + 3) L S := by
  obtain ⟨hx, hby, hml, hnm, hrt, hlk, vm0, k0, hS, hk, hown, hZ, hEW, hC, hF, T, locs, X, N, eT, st⟩ := K
  obtain ⟨T', h', X', e', W', st'⟩ := RoadKit.putF X hx hZ hown w via eT F E (Lw.imp id fun q => ⟨q.1, q.2.1, hnm.trans q.2.2⟩) wi hty hn hf (g := mkF C.2.2.2.2.1 pc L (v :: .ref a :: S)) rfl rfl (hb hby hd)
  exact ⟨h', W', hx, hby, hml, hnm, hrt, hlk, vm0, k0, hS, (by rw [Wr.size W']; exact hk), hown, hZ, hEW, hC.trans (CHr.wr W' (hF a hsf).1 hC.1), hF.wr W' (hF a hsf).1 hC.1, T', _, X', Fr.snoc X' N ga, e', fun t kt => st t (st' t kt)⟩
theorem Run.newO {a0 : Array Value} {index n : Nat} {Cl : String} (K : Run C R Z n0 own nm ret bytes mx sf h cells slots pc L S) (hd : decode bytes pc = .ok (.new index, 3)) (w : (Jvm.Cond.classLink own index Cl).before a0 Z = true) (wi : (Jvm.Cond.instantiable Cl n).before a0 Z = true) (wz : (Jvm.Cond.initialized Cl).before a0 Z = true) (hc : cells + 1 ≤ R.cells) (hl : slots + n ≤ R.slots) :
    ∃ (h' : Heap) (b : Addr), b = h.size ∧ Ext h h' ∧ Exa Z h' b Cl ∧ (∀ {O f d : String} {ty : FieldType}, Laid Z a0 Cl O f d → parseFieldDescriptor d = some ty → Fld Z h' b O f d (defaultValue ty)) ∧ Run C R Z n0 own nm ret bytes mx (b :: sf) h' (cells + 1) (slots + n) (pc + 3) L (.ref b :: S) := by
  obtain ⟨hx, hby, hml, hnm, hrt, hlk, vm0, k0, hS, hk, hown, hZ, hEW, hC, hF, T, locs, X, N, eT, st⟩ := K
  obtain ⟨T', h', X', e', E', A', D', -, st'⟩ := RoadKit.newO X hx hZ hown w wi wz eT (g := mkF C.2.2.2.2.1 pc L S) rfl (hb hby hd) hc hl
  exact ⟨h', _, rfl, E', A', D', hx, hby, hml, hnm, hrt, hlk, vm0, k0, hS, Nat.le_trans hk E'.1, hown, hZ, hEW, hC.trans (CHr.ext E' hC.1), hF.new E' A'.lt hC.1, T', _, X', N, e', fun t kt => st t (st' t kt)⟩
theorem Run.initO {a0 : Array Value} {index W : Nat} {a : Addr} (K : Run C R Z n0 own nm ret bytes mx sf h cells slots pc L (.ref a :: S)) (hd : decode bytes pc = .ok (.invokespecial index, 3)) (w1 : (Jvm.Cond.methodLink own index Lib.objectInit).before a0 Z = true) (w2 : (Jvm.Cond.instanceMethod Lib.objectInit).before a0 Z = true) (w3 : (Jvm.Cond.code Lib.objectInit ⟨#[0xb1]⟩ 1 none).before a0 Z = true) (hLs : L.size = mx) (hW : (S.map fun v => v.category).sum = W) (hf : 1 ≤ R.frames) (hl : W + 12 ≤ R.locals) :
    Run C R Z n0 own nm ret bytes mx sf h cells slots (pc + 3) L S := by
  obtain ⟨hx, hby, hml, hnm, hrt, hlk, vm0, k0, hS, hk, hown, hZ, hEW, hC, hF, T, locs, X, N, eT, st⟩ := K
  obtain ⟨T', X', e', st'⟩ := RoadKit.initO X hx hZ hown w1 w2 w3 eT (g := mkF C.2.2.2.2.1 pc L (.ref a :: S)) rfl (by rw [hml]; exact hLs) rfl (hb hby hd) hf (W := W) (by show 2 * 0 + _ ≤ _; omega) hl
  exact ⟨hx, hby, hml, hnm, hrt, hlk, vm0, k0, hS, hk, hown, hZ, hEW, hC, hF, T', locs, X', N, e', fun t kt => st t (st' t kt)⟩
theorem Run.castY {a0 : Array Value} {index : Nat} {Kl : String} {a : Addr} (K : Run C R Z n0 own nm ret bytes mx sf h cells slots pc L (.ref a :: S)) (hd : decode bytes pc = .ok (.checkcast index, 3)) (w : (Jvm.Cond.classLink own index Kl).before a0 Z = true) (F : Ins Z h a Kl true) : Run C R Z n0 own nm ret bytes mx sf h cells slots (pc + 3) L (.ref a :: S) := by
  obtain ⟨hx, hby, hml, hnm, hrt, hlk, vm0, k0, hS, hk, hown, hZ, hEW, hC, hF, T, locs, X, N, eT, st⟩ := K
  obtain ⟨T', X', e', st'⟩ := RoadKit.castY X hx hZ hown w eT F (g := mkF C.2.2.2.2.1 pc L (.ref a :: S)) rfl rfl (hb hby hd)
  exact ⟨hx, hby, hml, hnm, hrt, hlk, vm0, k0, hS, hk, hown, hZ, hEW, hC, hF, T', locs, X', N, e', fun t kt => st t (st' t kt)⟩
/-! arrays, by a function of the place -/
theorem Run.arrlen {a : Addr} {ty : FieldType} {n : Nat} {f : Nat → Value} (K : Run C R Z n0 own nm ret bytes mx sf h cells slots pc L (.ref a :: S)) (hd : decode bytes pc = .ok (.arraylength, 1)) (F : Arf Z h a ty n f) (z : Int32) (hz : n.toInt32 = z) : Run C R Z n0 own nm ret bytes mx sf h cells slots (pc + 1) L (.int z :: S) := by
  obtain ⟨hx, hby, hml, hnm, hrt, hlk, vm0, k0, hS, hk, hown, hZ, hEW, hC, hF, T, locs, X, N, eT, st⟩ := K
  obtain ⟨cl, Ar, Sz, H⟩ := F
  subst hz Sz
  exact ⟨hx, hby, hml, hnm, hrt, hlk, vm0, k0, hS, hk, hown, hZ, hEW, hC, hF, T, locs, X, N, eT, fun t kt => st t (X.arraylength hx (by rw [eT]; exact Ar.1) (State.isArrayOf_alike hZ.alike Ar.2.1) (g := mkF C.2.2.2.2.1 pc L (.ref a :: S)) rfl rfl (hb hby hd) t kt)⟩
theorem Run.iaload {a : Addr} {n : Nat} {f : Nat → Value} {j : Int32} (K : Run C R Z n0 own nm ret bytes mx sf h cells slots pc L (.int j :: .ref a :: S)) (hd : decode bytes pc = .ok (.iaload, 1)) (F : Arf Z h a .int n f) (i : Nat) (hj : j.toNatClampNeg = i) (h0 : ¬ j < 0) (hi : i < n) (v : Value) (hv : f i = v) : Run C R Z n0 own nm ret bytes mx sf h cells slots (pc + 1) L (v :: S) := by
  obtain ⟨hx, hby, hml, hnm, hrt, hlk, vm0, k0, hS, hk, hown, hZ, hEW, hC, hF, T, locs, X, N, eT, st⟩ := K
  obtain ⟨cl, Ar, Sz, H⟩ := F
  subst hj hv Sz
  exact ⟨hx, hby, hml, hnm, hrt, hlk, vm0, k0, hS, hk, hown, hZ, hEW, hC, hF, T, locs, X, N, eT, fun t kt => st t (X.iaload hx (j := j) (v := f j.toNatClampNeg) (by rw [eT]; exact Ar.1) (State.isArrayOf_alike hZ.alike Ar.2.1) Ar.2.2 (fun q => q.elim h0 (Nat.not_le.mpr hi)) (H _ hi) (g := mkF C.2.2.2.2.1 pc L (.int j :: .ref a :: S)) rfl rfl (hb hby hd) t kt)⟩
theorem Run.baload {a : Addr} {n : Nat} {f : Nat → Value} {j : Int32} (K : Run C R Z n0 own nm ret bytes mx sf h cells slots pc L (.int j :: .ref a :: S)) (hd : decode bytes pc = .ok (.baload, 1)) (F : Arf Z h a .byte n f) (i : Nat) (hj : j.toNatClampNeg = i) (h0 : ¬ j < 0) (hi : i < n) (v : Value) (hv : f i = v) : Run C R Z n0 own nm ret bytes mx sf h cells slots (pc + 1) L (v :: S) := by
  obtain ⟨hx, hby, hml, hnm, hrt, hlk, vm0, k0, hS, hk, hown, hZ, hEW, hC, hF, T, locs, X, N, eT, st⟩ := K
  obtain ⟨cl, Ar, Sz, H⟩ := F
  subst hj hv Sz
  exact ⟨hx, hby, hml, hnm, hrt, hlk, vm0, k0, hS, hk, hown, hZ, hEW, hC, hF, T, locs, X, N, eT, fun t kt => st t (X.baloadBytes hx (j := j) (v := f j.toNatClampNeg) (by rw [eT]; exact Ar.1) (State.isArrayOf_alike hZ.alike Ar.2.1) Ar.2.2 (fun q => q.elim h0 (Nat.not_le.mpr hi)) (H _ hi) (g := mkF C.2.2.2.2.1 pc L (.int j :: .ref a :: S)) rfl rfl (hb hby hd) t kt)⟩
theorem Run.aaload {a : Addr} {ty : FieldType} {n : Nat} {f : Nat → Value} {j : Int32} (K : Run C R Z n0 own nm ret bytes mx sf h cells slots pc L (.int j :: .ref a :: S)) (hd : decode bytes pc = .ok (.aaload, 1)) (F : Arf Z h a ty n f) (hty : ty.isReference = true) (i : Nat) (hj : j.toNatClampNeg = i) (h0 : ¬ j < 0) (hi : i < n) (v : Value) (hv : f i = v) : Run C R Z n0 own nm ret bytes mx sf h cells slots (pc + 1) L (v :: S) := by
  obtain ⟨hx, hby, hml, hnm, hrt, hlk, vm0, k0, hS, hk, hown, hZ, hEW, hC, hF, T, locs, X, N, eT, st⟩ := K
  obtain ⟨cl, Ar, Sz, H⟩ := F
  subst hj hv Sz
  exact ⟨hx, hby, hml, hnm, hrt, hlk, vm0, k0, hS, hk, hown, hZ, hEW, hC, hF, T, locs, X, N, eT, fun t kt => st t (X.aaload hx (j := j) (v := f j.toNatClampNeg) (by rw [eT]; exact Ar.1) (State.isArrayOf_alike hZ.alike Ar.2.1) hty Ar.2.2 (fun q => q.elim h0 (Nat.not_le.mpr hi)) (H _ hi) (g := mkF C.2.2.2.2.1 pc L (.int j :: .ref a :: S)) rfl rfl (hb hby hd) t kt)⟩
theorem Run.iastore {a : Addr} {n : Nat} {f : Nat → Value} {j x : Int32} (K : Run C R Z n0 own nm ret bytes mx sf h cells slots pc L (.int x :: .int j :: .ref a :: S)) (hd : decode bytes pc = .ok (.iastore, 1)) (F : Arf Z h a .int n f) (i : Nat) (hj : j.toNatClampNeg = i) (h0 : ¬ j < 0) (hi : i < n) (ga : n0 ≤ a) (hsf : a ∈ sf) :
    ∃ h', Wr h h' a i (.int x) ∧ Arf Z h' a .int n (updV f i (.int x)) ∧ Run C R Z n0 own nm ret bytes mx sf h' cells slots (pc + 1) L S := by
  obtain ⟨hx, hby, hml, hnm, hrt, hlk, vm0, k0, hS, hk, hown, hZ, hEW, hC, hF, T, locs, X, N, eT, st⟩ := K
  obtain ⟨cl, Ar, Sz, H⟩ := F
  subst hj Sz
  obtain ⟨T', h', X', e', W', st'⟩ := RoadKit.stI X hx hZ eT Ar (j := j) (x := x) (fun q => q.elim h0 (Nat.not_le.mpr hi)) (g := mkF C.2.2.2.2.1 pc L (.int x :: .int j :: .ref a :: S)) rfl rfl (hb hby hd)
  exact ⟨h', W', Arf.set ⟨cl, Ar, rfl, H⟩ W' hi, hx, hby, hml, hnm, hrt, hlk, vm0, k0, hS, (by rw [Wr.size W']; exact hk), hown, hZ, hEW, hC.trans (CHr.wr W' (hF a hsf).1 hC.1), hF.wr W' (hF a hsf).1 hC.1, T', _, X', Fr.snoc X' N ga, e', fun t kt => st t (st' t kt)⟩
theorem Run.bastore {a : Addr} {n : Nat} {f : Nat → Value} {j x : Int32} (K : Run C R Z n0 own nm ret bytes mx sf h cells slots pc L (.int x :: .int j :: .ref a :: S)) (hd : decode bytes pc = .ok (.bastore, 1)) (F : Arf Z h a .byte n f) (i : Nat) (hj : j.toNatClampNeg = i) (h0 : ¬ j < 0) (hi : i < n) (ga : n0 ≤ a) (hsf : a ∈ sf) (x' : Int32) (hx' : x.toInt8.toInt32 = x') :
    ∃ h', Wr h h' a i (.int x') ∧ Arf Z h' a .byte n (updV f i (.int x')) ∧ Run C R Z n0 own nm ret bytes mx sf h' cells slots (pc + 1) L S := by
  obtain ⟨hx, hby, hml, hnm, hrt, hlk, vm0, k0, hS, hk, hown, hZ, hEW, hC, hF, T, locs, X, N, eT, st⟩ := K
  obtain ⟨cl, Ar, Sz, H⟩ := F
  subst hj Sz hx'
  obtain ⟨T', h', X', e', W', st'⟩ := RoadKit.stB X hx hZ eT Ar (j := j) (x := x) (fun q => q.elim h0 (Nat.not_le.mpr hi)) (g := mkF C.2.2.2.2.1 pc L (.int x :: .int j :: .ref a :: S)) rfl rfl (hb hby hd)
  exact ⟨h', W', Arf.set ⟨cl, Ar, rfl, H⟩ W' hi, hx, hby, hml, hnm, hrt, hlk, vm0, k0, hS, (by rw [Wr.size W']; exact hk), hown, hZ, hEW, hC.trans (CHr.wr W' (hF a hsf).1 hC.1), hF.wr W' (hF a hsf).1 hC.1, T', _, X', Fr.snoc X' N ga, e', fun t kt => st t (st' t kt)⟩
theorem Run.caload {a : Addr} {n : Nat} {f : Nat → Value} {j : Int32} (K : Run C R Z n0 own nm ret bytes mx sf h cells slots pc L (.int j :: .ref a :: S)) (hd : decode bytes pc = .ok (.caload, 1)) (F : Arf Z h a .char n f) (i : Nat) (hj : j.toNatClampNeg = i) (h0 : ¬ j < 0) (hi : i < n) (v : Value) (hv : f i = v) : Run C R Z n0 own nm ret bytes mx sf h cells slots (pc + 1) L (v :: S) := by
  obtain ⟨hx, hby, hml, hnm, hrt, hlk, vm0, k0, hS, hk, hown, hZ, hEW, hC, hF, T, locs, X, N, eT, st⟩ := K
  obtain ⟨cl, Ar, Sz, H⟩ := F
  subst hj hv Sz
  exact ⟨hx, hby, hml, hnm, hrt, hlk, vm0, k0, hS, hk, hown, hZ, hEW, hC, hF, T, locs, X, N, eT, fun t kt => st t (X.caload hx (j := j) (v := f j.toNatClampNeg) (by rw [eT]; exact Ar.1) (State.isArrayOf_alike hZ.alike Ar.2.1) Ar.2.2 (fun q => q.elim h0 (Nat.not_le.mpr hi)) (H _ hi) (g := mkF C.2.2.2.2.1 pc L (.int j :: .ref a :: S)) rfl rfl (hb hby hd) t kt)⟩
theorem Run.daload {a : Addr} {n : Nat} {f : Nat → Value} {j : Int32} (K : Run C R Z n0 own nm ret bytes mx sf h cells slots pc L (.int j :: .ref a :: S)) (hd : decode bytes pc = .ok (.daload, 1)) (F : Arf Z h a .double n f) (i : Nat) (hj : j.toNatClampNeg = i) (h0 : ¬ j < 0) (hi : i < n) (v : Value) (hv : f i = v) : Run C R Z n0 own nm ret bytes mx sf h cells slots (pc + 1) L (v :: S) := by
  obtain ⟨hx, hby, hml, hnm, hrt, hlk, vm0, k0, hS, hk, hown, hZ, hEW, hC, hF, T, locs, X, N, eT, st⟩ := K
  obtain ⟨cl, Ar, Sz, H⟩ := F
  subst hj hv Sz
  exact ⟨hx, hby, hml, hnm, hrt, hlk, vm0, k0, hS, hk, hown, hZ, hEW, hC, hF, T, locs, X, N, eT, fun t kt => st t (X.daload hx (j := j) (v := f j.toNatClampNeg) (by rw [eT]; exact Ar.1) (State.isArrayOf_alike hZ.alike Ar.2.1) Ar.2.2 (fun q => q.elim h0 (Nat.not_le.mpr hi)) (H _ hi) (g := mkF C.2.2.2.2.1 pc L (.int j :: .ref a :: S)) rfl rfl (hb hby hd) t kt)⟩
theorem Run.castore {a : Addr} {n : Nat} {f : Nat → Value} {j x : Int32} (K : Run C R Z n0 own nm ret bytes mx sf h cells slots pc L (.int x :: .int j :: .ref a :: S)) (hd : decode bytes pc = .ok (.castore, 1)) (F : Arf Z h a .char n f) (i : Nat) (hj : j.toNatClampNeg = i) (h0 : ¬ j < 0) (hi : i < n) (ga : n0 ≤ a) (hsf : a ∈ sf) (x' : Int32) (hx' : x.toUInt32.toUInt16.toUInt32.toInt32 = x') :
    ∃ h', Wr h h' a i (.int x') ∧ Arf Z h' a .char n (updV f i (.int x')) ∧ Run C R Z n0 own nm ret bytes mx sf h' cells slots (pc + 1) L S := by
  obtain ⟨hx, hby, hml, hnm, hrt, hlk, vm0, k0, hS, hk, hown, hZ, hEW, hC, hF, T, locs, X, N, eT, st⟩ := K
  obtain ⟨cl, Ar, Sz, H⟩ := F
  subst hj Sz hx'
  obtain ⟨T', h', X', e', W', st'⟩ := RoadKit.stC X hx hZ eT Ar (j := j) (x := x) (fun q => q.elim h0 (Nat.not_le.mpr hi)) (g := mkF C.2.2.2.2.1 pc L (.int x :: .int j :: .ref a :: S)) rfl rfl (hb hby hd)
  exact ⟨h', W', Arf.set ⟨cl, Ar, rfl, H⟩ W' hi, hx, hby, hml, hnm, hrt, hlk, vm0, k0, hS, (by rw [Wr.size W']; exact hk), hown, hZ, hEW, hC.trans (CHr.wr W' (hF a hsf).1 hC.1), hF.wr W' (hF a hsf).1 hC.1, T', _, X', Fr.snoc X' N ga, e', fun t kt => st t (st' t kt)⟩
theorem Run.dastore {a : Addr} {n : Nat} {f : Nat → Value} {j : Int32} {x : UInt64} (K : Run C R Z n0 own nm ret bytes mx sf h cells slots pc L (.double x :: .int j :: .ref a :: S)) (hd : decode bytes pc = .ok (.dastore, 1)) (F : Arf Z h a .double n f) (i : Nat) (hj : j.toNatClampNeg = i) (h0 : ¬ j < 0) (hi : i < n) (ga : n0 ≤ a) (hsf : a ∈ sf) :
    ∃ h', Wr h h' a i (.double x) ∧ Arf Z h' a .double n (updV f i (.double x)) ∧ Run C R Z n0 own nm ret bytes mx sf h' cells slots (pc + 1) L S := by
  obtain ⟨hx, hby, hml, hnm, hrt, hlk, vm0, k0, hS, hk, hown, hZ, hEW, hC, hF, T, locs, X, N, eT, st⟩ := K
  obtain ⟨cl, Ar, Sz, H⟩ := F
  subst hj Sz
  obtain ⟨T', h', X', e', W', st'⟩ := RoadKit.stD X hx hZ eT Ar (j := j) (x := x) (fun q => q.elim h0 (Nat.not_le.mpr hi)) (g := mkF C.2.2.2.2.1 pc L (.double x :: .int j :: .ref a :: S)) rfl rfl (hb hby hd)
  exact ⟨h', W', Arf.set ⟨cl, Ar, rfl, H⟩ W' hi, hx, hby, hml, hnm, hrt, hlk, vm0, k0, hS, (by rw [Wr.size W']; exact hk), hown, hZ, hEW, hC.trans (CHr.wr W' (hF a hsf).1 hC.1), hF.wr W' (hF a hsf).1 hC.1, T', _, X', Fr.snoc X' N ga, e', fun t kt => st t (st' t kt)⟩
theorem Run.newarr {a0 : Array Value} {aty : ArrayType} {n : Int32} {ad : String} (K : Run C R Z n0 own nm ret bytes mx sf h cells slots pc L (.int n :: S)) (hd : decode bytes pc = .ok (.newarray aty, 2)) (w : (Jvm.Cond.arrayClass (newarray.typeOf aty)).before a0 Z = true) (hn : ¬ n < 0) (z : Nat) (hz : n.toNatClampNeg = z) (cap : Nat) (hcap : z ≤ cap) (hb8 : cap * 8 ≤ 536870912) (hc : cells + 1 ≤ R.cells) (hl : slots + cap ≤ R.slots) (had : "[" ++ (newarray.typeOf aty).toString = ad) :
    ∃ (h' : Heap) (b : Addr), b = h.size ∧ Ext h h' ∧ Arf Z h' b (newarray.typeOf aty) z (fun _ => defaultValue (newarray.typeOf aty)) ∧ Exa Z h' b ad ∧ Run C R Z n0 own nm ret bytes mx (b :: sf) h' (cells + 1) (slots + cap) (pc + 2) L (.ref b :: S) := by
  obtain ⟨hx, hby, hml, hnm, hrt, hlk, vm0, k0, hS, hk, hown, hZ, hEW, hC, hF, T, locs, X, N, eT, st⟩ := K
  subst hz
  obtain ⟨T', h', cA, X', e', E', A', Ex', st'⟩ := RoadKit.newPE X hx hZ w eT (g := mkF C.2.2.2.2.1 pc L (.int n :: S)) rfl (hb hby hd) rfl hn hcap hb8 hc hl had
  exact ⟨h', _, rfl, E', ⟨_, A', sz_new _ _ _, fun i hi => by simp [newA, hi]⟩, Ex', hx, hby, hml, hnm, hrt, hlk, vm0, k0, hS, Nat.le_trans hk E'.1, hown, hZ, hEW, hC.trans (CHr.ext E' hC.1), hF.new E' A'.lt hC.1, T', _, X', N, e', fun t kt => st t (st' t kt)⟩
theorem Run.clone {a0 : Array Value} {index W : Nat} {ad : String} {a : Addr} {ty : FieldType} {n : Nat} {f : Nat → Value} (K : Run C R Z n0 own nm ret bytes mx sf h cells slots pc L (.ref a :: S)) (hd : decode bytes pc = .ok (.invokevirtual index, 3))
    (w1 : (Jvm.Cond.methodLink own index ⟨ad, "clone", "()Ljava/lang/Object;"⟩).before a0 Z = true) (w2 : (Jvm.Cond.sameMethod ad "java/lang/Object" "clone" "()Ljava/lang/Object;").before a0 Z = true) (w3 : (Jvm.Cond.native ⟨"java/lang/Object", "clone", "()Ljava/lang/Object;"⟩).before a0 Z = true)
    (w4 : (Jvm.Cond.instanceMethod ⟨"java/lang/Object", "clone", "()Ljava/lang/Object;"⟩).before a0 Z = true) (w5 : (Jvm.Cond.selects ad ⟨ad, "clone", "()Ljava/lang/Object;"⟩ ⟨"java/lang/Object", "clone", "()Ljava/lang/Object;"⟩).before a0 Z = true) (w6 : (Jvm.Cond.castable ad "java/lang/Cloneable").before a0 Z = true)
    (F : Arf Z h a ty n f) (hfit : ∀ i, i < n → fits ty (f i) = true) (E : Exa Z h a ad) (cap : Nat) (hcap : n ≤ cap) (hW : (S.map fun v => v.category).sum = W) (hLs : L.size = mx) (hf : 1 ≤ R.frames) (hl : W + 14 ≤ R.locals) (hc : cells + 1 ≤ R.cells) (hsl : slots + cap ≤ R.slots) :
    ∃ (h' : Heap) (b : Addr), b = h.size ∧ Ext h h' ∧ Arf Z h' b ty n f ∧ Exa Z h' b ad ∧ Run C R Z n0 own nm ret bytes mx (b :: sf) h' (cells + 1) (slots + cap) (pc + 3) L (.ref b :: S) := by
  obtain ⟨hx, hby, hml, hnm, hrt, hlk, vm0, k0, hS, hk, hown, hZ, hEW, hC, hF, T, locs, X, N, eT, st⟩ := K
  obtain ⟨cl, Ar, Sz, H⟩ := F
  subst Sz
  have FC : FitC Z cl := fitC_of Ar fun i hi v hv => by rw [H i hi] at hv; cases hv; exact hfit i hi
  obtain ⟨T', h', X', e', ex, A', E', st'⟩ := cloneA X hx hZ hown w1 w2 w3 w4 w5 w6 eT Ar E FC (g := mkF C.2.2.2.2.1 pc L (.ref a :: S)) rfl (by rw [hml]; exact hLs) rfl (hb hby hd) hf (W := W) (cap := cap) (by show 2 * 0 + _ ≤ _; omega) hl hcap hc hsl
  exact ⟨h', _, rfl, ex, ⟨cloneOf cl, A', rfl, H⟩, E', hx, hby, hml, hnm, hrt, hlk, vm0, k0, hS, Nat.le_trans hk ex.1, hown, hZ, hEW, hC.trans (CHr.ext ex hC.1), hF.new ex A'.lt hC.1, T', _, X', N, e', fun t kt => st t (st' t kt)⟩
theorem Run.instY {a0 : Array Value} {index : Nat} {Kl : String} {a : Addr} (K : Run C R Z n0 own nm ret bytes mx sf h cells slots pc L (.ref a :: S)) (hd : decode bytes pc = .ok (.instanceof index, 3)) (w : (Jvm.Cond.classLink own index Kl).before a0 Z = true) (F : Ins Z h a Kl true) : Run C R Z n0 own nm ret bytes mx sf h cells slots (pc + 3) L (.int (1 : Int32) :: S) := by
  obtain ⟨hx, hby, hml, hnm, hrt, hlk, vm0, k0, hS, hk, hown, hZ, hEW, hC, hF, T, locs, X, N, eT, st⟩ := K
  obtain ⟨T', X', e', st'⟩ := RoadKit.instY X hx hZ hown w eT F (g := mkF C.2.2.2.2.1 pc L (.ref a :: S)) rfl rfl (hb hby hd)
  exact ⟨hx, hby, hml, hnm, hrt, hlk, vm0, k0, hS, hk, hown, hZ, hEW, hC, hF, T', locs, X', N, e', fun t kt => st t (st' t kt)⟩
theorem Run.instNull {index : Nat} (K : Run C R Z n0 own nm ret bytes mx sf h cells slots pc L (.null :: S)) (hd : decode bytes pc = .ok (.instanceof index, 3)) : Run C R Z n0 own nm ret bytes mx sf h cells slots (pc + 3) L (.int (0 : Int32) :: S) := by
  obtain ⟨hx, hby, hml, hnm, hrt, hlk, vm0, k0, hS, hk, hown, hZ, hEW, hC, hF, T, locs, X, N, eT, st⟩ := K
  exact ⟨hx, hby, hml, hnm, hrt, hlk, vm0, k0, hS, hk, hown, hZ, hEW, hC, hF, T, locs, X, N, eT, fun t kt => st t (X.instanceofNull hx (g := mkF C.2.2.2.2.1 pc L (.null :: S)) rfl rfl (hb hby hd) t kt)⟩
theorem Run.instNo {a0 : Array Value} {index : Nat} {Cl Kl : String} {a : Addr} (K : Run C R Z n0 own nm ret bytes mx sf h cells slots pc L (.ref a :: S)) (hd : decode bytes pc = .ok (.instanceof index, 3)) (w : (Jvm.Cond.classLink own index Kl).before a0 Z = true) (E : Exa Z h a Cl) (F : ∃ c t, Z.vm.findClass Cl = some c ∧ Z.vm.findClass Kl = some t ∧ Z.vm.assignable c t = false) : Run C R Z n0 own nm ret bytes mx sf h cells slots (pc + 3) L (.int (0 : Int32) :: S) := by
  obtain ⟨hx, hby, hml, hnm, hrt, hlk, vm0, k0, hS, hk, hown, hZ, hEW, hC, hF, T, locs, X, N, eT, st⟩ := K
  obtain ⟨T', X', e', st'⟩ := RoadKit.instNo X hx hZ hown w eT E F (g := mkF C.2.2.2.2.1 pc L (.ref a :: S)) rfl rfl (hb hby hd)
  exact ⟨hx, hby, hml, hnm, hrt, hlk, vm0, k0, hS, hk, hown, hZ, hEW, hC, hF, T', locs, X', N, e', fun t kt => st t (st' t kt)⟩
theorem Run.castNull {index : Nat} (K : Run C R Z n0 own nm ret bytes mx sf h cells slots pc L (.null :: S)) (hd : decode bytes pc = .ok (.checkcast index, 3)) : Run C R Z n0 own nm ret bytes mx sf h cells slots (pc + 3) L (.null :: S) := by
  obtain ⟨hx, hby, hml, hnm, hrt, hlk, vm0, k0, hS, hk, hown, hZ, hEW, hC, hF, T, locs, X, N, eT, st⟩ := K
  exact ⟨hx, hby, hml, hnm, hrt, hlk, vm0, k0, hS, hk, hown, hZ, hEW, hC, hF, T, locs, X, N, eT, fun t kt => st t (X.checkcastNull hx (g := mkF C.2.2.2.2.1 pc L (.null :: S)) rfl rfl (hb hby hd) t kt)⟩
theorem Run.lswHit {x : Int32} {dflt : Int} {pairs : Array (Int × Int)} {len : Nat} {b off : Int} {pc' : Nat} (K : Run C R Z n0 own nm ret bytes mx sf h cells slots pc L (.int x :: S)) (hd : decode bytes pc = .ok (.lookupswitch dflt pairs, len)) (hsorted : (pairs.toList.zip (pairs.toList.drop 1)).all (fun (a, next) => a.1 < next.1) = true) (hfind : pairs.find? (·.1 == x.toInt) = some (b, off)) (ho : 0 ≤ (pc : Int) + off) (hp : ((pc : Int) + off).toNat = pc') : Run C R Z n0 own nm ret bytes mx sf h cells slots pc' L S := by
  obtain ⟨hx, hby, hml, hnm, hrt, hlk, vm0, k0, hS, hk, hown, hZ, hEW, hC, hF, T, locs, X, N, eT, st⟩ := K
  subst hp
  exact ⟨hx, hby, hml, hnm, hrt, hlk, vm0, k0, hS, hk, hown, hZ, hEW, hC, hF, T, locs, X, N, eT, fun t kt => st t (X.lookupswitchHit hx (g := mkF C.2.2.2.2.1 pc L (.int x :: S)) rfl rfl (hb hby hd) hsorted hfind ho t kt)⟩
theorem Run.lswMiss {x : Int32} {dflt : Int} {pairs : Array (Int × Int)} {len : Nat} {pc' : Nat} (K : Run C R Z n0 own nm ret bytes mx sf h cells slots pc L (.int x :: S)) (hd : decode bytes pc = .ok (.lookupswitch dflt pairs, len)) (hsorted : (pairs.toList.zip (pairs.toList.drop 1)).all (fun (a, next) => a.1 < next.1) = true) (hfind : ∀ p ∈ pairs.toList, p.1 ≠ x.toInt) (ho : 0 ≤ (pc : Int) + dflt) (hp : ((pc : Int) + dflt).toNat = pc') : Run C R Z n0 own nm ret bytes mx sf h cells slots pc' L S := by
  obtain ⟨hx, hby, hml, hnm, hrt, hlk, vm0, k0, hS, hk, hown, hZ, hEW, hC, hF, T, locs, X, N, eT, st⟩ := K
  subst hp
  exact ⟨hx, hby, hml, hnm, hrt, hlk, vm0, k0, hS, hk, hown, hZ, hEW, hC, hF, T, locs, X, N, eT, fun t kt => st t (X.lookupswitchMiss hx (g := mkF C.2.2.2.2.1 pc L (.int x :: S)) rfl rfl (hb hby hd) hsorted (find_miss hfind) ho t kt)⟩
theorem Run.ldcLit {a0 : Array Value} {index : Nat} {text : String} (K : Run C R Z n0 own nm ret bytes mx sf h cells slots pc L S) (hd : decode bytes pc = .ok (.ldc index, 2)) (w : (Jvm.Cond.stringLink own index text).before a0 Z = true) (wS : ∀ a ∈ Bundle.stringAtoms, a.before a0 Z = true) (hEL : EW Z a0 EL) (hmem : (own, index) ∈ EL) (vs : List Int32) (ht : (∀ c ∈ text.toList, c.toNat < 256) ∧ text.toList.map (fun c => Value.int (Jvm.Lit.byteI c.toNat.toUInt16)) = vs.map Value.int) (z : Int32) (hz : ¬ z < 0) (hl : z.toNatClampNeg = (vs.map Value.int).length) (n : Nat) (hn : 4 * text.toList.length ≤ n) (hbig : n ≤ 536870912) (hc : cells + 2 ≤ R.cells) (hl' : slots + (n + 4) ≤ R.slots) :
    ∃ (h' : Heap) (a b : Addr), Ext h h' ∧ Exa Z h' a "java/lang/String" ∧ Fld Z h' a "java/lang/String" "coder" "B" (.int (0 : Int32)) ∧ Fld Z h' a "java/lang/String" "value" "[B" (.ref b) ∧ Arf Z h' b .byte vs.length (fun i => .int (vs.getD i 0)) ∧ (∀ x ∈ sf, x ≠ a ∧ x ≠ b) ∧ Run C R Z n0 own nm ret bytes mx sf h' (cells + 2) (slots + (n + 4)) (pc + 2) L (.ref a :: S) := by
  obtain ⟨hx, hby, hml, hnm, hrt, hlk, vm0, k0, hS, hk, hown, hZ, hEW, hC, hF, T, locs, X, N, eT, st⟩ := K
  obtain ⟨a, T', h', k1, b, kc, X', e', E', hS', hk', hZ', hown', x1, x2, x3, x4, -, -, hR, -, hne, st'⟩ := RoadKit.ldcCH X hx hZ hown w wS eT hS hk hEL hmem hC.1 ht hz hl (g := mkF C.2.2.2.2.1 pc L S) rfl (hb hby hd) hn hbig hc hl'
  have hF' := hF.call hR
  refine ⟨h', a, b, E', x1, x2, x3, ?_, fun x hx => hne x (hF' x hx).1, hx, hby, hml, hnm, hrt, hlk, _, k1, hS', hk', hown', hZ', hEW, hC.trans hR, hF', T', _, X', N, e', fun t kt => st t (st' t kt)⟩
  obtain ⟨cl, Ar, -, Sz, -, H, -⟩ := x4
  have e1 : cl.slots.size = vs.length := by rw [Sz, hl, List.length_map]
  refine ⟨cl, Ar, e1, fun i hi => ?_⟩
  rw [H i (by rw [e1]; exact hi), List.getD_map_int]
theorem Run.sfx (K : Run C R Z n0 own nm ret bytes mx sf h cells slots pc L S) (sf' : List Addr) (q : sf = sf') : Run C R Z n0 own nm ret bytes mx sf' h cells slots pc L S := q ▸ K
theorem Run.weak {n1 : Nat} (K : Run C R Z n1 own nm ret bytes mx sf h cells slots pc L S) (q : n0 ≤ n1) : Run C R Z n0 own nm ret bytes mx sf h cells slots pc L S := by
  obtain ⟨hx, hby, hml, hnm, hrt, hlk, vm0, k0, hS, hk, hown, hZ, hEW, hC, hF, T, locs, X, N, eT, st⟩ := K
  exact ⟨hx, hby, hml, hnm, hrt, hlk, vm0, k0, hS, hk, hown, hZ, hEW, hC, hF, T, locs, X, fun y hy => Nat.le_trans q (N y hy), eT, st⟩
end Steps
end Jvm.Own



namespace Jvm.Own
open Sem ClassFile Op Lib Jvm.Stand Jvm.Free Jvm.LawKit Jvm.RoadKit
section Words
variable {s : State} {args : Array Value} {Cl : String} {x y z : MethodName}
/-- the selection of a private method asks nothing of the object's class -/
theorem own_selP (w : (Jvm.Cond.selects Cl y y).before args s = true) (wi : (Jvm.Cond.instanceMethod y).before args s = true) (hp : s.PrivateAt y) (hy : y.cls ≠ "java/lang/invoke/MethodHandle" ∧ y.cls ≠ "java/lang/invoke/VarHandle") : (Jvm.Cond.selects y.cls y y).before args s = true := by
  obtain ⟨c, r, m, h1, h2, h3, h4, k, h5, h6⟩ := Cond.selects_spec w
  obtain ⟨m', me, g1, g2, -⟩ := Cond.instanceMethod_spec wi
  cases h3.symm.trans g1
  have hr := State.methodFound?_of_named h3 hy
  have hpr := hp _ _ h3 g2
  have hc := findClass_of_methodNamed h3
  have hsel : selectMethod {} s.vm m.cls m = .method m := by simp [selectMethod, g2, hpr]
  show (Jvm.Cond.selects y.cls y y).holds args s none s [] = true
  simp [Cond.holds, Cond.value, hc, hr, h3, hsel, h5, h6]
theorem own_nif (w : (Jvm.Cond.selects Cl x z).before args s = true) : ∃ c k, s.vm.findClass z.cls = some c ∧ s.vm.classes[c]? = some k ∧ k.isInterface = false := by
  obtain ⟨c, r, m, h1, h2, h3, h4, k, h5, h6⟩ := Cond.selects_spec w
  exact ⟨_, k, findClass_of_methodNamed h3, h5, h6⟩
theorem own_nface (w : (Jvm.Cond.selects Cl x z).before args s = true) (hz : z.cls = y.cls) : NotFace s y := fun r0 h0 => by
  obtain ⟨c, k, h1, h2, h3⟩ := own_nif w
  have q := findClass_of_methodNamed h0
  rw [hz] at h1
  cases q.symm.trans h1
  exact ⟨k, h2, h3⟩
theorem own_sameM (w : (Jvm.Cond.instanceMethod y).before args s = true) (hn : ∃ c k, s.vm.findClass y.cls = some c ∧ s.vm.classes[c]? = some k ∧ k.isInterface = false) (hy : y.cls ≠ "java/lang/invoke/MethodHandle" ∧ y.cls ≠ "java/lang/invoke/VarHandle") : (Jvm.Cond.sameMethod y.cls y.cls y.name y.desc).before args s = true := by
  obtain ⟨m, me, g1, g2, -⟩ := Cond.instanceMethod_spec w
  obtain ⟨c, k, h1, h2, h3⟩ := hn
  have hr := State.methodFound?_of_named g1 hy
  have e : (⟨y.cls, y.name, y.desc⟩ : MethodName) = y := rfl
  show (Jvm.Cond.sameMethod y.cls y.cls y.name y.desc).holds args s none s [] = true
  simp [Cond.holds, Cond.value, h1, hr, e, g1, h2, h3]
end Words
section Copy
variable {Z : State} {h h' : Heap} {a b : Addr} {ty : FieldType} {n : Nat} {f g : Nat → Value}
theorem own_getR (f : Nat → Value) (n i : Nat) (d : Value) (hi : i < n) : ((List.range n).map f).getD i d = f i := by
  simp [List.getD, hi]
theorem own_sz (q : Nat) (hq : q < 2147483648) : q.toInt32.toNatClampNeg = q := by
  show (Int32.ofNat q).toInt.toNat = q
  rw [Int32.toInt_ofNat_of_lt hq]; rfl
theorem Arf.arv (F : Arf Z h a ty n f) (hn : n < 2147483648) (fit : ∀ i, i < n → fits ty (f i) = true) : ∃ k, Arv Z h a k ty n.toInt32 ((List.range n).map f) (.int 0) := by
  obtain ⟨c, A, S, H⟩ := F
  have e : ¬ n.toInt32 < 0 := by
    have q : n.toInt32.toInt = (n : Int) := by
      show (Int32.ofNat n).toInt = (n : Int)
      exact Int32.toInt_ofNat_of_lt hn
    have z : (0 : Int32).toInt = 0 := by decide
    rw [Int32.lt_iff_toInt_lt, q, z]; omega
  refine ⟨c.cls, c, A, rfl, by rw [S, own_sz n hn], e, fun i hi => ?_, fun i hi => ?_⟩
  · rw [own_getR f n i _ (S ▸ hi)]; exact H i (S ▸ hi)
  · rw [own_getR f n i _ (S ▸ hi)]; exact fit i (S ▸ hi)
def own_cpy (f g : Nat → Value) (P D M : Nat) : Nat → Value := fun i => if i < D then g i else if i < D + M then f (P + (i - D)) else g i
end Copy
section Steps
variable {C : Cx} {R : Room} {Z : State} {n0 : Nat} {own nm : String} {ret : Option FieldType} {bytes : ByteArray} {mx : Nat} {sf : List Addr} {h : Heap} {cells slots pc : Nat} {L : Array Slot} {S : List Value}
theorem Run.bcopy {a0 : Array Value} {index W : Nat} {a b : Addr} {n n' : Nat} {f g : Nat → Value} {sp dp nn : Int32} (K : Run C R Z n0 own nm ret bytes mx sf h cells slots pc L (.int nn :: .int dp :: .ref b :: .int sp :: .ref a :: S)) (hd : decode bytes pc = .ok (.invokestatic index, 3))
    (w1 : (Jvm.Cond.methodLink own index Jvm.Stand.acN).before a0 Z = true) (w2 : (Jvm.Cond.native Jvm.Stand.acN).before a0 Z = true) (w3 : (Jvm.Cond.static Jvm.Stand.acN).before a0 Z = true) (w4 : (Jvm.Cond.initialized "java/lang/System").before a0 Z = true)
    (A : Arf Z h a .byte n f) (B : Arf Z h b .byte n' g) (hn : n < 2147483648) (hn' : n' < 2147483648) (hfa : ∀ i, i < n → fits .byte (f i) = true) (hfb : ∀ i, i < n' → fits .byte (g i) = true) (P D M : Nat) (hP : sp.toNatClampNeg = P) (hP0 : ¬ sp < 0) (hD : dp.toNatClampNeg = D) (hD0 : ¬ dp < 0) (hM : nn.toNatClampNeg = M) (hM0 : ¬ nn < 0) (h4 : P + M ≤ n) (h5 : D + M ≤ n') (ga : n0 ≤ b) (hsf : b ∈ sf)
    (hLs : L.size = mx) (hW : (S.map fun v => v.category).sum = W) (hf : 1 ≤ R.frames) (hlo : W + (nativeFrameWords "java/lang/System" "arraycopy" 5 + 11) ≤ R.locals) :
    ∃ h', Keep h h' [b] ∧ Arf Z h' b .byte n' (own_cpy f g P D M) ∧ Run C R Z n0 own nm ret bytes mx sf h' cells slots (pc + 3) L S := by
  obtain ⟨hx, hby, hml, hnm, hrt, hlk, vm0, k0, hS, hk, hown, hZ, hEW, hC, hF, T, locs, X, N, eT, st⟩ := K
  obtain ⟨ka, A'⟩ := A.arv hn hfa
  obtain ⟨kb, B'⟩ := B.arv hn' hfb
  obtain ⟨T', h', L', X', e', N', K', V', st'⟩ := RoadKit.cpA X hx hZ hown w1 w2 w3 w4 eT (sp := sp) (dp := dp) (nn := nn) A' B' (Or.inl ⟨rfl, rfl⟩) hP0 hD0 hM0 (by rw [hP, hM, own_sz n hn]; exact h4) (by rw [hD, hM, own_sz n' hn']; exact h5) rfl (by rw [hD, hM]; simp; exact h5) N ga (g := mkF C.2.2.2.2.1 pc L (.int nn :: .int dp :: .ref b :: .int sp :: .ref a :: S)) rfl (by rw [hml]; exact hLs) rfl (hb hby hd) hf (W := W) (by show 2 * 0 + _ ≤ _; omega) hlo
  have hs1 : ∀ x ∈ [b], Safe Z EL vm0 h x := fun x hx => by rw [List.mem_singleton.mp hx]; exact (hF b hsf).1
  have hR := CHr.keep K' hs1 hC.1
  refine ⟨h', K', ?_, hx, hby, hml, hnm, hrt, hlk, vm0, k0, hS, Nat.le_trans hk K'.1, hown, hZ, hEW, hC.trans hR, hF.call hR, T', _, X', N', e', fun t kt => st t (st' t kt)⟩
  obtain ⟨c, Ac, -, Sc, -, Hc, -⟩ := V'
  rw [own_sz n' hn'] at Sc
  refine ⟨c, Ac, Sc, fun i hi => ?_⟩
  rw [Hc i (by rw [Sc]; exact hi), hD, hM, hP]
  congr 1
  unfold own_cpy
  have lt : ((List.range n').map g).length = n' := by simp
  rw [List.getD_eq_getElem?_getD]
  by_cases q : i < D
  · rw [if_pos q, List.getElem?_append_left (by simp; omega), List.getElem?_append_left (by simp; omega), List.getElem?_take_of_lt q]
    simp [hi]
  · rw [if_neg q]
    by_cases q2 : i < D + M
    · rw [if_pos q2, List.getElem?_append_left (by simp; omega), List.getElem?_append_right (by simp; omega)]
      have e2 : i - (((List.range n').map g).take D).length = i - D := by simp; omega
      rw [e2]
      have q3 : i - D < M := by omega
      have q4 : P + (i - D) < n := by omega
      simp [q3, q4]
    · rw [if_neg q2, List.getElem?_append_right (by simp; omega)]
      have e3 : i - (((List.range n').map g).take D ++ (List.range M).map (fun i => ((List.range n).map f).getD (P + i) (.int 0))).length = i - (D + M) := by simp; omega
      rw [e3, List.getElem?_drop]
      have e4 : D + M + (i - (D + M)) = i := by omega
      rw [e4]
      simp [hi]

theorem Run.callP {a0 : Array Value} {index : Nat} {y : MethodName} {Cl Cs : String} {by2 : ByteArray} {mx2 W : Nat} {rt2 : Option FieldType} {rm : Room} {a : Addr} {argsL rest : List Value} {Q : Option Value → Heap → (Addr → Prop) → Prop} {ps : List FieldType} {sc : List Addr} (K : Run C R Z n0 own nm ret bytes mx sf h cells slots pc L S) (hd : decode bytes pc = .ok (.invokevirtual index, 3))
    (wl : (Jvm.Cond.methodLink own index y).before a0 Z = true) (wp : (Jvm.Cond.privateMethod y).before a0 Z = true) (ws : (Jvm.Cond.selects Cs y y).before a0 Z = true) (wst : (Jvm.Cond.instanceMethod y).before a0 Z = true) (wi : (Jvm.Cond.initialized y.cls).before a0 Z = true) (wc : (Jvm.Cond.code y by2 mx2 rt2).before a0 Z = true)
    (E : Exa Z h a Cl) (con : Con Z n0 y by2 mx2 rt2 [] rm (.ref a :: argsL).toArray h sc Q) (hsc : ∀ x ∈ sc, x ∈ sf) (hSt : S = argsL.reverse ++ .ref a :: rest) (hpd : parseMethodDescriptor y.desc = some ⟨ps, rt2⟩) (hlen : argsL.length = ps.length) (hW : (rest.map fun v => v.category).sum = W) (hLs : L.size = mx)
    (hfr : rm.frames + 1 ≤ R.frames) (hlo : W + (mx2 + 11) + rm.locals ≤ R.locals) (hce : cells + rm.cells ≤ R.cells) (hsl : slots + rm.slots ≤ R.slots) (hy : y.cls ≠ "java/lang/invoke/MethodHandle" ∧ y.cls ≠ "java/lang/invoke/VarHandle") :
    ∃ v h' sp, Q v h' sp ∧ ∀ l : List Addr, (∀ x ∈ l, sp x ∧ x < h'.size) → Run C R Z n0 own nm ret bytes mx (l ++ sf) h' (cells + rm.cells) (slots + rm.slots) (pc + 3) L (v.toList ++ rest) := by
  obtain ⟨hx, hby, hml, hnm, hrt, hlk, vm0, k0, hS, hk, hown, hZ, hEW, hC, hF, T, locs, X, N, eT, st⟩ := K
  obtain ⟨b0, hEL⟩ := hEW
  obtain ⟨cq, kq, qa, qb, cellB, qc, -, qd⟩ := isOf hZ eT E
  obtain ⟨v, _, ⟨T', L', k', n'⟩, -, X', hS', hg', ⟨Lc, hQ, l1, y1, z1, hR⟩, st'⟩ := X.privateBackS hx (y := y) hown (mvT hZ wl) (mvT hZ wst) (own_selP (mvT hZ ws) (mvT hZ wst) (Cond.privateMethod_at (args := #[]) (mvP hZ wp)) hy) (Cond.privateMethod_at (args := #[]) (mvP hZ wp)) (mvT hZ wc) hy (backH (Q := fun v h sp L => Q v h sp ∧ Fr n0 L) (W := W) (con C.2.1) hZ wc wi hfr hlo hEL hC.1 (hF.sub hsc)) (g := mkF C.2.2.2.2.1 pc L S) rfl (by rw [hml]; exact hLs) (Steps.refl _) qc (fun z h => by rw [h] at qd; cases qd) (argsL := argsL) (rest := rest) (lenOf hpd hlen) hSt (by show 2 * 0 + _ ≤ _; omega) (hb hby hd) (fun _ _ => ⟨rfl, eT, hce, hsl⟩)
  dsimp only [Pt.U, Pt.locs, Pt.cells, Pt.slots] at X' hS' hg' l1 y1 z1 st' hQ hR
  subst l1 y1 z1
  obtain ⟨X'', hS'', hZ'', hown''⟩ := rebS hS (by rw [eT]; exact hk : k0 ≤ T.heap.size) X' hS' hg' hZ hown
  exact ⟨v, T'.heap, _, hQ.1, fun l hl => ⟨hx, hby, hml, hnm, hrt, hlk, _, _, hS'', Nat.le_refl _, hown'', hZ'', ⟨b0, hEL⟩, hC.trans hR, (hF.call hR).app hl, T', _, X'', Fr.app N hQ.2, rfl, fun t kt => st t (st'.trans kt)⟩⟩
theorem Run.callU {a0 : Array Value} {index : Nat} {y : MethodName} {Kl Cs : String} {x z : MethodName} {by2 : ByteArray} {mx2 W : Nat} {rt2 : Option FieldType} {rm : Room} {a : Addr} {argsL rest : List Value} {Q : Option Value → Heap → (Addr → Prop) → Prop} {ps : List FieldType} {sc : List Addr} (K : Run C R Z n0 own nm ret bytes mx sf h cells slots pc L S) (hd : decode bytes pc = .ok (.invokespecial index, 3))
    (wl : (Jvm.Cond.methodLink own index y).before a0 Z = true) (ws : (Jvm.Cond.selects Cs x z).before a0 Z = true) (hz : z.cls = y.cls) (wst : (Jvm.Cond.instanceMethod y).before a0 Z = true) (wsu : (Jvm.Cond.superclass own y.cls).before a0 Z = true) (hn : y.name ≠ "<init>") (wi : (Jvm.Cond.initialized y.cls).before a0 Z = true) (wc : (Jvm.Cond.code y by2 mx2 rt2).before a0 Z = true)
    (E : Ins Z h a Kl true) (con : Con Z n0 y by2 mx2 rt2 [] rm (.ref a :: argsL).toArray h sc Q) (hsc : ∀ x ∈ sc, x ∈ sf) (hSt : S = argsL.reverse ++ .ref a :: rest) (hpd : parseMethodDescriptor y.desc = some ⟨ps, rt2⟩) (hlen : argsL.length = ps.length) (hW : (rest.map fun v => v.category).sum = W) (hLs : L.size = mx)
    (hfr : rm.frames + 1 ≤ R.frames) (hlo : W + (mx2 + 11) + rm.locals ≤ R.locals) (hce : cells + rm.cells ≤ R.cells) (hsl : slots + rm.slots ≤ R.slots) (hy : y.cls ≠ "java/lang/invoke/MethodHandle" ∧ y.cls ≠ "java/lang/invoke/VarHandle") :
    ∃ v h' sp, Q v h' sp ∧ ∀ l : List Addr, (∀ x ∈ l, sp x ∧ x < h'.size) → Run C R Z n0 own nm ret bytes mx (l ++ sf) h' (cells + rm.cells) (slots + rm.slots) (pc + 3) L (v.toList ++ rest) := by
  obtain ⟨hx, hby, hml, hnm, hrt, hlk, vm0, k0, hS, hk, hown, hZ, hEW, hC, hF, T, locs, X, N, eT, st⟩ := K
  obtain ⟨b0, hEL⟩ := hEW
  obtain ⟨v, _, ⟨T', L', k', n'⟩, -, X', hS', hg', ⟨Lc, hQ, l1, y1, z1, hR⟩, st'⟩ := superBackS X hx hZ (y := y) hown wl (own_sameM wst (hz ▸ own_nif ws) hy) wst wsu hn (backH (Q := fun v h sp L => Q v h sp ∧ Fr n0 L) (W := W) (con C.2.1) hZ wc wi hfr hlo hEL hC.1 (hF.sub hsc)) eT E (g := mkF C.2.2.2.2.1 pc L S) rfl (by rw [hml]; exact hLs) wc (argsL := argsL) (rest := rest) (lenOf hpd hlen) hSt (by show 2 * 0 + _ ≤ _; omega) (hb hby hd) (fun _ _ => ⟨rfl, eT, hce, hsl⟩)
  dsimp only [Pt.U, Pt.locs, Pt.cells, Pt.slots] at X' hS' hg' l1 y1 z1 st' hQ hR
  subst l1 y1 z1
  obtain ⟨X'', hS'', hZ'', hown''⟩ := rebS hS (by rw [eT]; exact hk : k0 ≤ T.heap.size) X' hS' hg' hZ hown
  exact ⟨v, T'.heap, _, hQ.1, fun l hl => ⟨hx, hby, hml, hnm, hrt, hlk, _, _, hS'', Nat.le_refl _, hown'', hZ'', ⟨b0, hEL⟩, hC.trans hR, (hF.call hR).app hl, T', _, X'', Fr.app N hQ.2, rfl, fun t kt => st t (st'.trans kt)⟩⟩
end Steps
end Jvm.Own
namespace Jvm.Pilot.@@N@@
open Jvm Jvm.ClassFile Sem Op Lib Jvm.Free Jvm.Stand Jvm.LawKit Jvm.RoadKit Jvm.Own Bundle Jvm.Pilot.@@N@@.Jvm.D
theorem pd_0 : parseMethodDescriptor "()B" = some ⟨[], some .byte⟩ := by decide +kernel
theorem pd_1 : parseMethodDescriptor "(IILjava/util/function/BiFunction;)I" = some ⟨[.int, .int, (.object "java/util/function/BiFunction")], some .int⟩ := by decide +kernel
theorem pd_2 : parseMethodDescriptor "(IIILjava/util/function/BiFunction;)I" = some ⟨[.int, .int, .int, (.object "java/util/function/BiFunction")], some .int⟩ := by decide +kernel
theorem pd_3 : parseMethodDescriptor "([B)I" = some ⟨[(.array .byte)], some .int⟩ := by decide +kernel
theorem pd_4 : parseMethodDescriptor "(II)V" = some ⟨[.int, .int], none⟩ := by decide +kernel
theorem pd_5 : parseMethodDescriptor "(III)I" = some ⟨[.int, .int, .int], some .int⟩ := by decide +kernel
theorem pd_6 : parseMethodDescriptor "(I[B)V" = some ⟨[.int, (.array .byte)], none⟩ := by decide +kernel
theorem pd_7 : parseMethodDescriptor "([BI)C" = some ⟨[(.array .byte), .int], some .char⟩ := by decide +kernel
theorem pd_8 : parseMethodDescriptor "()Z" = some ⟨[], some .boolean⟩ := by decide +kernel
theorem pd_9 : parseMethodDescriptor "(JI)C" = some ⟨[.long, .int], some .char⟩ := by decide +kernel
theorem pd_10 : parseMethodDescriptor "()I" = some ⟨[], some .int⟩ := by decide +kernel
theorem pd_11 : parseMethodDescriptor "(I)C" = some ⟨[.int], some .char⟩ := by decide +kernel
theorem pd_12 : parseMethodDescriptor "(IJJI)C" = some ⟨[.int, .long, .long, .int], some .char⟩ := by decide +kernel
theorem pd_13 : parseMethodDescriptor "(I)I" = some ⟨[.int], some .int⟩ := by decide +kernel
theorem pd_14 : parseMethodDescriptor "(I)[B" = some ⟨[.int], some (.array .byte)⟩ := by decide +kernel
theorem pd_15 : parseMethodDescriptor "([BII)V" = some ⟨[(.array .byte), .int, .int], none⟩ := by decide +kernel
theorem pd_16 : parseMethodDescriptor "([CI[BII)I" = some ⟨[(.array .char), .int, (.array .byte), .int, .int], some .int⟩ := by decide +kernel
theorem pd_17 : parseMethodDescriptor "([CII)[B" = some ⟨[(.array .char), .int, .int], some (.array .byte)⟩ := by decide +kernel
theorem pd_18 : parseMethodDescriptor "([BI)B" = some ⟨[(.array .byte), .int], some .byte⟩ := by decide +kernel
theorem pd_19 : parseMethodDescriptor "([CIILjava/lang/Void;)V" = some ⟨[(.array .char), .int, .int, (.object "java/lang/Void")], none⟩ := by decide +kernel
theorem pd_20 : parseMethodDescriptor "([C)V" = some ⟨[(.array .char)], none⟩ := by decide +kernel
theorem pd_21 : parseMethodDescriptor "(II[B)V" = some ⟨[.int, .int, (.array .byte)], none⟩ := by decide +kernel
theorem pd_22 : parseMethodDescriptor "([BI[BII)V" = some ⟨[(.array .byte), .int, (.array .byte), .int, .int], none⟩ := by decide +kernel
theorem pd_23 : parseMethodDescriptor "(I)V" = some ⟨[.int], none⟩ := by decide +kernel
theorem pd_24 : parseMethodDescriptor "()V" = some ⟨[], none⟩ := by decide +kernel
theorem pd_25 : parseMethodDescriptor "(Ljava/lang/String;)V" = some ⟨[(.object "java/lang/String")], none⟩ := by decide +kernel
theorem pd_26 : parseMethodDescriptor "([BIB)V" = some ⟨[(.array .byte), .int, .byte], none⟩ := by decide +kernel
theorem pd_27 : parseMethodDescriptor "(ILjava/lang/String;)V" = some ⟨[.int, (.object "java/lang/String")], none⟩ := by decide +kernel
theorem pd_28 : parseMethodDescriptor "(Ljava/lang/String;)Ljava/lang/AbstractStringBuilder;" = some ⟨[(.object "java/lang/String")], some (.object "java/lang/AbstractStringBuilder")⟩ := by decide +kernel
theorem pd_29 : parseMethodDescriptor "(II)I" = some ⟨[.int, .int], some .int⟩ := by decide +kernel
theorem pd_30 : parseMethodDescriptor "([BII)[B" = some ⟨[(.array .byte), .int, .int], some (.array .byte)⟩ := by decide +kernel
theorem pd_31 : parseMethodDescriptor "()[B" = some ⟨[], some (.array .byte)⟩ := by decide +kernel
theorem pd_32 : parseMethodDescriptor "(Ljava/lang/AbstractStringBuilder;Ljava/lang/Void;)V" = some ⟨[(.object "java/lang/AbstractStringBuilder"), (.object "java/lang/Void")], none⟩ := by decide +kernel
theorem pd_33 : parseMethodDescriptor "(Ljava/lang/StringBuilder;)V" = some ⟨[(.object "java/lang/StringBuilder")], none⟩ := by decide +kernel
theorem pd_34 : parseMethodDescriptor "(Ljava/lang/String;)Ljava/lang/StringBuilder;" = some ⟨[(.object "java/lang/String")], some (.object "java/lang/StringBuilder")⟩ := by decide +kernel
theorem pd_35 : parseMethodDescriptor "(Ljava/lang/Object;Ljava/lang/String;)Ljava/lang/Object;" = some ⟨[(.object "java/lang/Object"), (.object "java/lang/String")], some (.object "java/lang/Object")⟩ := by decide +kernel
theorem pd_36 : parseMethodDescriptor "()Ljava/lang/String;" = some ⟨[], some (.object "java/lang/String")⟩ := by decide +kernel
theorem pd_37 : parseMethodDescriptor "(JI)Ljava/lang/String;" = some ⟨[.long, .int], some (.object "java/lang/String")⟩ := by decide +kernel
theorem pd_38 : parseMethodDescriptor "(Ljava/lang/String;Ljava/lang/String;)Ljava/lang/String;" = some ⟨[(.object "java/lang/String"), (.object "java/lang/String")], some (.object "java/lang/String")⟩ := by decide +kernel
theorem pd_39 : parseMethodDescriptor "(Ljava/lang/String;IJJI)Z" = some ⟨[(.object "java/lang/String"), .int, .long, .long, .int], some .boolean⟩ := by decide +kernel
def own_arr (l : List Int32) (i : Nat) : Value := .int (l.getD i 0)
theorem own_cg1 {f : Nat → Value} {v0 : Int32} (i : Nat) (hi : i < 1) : (updV f 0 (.int v0)) i = own_arr [v0] i := by
  match i, hi with
  | 0, _ => rfl
theorem own_cg2 {f : Nat → Value} {v0 v1 : Int32} (i : Nat) (hi : i < 2) : (updV (updV f 0 (.int v0)) 1 (.int v1)) i = own_arr [v0, v1] i := by
  match i, hi with
  | 0, _ => rfl
  | 1, _ => rfl
theorem own_cg3 {f : Nat → Value} {v0 v1 v2 : Int32} (i : Nat) (hi : i < 3) : (updV (updV (updV f 0 (.int v0)) 1 (.int v1)) 2 (.int v2)) i = own_arr [v0, v1, v2] i := by
  match i, hi with
  | 0, _ => rfl
  | 1, _ => rfl
  | 2, _ => rfl

section Narrow
variable {args : Array Value} {first s : State} {o : Option Outcome} {idx : List Nat} {t u : Term}
theorem own_eqv {n : Int32} (h : (Jvm.Cond.eq t (.int n)).value args first o s idx = some true) : t.eval args first o idx s = some (.int n) := by
  cases ht : t.eval args first o idx s with
  | none => simp [Cond.value, ht] at h
  | some x => cases x <;> simp [Cond.value, Term.int_eval, ht] at h ⊢; exact h
theorem own_ne0 {z n : Int32} (ev : t.eval args first o idx s = some (.int z)) (h : (Jvm.Cond.eq t (.int n)).value args first o s idx = some false) : ¬ (z = n) := by
  intro q; subst q
  simp [Cond.value, Term.int_eval, ev] at h
theorem own_eqr {b : Addr} (hu : u.eval args first o idx s = some (.ref b)) (h : (Jvm.Cond.eq t u).value args first o s idx = some true) : t.eval args first o idx s = some (.ref b) := by
  cases ht : t.eval args first o idx s with
  | none => simp [Cond.value, ht] at h
  | some x => cases x <;> simp [Cond.value, hu, ht] at h ⊢; exact h
theorem own_len {a : Addr} {cl : Cell} {ty : FieldType} {n : Int32} {k : Nat} (ev : t.eval args s none [] s = some (.ref a)) (A : Arr s s.heap a cl ty) (h : (Term.length t).eval args s none [] s = some (.int n)) (hk : n.toInt = (k : Int)) : cl.slots.size = k := by
  have q : s.arrayAt? a = some cl := A.fin (Vm.Alike.refl _)
  simp [Term.eval, ev, q] at h
  have r := len_toInt h.1
  rw [h.2, hk] at r
  omega
end Narrow
theorem own_i2b (x : Int32) : x.toInt8.toInt32.toInt8.toInt32 = x.toInt8.toInt32 := by simp
theorem own_i2c (x : Int32) : x.toUInt32.toUInt16.toUInt32.toInt32.toUInt32.toUInt16.toUInt32.toInt32 = x.toUInt32.toUInt16.toUInt32.toInt32 := by
  have h1 := c_i2c x
  have h2 := c_i2c x.toUInt32.toUInt16.toUInt32.toInt32
  rw [← Int32.toInt_inj]
  omega
def own_bf (G : Nat → Int32) : Nat → Value := fun i => .int (G i)
def own_up (G : Nat → Int32) (i : Nat) (x : Int32) : Nat → Int32 := fun j => if j = i then x else G j
theorem own_bfA {Z : State} {h : Heap} {a : Addr} {n i : Nat} {G : Nat → Int32} {x : Int32} (A : Arf Z h a .byte n (updV (own_bf G) i (.int x))) : Arf Z h a .byte n (own_bf (own_up G i x)) :=
  A.congr (fun j _ => by unfold updV own_bf own_up; split <;> rfl)
def own_der (G : Nat → Int32) : Prop := ∀ i, -128 ≤ (G i).toInt ∧ (G i).toInt ≤ 127
theorem own_der0 : own_der (fun _ => 0) := fun _ => (by decide : -128 ≤ (0 : Int32).toInt ∧ (0 : Int32).toInt ≤ 127)
theorem own_derU {G : Nat → Int32} {i : Nat} {x : Int32} (h : own_der G) (hx : -128 ≤ x.toInt ∧ x.toInt ≤ 127) : own_der (own_up G i x) := fun j => by
  unfold own_up
  split
  · exact hx
  · exact h j
theorem own_b8 (x : Int32) : -128 ≤ x.toInt8.toInt32.toInt ∧ x.toInt8.toInt32.toInt ≤ 127 := by have := c_i2b x; omega
theorem own_derF {G : Nat → Int32} (h : own_der G) (i : Nat) : fits .byte (own_bf G i) = true := by
  have q := h i
  have e1 : (-128 : Int32).toInt = -128 := by decide
  have e2 : (127 : Int32).toInt = 127 := by decide
  simp only [own_bf, fits, Bool.and_eq_true, decide_eq_true_eq, Int32.le_iff_toInt_le, e1, e2]
  exact q
theorem own_at {j : Int32} {P : Nat} (h : j.toInt = (P : Int)) : j.toNatClampNeg = P := by
  show j.toInt.toNat = P
  rw [h]; rfl
theorem own_nn {j : Int32} {P : Nat} (h : j.toInt = (P : Int)) : ¬ j < 0 := by
  have e : (0 : Int32).toInt = 0 := by decide
  rw [Int32.lt_iff_toInt_lt, h, e]; omega
theorem own_rg (x : Int32) : -2147483648 ≤ x.toInt ∧ x.toInt < 2147483648 := ⟨Int32.le_toInt x, Int32.toInt_lt x⟩
theorem own_ad {a b : Int32} {A B : Nat} (ha : a.toInt = (A : Int)) (hb : b.toInt = (B : Int)) (h : A + B < 2147483648) : (a + b).toInt = ((A + B : Nat) : Int) := by
  have q := c_iadd a b
  have r := own_rg (a + b)
  rw [ha, hb] at q
  omega
theorem own_sbN {a b : Int32} {A B : Nat} (ha : a.toInt = (A : Int)) (hb : b.toInt = (B : Int)) (h : B ≤ A) : (a - b).toInt = ((A - B : Nat) : Int) := by
  have q := c_isub a b
  have r := own_rg (a - b)
  have r' := own_rg a
  rw [ha, hb] at q
  rw [ha] at r'
  omega
theorem own_sb1 {a : Int32} {A : Nat} (ha : a.toInt = (A : Int)) (h : 1 ≤ A) : (a - (1 : Int32)).toInt = ((A - 1 : Nat) : Int) := own_sbN ha (B := 1) (by decide) h
theorem own_ltN {a b : Int32} {A B : Nat} (q : a < b) (ha : a.toInt = (A : Int)) (hb : b.toInt = (B : Int)) : A < B := by
  rw [Int32.lt_iff_toInt_lt, ha, hb] at q; omega
theorem own_ltI {a b : Int32} {A B : Nat} (ha : a.toInt = (A : Int)) (hb : b.toInt = (B : Int)) (h : A < B) : a < b := by
  rw [Int32.lt_iff_toInt_lt, ha, hb]; omega
theorem own_nlt {a b : Int32} {A B : Nat} (ha : a.toInt = (A : Int)) (hb : b.toInt = (B : Int)) (h : B ≤ A) : ¬ a < b := by
  rw [Int32.lt_iff_toInt_lt, ha, hb]; omega
theorem own_neN {a b : Int32} {A B : Nat} (ha : a.toInt = (A : Int)) (hb : b.toInt = (B : Int)) (h : A ≠ B) : ¬ a = b := by
  rw [← Int32.toInt_inj, ha, hb]; omega
theorem own_ltne {a b : Int32} {A B : Nat} (q : ¬ a = b) (ha : a.toInt = (A : Int)) (hb : b.toInt = (B : Int)) (h : B ≤ A) : B < A := by
  rw [← Int32.toInt_inj, ha, hb] at q; omega
theorem own_toI {s : Int32} {SS : Nat} (h : s.toInt = (SS : Int)) : SS.toInt32 = s := by
  have r := own_rg s
  rw [← Int32.toInt_inj, h]
  show (Int32.ofNat SS).toInt = _
  exact Int32.toInt_ofNat_of_lt (by omega)
theorem own_sa : ∀ a ∈ Bundle.stringAtoms, a ∈ tables_1 := by decide +kernel
theorem own_EW {Z : State} {a0 : Array Value} (hw : ∀ d ∈ tables_1, d.before a0 Z = true) : EW Z a0 EL := EW.cons (hw _ (List.mem_of_getElem? (i := 48) rfl)) (by decide) (EW.cons (hw _ (List.mem_of_getElem? (i := 97) rfl)) (by decide) (EW.cons (hw _ (List.mem_of_getElem? (i := 103) rfl)) (by decide) (EW.cons (hw _ (List.mem_of_getElem? (i := 104) rfl)) (by decide) (EW.cons (hw _ (List.mem_of_getElem? (i := 18) rfl)) (by decide) (EW.nil)))))
def own_ln (cod : Int32) (n : Nat) : Nat := if cod = 0 then n else 2 * n
theorem own_ln0 {Z : State} {h : Heap} {a : Addr} {n : Nat} {f : Nat → Value} (A : Arf Z h a .byte (own_ln 0 n) f) : Arf Z h a .byte n f := A
theorem own_ln1 {Z : State} {h : Heap} {a : Addr} {n : Nat} {f : Nat → Value} (A : Arf Z h a .byte (own_ln 1 n) f) : Arf Z h a .byte (2 * n) f := A
def own_il (cod : Int32) : Int32 := if cod = 0 then 1 else 0
theorem own_narb {c : Int32} (h : c = 0 ∨ c = 1) : narrow .byte (.int c) = .int c := by rcases h with rfl | rfl <;> rfl
theorem own_narc (x : Int32) : narrow .char (.int x.toUInt32.toUInt16.toUInt32.toInt32) = .int x.toUInt32.toUInt16.toUInt32.toInt32 := congrArg Value.int (own_i2c x)
def own_gc (x y : Int32) : Int32 := (((((x &&& (255 : Int32)) <<< ((0 : Int32) &&& 31)) ||| ((y &&& (255 : Int32)) <<< ((8 : Int32) &&& 31))).toUInt32.toUInt16.toUInt32.toInt32))
theorem own_nargc (x y : Int32) : narrow .char (.int (own_gc x y)) = .int (own_gc x y) := own_narc _
theorem own_i255 (x : Int32) : (x &&& (255 : Int32)).toUInt32.toUInt16.toUInt32.toInt32 = (x &&& (255 : Int32)) := by
  have h1 := c_mask x 255 8 (by decide) (by decide)
  have h2 := c_i2c (x &&& 255)
  have p : (2 ^ 8 : Nat) = 256 := by decide
  rw [p] at h1
  rw [← Int32.toInt_inj]
  omega
theorem own_nar255 (x : Int32) : narrow .char (.int (x &&& (255 : Int32))) = .int (x &&& (255 : Int32)) := by
  have h := own_narc (x &&& (255 : Int32))
  rw [own_i255] at h
  exact h
def own_dec (cod : Int32) (G : Nat → Int32) (i : Nat) : Int32 := if cod = 0 then (G i &&& (255 : Int32)) else own_gc (G (2 * i)) (G (2 * i + 1))
theorem own_tn {n : Nat} (h : n < 2147483648) : (Nat.toInt32 n).toInt = (n : Int) := Int32.toInt_ofNat_of_lt h
theorem own_sr0 {n : Nat} (h : n ≤ 16) : (Nat.toInt32 n >>> ((0 : Int32) &&& 31)) = Nat.toInt32 n := by
  have h1 := c_ishr (Nat.toInt32 n) 0 0 (by decide)
  have p : (2 ^ 0 : Nat) = 1 := by decide
  rw [p] at h1
  rw [← Int32.toInt_inj]
  omega
theorem own_sr1 {n : Nat} (h : n ≤ 16) : (Nat.toInt32 (2 * n) >>> ((1 : Int32) &&& 31)) = Nat.toInt32 n := by
  have h1 := c_ishr (Nat.toInt32 (2 * n)) 1 1 (by decide)
  have p : (2 ^ 1 : Nat) = 2 := by decide
  rw [p, own_tn (by omega)] at h1
  rw [← Int32.toInt_inj, own_tn (by omega)]
  omega
theorem own_sl1 {i : Int32} {I : Nat} (hi : i.toInt = (I : Int)) (h : I ≤ 100) : (i <<< ((1 : Int32) &&& 31)).toInt = ((2 * I : Nat) : Int) := by
  have h1 := c_ishl i 1 1 (by decide)
  have p : (2 ^ 1 : Nat) = 2 := by decide
  rw [p, hi] at h1
  have r := own_rg (i <<< ((1 : Int32) &&& 31))
  omega
theorem own_bo {p q z : Int32} {P M N : Nat} (hp : p.toInt = (P : Int)) (hq : q.toInt = (M : Int)) (hz : z.toInt = (N : Int)) : ¬ ((z ||| p) ||| q) < 0 := by
  have e : (0 : Int32).toInt = 0 := by decide
  have h1 := (c_orS z p).1 (by omega) (by omega)
  have h2 := (c_orS (z ||| p) q).1 h1 (by omega)
  rw [Int32.lt_iff_toInt_lt, e]
  omega
theorem own_bs {p q z : Int32} {P M N : Nat} (hp : p.toInt = (P : Int)) (hq : q.toInt = (M : Int)) (hz : z.toInt = (N : Int)) (hN : P ≤ N) (h : P + M ≤ N) : ¬ (z - p) < q := own_nlt (own_sbN hz hp hN) hq (by omega)
def own_pc (G : Nat → Int32) (I : Nat) (c : Int32) : Nat → Int32 := own_up (own_up G (2 * I) ((c >>> ((0 : Int32) &&& 31)).toInt8.toInt32)) (2 * I + 1) ((c >>> ((8 : Int32) &&& 31)).toInt8.toInt32)
theorem own_derP {G : Nat → Int32} {I : Nat} {c : Int32} (h : own_der G) : own_der (own_pc G I c) := own_derU (own_derU h (own_b8 _)) (own_b8 _)
theorem own_derL (l : List Int32) (h : ∀ x ∈ l, -128 ≤ x.toInt ∧ x.toInt ≤ 127) : own_der (fun i => l.getD i 0) := fun i => by
  show -128 ≤ (l.getD i 0).toInt ∧ (l.getD i 0).toInt ≤ 127
  rw [List.getD_eq_getElem?_getD]
  cases q : l[i]? with
  | none => decide
  | some x => exact h x (List.mem_of_getElem? q)
def own_ch (c : Int32) : Prop := 0 ≤ c.toInt ∧ c.toInt < 65536
def own_li (l : List Int32) (i : Nat) : Int32 := l.getD i 0
theorem own_by {x : Int32} : (x.toInt8.toInt32 &&& (255 : Int32)).toInt = x.toInt % 256 := by
  have h1 := c_mask x.toInt8.toInt32 255 8 (by decide) (by decide)
  have h2 := c_i2b x
  have p : (2 ^ 8 : Nat) = 256 := by decide
  rw [p] at h1
  omega
theorem own_gcp {c : Int32} (h : own_ch c) : own_gc ((c >>> ((0 : Int32) &&& 31)).toInt8.toInt32) ((c >>> ((8 : Int32) &&& 31)).toInt8.toInt32) = c := by
  obtain ⟨h1, h2⟩ := h
  have p0 : (2 ^ 0 : Nat) = 1 := by decide
  have p8 : (2 ^ 8 : Nat) = 256 := by decide
  have a0 := c_ishr c 0 0 (by decide)
  have a8 := c_ishr c 8 8 (by decide)
  rw [p0] at a0
  rw [p8] at a8
  have b0 := own_by (x := (c >>> ((0 : Int32) &&& 31)))
  have b8 := own_by (x := (c >>> ((8 : Int32) &&& 31)))
  unfold own_gc
  generalize (((c >>> ((0 : Int32) &&& 31)).toInt8.toInt32) &&& (255 : Int32)) = u at b0 ⊢
  generalize (((c >>> ((8 : Int32) &&& 31)).toInt8.toInt32) &&& (255 : Int32)) = v at b8 ⊢
  have s0 := c_ishl u 0 0 (by decide)
  have s8 := c_ishl v 8 8 (by decide)
  rw [p0] at s0
  rw [p8] at s8
  have r0 := own_rg (u <<< ((0 : Int32) &&& 31))
  have r8 := own_rg (v <<< ((8 : Int32) &&& 31))
  have o := c_or' (u <<< ((0 : Int32) &&& 31)) (v <<< ((8 : Int32) &&& 31)) 8 (by decide) 256 (by decide) (by omega) (by omega) (by omega)
  generalize ((u <<< ((0 : Int32) &&& 31)) ||| (v <<< ((8 : Int32) &&& 31))) = z at o ⊢
  have rz := own_rg z
  have i := c_i2c z
  rw [← Int32.toInt_inj]
  omega
theorem own_decP {G : Nat → Int32} {I J : Nat} {c : Int32} (h : own_ch c) : own_dec 1 (own_pc G I c) J = if J = I then c else own_dec 1 G J := by
  have e : ¬ ((1 : Int32) = 0) := by decide
  unfold own_dec
  rw [if_neg e, if_neg e]
  by_cases q : J = I
  · subst q
    rw [if_pos rfl]
    have q1 : own_pc G J c (2 * J) = ((c >>> ((0 : Int32) &&& 31)).toInt8.toInt32) := by unfold own_pc own_up; rw [if_neg (by omega), if_pos rfl]
    have q2 : own_pc G J c (2 * J + 1) = ((c >>> ((8 : Int32) &&& 31)).toInt8.toInt32) := by unfold own_pc own_up; rw [if_pos rfl]
    rw [q1, q2]
    exact own_gcp h
  · rw [if_neg q]
    have q1 : own_pc G I c (2 * J) = G (2 * J) := by unfold own_pc own_up; rw [if_neg (by omega), if_neg (by omega)]
    have q2 : own_pc G I c (2 * J + 1) = G (2 * J + 1) := by unfold own_pc own_up; rw [if_neg (by omega), if_neg (by omega)]
    rw [q1, q2]
theorem own_tb1 {c0 : Int32} (hk0 : own_ch c0) (i : Nat) (hi : i < 1) : own_dec 1 (own_pc (fun _ => 0) 0 c0) i = own_li [c0] i := by
  rw [own_decP hk0]
  match i, hi with
  | 0, _ => rfl
theorem own_tb2 {c0 c1 : Int32} (hk0 : own_ch c0) (hk1 : own_ch c1) (i : Nat) (hi : i < 2) : own_dec 1 (own_pc (own_pc (fun _ => 0) 0 c0) 1 c1) i = own_li [c0, c1] i := by
  rw [own_decP hk1, own_decP hk0]
  match i, hi with
  | 0, _ => rfl
  | 1, _ => rfl
theorem own_tb3 {c0 c1 c2 : Int32} (hk0 : own_ch c0) (hk1 : own_ch c1) (hk2 : own_ch c2) (i : Nat) (hi : i < 3) : own_dec 1 (own_pc (own_pc (own_pc (fun _ => 0) 0 c0) 1 c1) 2 c2) i = own_li [c0, c1, c2] i := by
  rw [own_decP hk2, own_decP hk1, own_decP hk0]
  match i, hi with
  | 0, _ => rfl
  | 1, _ => rfl
  | 2, _ => rfl
theorem own_l8 {c : Int32} (hp : ¬ ((255 : Int32) < c)) (h : own_ch c) : (c.toInt8.toInt32 &&& (255 : Int32)) = c := by
  have e : (255 : Int32).toInt = 255 := by decide
  rw [Int32.lt_iff_toInt_lt, e] at hp
  have b := own_by (x := c)
  obtain ⟨h1, h2⟩ := h
  rw [← Int32.toInt_inj]
  omega
theorem own_lt1 {c0 : Int32} (hp0 : ¬ ((255 : Int32) < c0)) (hk0 : own_ch c0) (i : Nat) (hi : i < 1) : own_dec 0 (own_li [(c0.toInt8.toInt32)]) i = own_li [c0] i := by
  match i, hi with
  | 0, _ => exact own_l8 hp0 hk0
theorem own_lt2 {c0 c1 : Int32} (hp0 : ¬ ((255 : Int32) < c0)) (hk0 : own_ch c0) (hp1 : ¬ ((255 : Int32) < c1)) (hk1 : own_ch c1) (i : Nat) (hi : i < 2) : own_dec 0 (own_li [(c0.toInt8.toInt32), (c1.toInt8.toInt32)]) i = own_li [c0, c1] i := by
  match i, hi with
  | 0, _ => exact own_l8 hp0 hk0
  | 1, _ => exact own_l8 hp1 hk1
theorem own_lt3 {c0 c1 c2 : Int32} (hp0 : ¬ ((255 : Int32) < c0)) (hk0 : own_ch c0) (hp1 : ¬ ((255 : Int32) < c1)) (hk1 : own_ch c1) (hp2 : ¬ ((255 : Int32) < c2)) (hk2 : own_ch c2) (i : Nat) (hi : i < 3) : own_dec 0 (own_li [(c0.toInt8.toInt32), (c1.toInt8.toInt32), (c2.toInt8.toInt32)]) i = own_li [c0, c1, c2] i := by
  match i, hi with
  | 0, _ => exact own_l8 hp0 hk0
  | 1, _ => exact own_l8 hp1 hk1
  | 2, _ => exact own_l8 hp2 hk2
def own_small (z : Int32) (n : Nat) : Prop := (z = 0 ∧ n = 0) ∨ (z = 1 ∧ n = 1) ∨ (z = 2 ∧ n = 2) ∨ (z = 3 ∧ n = 3)
theorem own_s3 {z : Int32} (h : z = 0 ∨ z = 1 ∨ z = 2 ∨ z = 3) (h0 : ¬ z = 0) (h1 : ¬ z = 1) (h2 : ¬ z = 2) : own_small z 3 := by
  rcases h with h | h | h | h
  · exact absurd h h0
  · exact absurd h h1
  · exact absurd h h2
  · exact Or.inr (Or.inr (Or.inr ⟨h, rfl⟩))
theorem own_der8 {l : List Int32} : own_der (own_li (l.map fun x => x.toInt8.toInt32)) := own_derL _ (fun x hx => by
  obtain ⟨y, -, rfl⟩ := List.mem_map.mp hx
  exact own_b8 y)
def own_chf (p1 : Int64) (p2 : Int32) : Int32 := (((((p1.toUInt64 >>> (((16 : Int32) * p2) &&& 0x3f).toInt64.toUInt64).toInt64) &&& (65535 : Int64)).toInt32).toUInt32.toUInt16.toUInt32.toInt32)
theorem own_narch (x : Int64) (k : Int32) : narrow .char (.int (own_chf x k)) = .int (own_chf x k) := own_narc _
def own_exp (i : Int32) (a b : Int64) (nl : Int32) : Int32 := (if i = (0 : Int32) then (103 : Int32) else (if i = (1 : Int32) then (97 : Int32) else (if i = (2 : Int32) then (116 : Int32) else (if i = (3 : Int32) then (101 : Int32) else (if i = (4 : Int32) then (32 : Int32) else (if i < ((5 : Int32) + nl) then (own_chf a (i - (5 : Int32))) else (if i = ((5 : Int32) + nl) then (58 : Int32) else (if i = ((6 : Int32) + nl) then (32 : Int32) else (own_chf b ((i - (7 : Int32)) - nl))))))))))
def own_mn (p1 p2 : Int32) : Int32 := (if p2 < p1 then p2 else p1)
theorem own_chr (x : Int64) (k : Int32) : own_ch (own_chf x k) := (c_i2c _).2
theorem own_chi (x : Int64) (k : Int32) : (own_chf x k).toUInt32.toUInt16.toUInt32.toInt32 = own_chf x k := own_i2c _
theorem own_lc0 {x : Int64} (i : Nat) (hi : i < 0) : own_li [] i = own_chf x (Nat.toInt32 i) := absurd hi (Nat.not_lt_zero _)
theorem own_lc1 {x : Int64} (i : Nat) (hi : i < 1) : own_li [own_chf x 0] i = own_chf x (Nat.toInt32 i) := by
  match i, hi with
  | 0, _ => rfl
theorem own_lc2 {x : Int64} (i : Nat) (hi : i < 2) : own_li [own_chf x 0, own_chf x 1] i = own_chf x (Nat.toInt32 i) := by
  match i, hi with
  | 0, _ => rfl
  | 1, _ => rfl
theorem own_lc3 {x : Int64} (i : Nat) (hi : i < 3) : own_li [own_chf x 0, own_chf x 1, own_chf x 2] i = own_chf x (Nat.toInt32 i) := by
  match i, hi with
  | 0, _ => rfl
  | 1, _ => rfl
  | 2, _ => rfl

theorem own_le16 {m : Int32} {MM : Nat} (hm : m.toInt = (MM : Int)) (hM : MM ≤ 16) : ¬ ((0 : Int32) < (m - (16 : Int32))) := by
  have e : (0 : Int32).toInt = 0 := by decide
  have e' : (16 : Int32).toInt = 16 := by decide
  have h := c_isub m 16
  have r := own_rg (m - 16)
  rw [hm, e'] at h
  rw [Int32.lt_iff_toInt_lt, e]
  omega
theorem own_ch255 (x : Int32) : own_ch (x &&& (255 : Int32)) := by
  have h1 := c_mask x 255 8 (by decide) (by decide)
  have p : (2 ^ 8 : Nat) = 256 := by decide
  rw [p] at h1
  unfold own_ch
  omega
theorem own_lp1 {G G3 : Nat → Int32} {D I : Nat} (P1 : ∀ i, i < I → own_dec 1 G3 (D + i) = (G i &&& (255 : Int32))) : ∀ i, i < I + 1 → own_dec 1 (own_pc G3 (D + I) (G I &&& (255 : Int32))) (D + i) = (G i &&& (255 : Int32)) := fun i hi => by
  rw [own_decP (own_ch255 _)]
  by_cases q : i = I
  · rw [q, if_pos rfl]
  · rw [if_neg (by omega)]
    exact P1 i (by omega)
theorem own_lp2 {G2 G3 : Nat → Int32} {D I : Nat} {c : Int32} (P2 : ∀ i, i < D → own_dec 1 G3 i = own_dec 1 G2 i) : ∀ i, i < D → own_dec 1 (own_pc G3 (D + I) (c &&& (255 : Int32))) i = own_dec 1 G2 i := fun i hi => by
  rw [own_decP (own_ch255 _), if_neg (by omega)]
  exact P2 i hi
theorem own_z0 {G G2 : Nat → Int32} {k : Nat} (P : ∀ i, i < k → own_dec 1 G2 (0 + i) = (G i &&& (255 : Int32))) : ∀ i, i < k → own_dec 1 G2 i = own_dec 0 G i := fun i hi => by
  have q := P i hi
  rw [Nat.zero_add] at q
  exact q
theorem own_sl0 {i : Int32} {I : Nat} (hi : i.toInt = (I : Int)) (h : I ≤ 100) : (i <<< ((0 : Int32) &&& 31)).toInt = ((I : Nat) : Int) := by
  have h1 := c_ishl i 0 0 (by decide)
  have p : (2 ^ 0 : Nat) = 1 := by decide
  rw [p, hi] at h1
  have r := own_rg (i <<< ((0 : Int32) &&& 31))
  omega
def own_cpG (G1 G : Nat → Int32) (D M : Nat) : Nat → Int32 := fun i => if i < D then G i else if i < D + M then G1 (0 + (i - D)) else G i
theorem own_cpA {Z : State} {h : Heap} {a : Addr} {n D M : Nat} {G1 G : Nat → Int32} (A : Arf Z h a .byte n (own_cpy (own_bf G1) (own_bf G) 0 D M)) : Arf Z h a .byte n (own_bf (own_cpG G1 G D M)) := A.congr (fun i _ => by
  unfold own_cpy own_bf own_cpG
  split
  · rfl
  · split <;> rfl)
theorem own_cpW {Z : State} {h : Heap} {a : Addr} {M : Nat} {G1 : Nat → Int32} {g : Nat → Value} (A : Arf Z h a .byte M (own_cpy (own_bf G1) g 0 0 M)) : Arf Z h a .byte M (own_bf G1) := A.congr (fun i hi => by
  unfold own_cpy
  rw [if_neg (by omega), if_pos (by omega)]
  unfold own_bf
  rw [show 0 + (i - 0) = i by omega])
theorem own_cpD {G1 G : Nat → Int32} {D M : Nat} (h1 : own_der G1) (h2 : own_der G) : own_der (own_cpG G1 G D M) := fun i => by
  unfold own_cpG
  split
  · exact h2 i
  · split
    · exact h1 _
    · exact h2 i
theorem own_cpx {G1 G : Nat → Int32} {D M j : Nat} (h : j < M) : own_cpG G1 G D M (D + j) = G1 j := by
  unfold own_cpG
  rw [if_neg (by omega), if_pos (by omega), show 0 + (D + j - D) = j by omega]
theorem own_cpy0 {G1 G : Nat → Int32} {D M j : Nat} (h : j < D) : own_cpG G1 G D M j = G j := by
  unfold own_cpG
  rw [if_pos h]
theorem own_dec0 (G : Nat → Int32) (i : Nat) : own_dec 0 G i = (G i &&& (255 : Int32)) := rfl
theorem own_dec1 (G : Nat → Int32) (i : Nat) : own_dec 1 G i = own_gc (G (2 * i)) (G (2 * i + 1)) := rfl
theorem own_cp0 {G1 G : Nat → Int32} {P n : Nat} (i : Nat) (hi : i < n) : own_dec 0 (own_cpG G1 G P n) (P + i) = own_dec 0 G1 i := by rw [own_dec0, own_dec0, own_cpx hi]
theorem own_cq0 {G1 G : Nat → Int32} {P n : Nat} (i : Nat) (hi : i < P) : own_dec 0 (own_cpG G1 G P n) i = own_dec 0 G i := by rw [own_dec0, own_dec0, own_cpy0 hi]
theorem own_cp1 {G1 G : Nat → Int32} {P n : Nat} (i : Nat) (hi : i < n) : own_dec 1 (own_cpG G1 G (2 * P) (2 * n)) (P + i) = own_dec 1 G1 i := by
  rw [own_dec1, own_dec1, show 2 * (P + i) + 1 = 2 * P + (2 * i + 1) by omega, show 2 * (P + i) = 2 * P + 2 * i by omega, own_cpx (by omega), own_cpx (by omega)]
theorem own_cq1 {G1 G : Nat → Int32} {P n : Nat} (i : Nat) (hi : i < P) : own_dec 1 (own_cpG G1 G (2 * P) (2 * n)) i = own_dec 1 G i := by
  rw [own_dec1, own_dec1, own_cpy0 (by omega), own_cpy0 (by omega)]
theorem own_addN {a b : Nat} : Nat.toInt32 a + Nat.toInt32 b = Nat.toInt32 (a + b) := (Int32.ofNat_add a b).symm
theorem own_sb0 {t : Int32} {M : Nat} (ht : t.toInt = (M : Int)) : (t - (0 : Int32)).toInt = ((M : Nat) : Int) := (own_sbN ht (B := 0) (by decide) (by omega)).trans (by omega)
theorem own_mnl {t z : Int32} {M m : Nat} (hN : (t - (0 : Int32)).toInt = ((M : Nat) : Int)) (hz : z.toInt = (m : Int)) (h : M < m) : own_mn z (t - (0 : Int32)) = (t - (0 : Int32)) := by
  unfold own_mn
  rw [if_pos (own_ltI hN hz h)]
theorem own_and3 (x y : Int32) (h : y = x &&& (3 : Int32)) : y = 0 ∨ y = 1 ∨ y = 2 ∨ y = 3 := by
  have h1 := c_mask x 3 2 (by decide) (by decide)
  rw [← h] at h1
  simp only [← Int32.toInt_inj]
  have e0 : (0 : Int32).toInt = 0 := by decide
  have e1 : (1 : Int32).toInt = 1 := by decide
  have e2 : (2 : Int32).toInt = 2 := by decide
  have e3 : (3 : Int32).toInt = 3 := by decide
  have p : (2 ^ 2 : Nat) = 4 := by decide
  rw [e0, e1, e2, e3]
  rw [p] at h1
  omega
theorem own_sm3 {z : Int32} {n : Nat} (h : own_small z n) : n ≤ 3 := by rcases h with ⟨_, rfl⟩ | ⟨_, rfl⟩ | ⟨_, rfl⟩ | ⟨_, rfl⟩ <;> decide
theorem own_smI {z : Int32} {n : Nat} (h : own_small z n) : z.toInt = (n : Int) := by rcases h with ⟨rfl, rfl⟩ | ⟨rfl, rfl⟩ | ⟨rfl, rfl⟩ | ⟨rfl, rfl⟩ <;> decide
theorem own_len7 {x5 x6 : Int32} {n1 n2 : Nat} (h1 : own_small x5 n1) (h2 : own_small x6 n2) : Nat.toInt32 ((((0 + 5) + n1) + 2) + n2) = (((7 : Int32) + x5) + x6) := by
  have a := own_sm3 h1
  have b := own_sm3 h2
  have q := own_ad (own_ad (a := 7) (A := 7) (by decide) (own_smI h1) (by omega)) (own_smI h2) (by omega)
  rw [← Int32.toInt_inj, q, own_tn (by omega)]
  omega
def own_msg (n1 : Nat) (c1 c2 : Nat → Int32) (i : Nat) : Int32 := if i < 5 then ([103, 97, 116, 101, 32] : List Int32).getD i 0 else if i < 5 + n1 then c1 (i - 5) else if i < 7 + n1 then ([58, 32] : List Int32).getD (i - 5 - n1) 0 else c2 (i - 7 - n1)
theorem own_msgL {c1 c2 c3 c4 d1 d2 : Int32} {Ga Gb Gc Gd G1 G2 : Nat → Int32} {n1 n2 : Nat}
    (Pa : ∀ i, i < 0 → own_dec c1 Ga i = own_dec 0 (fun _ => 0) i) (Ra : ∀ i, i < 5 → own_dec c1 Ga (0 + i) = own_dec 0 (fun i => ([103, 97, 116, 101, 32] : List Int32).getD i 0) i)
    (Pb : ∀ i, i < 0 + 5 → own_dec c2 Gb i = own_dec c1 Ga i) (Rb : ∀ i, i < n1 → own_dec c2 Gb (0 + 5 + i) = own_dec d1 G1 i)
    (Pc : ∀ i, i < 0 + 5 + n1 → own_dec c3 Gc i = own_dec c2 Gb i) (Rc : ∀ i, i < 2 → own_dec c3 Gc (0 + 5 + n1 + i) = own_dec 0 (fun i => ([58, 32] : List Int32).getD i 0) i)
    (Pd : ∀ i, i < 0 + 5 + n1 + 2 → own_dec c4 Gd i = own_dec c3 Gc i) (Rd : ∀ i, i < n2 → own_dec c4 Gd (0 + 5 + n1 + 2 + i) = own_dec d2 G2 i) :
    ∀ i, i < ((((0 + 5) + n1) + 2) + n2) → own_dec c4 Gd i = own_msg n1 (own_dec d1 G1) (own_dec d2 G2) i := fun i hi => by
  unfold own_msg
  by_cases q1 : i < 5
  · rw [if_pos q1, Pd i (by omega), Pc i (by omega), Pb i (by omega)]
    have z := Ra i q1
    rw [Nat.zero_add] at z
    rw [z]
    match i, q1 with
    | 0, _ => decide
    | 1, _ => decide
    | 2, _ => decide
    | 3, _ => decide
    | 4, _ => decide
  · rw [if_neg q1]
    by_cases q2 : i < 5 + n1
    · rw [if_pos q2, Pd i (by omega), Pc i (by omega)]
      have z := Rb (i - 5) (by omega)
      rw [show 0 + 5 + (i - 5) = i by omega] at z
      exact z
    · rw [if_neg q2]
      by_cases q3 : i < 7 + n1
      · rw [if_pos q3, Pd i (by omega)]
        have z := Rc (i - 5 - n1) (by omega)
        rw [show 0 + 5 + n1 + (i - 5 - n1) = i by omega] at z
        rw [z]
        have w : i - 5 - n1 < 2 := by omega
        generalize i - 5 - n1 = j at w ⊢
        match j, w with
        | 0, _ => decide
        | 1, _ => decide
      · rw [if_neg q3]
        have z := Rd (i - 7 - n1) (by omega)
        rw [show 0 + 5 + n1 + 2 + (i - 7 - n1) = i by omega] at z
        exact z
theorem own_fin {a b : Int64} {x5 i : Int32} {n1 n2 I : Nat} {c1 c2 : Nat → Int32} (sm : own_small x5 n1) (T1 : ∀ i, i < n1 → c1 i = own_chf a (Nat.toInt32 i)) (T2 : ∀ i, i < n2 → c2 i = own_chf b (Nat.toInt32 i)) (hi : i.toInt = (I : Int)) (hI : I < ((((0 + 5) + n1) + 2) + n2)) : own_msg n1 c1 c2 I = own_exp i a b x5 := by
  have h5 := own_smI sm
  have h3 := own_sm3 sm
  have e0 : (0 : Int32).toInt = 0 := by decide
  have e1 : (1 : Int32).toInt = 1 := by decide
  have e2 : (2 : Int32).toInt = 2 := by decide
  have e3 : (3 : Int32).toInt = 3 := by decide
  have e4 : (4 : Int32).toInt = 4 := by decide
  have f5 : ((5 : Int32) + x5).toInt = ((5 + n1 : Nat) : Int) := own_ad (A := 5) (by decide) h5 (by omega)
  have f6 : ((6 : Int32) + x5).toInt = ((6 + n1 : Nat) : Int) := own_ad (A := 6) (by decide) h5 (by omega)
  have hI16 : I < 2147483648 := by have := own_rg i; omega
  have k0 : (i = (0 : Int32)) = (I = 0) := propext (by rw [← Int32.toInt_inj, hi, e0]; omega)
  have k1 : (i = (1 : Int32)) = (I = 1) := propext (by rw [← Int32.toInt_inj, hi, e1]; omega)
  have k2 : (i = (2 : Int32)) = (I = 2) := propext (by rw [← Int32.toInt_inj, hi, e2]; omega)
  have k3 : (i = (3 : Int32)) = (I = 3) := propext (by rw [← Int32.toInt_inj, hi, e3]; omega)
  have k4 : (i = (4 : Int32)) = (I = 4) := propext (by rw [← Int32.toInt_inj, hi, e4]; omega)
  have k5 : (i < ((5 : Int32) + x5)) = (I < 5 + n1) := propext (by rw [Int32.lt_iff_toInt_lt, hi, f5]; omega)
  have k6 : (i = ((5 : Int32) + x5)) = (I = 5 + n1) := propext (by rw [← Int32.toInt_inj, hi, f5]; omega)
  have k7 : (i = ((6 : Int32) + x5)) = (I = 6 + n1) := propext (by rw [← Int32.toInt_inj, hi, f6]; omega)
  unfold own_exp
  simp only [k0, k1, k2, k3, k4, k5, k6, k7]
  unfold own_msg
  by_cases q1 : I < 5
  · rw [if_pos q1]
    match I, q1 with
    | 0, _ => rfl
    | 1, _ => rfl
    | 2, _ => rfl
    | 3, _ => rfl
    | 4, _ => rfl
  · rw [if_neg q1, if_neg (show ¬ I = 0 by omega), if_neg (show ¬ I = 1 by omega), if_neg (show ¬ I = 2 by omega), if_neg (show ¬ I = 3 by omega), if_neg (show ¬ I = 4 by omega)]
    by_cases q2 : I < 5 + n1
    · rw [if_pos q2, if_pos q2, T1 (I - 5) (by omega)]
      congr 1
      rw [← Int32.toInt_inj, own_tn (by omega), own_sbN hi (B := 5) (by decide) (by omega)]
    · rw [if_neg q2, if_neg q2]
      by_cases q3 : I < 7 + n1
      · rw [if_pos q3]
        by_cases q4 : I = 5 + n1
        · rw [if_pos q4, q4, show 5 + n1 - 5 - n1 = 0 by omega]; rfl
        · have q5 : I = 6 + n1 := by omega
          rw [if_neg q4, if_pos q5, q5, show 6 + n1 - 5 - n1 = 1 by omega]; rfl
      · rw [if_neg q3, if_neg (show ¬ I = 5 + n1 by omega), if_neg (show ¬ I = 6 + n1 by omega), T2 (I - 7 - n1) (by omega)]
        congr 1
        rw [← Int32.toInt_inj, own_tn (by omega), own_sbN (own_sbN hi (B := 7) (by decide) (by omega)) h5 (by omega)]
theorem d11_0 : decode jdk_42_method_152_code 0 = .ok (.getstatic 38, 3) := by decide +kernel
theorem d11_3 : decode jdk_42_method_152_code 3 = .ok (.ifCond .eq 10, 3) := by decide +kernel
theorem d11_6 : decode jdk_42_method_152_code 6 = .ok (.aload_n 0, 1) := by decide +kernel
theorem d11_7 : decode jdk_42_method_152_code 7 = .ok (.getfield 15, 3) := by decide +kernel
theorem d11_10 : decode jdk_42_method_152_code 10 = .ok (.goto 4, 3) := by decide +kernel
theorem d11_14 : decode jdk_42_method_152_code 14 = .ok (.ireturn, 1) := by decide +kernel
set_option maxRecDepth 65536 in
set_option maxHeartbeats 40000000 in
theorem rm11 (Z : State) (a0 : Array Value) (hw : ∀ d ∈ tables_1, d.before a0 Z = true) (zC : Int32) (vF : Value) (s1 : Addr) (cod1 : Int32) (h0 : Heap) (n0 : Nat) (Z0 : n0 ≤ h0.size) (S_C : Sta Z h0 "java/lang/String" "COMPACT_STRINGS" "Z" (.int zC)) (S_F : Sta Z h0 "jdk/internal/util/Preconditions" "SIOOBE_FORMATTER" "Ljava/util/function/BiFunction;" vF) (S_AD : Sta Z h0 "java/lang/StringUTF16" "$assertionsDisabled" "Z" (.int (1 : Int32))) (S_HI : Sta Z h0 "java/lang/StringUTF16" "HI_BYTE_SHIFT" "I" (.int (0 : Int32))) (S_LO : Sta Z h0 "java/lang/StringUTF16" "LO_BYTE_SHIFT" "I" (.int (8 : Int32))) (hC : ¬ (zC = (0 : Int32))) (hF : vF = .null ∨ ∃ b, vF = .ref b) (C1 : Fld Z h0 s1 "java/lang/String" "coder" "B" (.int cod1)) (hc1 : cod1 = 0 ∨ cod1 = 1) :
    Con Z n0 (⟨"java/lang/String", "coder", "()B"⟩ : MethodName) jdk_42_method_152_code 1 (some .byte) [] ({ frames := 0, cells := 0, slots := 0, locals := 0 } : Room) #[(.ref s1)] h0 [] (fun v h sp => v = some (.int cod1) ∧ h0 = h) := by
  refine Con.intro (L0 := #[.val (.ref s1)]) ⟨_, own_EW hw⟩ (plainFor_of_name (by first | (simp [plainName, overriddenIn]; done) | decide +kernel)) (fun m => by first | (simp [entryFrame, mkF, argsToLocals, Value.category]; done) | rfl) ?_
  intro C k
  replace k := k.getS d11_0 (host := "") (Or.inl (hw _ (List.mem_of_getElem? (i := 69) rfl))) Via.refl S_C
  replace k := k.ifNo d11_3 (feq hC).1
  replace k := k.aloadN d11_6 rfl rfl
  replace k := k.getF d11_7 (host := "") (Or.inl (hw _ (List.mem_of_getElem? (i := 25) rfl))) Via.refl C1
  replace k := k.goto (pc' := 14) d11_10 (by decide) (by decide)
  exact k.iret d11_14 rfl (by simp) (own_narb hc1) (fun sp hsp => ⟨rfl, rfl⟩) (by decide) (by decide)

theorem d30_0 : decode jdk_42_method_154_code 0 = .ok (.getstatic 38, 3) := by decide +kernel
theorem d30_3 : decode jdk_42_method_154_code 3 = .ok (.ifCond .eq 14, 3) := by decide +kernel
theorem d30_6 : decode jdk_42_method_154_code 6 = .ok (.aload_n 0, 1) := by decide +kernel
theorem d30_7 : decode jdk_42_method_154_code 7 = .ok (.getfield 15, 3) := by decide +kernel
theorem d30_10 : decode jdk_42_method_154_code 10 = .ok (.ifCond .ne 7, 3) := by decide +kernel
theorem d30_13 : decode jdk_42_method_154_code 13 = .ok (.iconst 1, 1) := by decide +kernel
theorem d30_14 : decode jdk_42_method_154_code 14 = .ok (.goto 4, 3) := by decide +kernel
theorem d30_17 : decode jdk_42_method_154_code 17 = .ok (.iconst 0, 1) := by decide +kernel
theorem d30_18 : decode jdk_42_method_154_code 18 = .ok (.ireturn, 1) := by decide +kernel
set_option maxRecDepth 65536 in
set_option maxHeartbeats 40000000 in
theorem rm30 (Z : State) (a0 : Array Value) (hw : ∀ d ∈ tables_1, d.before a0 Z = true) (zC : Int32) (vF : Value) (s1 : Addr) (cod1 : Int32) (h0 : Heap) (n0 : Nat) (Z0 : n0 ≤ h0.size) (S_C : Sta Z h0 "java/lang/String" "COMPACT_STRINGS" "Z" (.int zC)) (S_F : Sta Z h0 "jdk/internal/util/Preconditions" "SIOOBE_FORMATTER" "Ljava/util/function/BiFunction;" vF) (S_AD : Sta Z h0 "java/lang/StringUTF16" "$assertionsDisabled" "Z" (.int (1 : Int32))) (S_HI : Sta Z h0 "java/lang/StringUTF16" "HI_BYTE_SHIFT" "I" (.int (0 : Int32))) (S_LO : Sta Z h0 "java/lang/StringUTF16" "LO_BYTE_SHIFT" "I" (.int (8 : Int32))) (hC : ¬ (zC = (0 : Int32))) (hF : vF = .null ∨ ∃ b, vF = .ref b) (C1 : Fld Z h0 s1 "java/lang/String" "coder" "B" (.int cod1)) (hc1 : cod1 = 0 ∨ cod1 = 1) :
    Con Z n0 (⟨"java/lang/String", "isLatin1", "()Z"⟩ : MethodName) jdk_42_method_154_code 1 (some .boolean) [] ({ frames := 0, cells := 0, slots := 0, locals := 0 } : Room) #[(.ref s1)] h0 [] (fun v h sp => v = some (.int (own_il cod1)) ∧ h0 = h) := by
  refine Con.intro (L0 := #[.val (.ref s1)]) ⟨_, own_EW hw⟩ (plainFor_of_name (by first | (simp [plainName, overriddenIn]; done) | decide +kernel)) (fun m => by first | (simp [entryFrame, mkF, argsToLocals, Value.category]; done) | rfl) ?_
  intro C k
  rcases hc1 with rfl | rfl
  · skip
    replace k := k.getS d30_0 (host := "") (Or.inl (hw _ (List.mem_of_getElem? (i := 69) rfl))) Via.refl S_C
    replace k := k.ifNo d30_3 (feq hC).1
    replace k := k.aloadN d30_6 rfl rfl
    replace k := k.getF d30_7 (host := "") (Or.inl (hw _ (List.mem_of_getElem? (i := 25) rfl))) Via.refl C1
    replace k := k.ifNo d30_10 (by decide)
    replace k := k.iconst (1 : Int32) d30_13 rfl
    replace k := k.goto (pc' := 18) d30_14 (by decide) (by decide)
    exact k.iret d30_18 rfl (by simp) rfl (fun sp hsp => ⟨rfl, rfl⟩) (by decide) (by decide)
  · skip
    replace k := k.getS d30_0 (host := "") (Or.inl (hw _ (List.mem_of_getElem? (i := 69) rfl))) Via.refl S_C
    replace k := k.ifNo d30_3 (feq hC).1
    replace k := k.aloadN d30_6 rfl rfl
    replace k := k.getF d30_7 (host := "") (Or.inl (hw _ (List.mem_of_getElem? (i := 25) rfl))) Via.refl C1
    replace k := k.ifYes (pc' := 17) d30_10 (by decide) (by decide) (by decide)
    replace k := k.iconst (0 : Int32) d30_17 rfl
    exact k.iret d30_18 rfl (by simp) rfl (fun sp hsp => ⟨rfl, rfl⟩) (by decide) (by decide)

theorem d10_0 : decode jdk_42_method_54_code 0 = .ok (.aload_n 0, 1) := by decide +kernel
theorem d10_1 : decode jdk_42_method_54_code 1 = .ok (.getfield 9, 3) := by decide +kernel
theorem d10_4 : decode jdk_42_method_54_code 4 = .ok (.arraylength, 1) := by decide +kernel
theorem d10_5 : decode jdk_42_method_54_code 5 = .ok (.aload_n 0, 1) := by decide +kernel
theorem d10_6 : decode jdk_42_method_54_code 6 = .ok (.invokevirtual 335, 3) := by decide +kernel
theorem d10_9 : decode jdk_42_method_54_code 9 = .ok (.ishr, 1) := by decide +kernel
theorem d10_10 : decode jdk_42_method_54_code 10 = .ok (.ireturn, 1) := by decide +kernel
set_option maxRecDepth 65536 in
set_option maxHeartbeats 40000000 in
theorem rm10 (Z : State) (a0 : Array Value) (hw : ∀ d ∈ tables_1, d.before a0 Z = true) (zC : Int32) (vF : Value) (s1 t1 : Addr) (cod1 : Int32) (n1 : Nat) (G1 : Nat → Int32) (h0 : Heap) (n0 : Nat) (Z0 : n0 ≤ h0.size) (S_C : Sta Z h0 "java/lang/String" "COMPACT_STRINGS" "Z" (.int zC)) (S_F : Sta Z h0 "jdk/internal/util/Preconditions" "SIOOBE_FORMATTER" "Ljava/util/function/BiFunction;" vF) (S_AD : Sta Z h0 "java/lang/StringUTF16" "$assertionsDisabled" "Z" (.int (1 : Int32))) (S_HI : Sta Z h0 "java/lang/StringUTF16" "HI_BYTE_SHIFT" "I" (.int (0 : Int32))) (S_LO : Sta Z h0 "java/lang/StringUTF16" "LO_BYTE_SHIFT" "I" (.int (8 : Int32))) (hC : ¬ (zC = (0 : Int32))) (hF : vF = .null ∨ ∃ b, vF = .ref b) (E1 : Exa Z h0 s1 "java/lang/String") (C1 : Fld Z h0 s1 "java/lang/String" "coder" "B" (.int cod1)) (V1 : Fld Z h0 s1 "java/lang/String" "value" "[B" (.ref t1)) (A1 : Arf Z h0 t1 .byte (own_ln cod1 n1) (own_bf G1)) (D1 : own_der G1) (hc1 : cod1 = 0 ∨ cod1 = 1) (hn1 : n1 ≤ 16) :
    Con Z n0 (⟨"java/lang/String", "length", "()I"⟩ : MethodName) jdk_42_method_54_code 1 (some .int) [] ({ frames := 1, cells := 0, slots := 0, locals := 13 } : Room) #[(.ref s1)] h0 [] (fun v h sp => v = some (.int (Nat.toInt32 n1)) ∧ h0 = h) := by
  refine Con.intro (L0 := #[.val (.ref s1)]) ⟨_, own_EW hw⟩ (plainFor_of_name (by first | (simp [plainName, overriddenIn]; done) | decide +kernel)) (fun m => by first | (simp [entryFrame, mkF, argsToLocals, Value.category]; done) | rfl) ?_
  intro C k
  rcases hc1 with rfl | rfl
  · skip
    replace A1 := own_ln0 A1
    replace k := k.aloadN d10_0 rfl rfl
    replace k := k.getF d10_1 (host := "") (Or.inl (hw _ (List.mem_of_getElem? (i := 24) rfl))) Via.refl V1
    replace k := k.arrlen d10_4 A1 (Nat.toInt32 n1) rfl
    replace k := k.aloadN d10_5 rfl rfl
    obtain ⟨_, _, sp6, ⟨rfl, rfl⟩, k⟩ := k.callV (y := (⟨"java/lang/String", "coder", "()B"⟩ : MethodName)) (z := (⟨"java/lang/String", "coder", "()B"⟩ : MethodName)) (a := s1) d10_6 (hw _ (List.mem_of_getElem? (i := 64) rfl)) (hw _ (List.mem_of_getElem? (i := 65) rfl)) (fun s hs => notFace_of_selects (args := #[]) (mvT hs (hw _ (List.mem_of_getElem? (i := 67) rfl)))) (hw _ (List.mem_of_getElem? (i := 67) rfl)) (hw _ (List.mem_of_getElem? (i := 66) rfl)) (hw _ (List.mem_of_getElem? (i := 6) rfl)) (hw _ (List.mem_of_getElem? (i := 68) rfl)) E1 (W := 1) (argsL := []) (rest := [(.int (Nat.toInt32 n1))]) (rm11 Z a0 hw zC vF s1 (0 : Int32) h0 n0 Z0 S_C S_F S_AD S_HI S_LO hC hF C1 (Or.inl rfl)) all0 rfl (pd_0) rfl rfl rfl (by decide) (by decide) (by decide) (by decide) (by decide)
    replace k := (k [] all0).sfx [] rfl
    replace k := k.stk [(.int (0 : Int32)), (.int (Nat.toInt32 n1))] rfl
    replace k := k.ishr d10_9
    replace k := k.stk [(.int (Nat.toInt32 n1))] (by rw [own_sr0 hn1])
    exact k.iret d10_10 rfl (by simp) rfl (fun sp hsp => ⟨rfl, rfl⟩) (by decide) (by decide)
  · skip
    replace A1 := own_ln1 A1
    replace k := k.aloadN d10_0 rfl rfl
    replace k := k.getF d10_1 (host := "") (Or.inl (hw _ (List.mem_of_getElem? (i := 24) rfl))) Via.refl V1
    replace k := k.arrlen d10_4 A1 (Nat.toInt32 (2 * n1)) rfl
    replace k := k.aloadN d10_5 rfl rfl
    obtain ⟨_, _, sp6, ⟨rfl, rfl⟩, k⟩ := k.callV (y := (⟨"java/lang/String", "coder", "()B"⟩ : MethodName)) (z := (⟨"java/lang/String", "coder", "()B"⟩ : MethodName)) (a := s1) d10_6 (hw _ (List.mem_of_getElem? (i := 64) rfl)) (hw _ (List.mem_of_getElem? (i := 65) rfl)) (fun s hs => notFace_of_selects (args := #[]) (mvT hs (hw _ (List.mem_of_getElem? (i := 67) rfl)))) (hw _ (List.mem_of_getElem? (i := 67) rfl)) (hw _ (List.mem_of_getElem? (i := 66) rfl)) (hw _ (List.mem_of_getElem? (i := 6) rfl)) (hw _ (List.mem_of_getElem? (i := 68) rfl)) E1 (W := 1) (argsL := []) (rest := [(.int (Nat.toInt32 (2 * n1)))]) (rm11 Z a0 hw zC vF s1 (1 : Int32) h0 n0 Z0 S_C S_F S_AD S_HI S_LO hC hF C1 (Or.inr rfl)) all0 rfl (pd_0) rfl rfl rfl (by decide) (by decide) (by decide) (by decide) (by decide)
    replace k := (k [] all0).sfx [] rfl
    replace k := k.stk [(.int (1 : Int32)), (.int (Nat.toInt32 (2 * n1)))] rfl
    replace k := k.ishr d10_9
    replace k := k.stk [(.int (Nat.toInt32 n1))] (by rw [own_sr1 hn1])
    exact k.iret d10_10 rfl (by simp) rfl (fun sp hsp => ⟨rfl, rfl⟩) (by decide) (by decide)

theorem d33_0 : decode jdk_41_method_11_code 0 = .ok (.iload_n 0, 1) := by decide +kernel
theorem d33_1 : decode jdk_41_method_11_code 1 = .ok (.ifCond .lt 8, 3) := by decide +kernel
theorem d33_4 : decode jdk_41_method_11_code 4 = .ok (.iload_n 0, 1) := by decide +kernel
theorem d33_5 : decode jdk_41_method_11_code 5 = .ok (.iload_n 1, 1) := by decide +kernel
theorem d33_6 : decode jdk_41_method_11_code 6 = .ok (.if_icmp .lt 10, 3) := by decide +kernel
theorem d33_16 : decode jdk_41_method_11_code 16 = .ok (.iload_n 0, 1) := by decide +kernel
theorem d33_17 : decode jdk_41_method_11_code 17 = .ok (.ireturn, 1) := by decide +kernel
set_option maxRecDepth 65536 in
set_option maxHeartbeats 40000000 in
theorem rm33_N (Z : State) (a0 : Array Value) (hw : ∀ d ∈ tables_1, d.before a0 Z = true) (p1 p2 : Int32) (a3 : Addr) (h0 : Heap) (n0 : Nat) (h1 : ¬ p1 < 0) (h2 : p1 < p2) :
    Con Z n0 (⟨"jdk/internal/util/Preconditions", "checkIndex", "(IILjava/util/function/BiFunction;)I"⟩ : MethodName) jdk_41_method_11_code 3 (some .int) [] ({ frames := 0, cells := 0, slots := 0, locals := 0 } : Room) #[(.int p1), (.int p2), .null] h0 [] (fun v h sp => v = some (.int p1) ∧ h0 = h) := by
  refine Con.intro (L0 := #[.val (.int p1), .val (.int p2), .val .null]) ⟨_, own_EW hw⟩ (plainFor_of_name (by first | (simp [plainName, overriddenIn]; done) | decide +kernel)) (fun m => by first | (simp [entryFrame, mkF, argsToLocals, Value.category]; done) | rfl) ?_
  intro C k
  replace k := k.iloadN d33_0 rfl
  replace k := k.ifNo d33_1 (flt h1).1
  replace k := k.iloadN d33_4 rfl
  replace k := k.iloadN d33_5 rfl
  replace k := k.icmpYes (pc' := 16) d33_6 (tlt h2).1 (by decide) (by decide)
  replace k := k.iloadN d33_16 rfl
  exact k.iret d33_17 rfl (by simp) rfl (fun sp hsp => ⟨rfl, rfl⟩) (by decide) (by decide)

theorem d50_0 : decode jdk_41_method_13_code 0 = .ok (.iload_n 2, 1) := by decide +kernel
theorem d50_1 : decode jdk_41_method_13_code 1 = .ok (.iload_n 0, 1) := by decide +kernel
theorem d50_2 : decode jdk_41_method_13_code 2 = .ok (.ior, 1) := by decide +kernel
theorem d50_3 : decode jdk_41_method_13_code 3 = .ok (.iload_n 1, 1) := by decide +kernel
theorem d50_4 : decode jdk_41_method_13_code 4 = .ok (.ior, 1) := by decide +kernel
theorem d50_5 : decode jdk_41_method_13_code 5 = .ok (.ifCond .lt 10, 3) := by decide +kernel
theorem d50_8 : decode jdk_41_method_13_code 8 = .ok (.iload_n 1, 1) := by decide +kernel
theorem d50_9 : decode jdk_41_method_13_code 9 = .ok (.iload_n 2, 1) := by decide +kernel
theorem d50_10 : decode jdk_41_method_13_code 10 = .ok (.iload_n 0, 1) := by decide +kernel
theorem d50_11 : decode jdk_41_method_13_code 11 = .ok (.isub, 1) := by decide +kernel
theorem d50_12 : decode jdk_41_method_13_code 12 = .ok (.if_icmp .le 11, 3) := by decide +kernel
theorem d50_23 : decode jdk_41_method_13_code 23 = .ok (.iload_n 0, 1) := by decide +kernel
theorem d50_24 : decode jdk_41_method_13_code 24 = .ok (.ireturn, 1) := by decide +kernel
set_option maxRecDepth 65536 in
set_option maxHeartbeats 40000000 in
theorem rm50_N (Z : State) (a0 : Array Value) (hw : ∀ d ∈ tables_1, d.before a0 Z = true) (p1 p2 p3 : Int32) (a3 : Addr) (h0 : Heap) (n0 : Nat) (h1 : ¬ ((p3 ||| p1) ||| p2) < 0) (h2 : ¬ (p3 - p1) < p2) :
    Con Z n0 (⟨"jdk/internal/util/Preconditions", "checkFromIndexSize", "(IIILjava/util/function/BiFunction;)I"⟩ : MethodName) jdk_41_method_13_code 4 (some .int) [] ({ frames := 0, cells := 0, slots := 0, locals := 0 } : Room) #[(.int p1), (.int p2), (.int p3), .null] h0 [] (fun v h sp => v = some (.int p1) ∧ h0 = h) := by
  refine Con.intro (L0 := #[.val (.int p1), .val (.int p2), .val (.int p3), .val .null]) ⟨_, own_EW hw⟩ (plainFor_of_name (by first | (simp [plainName, overriddenIn]; done) | decide +kernel)) (fun m => by first | (simp [entryFrame, mkF, argsToLocals, Value.category]; done) | rfl) ?_
  intro C k
  replace k := k.iloadN d50_0 rfl
  replace k := k.iloadN d50_1 rfl
  replace k := k.ior d50_2
  replace k := k.iloadN d50_3 rfl
  replace k := k.ior d50_4
  replace k := k.ifNo d50_5 (flt h1).1
  replace k := k.iloadN d50_8 rfl
  replace k := k.iloadN d50_9 rfl
  replace k := k.iloadN d50_10 rfl
  replace k := k.isub d50_11
  replace k := k.icmpYes (pc' := 23) d50_12 (flt h2).2.2.2 (by decide) (by decide)
  replace k := k.iloadN d50_23 rfl
  exact k.iret d50_24 rfl (by simp) rfl (fun sp hsp => ⟨rfl, rfl⟩) (by decide) (by decide)

set_option maxRecDepth 65536 in
set_option maxHeartbeats 40000000 in
theorem rm33_R (Z : State) (a0 : Array Value) (hw : ∀ d ∈ tables_1, d.before a0 Z = true) (p1 p2 : Int32) (a3 : Addr) (h0 : Heap) (n0 : Nat) (h1 : ¬ p1 < 0) (h2 : p1 < p2) :
    Con Z n0 (⟨"jdk/internal/util/Preconditions", "checkIndex", "(IILjava/util/function/BiFunction;)I"⟩ : MethodName) jdk_41_method_11_code 3 (some .int) [] ({ frames := 0, cells := 0, slots := 0, locals := 0 } : Room) #[(.int p1), (.int p2), (.ref a3)] h0 [] (fun v h sp => v = some (.int p1) ∧ h0 = h) := by
  refine Con.intro (L0 := #[.val (.int p1), .val (.int p2), .val (.ref a3)]) ⟨_, own_EW hw⟩ (plainFor_of_name (by first | (simp [plainName, overriddenIn]; done) | decide +kernel)) (fun m => by first | (simp [entryFrame, mkF, argsToLocals, Value.category]; done) | rfl) ?_
  intro C k
  replace k := k.iloadN d33_0 rfl
  replace k := k.ifNo d33_1 (flt h1).1
  replace k := k.iloadN d33_4 rfl
  replace k := k.iloadN d33_5 rfl
  replace k := k.icmpYes (pc' := 16) d33_6 (tlt h2).1 (by decide) (by decide)
  replace k := k.iloadN d33_16 rfl
  exact k.iret d33_17 rfl (by simp) rfl (fun sp hsp => ⟨rfl, rfl⟩) (by decide) (by decide)

set_option maxRecDepth 65536 in
set_option maxHeartbeats 40000000 in
theorem rm50_R (Z : State) (a0 : Array Value) (hw : ∀ d ∈ tables_1, d.before a0 Z = true) (p1 p2 p3 : Int32) (a3 : Addr) (h0 : Heap) (n0 : Nat) (h1 : ¬ ((p3 ||| p1) ||| p2) < 0) (h2 : ¬ (p3 - p1) < p2) :
    Con Z n0 (⟨"jdk/internal/util/Preconditions", "checkFromIndexSize", "(IIILjava/util/function/BiFunction;)I"⟩ : MethodName) jdk_41_method_13_code 4 (some .int) [] ({ frames := 0, cells := 0, slots := 0, locals := 0 } : Room) #[(.int p1), (.int p2), (.int p3), (.ref a3)] h0 [] (fun v h sp => v = some (.int p1) ∧ h0 = h) := by
  refine Con.intro (L0 := #[.val (.int p1), .val (.int p2), .val (.int p3), .val (.ref a3)]) ⟨_, own_EW hw⟩ (plainFor_of_name (by first | (simp [plainName, overriddenIn]; done) | decide +kernel)) (fun m => by first | (simp [entryFrame, mkF, argsToLocals, Value.category]; done) | rfl) ?_
  intro C k
  replace k := k.iloadN d50_0 rfl
  replace k := k.iloadN d50_1 rfl
  replace k := k.ior d50_2
  replace k := k.iloadN d50_3 rfl
  replace k := k.ior d50_4
  replace k := k.ifNo d50_5 (flt h1).1
  replace k := k.iloadN d50_8 rfl
  replace k := k.iloadN d50_9 rfl
  replace k := k.iloadN d50_10 rfl
  replace k := k.isub d50_11
  replace k := k.icmpYes (pc' := 23) d50_12 (flt h2).2.2.2 (by decide) (by decide)
  replace k := k.iloadN d50_23 rfl
  exact k.iret d50_24 rfl (by simp) rfl (fun sp hsp => ⟨rfl, rfl⟩) (by decide) (by decide)

theorem d32_0 : decode jdk_42_method_155_code 0 = .ok (.iload_n 0, 1) := by decide +kernel
theorem d32_1 : decode jdk_42_method_155_code 1 = .ok (.iload_n 1, 1) := by decide +kernel
theorem d32_2 : decode jdk_42_method_155_code 2 = .ok (.getstatic 1053, 3) := by decide +kernel
theorem d32_5 : decode jdk_42_method_155_code 5 = .ok (.invokestatic 1059, 3) := by decide +kernel
theorem d32_8 : decode jdk_42_method_155_code 8 = .ok (.pop, 1) := by decide +kernel
theorem d32_9 : decode jdk_42_method_155_code 9 = .ok (.return_, 1) := by decide +kernel
set_option maxRecDepth 65536 in
set_option maxHeartbeats 40000000 in
theorem rm32 (Z : State) (a0 : Array Value) (hw : ∀ d ∈ tables_1, d.before a0 Z = true) (zC : Int32) (vF : Value) (p1 p2 : Int32) (h0 : Heap) (n0 : Nat) (Z0 : n0 ≤ h0.size) (S_C : Sta Z h0 "java/lang/String" "COMPACT_STRINGS" "Z" (.int zC)) (S_F : Sta Z h0 "jdk/internal/util/Preconditions" "SIOOBE_FORMATTER" "Ljava/util/function/BiFunction;" vF) (S_AD : Sta Z h0 "java/lang/StringUTF16" "$assertionsDisabled" "Z" (.int (1 : Int32))) (S_HI : Sta Z h0 "java/lang/StringUTF16" "HI_BYTE_SHIFT" "I" (.int (0 : Int32))) (S_LO : Sta Z h0 "java/lang/StringUTF16" "LO_BYTE_SHIFT" "I" (.int (8 : Int32))) (hC : ¬ (zC = (0 : Int32))) (hF : vF = .null ∨ ∃ b, vF = .ref b) (h1 : ¬ p1 < 0) (h2 : p1 < p2) :
    Con Z n0 (⟨"java/lang/String", "checkIndex", "(II)V"⟩ : MethodName) jdk_42_method_155_code 2 none [] ({ frames := 1, cells := 0, slots := 0, locals := 14 } : Room) #[(.int p1), (.int p2)] h0 [] (fun v h sp => v = none ∧ h0 = h) := by
  refine Con.intro (L0 := #[.val (.int p1), .val (.int p2)]) ⟨_, own_EW hw⟩ (plainFor_of_name (by first | (simp [plainName, overriddenIn]; done) | decide +kernel)) (fun m => by first | (simp [entryFrame, mkF, argsToLocals, Value.category]; done) | rfl) ?_
  intro C k
  rcases hF with rfl | ⟨bF, rfl⟩
  · skip
    replace k := k.iloadN d32_0 rfl
    replace k := k.iloadN d32_1 rfl
    replace k := k.getS d32_2 (host := "") (Or.inl (hw _ (List.mem_of_getElem? (i := 171) rfl))) Via.refl S_F
    obtain ⟨_, _, sp5, ⟨rfl, rfl⟩, k⟩ := k.callS (y := (⟨"jdk/internal/util/Preconditions", "checkIndex", "(IILjava/util/function/BiFunction;)I"⟩ : MethodName)) d32_5 (hw _ (List.mem_of_getElem? (i := 173) rfl)) (hw _ (List.mem_of_getElem? (i := 174) rfl)) (hw _ (List.mem_of_getElem? (i := 172) rfl)) (hw _ (List.mem_of_getElem? (i := 175) rfl)) (W := 0) (argsL := [(.int p1), (.int p2), .null]) (rest := []) (rm33_N Z a0 hw p1 p2 0 h0 n0 h1 h2) all0 rfl (pd_1) rfl rfl rfl (by decide) (by decide) (by decide) (by decide) (by decide)
    replace k := (k [] all0).sfx [] rfl
    replace k := k.stk [(.int p1)] rfl
    replace k := k.pop d32_8 rfl
    exact k.vret d32_9 rfl (fun sp hsp => ⟨rfl, rfl⟩) (by decide) (by decide)
  · skip
    replace k := k.iloadN d32_0 rfl
    replace k := k.iloadN d32_1 rfl
    replace k := k.getS d32_2 (host := "") (Or.inl (hw _ (List.mem_of_getElem? (i := 171) rfl))) Via.refl S_F
    obtain ⟨_, _, sp5, ⟨rfl, rfl⟩, k⟩ := k.callS (y := (⟨"jdk/internal/util/Preconditions", "checkIndex", "(IILjava/util/function/BiFunction;)I"⟩ : MethodName)) d32_5 (hw _ (List.mem_of_getElem? (i := 173) rfl)) (hw _ (List.mem_of_getElem? (i := 174) rfl)) (hw _ (List.mem_of_getElem? (i := 172) rfl)) (hw _ (List.mem_of_getElem? (i := 175) rfl)) (W := 0) (argsL := [(.int p1), (.int p2), (.ref bF)]) (rest := []) (rm33_R Z a0 hw p1 p2 bF h0 n0 h1 h2) all0 rfl (pd_1) rfl rfl rfl (by decide) (by decide) (by decide) (by decide) (by decide)
    replace k := (k [] all0).sfx [] rfl
    replace k := k.stk [(.int p1)] rfl
    replace k := k.pop d32_8 rfl
    exact k.vret d32_9 rfl (fun sp hsp => ⟨rfl, rfl⟩) (by decide) (by decide)

theorem d49_0 : decode jdk_42_method_157_code 0 = .ok (.iload_n 0, 1) := by decide +kernel
theorem d49_1 : decode jdk_42_method_157_code 1 = .ok (.iload_n 1, 1) := by decide +kernel
theorem d49_2 : decode jdk_42_method_157_code 2 = .ok (.iload_n 2, 1) := by decide +kernel
theorem d49_3 : decode jdk_42_method_157_code 3 = .ok (.getstatic 1053, 3) := by decide +kernel
theorem d49_6 : decode jdk_42_method_157_code 6 = .ok (.invokestatic 1065, 3) := by decide +kernel
theorem d49_9 : decode jdk_42_method_157_code 9 = .ok (.ireturn, 1) := by decide +kernel
set_option maxRecDepth 65536 in
set_option maxHeartbeats 40000000 in
theorem rm49 (Z : State) (a0 : Array Value) (hw : ∀ d ∈ tables_1, d.before a0 Z = true) (zC : Int32) (vF : Value) (p1 p2 p3 : Int32) (h0 : Heap) (n0 : Nat) (Z0 : n0 ≤ h0.size) (S_C : Sta Z h0 "java/lang/String" "COMPACT_STRINGS" "Z" (.int zC)) (S_F : Sta Z h0 "jdk/internal/util/Preconditions" "SIOOBE_FORMATTER" "Ljava/util/function/BiFunction;" vF) (S_AD : Sta Z h0 "java/lang/StringUTF16" "$assertionsDisabled" "Z" (.int (1 : Int32))) (S_HI : Sta Z h0 "java/lang/StringUTF16" "HI_BYTE_SHIFT" "I" (.int (0 : Int32))) (S_LO : Sta Z h0 "java/lang/StringUTF16" "LO_BYTE_SHIFT" "I" (.int (8 : Int32))) (hC : ¬ (zC = (0 : Int32))) (hF : vF = .null ∨ ∃ b, vF = .ref b) (h1 : ¬ ((p3 ||| p1) ||| p2) < 0) (h2 : ¬ (p3 - p1) < p2) :
    Con Z n0 (⟨"java/lang/String", "checkBoundsOffCount", "(III)I"⟩ : MethodName) jdk_42_method_157_code 3 (some .int) [] ({ frames := 1, cells := 0, slots := 0, locals := 15 } : Room) #[(.int p1), (.int p2), (.int p3)] h0 [] (fun v h sp => v = some (.int p1) ∧ h0 = h) := by
  refine Con.intro (L0 := #[.val (.int p1), .val (.int p2), .val (.int p3)]) ⟨_, own_EW hw⟩ (plainFor_of_name (by first | (simp [plainName, overriddenIn]; done) | decide +kernel)) (fun m => by first | (simp [entryFrame, mkF, argsToLocals, Value.category]; done) | rfl) ?_
  intro C k
  rcases hF with rfl | ⟨bF, rfl⟩
  · skip
    replace k := k.iloadN d49_0 rfl
    replace k := k.iloadN d49_1 rfl
    replace k := k.iloadN d49_2 rfl
    replace k := k.getS d49_3 (host := "") (Or.inl (hw _ (List.mem_of_getElem? (i := 171) rfl))) Via.refl S_F
    obtain ⟨_, _, sp6, ⟨rfl, rfl⟩, k⟩ := k.callS (y := (⟨"jdk/internal/util/Preconditions", "checkFromIndexSize", "(IIILjava/util/function/BiFunction;)I"⟩ : MethodName)) d49_6 (hw _ (List.mem_of_getElem? (i := 234) rfl)) (hw _ (List.mem_of_getElem? (i := 235) rfl)) (hw _ (List.mem_of_getElem? (i := 172) rfl)) (hw _ (List.mem_of_getElem? (i := 236) rfl)) (W := 0) (argsL := [(.int p1), (.int p2), (.int p3), .null]) (rest := []) (rm50_N Z a0 hw p1 p2 p3 0 h0 n0 h1 h2) all0 rfl (pd_2) rfl rfl rfl (by decide) (by decide) (by decide) (by decide) (by decide)
    replace k := (k [] all0).sfx [] rfl
    replace k := k.stk [(.int p1)] rfl
    exact k.iret d49_9 rfl (by simp) rfl (fun sp hsp => ⟨rfl, rfl⟩) (by decide) (by decide)
  · skip
    replace k := k.iloadN d49_0 rfl
    replace k := k.iloadN d49_1 rfl
    replace k := k.iloadN d49_2 rfl
    replace k := k.getS d49_3 (host := "") (Or.inl (hw _ (List.mem_of_getElem? (i := 171) rfl))) Via.refl S_F
    obtain ⟨_, _, sp6, ⟨rfl, rfl⟩, k⟩ := k.callS (y := (⟨"jdk/internal/util/Preconditions", "checkFromIndexSize", "(IIILjava/util/function/BiFunction;)I"⟩ : MethodName)) d49_6 (hw _ (List.mem_of_getElem? (i := 234) rfl)) (hw _ (List.mem_of_getElem? (i := 235) rfl)) (hw _ (List.mem_of_getElem? (i := 172) rfl)) (hw _ (List.mem_of_getElem? (i := 236) rfl)) (W := 0) (argsL := [(.int p1), (.int p2), (.int p3), (.ref bF)]) (rest := []) (rm50_R Z a0 hw p1 p2 p3 bF h0 n0 h1 h2) all0 rfl (pd_2) rfl rfl rfl (by decide) (by decide) (by decide) (by decide) (by decide)
    replace k := (k [] all0).sfx [] rfl
    replace k := k.stk [(.int p1)] rfl
    exact k.iret d49_9 rfl (by simp) rfl (fun sp hsp => ⟨rfl, rfl⟩) (by decide) (by decide)

theorem d48_0 : decode jdk_52_method_6_code 0 = .ok (.aload_n 0, 1) := by decide +kernel
theorem d48_1 : decode jdk_52_method_6_code 1 = .ok (.arraylength, 1) := by decide +kernel
theorem d48_2 : decode jdk_52_method_6_code 2 = .ok (.iconst 1, 1) := by decide +kernel
theorem d48_3 : decode jdk_52_method_6_code 3 = .ok (.ishr, 1) := by decide +kernel
theorem d48_4 : decode jdk_52_method_6_code 4 = .ok (.ireturn, 1) := by decide +kernel
set_option maxRecDepth 65536 in
set_option maxHeartbeats 40000000 in
theorem rm48 (Z : State) (a0 : Array Value) (hw : ∀ d ∈ tables_1, d.before a0 Z = true) (zC : Int32) (vF : Value) (t1 : Addr) (n1 : Nat) (f1 : Nat → Value) (h0 : Heap) (n0 : Nat) (Z0 : n0 ≤ h0.size) (S_C : Sta Z h0 "java/lang/String" "COMPACT_STRINGS" "Z" (.int zC)) (S_F : Sta Z h0 "jdk/internal/util/Preconditions" "SIOOBE_FORMATTER" "Ljava/util/function/BiFunction;" vF) (S_AD : Sta Z h0 "java/lang/StringUTF16" "$assertionsDisabled" "Z" (.int (1 : Int32))) (S_HI : Sta Z h0 "java/lang/StringUTF16" "HI_BYTE_SHIFT" "I" (.int (0 : Int32))) (S_LO : Sta Z h0 "java/lang/StringUTF16" "LO_BYTE_SHIFT" "I" (.int (8 : Int32))) (hC : ¬ (zC = (0 : Int32))) (hF : vF = .null ∨ ∃ b, vF = .ref b) (A1 : Arf Z h0 t1 .byte (2 * n1) f1) (hn1 : n1 ≤ 16) :
    Con Z n0 (⟨"java/lang/StringUTF16", "length", "([B)I"⟩ : MethodName) jdk_52_method_6_code 1 (some .int) [] ({ frames := 0, cells := 0, slots := 0, locals := 0 } : Room) #[(.ref t1)] h0 [] (fun v h sp => v = some (.int (Nat.toInt32 n1)) ∧ h0 = h) := by
  refine Con.intro (L0 := #[.val (.ref t1)]) ⟨_, own_EW hw⟩ (plainFor_of_name (by first | (simp [plainName, overriddenIn]; done) | decide +kernel)) (fun m => by first | (simp [entryFrame, mkF, argsToLocals, Value.category]; done) | rfl) ?_
  intro C k
  replace k := k.aloadN d48_0 rfl rfl
  replace k := k.arrlen d48_1 A1 (Nat.toInt32 (2 * n1)) rfl
  replace k := k.iconst (1 : Int32) d48_2 rfl
  replace k := k.ishr d48_3
  replace k := k.stk [(.int (Nat.toInt32 n1))] (by rw [own_sr1 hn1])
  exact k.iret d48_4 rfl (by simp) rfl (fun sp hsp => ⟨rfl, rfl⟩) (by decide) (by decide)

theorem d52_0 : decode jdk_52_method_91_code 0 = .ok (.iload_n 0, 1) := by decide +kernel
theorem d52_1 : decode jdk_52_method_91_code 1 = .ok (.aload_n 1, 1) := by decide +kernel
theorem d52_2 : decode jdk_52_method_91_code 2 = .ok (.invokestatic 48, 3) := by decide +kernel
theorem d52_5 : decode jdk_52_method_91_code 5 = .ok (.invokestatic 414, 3) := by decide +kernel
theorem d52_8 : decode jdk_52_method_91_code 8 = .ok (.return_, 1) := by decide +kernel
set_option maxRecDepth 65536 in
set_option maxHeartbeats 40000000 in
theorem rm52 (Z : State) (a0 : Array Value) (hw : ∀ d ∈ tables_1, d.before a0 Z = true) (zC : Int32) (vF : Value) (t1 : Addr) (n1 I : Nat) (i : Int32) (f1 : Nat → Value) (h0 : Heap) (n0 : Nat) (Z0 : n0 ≤ h0.size) (S_C : Sta Z h0 "java/lang/String" "COMPACT_STRINGS" "Z" (.int zC)) (S_F : Sta Z h0 "jdk/internal/util/Preconditions" "SIOOBE_FORMATTER" "Ljava/util/function/BiFunction;" vF) (S_AD : Sta Z h0 "java/lang/StringUTF16" "$assertionsDisabled" "Z" (.int (1 : Int32))) (S_HI : Sta Z h0 "java/lang/StringUTF16" "HI_BYTE_SHIFT" "I" (.int (0 : Int32))) (S_LO : Sta Z h0 "java/lang/StringUTF16" "LO_BYTE_SHIFT" "I" (.int (8 : Int32))) (hC : ¬ (zC = (0 : Int32))) (hF : vF = .null ∨ ∃ b, vF = .ref b) (A1 : Arf Z h0 t1 .byte (2 * n1) f1) (hn1 : n1 ≤ 16) (hi : i.toInt = (I : Int)) (hI : I < n1) :
    Con Z n0 (⟨"java/lang/StringUTF16", "checkIndex", "(I[B)V"⟩ : MethodName) jdk_52_method_91_code 2 none [] ({ frames := 2, cells := 0, slots := 0, locals := 27 } : Room) #[(.int i), (.ref t1)] h0 [] (fun v h sp => v = none ∧ h0 = h) := by
  refine Con.intro (L0 := #[.val (.int i), .val (.ref t1)]) ⟨_, own_EW hw⟩ (plainFor_of_name (by first | (simp [plainName, overriddenIn]; done) | decide +kernel)) (fun m => by first | (simp [entryFrame, mkF, argsToLocals, Value.category]; done) | rfl) ?_
  intro C k
  replace k := k.iloadN d52_0 rfl
  replace k := k.aloadN d52_1 rfl rfl
  obtain ⟨_, _, sp2, ⟨rfl, rfl⟩, k⟩ := k.callS (y := (⟨"java/lang/StringUTF16", "length", "([B)I"⟩ : MethodName)) d52_2 (hw _ (List.mem_of_getElem? (i := 228) rfl)) (hw _ (List.mem_of_getElem? (i := 229) rfl)) (hw _ (List.mem_of_getElem? (i := 185) rfl)) (hw _ (List.mem_of_getElem? (i := 230) rfl)) (W := 1) (argsL := [(.ref t1)]) (rest := [(.int i)]) (rm48 Z a0 hw zC vF t1 n1 _ h0 n0 Z0 S_C S_F S_AD S_HI S_LO hC hF A1 hn1) all0 rfl (pd_3) rfl rfl rfl (by decide) (by decide) (by decide) (by decide) (by decide)
  replace k := (k [] all0).sfx [] rfl
  replace k := k.stk [(.int (Nat.toInt32 n1)), (.int i)] rfl
  obtain ⟨_, _, sp5, ⟨rfl, rfl⟩, k⟩ := k.callS (y := (⟨"java/lang/String", "checkIndex", "(II)V"⟩ : MethodName)) d52_5 (hw _ (List.mem_of_getElem? (i := 246) rfl)) (hw _ (List.mem_of_getElem? (i := 169) rfl)) (hw _ (List.mem_of_getElem? (i := 6) rfl)) (hw _ (List.mem_of_getElem? (i := 170) rfl)) (W := 0) (argsL := [(.int i), (.int (Nat.toInt32 n1))]) (rest := []) (rm32 Z a0 hw zC vF i (Nat.toInt32 n1) h0 n0 Z0 S_C S_F S_AD S_HI S_LO hC hF (own_nn hi) (own_ltI hi (own_tn (by omega)) hI)) all0 rfl (pd_4) rfl rfl rfl (by decide) (by decide) (by decide) (by decide) (by decide)
  replace k := (k [] all0).sfx [] rfl
  replace k := k.stk [] rfl
  exact k.vret d52_8 rfl (fun sp hsp => ⟨rfl, rfl⟩) (by decide) (by decide)

theorem d47_0 : decode jdk_52_method_94_code 0 = .ok (.iload_n 0, 1) := by decide +kernel
theorem d47_1 : decode jdk_52_method_94_code 1 = .ok (.iload_n 1, 1) := by decide +kernel
theorem d47_2 : decode jdk_52_method_94_code 2 = .ok (.aload_n 2, 1) := by decide +kernel
theorem d47_3 : decode jdk_52_method_94_code 3 = .ok (.invokestatic 48, 3) := by decide +kernel
theorem d47_6 : decode jdk_52_method_94_code 6 = .ok (.invokestatic 419, 3) := by decide +kernel
theorem d47_9 : decode jdk_52_method_94_code 9 = .ok (.pop, 1) := by decide +kernel
theorem d47_10 : decode jdk_52_method_94_code 10 = .ok (.return_, 1) := by decide +kernel
set_option maxRecDepth 65536 in
set_option maxHeartbeats 40000000 in
theorem rm47 (Z : State) (a0 : Array Value) (hw : ∀ d ∈ tables_1, d.before a0 Z = true) (zC : Int32) (vF : Value) (t1 : Addr) (n1 P M : Nat) (p q : Int32) (f1 : Nat → Value) (h0 : Heap) (n0 : Nat) (Z0 : n0 ≤ h0.size) (S_C : Sta Z h0 "java/lang/String" "COMPACT_STRINGS" "Z" (.int zC)) (S_F : Sta Z h0 "jdk/internal/util/Preconditions" "SIOOBE_FORMATTER" "Ljava/util/function/BiFunction;" vF) (S_AD : Sta Z h0 "java/lang/StringUTF16" "$assertionsDisabled" "Z" (.int (1 : Int32))) (S_HI : Sta Z h0 "java/lang/StringUTF16" "HI_BYTE_SHIFT" "I" (.int (0 : Int32))) (S_LO : Sta Z h0 "java/lang/StringUTF16" "LO_BYTE_SHIFT" "I" (.int (8 : Int32))) (hC : ¬ (zC = (0 : Int32))) (hF : vF = .null ∨ ∃ b, vF = .ref b) (A1 : Arf Z h0 t1 .byte (2 * n1) f1) (hn1 : n1 ≤ 16) (hp : p.toInt = (P : Int)) (hq : q.toInt = (M : Int)) (hPQ : P + M ≤ n1) :
    Con Z n0 (⟨"java/lang/StringUTF16", "checkBoundsOffCount", "(II[B)V"⟩ : MethodName) jdk_52_method_94_code 3 none [] ({ frames := 2, cells := 0, slots := 0, locals := 29 } : Room) #[(.int p), (.int q), (.ref t1)] h0 [] (fun v h sp => v = none ∧ h0 = h) := by
  refine Con.intro (L0 := #[.val (.int p), .val (.int q), .val (.ref t1)]) ⟨_, own_EW hw⟩ (plainFor_of_name (by first | (simp [plainName, overriddenIn]; done) | decide +kernel)) (fun m => by first | (simp [entryFrame, mkF, argsToLocals, Value.category]; done) | rfl) ?_
  intro C k
  replace k := k.iloadN d47_0 rfl
  replace k := k.iloadN d47_1 rfl
  replace k := k.aloadN d47_2 rfl rfl
  obtain ⟨_, _, sp3, ⟨rfl, rfl⟩, k⟩ := k.callS (y := (⟨"java/lang/StringUTF16", "length", "([B)I"⟩ : MethodName)) d47_3 (hw _ (List.mem_of_getElem? (i := 228) rfl)) (hw _ (List.mem_of_getElem? (i := 229) rfl)) (hw _ (List.mem_of_getElem? (i := 185) rfl)) (hw _ (List.mem_of_getElem? (i := 230) rfl)) (W := 2) (argsL := [(.ref t1)]) (rest := [(.int q), (.int p)]) (rm48 Z a0 hw zC vF t1 n1 _ h0 n0 Z0 S_C S_F S_AD S_HI S_LO hC hF A1 hn1) all0 rfl (pd_3) rfl rfl rfl (by decide) (by decide) (by decide) (by decide) (by decide)
  replace k := (k [] all0).sfx [] rfl
  replace k := k.stk [(.int (Nat.toInt32 n1)), (.int q), (.int p)] rfl
  obtain ⟨_, _, sp6, ⟨rfl, rfl⟩, k⟩ := k.callS (y := (⟨"java/lang/String", "checkBoundsOffCount", "(III)I"⟩ : MethodName)) d47_6 (hw _ (List.mem_of_getElem? (i := 231) rfl)) (hw _ (List.mem_of_getElem? (i := 232) rfl)) (hw _ (List.mem_of_getElem? (i := 6) rfl)) (hw _ (List.mem_of_getElem? (i := 233) rfl)) (W := 0) (argsL := [(.int p), (.int q), (.int (Nat.toInt32 n1))]) (rest := []) (rm49 Z a0 hw zC vF p q (Nat.toInt32 n1) h0 n0 Z0 S_C S_F S_AD S_HI S_LO hC hF (own_bo hp hq (own_tn (by omega))) (own_bs hp hq (own_tn (by omega)) (by omega) hPQ)) all0 rfl (pd_5) rfl rfl rfl (by decide) (by decide) (by decide) (by decide) (by decide)
  replace k := (k [] all0).sfx [] rfl
  replace k := k.stk [(.int p)] rfl
  replace k := k.pop d47_9 rfl
  exact k.vret d47_10 rfl (fun sp hsp => ⟨rfl, rfl⟩) (by decide) (by decide)

theorem d43_0 : decode jdk_52_method_5_code 0 = .ok (.getstatic 44, 3) := by decide +kernel
theorem d43_3 : decode jdk_52_method_5_code 3 = .ok (.ifCond .ne 25, 3) := by decide +kernel
theorem d43_28 : decode jdk_52_method_5_code 28 = .ok (.iload_n 1, 1) := by decide +kernel
theorem d43_29 : decode jdk_52_method_5_code 29 = .ok (.iconst 1, 1) := by decide +kernel
theorem d43_30 : decode jdk_52_method_5_code 30 = .ok (.ishl, 1) := by decide +kernel
theorem d43_31 : decode jdk_52_method_5_code 31 = .ok (.istore_n 1, 1) := by decide +kernel
theorem d43_32 : decode jdk_52_method_5_code 32 = .ok (.aload_n 0, 1) := by decide +kernel
theorem d43_33 : decode jdk_52_method_5_code 33 = .ok (.iload_n 1, 1) := by decide +kernel
theorem d43_34 : decode jdk_52_method_5_code 34 = .ok (.iinc 1 1, 3) := by decide +kernel
theorem d43_37 : decode jdk_52_method_5_code 37 = .ok (.baload, 1) := by decide +kernel
theorem d43_38 : decode jdk_52_method_5_code 38 = .ok (.sipush 255, 3) := by decide +kernel
theorem d43_41 : decode jdk_52_method_5_code 41 = .ok (.iand, 1) := by decide +kernel
theorem d43_42 : decode jdk_52_method_5_code 42 = .ok (.getstatic 59, 3) := by decide +kernel
theorem d43_45 : decode jdk_52_method_5_code 45 = .ok (.ishl, 1) := by decide +kernel
theorem d43_46 : decode jdk_52_method_5_code 46 = .ok (.aload_n 0, 1) := by decide +kernel
theorem d43_47 : decode jdk_52_method_5_code 47 = .ok (.iload_n 1, 1) := by decide +kernel
theorem d43_48 : decode jdk_52_method_5_code 48 = .ok (.baload, 1) := by decide +kernel
theorem d43_49 : decode jdk_52_method_5_code 49 = .ok (.sipush 255, 3) := by decide +kernel
theorem d43_52 : decode jdk_52_method_5_code 52 = .ok (.iand, 1) := by decide +kernel
theorem d43_53 : decode jdk_52_method_5_code 53 = .ok (.getstatic 63, 3) := by decide +kernel
theorem d43_56 : decode jdk_52_method_5_code 56 = .ok (.ishl, 1) := by decide +kernel
theorem d43_57 : decode jdk_52_method_5_code 57 = .ok (.ior, 1) := by decide +kernel
theorem d43_58 : decode jdk_52_method_5_code 58 = .ok (.i2c, 1) := by decide +kernel
theorem d43_59 : decode jdk_52_method_5_code 59 = .ok (.ireturn, 1) := by decide +kernel
set_option maxRecDepth 65536 in
set_option maxHeartbeats 40000000 in
theorem rm43 (Z : State) (a0 : Array Value) (hw : ∀ d ∈ tables_1, d.before a0 Z = true) (zC : Int32) (vF : Value) (t1 : Addr) (m I : Nat) (i : Int32) (G1 : Nat → Int32) (h0 : Heap) (n0 : Nat) (Z0 : n0 ≤ h0.size) (S_C : Sta Z h0 "java/lang/String" "COMPACT_STRINGS" "Z" (.int zC)) (S_F : Sta Z h0 "jdk/internal/util/Preconditions" "SIOOBE_FORMATTER" "Ljava/util/function/BiFunction;" vF) (S_AD : Sta Z h0 "java/lang/StringUTF16" "$assertionsDisabled" "Z" (.int (1 : Int32))) (S_HI : Sta Z h0 "java/lang/StringUTF16" "HI_BYTE_SHIFT" "I" (.int (0 : Int32))) (S_LO : Sta Z h0 "java/lang/StringUTF16" "LO_BYTE_SHIFT" "I" (.int (8 : Int32))) (hC : ¬ (zC = (0 : Int32))) (hF : vF = .null ∨ ∃ b, vF = .ref b) (A1 : Arf Z h0 t1 .byte m (own_bf G1)) (hi : i.toInt = (I : Int)) (hI : 2 * I + 1 < m) (hm : m ≤ 32) :
    Con Z n0 (⟨"java/lang/StringUTF16", "getChar", "([BI)C"⟩ : MethodName) jdk_52_method_5_code 2 (some .char) [] ({ frames := 0, cells := 0, slots := 0, locals := 0 } : Room) #[(.ref t1), (.int i)] h0 [] (fun v h sp => v = some (.int (own_gc (G1 (2 * I)) (G1 (2 * I + 1)))) ∧ h0 = h) := by
  refine Con.intro (L0 := #[.val (.ref t1), .val (.int i)]) ⟨_, own_EW hw⟩ (plainFor_of_name (by first | (simp [plainName, overriddenIn]; done) | decide +kernel)) (fun m => by first | (simp [entryFrame, mkF, argsToLocals, Value.category]; done) | rfl) ?_
  intro C k
  have q1 : (i <<< ((1 : Int32) &&& 31)).toInt = ((2 * I : Nat) : Int) := own_sl1 hi (by omega)
  have q2 : ((i <<< ((1 : Int32) &&& 31)) + (1 : Int32)).toInt = ((2 * I + 1 : Nat) : Int) := own_ad q1 (by decide) (by omega)
  replace k := k.getS d43_0 (host := "") (Or.inl (hw _ (List.mem_of_getElem? (i := 206) rfl))) Via.refl S_AD
  replace k := k.ifYes (pc' := 28) d43_3 (by decide) (by decide) (by decide)
  replace k := k.iloadN d43_28 rfl
  replace k := k.iconst (1 : Int32) d43_29 rfl
  replace k := k.ishl d43_30
  replace k := k.istoreN #[.val (.ref t1), .val (.int (i <<< ((1 : Int32) &&& 31)))] d43_31 rfl
  replace k := k.aloadN d43_32 rfl rfl
  replace k := k.iloadN d43_33 rfl
  replace k := k.iinc (1 : Int32) #[.val (.ref t1), .val (.int ((i <<< ((1 : Int32) &&& 31)) + (1 : Int32)))] d43_34 rfl rfl rfl
  replace k := k.baload d43_37 A1  (2 * I) (own_at q1) (own_nn q1) (by omega) (.int (G1 (2 * I))) rfl
  replace k := k.sipush (255 : Int32) d43_38 rfl
  replace k := k.iand d43_41
  replace k := k.getS d43_42 (host := "") (Or.inl (hw _ (List.mem_of_getElem? (i := 207) rfl))) Via.refl S_HI
  replace k := k.ishl d43_45
  replace k := k.aloadN d43_46 rfl rfl
  replace k := k.iloadN d43_47 rfl
  replace k := k.baload d43_48 A1  (2 * I + 1) (own_at q2) (own_nn q2) hI (.int (G1 (2 * I + 1))) rfl
  replace k := k.sipush (255 : Int32) d43_49 rfl
  replace k := k.iand d43_52
  replace k := k.getS d43_53 (host := "") (Or.inl (hw _ (List.mem_of_getElem? (i := 208) rfl))) Via.refl S_LO
  replace k := k.ishl d43_56
  replace k := k.ior d43_57
  replace k := k.i2c d43_58
  exact k.iret d43_59 rfl (by simp) (own_narc _) (fun sp hsp => ⟨rfl, rfl⟩) (by decide) (by decide)

theorem d42_0 : decode jdk_52_method_4_code 0 = .ok (.getstatic 44, 3) := by decide +kernel
theorem d42_3 : decode jdk_52_method_4_code 3 = .ok (.ifCond .ne 25, 3) := by decide +kernel
theorem d42_28 : decode jdk_52_method_4_code 28 = .ok (.iload_n 1, 1) := by decide +kernel
theorem d42_29 : decode jdk_52_method_4_code 29 = .ok (.iconst 1, 1) := by decide +kernel
theorem d42_30 : decode jdk_52_method_4_code 30 = .ok (.ishl, 1) := by decide +kernel
theorem d42_31 : decode jdk_52_method_4_code 31 = .ok (.istore_n 1, 1) := by decide +kernel
theorem d42_32 : decode jdk_52_method_4_code 32 = .ok (.aload_n 0, 1) := by decide +kernel
theorem d42_33 : decode jdk_52_method_4_code 33 = .ok (.iload_n 1, 1) := by decide +kernel
theorem d42_34 : decode jdk_52_method_4_code 34 = .ok (.iinc 1 1, 3) := by decide +kernel
theorem d42_37 : decode jdk_52_method_4_code 37 = .ok (.iload_n 2, 1) := by decide +kernel
theorem d42_38 : decode jdk_52_method_4_code 38 = .ok (.getstatic 59, 3) := by decide +kernel
theorem d42_41 : decode jdk_52_method_4_code 41 = .ok (.ishr, 1) := by decide +kernel
theorem d42_42 : decode jdk_52_method_4_code 42 = .ok (.i2b, 1) := by decide +kernel
theorem d42_43 : decode jdk_52_method_4_code 43 = .ok (.bastore, 1) := by decide +kernel
theorem d42_44 : decode jdk_52_method_4_code 44 = .ok (.aload_n 0, 1) := by decide +kernel
theorem d42_45 : decode jdk_52_method_4_code 45 = .ok (.iload_n 1, 1) := by decide +kernel
theorem d42_46 : decode jdk_52_method_4_code 46 = .ok (.iload_n 2, 1) := by decide +kernel
theorem d42_47 : decode jdk_52_method_4_code 47 = .ok (.getstatic 63, 3) := by decide +kernel
theorem d42_50 : decode jdk_52_method_4_code 50 = .ok (.ishr, 1) := by decide +kernel
theorem d42_51 : decode jdk_52_method_4_code 51 = .ok (.i2b, 1) := by decide +kernel
theorem d42_52 : decode jdk_52_method_4_code 52 = .ok (.bastore, 1) := by decide +kernel
theorem d42_53 : decode jdk_52_method_4_code 53 = .ok (.return_, 1) := by decide +kernel
set_option maxRecDepth 65536 in
set_option maxHeartbeats 40000000 in
theorem rm42 (Z : State) (a0 : Array Value) (hw : ∀ d ∈ tables_1, d.before a0 Z = true) (zC : Int32) (vF : Value) (t1 : Addr) (m I : Nat) (i c : Int32) (G1 : Nat → Int32) (h0 : Heap) (n0 : Nat) (Z0 : n0 ≤ h0.size) (S_C : Sta Z h0 "java/lang/String" "COMPACT_STRINGS" "Z" (.int zC)) (S_F : Sta Z h0 "jdk/internal/util/Preconditions" "SIOOBE_FORMATTER" "Ljava/util/function/BiFunction;" vF) (S_AD : Sta Z h0 "java/lang/StringUTF16" "$assertionsDisabled" "Z" (.int (1 : Int32))) (S_HI : Sta Z h0 "java/lang/StringUTF16" "HI_BYTE_SHIFT" "I" (.int (0 : Int32))) (S_LO : Sta Z h0 "java/lang/StringUTF16" "LO_BYTE_SHIFT" "I" (.int (8 : Int32))) (hC : ¬ (zC = (0 : Int32))) (hF : vF = .null ∨ ∃ b, vF = .ref b) (g1 : n0 ≤ t1) (A1 : Arf Z h0 t1 .byte m (own_bf G1)) (hi : i.toInt = (I : Int)) (hI : 2 * I + 1 < m) (hm : m ≤ 32) :
    Con Z n0 (⟨"java/lang/StringUTF16", "putChar", "([BII)V"⟩ : MethodName) jdk_52_method_4_code 3 none [] ({ frames := 0, cells := 0, slots := 0, locals := 0 } : Room) #[(.ref t1), (.int i), (.int c)] h0 [t1] (fun v h sp => v = none ∧ Keep h0 h [t1] ∧ Arf Z h t1 .byte m (own_bf (own_pc G1 I c))) := by
  refine Con.intro (L0 := #[.val (.ref t1), .val (.int i), .val (.int c)]) ⟨_, own_EW hw⟩ (plainFor_of_name (by first | (simp [plainName, overriddenIn]; done) | decide +kernel)) (fun m => by first | (simp [entryFrame, mkF, argsToLocals, Value.category]; done) | rfl) ?_
  intro C k
  have q1 : (i <<< ((1 : Int32) &&& 31)).toInt = ((2 * I : Nat) : Int) := own_sl1 hi (by omega)
  have q2 : ((i <<< ((1 : Int32) &&& 31)) + (1 : Int32)).toInt = ((2 * I + 1 : Nat) : Int) := own_ad q1 (by decide) (by omega)
  replace k := k.getS d42_0 (host := "") (Or.inl (hw _ (List.mem_of_getElem? (i := 206) rfl))) Via.refl S_AD
  replace k := k.ifYes (pc' := 28) d42_3 (by decide) (by decide) (by decide)
  replace k := k.iloadN d42_28 rfl
  replace k := k.iconst (1 : Int32) d42_29 rfl
  replace k := k.ishl d42_30
  replace k := k.istoreN #[.val (.ref t1), .val (.int (i <<< ((1 : Int32) &&& 31))), .val (.int c)] d42_31 rfl
  replace k := k.aloadN d42_32 rfl rfl
  replace k := k.iloadN d42_33 rfl
  replace k := k.iinc (1 : Int32) #[.val (.ref t1), .val (.int ((i <<< ((1 : Int32) &&& 31)) + (1 : Int32))), .val (.int c)] d42_34 rfl rfl rfl
  replace k := k.iloadN d42_37 rfl
  replace k := k.getS d42_38 (host := "") (Or.inl (hw _ (List.mem_of_getElem? (i := 207) rfl))) Via.refl S_HI
  replace k := k.ishr d42_41
  replace k := k.i2b d42_42
  obtain ⟨h101, W101, A101, k⟩ := k.bastore d42_43 A1 (2 * I) (own_at q1) (own_nn q1) (by omega) g1 (List.mem_of_getElem? (i := 0) rfl) ((c >>> ((0 : Int32) &&& 31)).toInt8.toInt32) (own_i2b _)
  have K101 : Keep h0 h101 [t1] := (Keep.refl h0 ([t1] : List Addr)).wr W101 (Or.inl (List.mem_of_getElem? (i := 0) rfl))
  replace k := k.aloadN d42_44 rfl rfl
  replace k := k.iloadN d42_45 rfl
  replace k := k.iloadN d42_46 rfl
  replace k := k.getS d42_47 (host := "") (Or.inl (hw _ (List.mem_of_getElem? (i := 208) rfl))) Via.refl (Sta.wr W101 S_LO)
  replace k := k.ishr d42_50
  replace k := k.i2b d42_51
  obtain ⟨h102, W102, A102, k⟩ := k.bastore d42_52 (own_bfA A101) (2 * I + 1) (own_at q2) (own_nn q2) hI g1 (List.mem_of_getElem? (i := 0) rfl) ((c >>> ((8 : Int32) &&& 31)).toInt8.toInt32) (own_i2b _)
  have K102 : Keep h0 h102 [t1] := K101.wr W102 (Or.inl (List.mem_of_getElem? (i := 0) rfl))
  exact k.vret d42_53 rfl (fun sp hsp => ⟨rfl, K102, (own_bfA A102)⟩) (by decide) (by decide)

theorem d51_0 : decode jdk_52_method_83_code 0 = .ok (.iload_n 1, 1) := by decide +kernel
theorem d51_1 : decode jdk_52_method_83_code 1 = .ok (.aload_n 0, 1) := by decide +kernel
theorem d51_2 : decode jdk_52_method_83_code 2 = .ok (.invokestatic 67, 3) := by decide +kernel
theorem d51_5 : decode jdk_52_method_83_code 5 = .ok (.aload_n 0, 1) := by decide +kernel
theorem d51_6 : decode jdk_52_method_83_code 6 = .ok (.iload_n 1, 1) := by decide +kernel
theorem d51_7 : decode jdk_52_method_83_code 7 = .ok (.invokestatic 71, 3) := by decide +kernel
theorem d51_10 : decode jdk_52_method_83_code 10 = .ok (.ireturn, 1) := by decide +kernel
set_option maxRecDepth 65536 in
set_option maxHeartbeats 40000000 in
theorem rm51 (Z : State) (a0 : Array Value) (hw : ∀ d ∈ tables_1, d.before a0 Z = true) (zC : Int32) (vF : Value) (t1 : Addr) (n1 I : Nat) (i : Int32) (G1 : Nat → Int32) (h0 : Heap) (n0 : Nat) (Z0 : n0 ≤ h0.size) (S_C : Sta Z h0 "java/lang/String" "COMPACT_STRINGS" "Z" (.int zC)) (S_F : Sta Z h0 "jdk/internal/util/Preconditions" "SIOOBE_FORMATTER" "Ljava/util/function/BiFunction;" vF) (S_AD : Sta Z h0 "java/lang/StringUTF16" "$assertionsDisabled" "Z" (.int (1 : Int32))) (S_HI : Sta Z h0 "java/lang/StringUTF16" "HI_BYTE_SHIFT" "I" (.int (0 : Int32))) (S_LO : Sta Z h0 "java/lang/StringUTF16" "LO_BYTE_SHIFT" "I" (.int (8 : Int32))) (hC : ¬ (zC = (0 : Int32))) (hF : vF = .null ∨ ∃ b, vF = .ref b) (A1 : Arf Z h0 t1 .byte (2 * n1) (own_bf G1)) (hn1 : n1 ≤ 16) (hi : i.toInt = (I : Int)) (hI : I < n1) :
    Con Z n0 (⟨"java/lang/StringUTF16", "charAt", "([BI)C"⟩ : MethodName) jdk_52_method_83_code 2 (some .char) [] ({ frames := 3, cells := 0, slots := 0, locals := 40 } : Room) #[(.ref t1), (.int i)] h0 [] (fun v h sp => v = some (.int (own_gc (G1 (2 * I)) (G1 (2 * I + 1)))) ∧ h0 = h) := by
  refine Con.intro (L0 := #[.val (.ref t1), .val (.int i)]) ⟨_, own_EW hw⟩ (plainFor_of_name (by first | (simp [plainName, overriddenIn]; done) | decide +kernel)) (fun m => by first | (simp [entryFrame, mkF, argsToLocals, Value.category]; done) | rfl) ?_
  intro C k
  replace k := k.iloadN d51_0 rfl
  replace k := k.aloadN d51_1 rfl rfl
  obtain ⟨_, _, sp2, ⟨rfl, rfl⟩, k⟩ := k.callS (y := (⟨"java/lang/StringUTF16", "checkIndex", "(I[B)V"⟩ : MethodName)) d51_2 (hw _ (List.mem_of_getElem? (i := 243) rfl)) (hw _ (List.mem_of_getElem? (i := 244) rfl)) (hw _ (List.mem_of_getElem? (i := 185) rfl)) (hw _ (List.mem_of_getElem? (i := 245) rfl)) (W := 0) (argsL := [(.int i), (.ref t1)]) (rest := []) (rm52 Z a0 hw zC vF t1 n1 I i _ h0 n0 Z0 S_C S_F S_AD S_HI S_LO hC hF A1 hn1 hi hI) all0 rfl (pd_6) rfl rfl rfl (by decide) (by decide) (by decide) (by decide) (by decide)
  replace k := (k [] all0).sfx [] rfl
  replace k := k.stk [] rfl
  replace k := k.aloadN d51_5 rfl rfl
  replace k := k.iloadN d51_6 rfl
  obtain ⟨_, _, sp7, ⟨rfl, rfl⟩, k⟩ := k.callS (y := (⟨"java/lang/StringUTF16", "getChar", "([BI)C"⟩ : MethodName)) d51_7 (hw _ (List.mem_of_getElem? (i := 209) rfl)) (hw _ (List.mem_of_getElem? (i := 210) rfl)) (hw _ (List.mem_of_getElem? (i := 185) rfl)) (hw _ (List.mem_of_getElem? (i := 211) rfl)) (W := 0) (argsL := [(.ref t1), (.int i)]) (rest := []) (rm43 Z a0 hw zC vF t1 (2 * n1) I i G1 h0 n0 Z0 S_C S_F S_AD S_HI S_LO hC hF A1 hi (by omega) (by omega)) all0 rfl (pd_7) rfl rfl rfl (by decide) (by decide) (by decide) (by decide) (by decide)
  replace k := (k [] all0).sfx [] rfl
  replace k := k.stk [(.int (own_gc (G1 (2 * I)) (G1 (2 * I + 1))))] rfl
  exact k.iret d51_10 rfl (by simp) (own_nargc _ _) (fun sp hsp => ⟨rfl, rfl⟩) (by decide) (by decide)

theorem d31_0 : decode jdk_43_method_2_code 0 = .ok (.iload_n 1, 1) := by decide +kernel
theorem d31_1 : decode jdk_43_method_2_code 1 = .ok (.aload_n 0, 1) := by decide +kernel
theorem d31_2 : decode jdk_43_method_2_code 2 = .ok (.arraylength, 1) := by decide +kernel
theorem d31_3 : decode jdk_43_method_2_code 3 = .ok (.invokestatic 9, 3) := by decide +kernel
theorem d31_6 : decode jdk_43_method_2_code 6 = .ok (.aload_n 0, 1) := by decide +kernel
theorem d31_7 : decode jdk_43_method_2_code 7 = .ok (.iload_n 1, 1) := by decide +kernel
theorem d31_8 : decode jdk_43_method_2_code 8 = .ok (.baload, 1) := by decide +kernel
theorem d31_9 : decode jdk_43_method_2_code 9 = .ok (.sipush 255, 3) := by decide +kernel
theorem d31_12 : decode jdk_43_method_2_code 12 = .ok (.iand, 1) := by decide +kernel
theorem d31_13 : decode jdk_43_method_2_code 13 = .ok (.i2c, 1) := by decide +kernel
theorem d31_14 : decode jdk_43_method_2_code 14 = .ok (.ireturn, 1) := by decide +kernel
set_option maxRecDepth 65536 in
set_option maxHeartbeats 40000000 in
theorem rm31 (Z : State) (a0 : Array Value) (hw : ∀ d ∈ tables_1, d.before a0 Z = true) (zC : Int32) (vF : Value) (t1 : Addr) (n1 I : Nat) (i : Int32) (G1 : Nat → Int32) (h0 : Heap) (n0 : Nat) (Z0 : n0 ≤ h0.size) (S_C : Sta Z h0 "java/lang/String" "COMPACT_STRINGS" "Z" (.int zC)) (S_F : Sta Z h0 "jdk/internal/util/Preconditions" "SIOOBE_FORMATTER" "Ljava/util/function/BiFunction;" vF) (S_AD : Sta Z h0 "java/lang/StringUTF16" "$assertionsDisabled" "Z" (.int (1 : Int32))) (S_HI : Sta Z h0 "java/lang/StringUTF16" "HI_BYTE_SHIFT" "I" (.int (0 : Int32))) (S_LO : Sta Z h0 "java/lang/StringUTF16" "LO_BYTE_SHIFT" "I" (.int (8 : Int32))) (hC : ¬ (zC = (0 : Int32))) (hF : vF = .null ∨ ∃ b, vF = .ref b) (A1 : Arf Z h0 t1 .byte n1 (own_bf G1)) (hn1 : n1 ≤ 16) (hi : i.toInt = (I : Int)) (hI : I < n1) :
    Con Z n0 (⟨"java/lang/StringLatin1", "charAt", "([BI)C"⟩ : MethodName) jdk_43_method_2_code 2 (some .char) [] ({ frames := 2, cells := 0, slots := 0, locals := 27 } : Room) #[(.ref t1), (.int i)] h0 [] (fun v h sp => v = some (.int (G1 I &&& (255 : Int32))) ∧ h0 = h) := by
  refine Con.intro (L0 := #[.val (.ref t1), .val (.int i)]) ⟨_, own_EW hw⟩ (plainFor_of_name (by first | (simp [plainName, overriddenIn]; done) | decide +kernel)) (fun m => by first | (simp [entryFrame, mkF, argsToLocals, Value.category]; done) | rfl) ?_
  intro C k
  replace k := k.iloadN d31_0 rfl
  replace k := k.aloadN d31_1 rfl rfl
  replace k := k.arrlen d31_2 A1 (Nat.toInt32 n1) rfl
  obtain ⟨_, _, sp3, ⟨rfl, rfl⟩, k⟩ := k.callS (y := (⟨"java/lang/String", "checkIndex", "(II)V"⟩ : MethodName)) d31_3 (hw _ (List.mem_of_getElem? (i := 168) rfl)) (hw _ (List.mem_of_getElem? (i := 169) rfl)) (hw _ (List.mem_of_getElem? (i := 6) rfl)) (hw _ (List.mem_of_getElem? (i := 170) rfl)) (W := 0) (argsL := [(.int i), (.int (Nat.toInt32 n1))]) (rest := []) (rm32 Z a0 hw zC vF i (Nat.toInt32 n1) h0 n0 Z0 S_C S_F S_AD S_HI S_LO hC hF (own_nn hi) (own_ltI hi (own_tn (by omega)) hI)) all0 rfl (pd_4) rfl rfl rfl (by decide) (by decide) (by decide) (by decide) (by decide)
  replace k := (k [] all0).sfx [] rfl
  replace k := k.stk [] rfl
  replace k := k.aloadN d31_6 rfl rfl
  replace k := k.iloadN d31_7 rfl
  replace k := k.baload d31_8 A1  I (own_at hi) (own_nn hi) hI (.int (G1 I)) rfl
  replace k := k.sipush (255 : Int32) d31_9 rfl
  replace k := k.iand d31_12
  replace k := k.i2c d31_13
  replace k := k.stk [(.int (G1 I &&& (255 : Int32)))] (by rw [own_i255])
  exact k.iret d31_14 rfl (by simp) (own_nar255 _) (fun sp hsp => ⟨rfl, rfl⟩) (by decide) (by decide)

theorem d29_0 : decode jdk_42_method_56_code 0 = .ok (.aload_n 0, 1) := by decide +kernel
theorem d29_1 : decode jdk_42_method_56_code 1 = .ok (.invokevirtual 492, 3) := by decide +kernel
theorem d29_4 : decode jdk_42_method_56_code 4 = .ok (.ifCond .eq 12, 3) := by decide +kernel
theorem d29_7 : decode jdk_42_method_56_code 7 = .ok (.aload_n 0, 1) := by decide +kernel
theorem d29_8 : decode jdk_42_method_56_code 8 = .ok (.getfield 9, 3) := by decide +kernel
theorem d29_11 : decode jdk_42_method_56_code 11 = .ok (.iload_n 1, 1) := by decide +kernel
theorem d29_12 : decode jdk_42_method_56_code 12 = .ok (.invokestatic 495, 3) := by decide +kernel
theorem d29_15 : decode jdk_42_method_56_code 15 = .ok (.ireturn, 1) := by decide +kernel
theorem d29_16 : decode jdk_42_method_56_code 16 = .ok (.aload_n 0, 1) := by decide +kernel
theorem d29_17 : decode jdk_42_method_56_code 17 = .ok (.getfield 9, 3) := by decide +kernel
theorem d29_20 : decode jdk_42_method_56_code 20 = .ok (.iload_n 1, 1) := by decide +kernel
theorem d29_21 : decode jdk_42_method_56_code 21 = .ok (.invokestatic 498, 3) := by decide +kernel
theorem d29_24 : decode jdk_42_method_56_code 24 = .ok (.ireturn, 1) := by decide +kernel
set_option maxRecDepth 65536 in
set_option maxHeartbeats 40000000 in
theorem rm29 (Z : State) (a0 : Array Value) (hw : ∀ d ∈ tables_1, d.before a0 Z = true) (zC : Int32) (vF : Value) (s1 t1 : Addr) (cod1 : Int32) (n1 : Nat) (G1 : Nat → Int32) (I : Nat) (i : Int32) (h0 : Heap) (n0 : Nat) (Z0 : n0 ≤ h0.size) (S_C : Sta Z h0 "java/lang/String" "COMPACT_STRINGS" "Z" (.int zC)) (S_F : Sta Z h0 "jdk/internal/util/Preconditions" "SIOOBE_FORMATTER" "Ljava/util/function/BiFunction;" vF) (S_AD : Sta Z h0 "java/lang/StringUTF16" "$assertionsDisabled" "Z" (.int (1 : Int32))) (S_HI : Sta Z h0 "java/lang/StringUTF16" "HI_BYTE_SHIFT" "I" (.int (0 : Int32))) (S_LO : Sta Z h0 "java/lang/StringUTF16" "LO_BYTE_SHIFT" "I" (.int (8 : Int32))) (hC : ¬ (zC = (0 : Int32))) (hF : vF = .null ∨ ∃ b, vF = .ref b) (E1 : Exa Z h0 s1 "java/lang/String") (C1 : Fld Z h0 s1 "java/lang/String" "coder" "B" (.int cod1)) (V1 : Fld Z h0 s1 "java/lang/String" "value" "[B" (.ref t1)) (A1 : Arf Z h0 t1 .byte (own_ln cod1 n1) (own_bf G1)) (D1 : own_der G1) (hc1 : cod1 = 0 ∨ cod1 = 1) (hn1 : n1 ≤ 16) (hi : i.toInt = (I : Int)) (hI : I < n1) :
    Con Z n0 (⟨"java/lang/String", "charAt", "(I)C"⟩ : MethodName) jdk_42_method_56_code 2 (some .char) [] ({ frames := 4, cells := 0, slots := 0, locals := 53 } : Room) #[(.ref s1), (.int i)] h0 [] (fun v h sp => v = some (.int (own_dec cod1 G1 I)) ∧ h0 = h) := by
  refine Con.intro (L0 := #[.val (.ref s1), .val (.int i)]) ⟨_, own_EW hw⟩ (plainFor_of_name (by first | (simp [plainName, overriddenIn]; done) | decide +kernel)) (fun m => by first | (simp [entryFrame, mkF, argsToLocals, Value.category]; done) | rfl) ?_
  intro C k
  rcases hc1 with rfl | rfl
  · skip
    replace A1 := own_ln0 A1
    replace k := k.aloadN d29_0 rfl rfl
    obtain ⟨_, _, sp1, ⟨rfl, rfl⟩, k⟩ := k.callV (y := (⟨"java/lang/String", "isLatin1", "()Z"⟩ : MethodName)) (z := (⟨"java/lang/String", "isLatin1", "()Z"⟩ : MethodName)) (a := s1) d29_1 (hw _ (List.mem_of_getElem? (i := 159) rfl)) (hw _ (List.mem_of_getElem? (i := 160) rfl)) (fun s hs => notFace_of_selects (args := #[]) (mvT hs (hw _ (List.mem_of_getElem? (i := 162) rfl)))) (hw _ (List.mem_of_getElem? (i := 162) rfl)) (hw _ (List.mem_of_getElem? (i := 161) rfl)) (hw _ (List.mem_of_getElem? (i := 6) rfl)) (hw _ (List.mem_of_getElem? (i := 163) rfl)) E1 (W := 0) (argsL := []) (rest := []) (rm30 Z a0 hw zC vF s1 (0 : Int32) h0 n0 Z0 S_C S_F S_AD S_HI S_LO hC hF C1 (Or.inl rfl)) all0 rfl (pd_8) rfl rfl rfl (by decide) (by decide) (by decide) (by decide) (by decide)
    replace k := (k [] all0).sfx [] rfl
    replace k := k.stk [(.int (1 : Int32))] rfl
    replace k := k.ifNo d29_4 (by decide)
    replace k := k.aloadN d29_7 rfl rfl
    replace k := k.getF d29_8 (host := "") (Or.inl (hw _ (List.mem_of_getElem? (i := 24) rfl))) Via.refl V1
    replace k := k.iloadN d29_11 rfl
    obtain ⟨_, _, sp12, ⟨rfl, rfl⟩, k⟩ := k.callS (y := (⟨"java/lang/StringLatin1", "charAt", "([BI)C"⟩ : MethodName)) d29_12 (hw _ (List.mem_of_getElem? (i := 164) rfl)) (hw _ (List.mem_of_getElem? (i := 165) rfl)) (hw _ (List.mem_of_getElem? (i := 166) rfl)) (hw _ (List.mem_of_getElem? (i := 167) rfl)) (W := 0) (argsL := [(.ref t1), (.int i)]) (rest := []) (rm31 Z a0 hw zC vF t1 n1 I i G1 h0 n0 Z0 S_C S_F S_AD S_HI S_LO hC hF A1 hn1 hi hI) all0 rfl (pd_7) rfl rfl rfl (by decide) (by decide) (by decide) (by decide) (by decide)
    replace k := (k [] all0).sfx [] rfl
    replace k := k.stk [(.int (G1 I &&& (255 : Int32)))] rfl
    exact k.iret d29_15 rfl (by simp) (own_nar255 _) (fun sp hsp => ⟨by simp [own_dec], rfl⟩) (by decide) (by decide)
  · skip
    replace A1 := own_ln1 A1
    replace k := k.aloadN d29_0 rfl rfl
    obtain ⟨_, _, sp1, ⟨rfl, rfl⟩, k⟩ := k.callV (y := (⟨"java/lang/String", "isLatin1", "()Z"⟩ : MethodName)) (z := (⟨"java/lang/String", "isLatin1", "()Z"⟩ : MethodName)) (a := s1) d29_1 (hw _ (List.mem_of_getElem? (i := 159) rfl)) (hw _ (List.mem_of_getElem? (i := 160) rfl)) (fun s hs => notFace_of_selects (args := #[]) (mvT hs (hw _ (List.mem_of_getElem? (i := 162) rfl)))) (hw _ (List.mem_of_getElem? (i := 162) rfl)) (hw _ (List.mem_of_getElem? (i := 161) rfl)) (hw _ (List.mem_of_getElem? (i := 6) rfl)) (hw _ (List.mem_of_getElem? (i := 163) rfl)) E1 (W := 0) (argsL := []) (rest := []) (rm30 Z a0 hw zC vF s1 (1 : Int32) h0 n0 Z0 S_C S_F S_AD S_HI S_LO hC hF C1 (Or.inr rfl)) all0 rfl (pd_8) rfl rfl rfl (by decide) (by decide) (by decide) (by decide) (by decide)
    replace k := (k [] all0).sfx [] rfl
    replace k := k.stk [(.int (0 : Int32))] rfl
    replace k := k.ifYes (pc' := 16) d29_4 (by decide) (by decide) (by decide)
    replace k := k.aloadN d29_16 rfl rfl
    replace k := k.getF d29_17 (host := "") (Or.inl (hw _ (List.mem_of_getElem? (i := 24) rfl))) Via.refl V1
    replace k := k.iloadN d29_20 rfl
    obtain ⟨_, _, sp21, ⟨rfl, rfl⟩, k⟩ := k.callS (y := (⟨"java/lang/StringUTF16", "charAt", "([BI)C"⟩ : MethodName)) d29_21 (hw _ (List.mem_of_getElem? (i := 240) rfl)) (hw _ (List.mem_of_getElem? (i := 241) rfl)) (hw _ (List.mem_of_getElem? (i := 185) rfl)) (hw _ (List.mem_of_getElem? (i := 242) rfl)) (W := 0) (argsL := [(.ref t1), (.int i)]) (rest := []) (rm51 Z a0 hw zC vF t1 n1 I i G1 h0 n0 Z0 S_C S_F S_AD S_HI S_LO hC hF A1 hn1 hi hI) all0 rfl (pd_7) rfl rfl rfl (by decide) (by decide) (by decide) (by decide) (by decide)
    replace k := (k [] all0).sfx [] rfl
    replace k := k.stk [(.int (own_gc (G1 (2 * I)) (G1 (2 * I + 1))))] rfl
    exact k.iret d29_24 rfl (by simp) (own_nargc _ _) (fun sp hsp => ⟨by simp [own_dec], rfl⟩) (by decide) (by decide)

theorem d35_0 : decode method_3_code 0 = .ok (.lload_n 0, 1) := by decide +kernel
theorem d35_1 : decode method_3_code 1 = .ok (.bipush 16, 2) := by decide +kernel
theorem d35_3 : decode method_3_code 3 = .ok (.iload_n 2, 1) := by decide +kernel
theorem d35_4 : decode method_3_code 4 = .ok (.imul, 1) := by decide +kernel
theorem d35_5 : decode method_3_code 5 = .ok (.lushr, 1) := by decide +kernel
theorem d35_6 : decode method_3_code 6 = .ok (.ldc2_w 29, 3) := by decide +kernel
theorem d35_9 : decode method_3_code 9 = .ok (.land, 1) := by decide +kernel
theorem d35_10 : decode method_3_code 10 = .ok (.l2i, 1) := by decide +kernel
theorem d35_11 : decode method_3_code 11 = .ok (.i2c, 1) := by decide +kernel
theorem d35_12 : decode method_3_code 12 = .ok (.ireturn, 1) := by decide +kernel
set_option maxRecDepth 65536 in
set_option maxHeartbeats 40000000 in
theorem rm35 (Z : State) (a0 : Array Value) (hw : ∀ d ∈ tables_1, d.before a0 Z = true) (p1 : Int64) (p2 : Int32) (h0 : Heap) (n0 : Nat)  :
    Con Z n0 (⟨"com/example/vidare/vidare/core/GatePauseReasonPinLaw", "ch", "(JI)C"⟩ : MethodName) method_3_code 3 (some .char) [] ({ frames := 0, cells := 0, slots := 0, locals := 0 } : Room) #[(.long p1), (.int p2)] h0 [] (fun v h sp => v = some (.int (own_chf p1 p2)) ∧ h0 = h) := by
  refine Con.intro (L0 := #[.val (.long p1), .second, .val (.int p2)]) ⟨_, own_EW hw⟩ (plainFor_of_name (by first | (simp [plainName, overriddenIn]; done) | decide +kernel)) (fun m => by first | (simp [entryFrame, mkF, argsToLocals, Value.category]; done) | rfl) ?_
  intro C k
  replace k := k.lloadN d35_0 rfl
  replace k := k.bipush (16 : Int32) d35_1 rfl
  replace k := k.iloadN d35_3 rfl
  replace k := k.imul d35_4
  replace k := k.lushr d35_5
  replace k := k.ldc2Long d35_6 (hw _ (List.mem_of_getElem? (i := 182) rfl))
  replace k := k.land d35_9
  replace k := k.l2i d35_10
  replace k := k.i2c d35_11
  exact k.iret d35_12 rfl (by simp) (own_narc _) (fun sp hsp => ⟨rfl, rfl⟩) (by decide) (by decide)

theorem d34_0 : decode method_6_code 0 = .ok (.iload_n 0, 1) := by decide +kernel
theorem d34_1 : decode method_6_code 1 = .ok (.ifCond .ne 6, 3) := by decide +kernel
theorem d34_4 : decode method_6_code 4 = .ok (.bipush 103, 2) := by decide +kernel
theorem d34_6 : decode method_6_code 6 = .ok (.ireturn, 1) := by decide +kernel
theorem d34_7 : decode method_6_code 7 = .ok (.iload_n 0, 1) := by decide +kernel
theorem d34_8 : decode method_6_code 8 = .ok (.iconst 1, 1) := by decide +kernel
theorem d34_9 : decode method_6_code 9 = .ok (.if_icmp .ne 6, 3) := by decide +kernel
theorem d34_12 : decode method_6_code 12 = .ok (.bipush 97, 2) := by decide +kernel
theorem d34_14 : decode method_6_code 14 = .ok (.ireturn, 1) := by decide +kernel
theorem d34_15 : decode method_6_code 15 = .ok (.iload_n 0, 1) := by decide +kernel
theorem d34_16 : decode method_6_code 16 = .ok (.iconst 2, 1) := by decide +kernel
theorem d34_17 : decode method_6_code 17 = .ok (.if_icmp .ne 6, 3) := by decide +kernel
theorem d34_20 : decode method_6_code 20 = .ok (.bipush 116, 2) := by decide +kernel
theorem d34_22 : decode method_6_code 22 = .ok (.ireturn, 1) := by decide +kernel
theorem d34_23 : decode method_6_code 23 = .ok (.iload_n 0, 1) := by decide +kernel
theorem d34_24 : decode method_6_code 24 = .ok (.iconst 3, 1) := by decide +kernel
theorem d34_25 : decode method_6_code 25 = .ok (.if_icmp .ne 6, 3) := by decide +kernel
theorem d34_28 : decode method_6_code 28 = .ok (.bipush 101, 2) := by decide +kernel
theorem d34_30 : decode method_6_code 30 = .ok (.ireturn, 1) := by decide +kernel
theorem d34_31 : decode method_6_code 31 = .ok (.iload_n 0, 1) := by decide +kernel
theorem d34_32 : decode method_6_code 32 = .ok (.iconst 4, 1) := by decide +kernel
theorem d34_33 : decode method_6_code 33 = .ok (.if_icmp .ne 6, 3) := by decide +kernel
theorem d34_36 : decode method_6_code 36 = .ok (.bipush 32, 2) := by decide +kernel
theorem d34_38 : decode method_6_code 38 = .ok (.ireturn, 1) := by decide +kernel
theorem d34_39 : decode method_6_code 39 = .ok (.iload_n 0, 1) := by decide +kernel
theorem d34_40 : decode method_6_code 40 = .ok (.iconst 5, 1) := by decide +kernel
theorem d34_41 : decode method_6_code 41 = .ok (.iload 5, 2) := by decide +kernel
theorem d34_43 : decode method_6_code 43 = .ok (.iadd, 1) := by decide +kernel
theorem d34_44 : decode method_6_code 44 = .ok (.if_icmp .ge 11, 3) := by decide +kernel
theorem d34_47 : decode method_6_code 47 = .ok (.lload_n 1, 1) := by decide +kernel
theorem d34_48 : decode method_6_code 48 = .ok (.iload_n 0, 1) := by decide +kernel
theorem d34_49 : decode method_6_code 49 = .ok (.iconst 5, 1) := by decide +kernel
theorem d34_50 : decode method_6_code 50 = .ok (.isub, 1) := by decide +kernel
theorem d34_51 : decode method_6_code 51 = .ok (.invokestatic 34, 3) := by decide +kernel
theorem d34_54 : decode method_6_code 54 = .ok (.ireturn, 1) := by decide +kernel
theorem d34_55 : decode method_6_code 55 = .ok (.iload_n 0, 1) := by decide +kernel
theorem d34_56 : decode method_6_code 56 = .ok (.iconst 5, 1) := by decide +kernel
theorem d34_57 : decode method_6_code 57 = .ok (.iload 5, 2) := by decide +kernel
theorem d34_59 : decode method_6_code 59 = .ok (.iadd, 1) := by decide +kernel
theorem d34_60 : decode method_6_code 60 = .ok (.if_icmp .ne 6, 3) := by decide +kernel
theorem d34_63 : decode method_6_code 63 = .ok (.bipush 58, 2) := by decide +kernel
theorem d34_65 : decode method_6_code 65 = .ok (.ireturn, 1) := by decide +kernel
theorem d34_66 : decode method_6_code 66 = .ok (.iload_n 0, 1) := by decide +kernel
theorem d34_67 : decode method_6_code 67 = .ok (.bipush 6, 2) := by decide +kernel
theorem d34_69 : decode method_6_code 69 = .ok (.iload 5, 2) := by decide +kernel
theorem d34_71 : decode method_6_code 71 = .ok (.iadd, 1) := by decide +kernel
theorem d34_72 : decode method_6_code 72 = .ok (.if_icmp .ne 6, 3) := by decide +kernel
theorem d34_75 : decode method_6_code 75 = .ok (.bipush 32, 2) := by decide +kernel
theorem d34_77 : decode method_6_code 77 = .ok (.ireturn, 1) := by decide +kernel
theorem d34_78 : decode method_6_code 78 = .ok (.lload_n 3, 1) := by decide +kernel
theorem d34_79 : decode method_6_code 79 = .ok (.iload_n 0, 1) := by decide +kernel
theorem d34_80 : decode method_6_code 80 = .ok (.bipush 7, 2) := by decide +kernel
theorem d34_82 : decode method_6_code 82 = .ok (.isub, 1) := by decide +kernel
theorem d34_83 : decode method_6_code 83 = .ok (.iload 5, 2) := by decide +kernel
theorem d34_85 : decode method_6_code 85 = .ok (.isub, 1) := by decide +kernel
theorem d34_86 : decode method_6_code 86 = .ok (.invokestatic 34, 3) := by decide +kernel
theorem d34_89 : decode method_6_code 89 = .ok (.ireturn, 1) := by decide +kernel
set_option maxRecDepth 65536 in
set_option maxHeartbeats 40000000 in
theorem rm34 (Z : State) (a0 : Array Value) (hw : ∀ d ∈ tables_1, d.before a0 Z = true) (i : Int32) (a b : Int64) (nl : Int32) (h0 : Heap) (n0 : Nat)  :
    Con Z n0 (⟨"com/example/vidare/vidare/core/GatePauseReasonPinLaw", "expected", "(IJJI)C"⟩ : MethodName) method_6_code 6 (some .char) [] ({ frames := 1, cells := 0, slots := 0, locals := 14 } : Room) #[(.int i), (.long a), (.long b), (.int nl)] h0 [] (fun v h sp => v = some (.int (own_exp i a b nl)) ∧ h0 = h) := by
  refine Con.intro (L0 := #[.val (.int i), .val (.long a), .second, .val (.long b), .second, .val (.int nl)]) ⟨_, own_EW hw⟩ (plainFor_of_name (by first | (simp [plainName, overriddenIn]; done) | decide +kernel)) (fun m => by first | (simp [entryFrame, mkF, argsToLocals, Value.category]; done) | rfl) ?_
  intro C k
  replace k := k.iloadN d34_0 rfl
  by_cases hc101 : i = (0 : Int32)
  · skip
    replace k := k.ifNo d34_1 (teq hc101).2
    replace k := k.bipush (103 : Int32) d34_4 rfl
    exact k.iret d34_6 rfl (by simp) rfl (fun sp hsp => ⟨by rw [own_exp, if_pos hc101], rfl⟩) (by decide) (by decide)
  · skip
    replace k := k.ifYes (pc' := 7) d34_1 (feq hc101).2 (by decide) (by decide)
    replace k := k.iloadN d34_7 rfl
    replace k := k.iconst (1 : Int32) d34_8 rfl
    by_cases hc102 : i = (1 : Int32)
    · skip
      replace k := k.icmpNo d34_9 (teq hc102).2
      replace k := k.bipush (97 : Int32) d34_12 rfl
      exact k.iret d34_14 rfl (by simp) rfl (fun sp hsp => ⟨by rw [own_exp, if_neg hc101, if_pos hc102], rfl⟩) (by decide) (by decide)
    · skip
      replace k := k.icmpYes (pc' := 15) d34_9 (feq hc102).2 (by decide) (by decide)
      replace k := k.iloadN d34_15 rfl
      replace k := k.iconst (2 : Int32) d34_16 rfl
      by_cases hc103 : i = (2 : Int32)
      · skip
        replace k := k.icmpNo d34_17 (teq hc103).2
        replace k := k.bipush (116 : Int32) d34_20 rfl
        exact k.iret d34_22 rfl (by simp) rfl (fun sp hsp => ⟨by rw [own_exp, if_neg hc101, if_neg hc102, if_pos hc103], rfl⟩) (by decide) (by decide)
      · skip
        replace k := k.icmpYes (pc' := 23) d34_17 (feq hc103).2 (by decide) (by decide)
        replace k := k.iloadN d34_23 rfl
        replace k := k.iconst (3 : Int32) d34_24 rfl
        by_cases hc104 : i = (3 : Int32)
        · skip
          replace k := k.icmpNo d34_25 (teq hc104).2
          replace k := k.bipush (101 : Int32) d34_28 rfl
          exact k.iret d34_30 rfl (by simp) rfl (fun sp hsp => ⟨by rw [own_exp, if_neg hc101, if_neg hc102, if_neg hc103, if_pos hc104], rfl⟩) (by decide) (by decide)
        · skip
          replace k := k.icmpYes (pc' := 31) d34_25 (feq hc104).2 (by decide) (by decide)
          replace k := k.iloadN d34_31 rfl
          replace k := k.iconst (4 : Int32) d34_32 rfl
          by_cases hc105 : i = (4 : Int32)
          · skip
            replace k := k.icmpNo d34_33 (teq hc105).2
            replace k := k.bipush (32 : Int32) d34_36 rfl
            exact k.iret d34_38 rfl (by simp) rfl (fun sp hsp => ⟨by rw [own_exp, if_neg hc101, if_neg hc102, if_neg hc103, if_neg hc104, if_pos hc105], rfl⟩) (by decide) (by decide)
          · skip
            replace k := k.icmpYes (pc' := 39) d34_33 (feq hc105).2 (by decide) (by decide)
            replace k := k.iloadN d34_39 rfl
            replace k := k.iconst (5 : Int32) d34_40 rfl
            replace k := k.iload d34_41 rfl
            replace k := k.iadd d34_43
            by_cases hc106 : i < ((5 : Int32) + nl)
            · skip
              replace k := k.icmpNo d34_44 (tlt hc106).2.1
              replace k := k.lloadN d34_47 rfl
              replace k := k.iloadN d34_48 rfl
              replace k := k.iconst (5 : Int32) d34_49 rfl
              replace k := k.isub d34_50
              obtain ⟨_, _, sp51, ⟨rfl, rfl⟩, k⟩ := k.callS (y := (⟨"com/example/vidare/vidare/core/GatePauseReasonPinLaw", "ch", "(JI)C"⟩ : MethodName)) d34_51 (hw _ (List.mem_of_getElem? (i := 179) rfl)) (hw _ (List.mem_of_getElem? (i := 180) rfl)) (hw _ (List.mem_of_getElem? (i := 2) rfl)) (hw _ (List.mem_of_getElem? (i := 181) rfl)) (W := 0) (argsL := [(.long a), (.int (i - (5 : Int32)))]) (rest := []) (rm35 Z a0 hw a (i - (5 : Int32)) h0 n0) all0 rfl (pd_9) rfl rfl rfl (by decide) (by decide) (by decide) (by decide) (by decide)
              replace k := (k [] all0).sfx [] rfl
              replace k := k.stk [(.int (own_chf a (i - (5 : Int32))))] rfl
              exact k.iret d34_54 rfl (by simp) (own_narch _ _) (fun sp hsp => ⟨by rw [own_exp, if_neg hc101, if_neg hc102, if_neg hc103, if_neg hc104, if_neg hc105, if_pos hc106], rfl⟩) (by decide) (by decide)
            · skip
              replace k := k.icmpYes (pc' := 55) d34_44 (flt hc106).2.1 (by decide) (by decide)
              replace k := k.iloadN d34_55 rfl
              replace k := k.iconst (5 : Int32) d34_56 rfl
              replace k := k.iload d34_57 rfl
              replace k := k.iadd d34_59
              by_cases hc107 : i = ((5 : Int32) + nl)
              · skip
                replace k := k.icmpNo d34_60 (teq hc107).2
                replace k := k.bipush (58 : Int32) d34_63 rfl
                exact k.iret d34_65 rfl (by simp) rfl (fun sp hsp => ⟨by rw [own_exp, if_neg hc101, if_neg hc102, if_neg hc103, if_neg hc104, if_neg hc105, if_neg hc106, if_pos hc107], rfl⟩) (by decide) (by decide)
              · skip
                replace k := k.icmpYes (pc' := 66) d34_60 (feq hc107).2 (by decide) (by decide)
                replace k := k.iloadN d34_66 rfl
                replace k := k.bipush (6 : Int32) d34_67 rfl
                replace k := k.iload d34_69 rfl
                replace k := k.iadd d34_71
                by_cases hc108 : i = ((6 : Int32) + nl)
                · skip
                  replace k := k.icmpNo d34_72 (teq hc108).2
                  replace k := k.bipush (32 : Int32) d34_75 rfl
                  exact k.iret d34_77 rfl (by simp) rfl (fun sp hsp => ⟨by rw [own_exp, if_neg hc101, if_neg hc102, if_neg hc103, if_neg hc104, if_neg hc105, if_neg hc106, if_neg hc107, if_pos hc108], rfl⟩) (by decide) (by decide)
                · skip
                  replace k := k.icmpYes (pc' := 78) d34_72 (feq hc108).2 (by decide) (by decide)
                  replace k := k.lloadN d34_78 rfl
                  replace k := k.iloadN d34_79 rfl
                  replace k := k.bipush (7 : Int32) d34_80 rfl
                  replace k := k.isub d34_82
                  replace k := k.iload d34_83 rfl
                  replace k := k.isub d34_85
                  obtain ⟨_, _, sp86, ⟨rfl, rfl⟩, k⟩ := k.callS (y := (⟨"com/example/vidare/vidare/core/GatePauseReasonPinLaw", "ch", "(JI)C"⟩ : MethodName)) d34_86 (hw _ (List.mem_of_getElem? (i := 179) rfl)) (hw _ (List.mem_of_getElem? (i := 180) rfl)) (hw _ (List.mem_of_getElem? (i := 2) rfl)) (hw _ (List.mem_of_getElem? (i := 181) rfl)) (W := 0) (argsL := [(.long b), (.int ((i - (7 : Int32)) - nl))]) (rest := []) (rm35 Z a0 hw b ((i - (7 : Int32)) - nl) h0 n0) all0 rfl (pd_9) rfl rfl rfl (by decide) (by decide) (by decide) (by decide) (by decide)
                  replace k := (k [] all0).sfx [] rfl
                  replace k := k.stk [(.int (own_chf b ((i - (7 : Int32)) - nl)))] rfl
                  exact k.iret d34_89 rfl (by simp) (own_narch _ _) (fun sp hsp => ⟨by rw [own_exp, if_neg hc101, if_neg hc102, if_neg hc103, if_neg hc104, if_neg hc105, if_neg hc106, if_neg hc107, if_neg hc108], rfl⟩) (by decide) (by decide)

theorem d28_0 : decode method_5_code 0 = .ok (.iload_n 1, 1) := by decide +kernel
theorem d28_1 : decode method_5_code 1 = .ok (.aload_n 0, 1) := by decide +kernel
theorem d28_2 : decode method_5_code 2 = .ok (.invokevirtual 19, 3) := by decide +kernel
theorem d28_5 : decode method_5_code 5 = .ok (.if_icmp .lt 5, 3) := by decide +kernel
theorem d28_8 : decode method_5_code 8 = .ok (.iconst 1, 1) := by decide +kernel
theorem d28_9 : decode method_5_code 9 = .ok (.ireturn, 1) := by decide +kernel
theorem d28_10 : decode method_5_code 10 = .ok (.aload_n 0, 1) := by decide +kernel
theorem d28_11 : decode method_5_code 11 = .ok (.iload_n 1, 1) := by decide +kernel
theorem d28_12 : decode method_5_code 12 = .ok (.invokevirtual 38, 3) := by decide +kernel
theorem d28_15 : decode method_5_code 15 = .ok (.iload_n 1, 1) := by decide +kernel
theorem d28_16 : decode method_5_code 16 = .ok (.lload_n 2, 1) := by decide +kernel
theorem d28_17 : decode method_5_code 17 = .ok (.lload 4, 2) := by decide +kernel
theorem d28_19 : decode method_5_code 19 = .ok (.iload 6, 2) := by decide +kernel
theorem d28_21 : decode method_5_code 21 = .ok (.invokestatic 42, 3) := by decide +kernel
theorem d28_24 : decode method_5_code 24 = .ok (.if_icmp .ne 7, 3) := by decide +kernel
theorem d28_27 : decode method_5_code 27 = .ok (.iconst 1, 1) := by decide +kernel
theorem d28_28 : decode method_5_code 28 = .ok (.goto 4, 3) := by decide +kernel
theorem d28_32 : decode method_5_code 32 = .ok (.ireturn, 1) := by decide +kernel
set_option maxRecDepth 65536 in
set_option maxHeartbeats 40000000 in
theorem rm28 (Z : State) (a0 : Array Value) (hw : ∀ d ∈ tables_1, d.before a0 Z = true) (zC : Int32) (vF : Value) (s1 t1 : Addr) (cod1 : Int32) (n1 : Nat) (G1 : Nat → Int32) (I : Nat) (i : Int32) (a b : Int64) (nl : Int32) (h0 : Heap) (n0 : Nat) (Z0 : n0 ≤ h0.size) (S_C : Sta Z h0 "java/lang/String" "COMPACT_STRINGS" "Z" (.int zC)) (S_F : Sta Z h0 "jdk/internal/util/Preconditions" "SIOOBE_FORMATTER" "Ljava/util/function/BiFunction;" vF) (S_AD : Sta Z h0 "java/lang/StringUTF16" "$assertionsDisabled" "Z" (.int (1 : Int32))) (S_HI : Sta Z h0 "java/lang/StringUTF16" "HI_BYTE_SHIFT" "I" (.int (0 : Int32))) (S_LO : Sta Z h0 "java/lang/StringUTF16" "LO_BYTE_SHIFT" "I" (.int (8 : Int32))) (hC : ¬ (zC = (0 : Int32))) (hF : vF = .null ∨ ∃ b, vF = .ref b) (E1 : Exa Z h0 s1 "java/lang/String") (C1 : Fld Z h0 s1 "java/lang/String" "coder" "B" (.int cod1)) (V1 : Fld Z h0 s1 "java/lang/String" "value" "[B" (.ref t1)) (A1 : Arf Z h0 t1 .byte (own_ln cod1 n1) (own_bf G1)) (D1 : own_der G1) (hc1 : cod1 = 0 ∨ cod1 = 1) (hn1 : n1 ≤ 16) (hi : i.toInt = (I : Int)) (hcon : I < n1 → own_dec cod1 G1 I = own_exp i a b nl) :
    Con Z n0 (⟨"com/example/vidare/vidare/core/GatePauseReasonPinLaw", "ok", "(Ljava/lang/String;IJJI)Z"⟩ : MethodName) method_5_code 7 (some .boolean) [] ({ frames := 5, cells := 0, slots := 0, locals := 66 } : Room) #[(.ref s1), (.int i), (.long a), (.long b), (.int nl)] h0 [] (fun v h sp => v = some (.int (1 : Int32)) ∧ h0 = h) := by
  refine Con.intro (L0 := #[.val (.ref s1), .val (.int i), .val (.long a), .second, .val (.long b), .second, .val (.int nl)]) ⟨_, own_EW hw⟩ (plainFor_of_name (by first | (simp [plainName, overriddenIn]; done) | decide +kernel)) (fun m => by first | (simp [entryFrame, mkF, argsToLocals, Value.category]; done) | rfl) ?_
  intro C k
  replace k := k.iloadN d28_0 rfl
  replace k := k.aloadN d28_1 rfl rfl
  obtain ⟨_, _, sp2, ⟨rfl, rfl⟩, k⟩ := k.callV (y := (⟨"java/lang/String", "length", "()I"⟩ : MethodName)) (z := (⟨"java/lang/String", "length", "()I"⟩ : MethodName)) (a := s1) d28_2 (hw _ (List.mem_of_getElem? (i := 150) rfl)) (hw _ (List.mem_of_getElem? (i := 60) rfl)) (fun s hs => notFace_of_selects (args := #[]) (mvT hs (hw _ (List.mem_of_getElem? (i := 62) rfl)))) (hw _ (List.mem_of_getElem? (i := 62) rfl)) (hw _ (List.mem_of_getElem? (i := 61) rfl)) (hw _ (List.mem_of_getElem? (i := 6) rfl)) (hw _ (List.mem_of_getElem? (i := 63) rfl)) E1 (W := 1) (argsL := []) (rest := [(.int i)]) (rm10 Z a0 hw zC vF s1 t1 cod1 n1 G1 h0 n0 Z0 S_C S_F S_AD S_HI S_LO hC hF E1 C1 V1 A1 D1 hc1 hn1) all0 rfl (pd_10) rfl rfl rfl (by decide) (by decide) (by decide) (by decide) (by decide)
  replace k := (k [] all0).sfx [] rfl
  replace k := k.stk [(.int (Nat.toInt32 n1)), (.int i)] rfl
  by_cases hc101 : i < (Nat.toInt32 n1)
  · skip
    replace k := k.icmpYes (pc' := 10) d28_5 (tlt hc101).1 (by decide) (by decide)
    have hlt := own_ltN hc101 hi (own_tn (by omega))
    replace k := k.aloadN d28_10 rfl rfl
    replace k := k.iloadN d28_11 rfl
    obtain ⟨_, _, sp12, ⟨rfl, rfl⟩, k⟩ := k.callV (y := (⟨"java/lang/String", "charAt", "(I)C"⟩ : MethodName)) (z := (⟨"java/lang/String", "charAt", "(I)C"⟩ : MethodName)) (a := s1) d28_12 (hw _ (List.mem_of_getElem? (i := 154) rfl)) (hw _ (List.mem_of_getElem? (i := 155) rfl)) (fun s hs => notFace_of_selects (args := #[]) (mvT hs (hw _ (List.mem_of_getElem? (i := 157) rfl)))) (hw _ (List.mem_of_getElem? (i := 157) rfl)) (hw _ (List.mem_of_getElem? (i := 156) rfl)) (hw _ (List.mem_of_getElem? (i := 6) rfl)) (hw _ (List.mem_of_getElem? (i := 158) rfl)) E1 (W := 0) (argsL := [(.int i)]) (rest := []) (rm29 Z a0 hw zC vF s1 t1 cod1 n1 G1 I i h0 n0 Z0 S_C S_F S_AD S_HI S_LO hC hF E1 C1 V1 A1 D1 hc1 hn1 hi hlt) all0 rfl (pd_11) rfl rfl rfl (by decide) (by decide) (by decide) (by decide) (by decide)
    replace k := (k [] all0).sfx [] rfl
    replace k := k.stk [(.int (own_dec cod1 G1 I))] rfl
    replace k := k.iloadN d28_15 rfl
    replace k := k.lloadN d28_16 rfl
    replace k := k.lload d28_17 rfl
    replace k := k.iload d28_19 rfl
    obtain ⟨_, _, sp21, ⟨rfl, rfl⟩, k⟩ := k.callS (y := (⟨"com/example/vidare/vidare/core/GatePauseReasonPinLaw", "expected", "(IJJI)C"⟩ : MethodName)) d28_21 (hw _ (List.mem_of_getElem? (i := 176) rfl)) (hw _ (List.mem_of_getElem? (i := 177) rfl)) (hw _ (List.mem_of_getElem? (i := 2) rfl)) (hw _ (List.mem_of_getElem? (i := 178) rfl)) (W := 1) (argsL := [(.int i), (.long a), (.long b), (.int nl)]) (rest := [(.int (own_dec cod1 G1 I))]) (rm34 Z a0 hw i a b nl h0 n0) all0 rfl (pd_12) rfl rfl rfl (by decide) (by decide) (by decide) (by decide) (by decide)
    replace k := (k [] all0).sfx [] rfl
    replace k := k.stk [(.int (own_exp i a b nl)), (.int (own_dec cod1 G1 I))] rfl
    replace k := k.icmpNo d28_24 (teq (hcon hlt)).2
    replace k := k.iconst (1 : Int32) d28_27 rfl
    replace k := k.goto (pc' := 32) d28_28 (by decide) (by decide)
    exact k.iret d28_32 rfl (by simp) rfl (fun sp hsp => ⟨rfl, rfl⟩) (by decide) (by decide)
  · skip
    replace k := k.icmpNo d28_5 (flt hc101).1
    replace k := k.iconst (1 : Int32) d28_8 rfl
    exact k.iret d28_9 rfl (by simp) rfl (fun sp hsp => ⟨rfl, rfl⟩) (by decide) (by decide)

theorem d41_0 : decode jdk_52_method_3_code 0 = .ok (.iload_n 0, 1) := by decide +kernel
theorem d41_1 : decode jdk_52_method_3_code 1 = .ok (.ifCond .ge 11, 3) := by decide +kernel
theorem d41_12 : decode jdk_52_method_3_code 12 = .ok (.iload_n 0, 1) := by decide +kernel
theorem d41_13 : decode jdk_52_method_3_code 13 = .ok (.ldc 20, 2) := by decide +kernel
theorem d41_15 : decode jdk_52_method_3_code 15 = .ok (.if_icmp .lt 40, 3) := by decide +kernel
theorem d41_55 : decode jdk_52_method_3_code 55 = .ok (.iload_n 0, 1) := by decide +kernel
theorem d41_56 : decode jdk_52_method_3_code 56 = .ok (.iconst 1, 1) := by decide +kernel
theorem d41_57 : decode jdk_52_method_3_code 57 = .ok (.ishl, 1) := by decide +kernel
theorem d41_58 : decode jdk_52_method_3_code 58 = .ok (.ireturn, 1) := by decide +kernel
set_option maxRecDepth 65536 in
set_option maxHeartbeats 40000000 in
theorem rm41_1 (Z : State) (a0 : Array Value) (hw : ∀ d ∈ tables_1, d.before a0 Z = true)  (h0 : Heap) (n0 : Nat)  :
    Con Z n0 (⟨"java/lang/StringUTF16", "newBytesLength", "(I)I"⟩ : MethodName) jdk_52_method_3_code 1 (some .int) [] ({ frames := 0, cells := 0, slots := 0, locals := 0 } : Room) #[(.int (1 : Int32))] h0 [] (fun v h sp => v = some (.int (2 : Int32)) ∧ h0 = h) := by
  refine Con.intro (L0 := #[.val (.int (1 : Int32))]) ⟨_, own_EW hw⟩ (plainFor_of_name (by first | (simp [plainName, overriddenIn]; done) | decide +kernel)) (fun m => by first | (simp [entryFrame, mkF, argsToLocals, Value.category]; done) | rfl) ?_
  intro C k
  replace k := k.iloadN d41_0 rfl
  replace k := k.ifYes (pc' := 12) d41_1 (by decide) (by decide) (by decide)
  replace k := k.iloadN d41_12 rfl
  replace k := k.ldcInt d41_13 (hw _ (List.mem_of_getElem? (i := 202) rfl))
  replace k := k.icmpYes (pc' := 55) d41_15 (by decide) (by decide) (by decide)
  replace k := k.iloadN d41_55 rfl
  replace k := k.iconst (1 : Int32) d41_56 rfl
  replace k := k.ishl d41_57
  replace k := k.foldI (2 : Int32) (by decide)
  exact k.iret d41_58 rfl (by simp) rfl (fun sp hsp => ⟨rfl, rfl⟩) (by decide) (by decide)

theorem d40_0 : decode jdk_52_method_2_code 0 = .ok (.iload_n 0, 1) := by decide +kernel
theorem d40_1 : decode jdk_52_method_2_code 1 = .ok (.invokestatic 11, 3) := by decide +kernel
theorem d40_4 : decode jdk_52_method_2_code 4 = .ok (.newarray .byte, 2) := by decide +kernel
theorem d40_6 : decode jdk_52_method_2_code 6 = .ok (.areturn, 1) := by decide +kernel
set_option maxRecDepth 65536 in
set_option maxHeartbeats 40000000 in
theorem rm40_1 (Z : State) (a0 : Array Value) (hw : ∀ d ∈ tables_1, d.before a0 Z = true)  (h0 : Heap) (n0 : Nat) (Z0 : n0 ≤ h0.size) :
    Con Z n0 (⟨"java/lang/StringUTF16", "newBytesFor", "(I)[B"⟩ : MethodName) jdk_52_method_2_code 1 (some (.array .byte)) [] ({ frames := 1, cells := 1, slots := 2, locals := 12 } : Room) #[(.int (1 : Int32))] h0 [] (fun v h sp => ∃ b, v = some (.ref b) ∧ Keep h0 h [] ∧ h0.size ≤ b ∧ n0 ≤ b ∧ sp b ∧ Arf Z h b .byte 2 (own_bf (fun _ => 0))) := by
  refine Con.intro (L0 := #[.val (.int (1 : Int32))]) ⟨_, own_EW hw⟩ (plainFor_of_name (by first | (simp [plainName, overriddenIn]; done) | decide +kernel)) (fun m => by first | (simp [entryFrame, mkF, argsToLocals, Value.category]; done) | rfl) ?_
  intro C k
  replace k := k.iloadN d40_0 rfl
  obtain ⟨_, _, sp1, ⟨rfl, rfl⟩, k⟩ := k.callS (y := (⟨"java/lang/StringUTF16", "newBytesLength", "(I)I"⟩ : MethodName)) d40_1 (hw _ (List.mem_of_getElem? (i := 199) rfl)) (hw _ (List.mem_of_getElem? (i := 200) rfl)) (hw _ (List.mem_of_getElem? (i := 185) rfl)) (hw _ (List.mem_of_getElem? (i := 201) rfl)) (W := 0) (argsL := [(.int (1 : Int32))]) (rest := []) (rm41_1 Z a0 hw h0 n0) all0 rfl (pd_13) rfl rfl rfl (by decide) (by decide) (by decide) (by decide) (by decide)
  replace k := (k [] all0).sfx [] rfl
  replace k := k.stk [(.int (2 : Int32))] rfl
  obtain ⟨h101, b101, g101, E101, A101, X101, k⟩ := k.newarr (ad := "[B") d40_4 (hw _ (List.mem_of_getElem? (i := 19) rfl)) (by decide) 2 (by decide) 2 (by decide) (by decide) (by decide) (by decide) (by decide)
  have ge_b101 : n0 ≤ b101 := Nat.le_trans Z0 (Nat.le_of_eq g101.symm)
  have sz_b101 : h0.size ≤ b101 := Nat.le_trans (Keep.refl h0 ([] : List Addr)).1 (Nat.le_of_eq g101.symm)
  have K101 : Keep h0 h101 [] := (Keep.refl h0 ([] : List Addr)).ext E101
  exact k.aret d40_6 rfl rfl rfl rfl (fun sp hsp => ⟨_, rfl, K101, sz_b101, ge_b101, (hsp _ (List.mem_of_getElem? (i := 0) rfl)), A101⟩) (by decide) (by decide)

set_option maxRecDepth 65536 in
set_option maxHeartbeats 40000000 in
theorem rm41_2 (Z : State) (a0 : Array Value) (hw : ∀ d ∈ tables_1, d.before a0 Z = true)  (h0 : Heap) (n0 : Nat)  :
    Con Z n0 (⟨"java/lang/StringUTF16", "newBytesLength", "(I)I"⟩ : MethodName) jdk_52_method_3_code 1 (some .int) [] ({ frames := 0, cells := 0, slots := 0, locals := 0 } : Room) #[(.int (2 : Int32))] h0 [] (fun v h sp => v = some (.int (4 : Int32)) ∧ h0 = h) := by
  refine Con.intro (L0 := #[.val (.int (2 : Int32))]) ⟨_, own_EW hw⟩ (plainFor_of_name (by first | (simp [plainName, overriddenIn]; done) | decide +kernel)) (fun m => by first | (simp [entryFrame, mkF, argsToLocals, Value.category]; done) | rfl) ?_
  intro C k
  replace k := k.iloadN d41_0 rfl
  replace k := k.ifYes (pc' := 12) d41_1 (by decide) (by decide) (by decide)
  replace k := k.iloadN d41_12 rfl
  replace k := k.ldcInt d41_13 (hw _ (List.mem_of_getElem? (i := 202) rfl))
  replace k := k.icmpYes (pc' := 55) d41_15 (by decide) (by decide) (by decide)
  replace k := k.iloadN d41_55 rfl
  replace k := k.iconst (1 : Int32) d41_56 rfl
  replace k := k.ishl d41_57
  replace k := k.foldI (4 : Int32) (by decide)
  exact k.iret d41_58 rfl (by simp) rfl (fun sp hsp => ⟨rfl, rfl⟩) (by decide) (by decide)

set_option maxRecDepth 65536 in
set_option maxHeartbeats 40000000 in
theorem rm40_2 (Z : State) (a0 : Array Value) (hw : ∀ d ∈ tables_1, d.before a0 Z = true)  (h0 : Heap) (n0 : Nat) (Z0 : n0 ≤ h0.size) :
    Con Z n0 (⟨"java/lang/StringUTF16", "newBytesFor", "(I)[B"⟩ : MethodName) jdk_52_method_2_code 1 (some (.array .byte)) [] ({ frames := 1, cells := 1, slots := 4, locals := 12 } : Room) #[(.int (2 : Int32))] h0 [] (fun v h sp => ∃ b, v = some (.ref b) ∧ Keep h0 h [] ∧ h0.size ≤ b ∧ n0 ≤ b ∧ sp b ∧ Arf Z h b .byte 4 (own_bf (fun _ => 0))) := by
  refine Con.intro (L0 := #[.val (.int (2 : Int32))]) ⟨_, own_EW hw⟩ (plainFor_of_name (by first | (simp [plainName, overriddenIn]; done) | decide +kernel)) (fun m => by first | (simp [entryFrame, mkF, argsToLocals, Value.category]; done) | rfl) ?_
  intro C k
  replace k := k.iloadN d40_0 rfl
  obtain ⟨_, _, sp1, ⟨rfl, rfl⟩, k⟩ := k.callS (y := (⟨"java/lang/StringUTF16", "newBytesLength", "(I)I"⟩ : MethodName)) d40_1 (hw _ (List.mem_of_getElem? (i := 199) rfl)) (hw _ (List.mem_of_getElem? (i := 200) rfl)) (hw _ (List.mem_of_getElem? (i := 185) rfl)) (hw _ (List.mem_of_getElem? (i := 201) rfl)) (W := 0) (argsL := [(.int (2 : Int32))]) (rest := []) (rm41_2 Z a0 hw h0 n0) all0 rfl (pd_13) rfl rfl rfl (by decide) (by decide) (by decide) (by decide) (by decide)
  replace k := (k [] all0).sfx [] rfl
  replace k := k.stk [(.int (4 : Int32))] rfl
  obtain ⟨h101, b101, g101, E101, A101, X101, k⟩ := k.newarr (ad := "[B") d40_4 (hw _ (List.mem_of_getElem? (i := 19) rfl)) (by decide) 4 (by decide) 4 (by decide) (by decide) (by decide) (by decide) (by decide)
  have ge_b101 : n0 ≤ b101 := Nat.le_trans Z0 (Nat.le_of_eq g101.symm)
  have sz_b101 : h0.size ≤ b101 := Nat.le_trans (Keep.refl h0 ([] : List Addr)).1 (Nat.le_of_eq g101.symm)
  have K101 : Keep h0 h101 [] := (Keep.refl h0 ([] : List Addr)).ext E101
  exact k.aret d40_6 rfl rfl rfl rfl (fun sp hsp => ⟨_, rfl, K101, sz_b101, ge_b101, (hsp _ (List.mem_of_getElem? (i := 0) rfl)), A101⟩) (by decide) (by decide)

set_option maxRecDepth 65536 in
set_option maxHeartbeats 40000000 in
theorem rm41_3 (Z : State) (a0 : Array Value) (hw : ∀ d ∈ tables_1, d.before a0 Z = true)  (h0 : Heap) (n0 : Nat)  :
    Con Z n0 (⟨"java/lang/StringUTF16", "newBytesLength", "(I)I"⟩ : MethodName) jdk_52_method_3_code 1 (some .int) [] ({ frames := 0, cells := 0, slots := 0, locals := 0 } : Room) #[(.int (3 : Int32))] h0 [] (fun v h sp => v = some (.int (6 : Int32)) ∧ h0 = h) := by
  refine Con.intro (L0 := #[.val (.int (3 : Int32))]) ⟨_, own_EW hw⟩ (plainFor_of_name (by first | (simp [plainName, overriddenIn]; done) | decide +kernel)) (fun m => by first | (simp [entryFrame, mkF, argsToLocals, Value.category]; done) | rfl) ?_
  intro C k
  replace k := k.iloadN d41_0 rfl
  replace k := k.ifYes (pc' := 12) d41_1 (by decide) (by decide) (by decide)
  replace k := k.iloadN d41_12 rfl
  replace k := k.ldcInt d41_13 (hw _ (List.mem_of_getElem? (i := 202) rfl))
  replace k := k.icmpYes (pc' := 55) d41_15 (by decide) (by decide) (by decide)
  replace k := k.iloadN d41_55 rfl
  replace k := k.iconst (1 : Int32) d41_56 rfl
  replace k := k.ishl d41_57
  replace k := k.foldI (6 : Int32) (by decide)
  exact k.iret d41_58 rfl (by simp) rfl (fun sp hsp => ⟨rfl, rfl⟩) (by decide) (by decide)

set_option maxRecDepth 65536 in
set_option maxHeartbeats 40000000 in
theorem rm40_3 (Z : State) (a0 : Array Value) (hw : ∀ d ∈ tables_1, d.before a0 Z = true)  (h0 : Heap) (n0 : Nat) (Z0 : n0 ≤ h0.size) :
    Con Z n0 (⟨"java/lang/StringUTF16", "newBytesFor", "(I)[B"⟩ : MethodName) jdk_52_method_2_code 1 (some (.array .byte)) [] ({ frames := 1, cells := 1, slots := 6, locals := 12 } : Room) #[(.int (3 : Int32))] h0 [] (fun v h sp => ∃ b, v = some (.ref b) ∧ Keep h0 h [] ∧ h0.size ≤ b ∧ n0 ≤ b ∧ sp b ∧ Arf Z h b .byte 6 (own_bf (fun _ => 0))) := by
  refine Con.intro (L0 := #[.val (.int (3 : Int32))]) ⟨_, own_EW hw⟩ (plainFor_of_name (by first | (simp [plainName, overriddenIn]; done) | decide +kernel)) (fun m => by first | (simp [entryFrame, mkF, argsToLocals, Value.category]; done) | rfl) ?_
  intro C k
  replace k := k.iloadN d40_0 rfl
  obtain ⟨_, _, sp1, ⟨rfl, rfl⟩, k⟩ := k.callS (y := (⟨"java/lang/StringUTF16", "newBytesLength", "(I)I"⟩ : MethodName)) d40_1 (hw _ (List.mem_of_getElem? (i := 199) rfl)) (hw _ (List.mem_of_getElem? (i := 200) rfl)) (hw _ (List.mem_of_getElem? (i := 185) rfl)) (hw _ (List.mem_of_getElem? (i := 201) rfl)) (W := 0) (argsL := [(.int (3 : Int32))]) (rest := []) (rm41_3 Z a0 hw h0 n0) all0 rfl (pd_13) rfl rfl rfl (by decide) (by decide) (by decide) (by decide) (by decide)
  replace k := (k [] all0).sfx [] rfl
  replace k := k.stk [(.int (6 : Int32))] rfl
  obtain ⟨h101, b101, g101, E101, A101, X101, k⟩ := k.newarr (ad := "[B") d40_4 (hw _ (List.mem_of_getElem? (i := 19) rfl)) (by decide) 6 (by decide) 6 (by decide) (by decide) (by decide) (by decide) (by decide)
  have ge_b101 : n0 ≤ b101 := Nat.le_trans Z0 (Nat.le_of_eq g101.symm)
  have sz_b101 : h0.size ≤ b101 := Nat.le_trans (Keep.refl h0 ([] : List Addr)).1 (Nat.le_of_eq g101.symm)
  have K101 : Keep h0 h101 [] := (Keep.refl h0 ([] : List Addr)).ext E101
  exact k.aret d40_6 rfl rfl rfl rfl (fun sp hsp => ⟨_, rfl, K101, sz_b101, ge_b101, (hsp _ (List.mem_of_getElem? (i := 0) rfl)), A101⟩) (by decide) (by decide)

set_option maxRecDepth 65536 in
set_option maxHeartbeats 40000000 in
theorem rm41_16 (Z : State) (a0 : Array Value) (hw : ∀ d ∈ tables_1, d.before a0 Z = true)  (h0 : Heap) (n0 : Nat)  :
    Con Z n0 (⟨"java/lang/StringUTF16", "newBytesLength", "(I)I"⟩ : MethodName) jdk_52_method_3_code 1 (some .int) [] ({ frames := 0, cells := 0, slots := 0, locals := 0 } : Room) #[(.int (16 : Int32))] h0 [] (fun v h sp => v = some (.int (32 : Int32)) ∧ h0 = h) := by
  refine Con.intro (L0 := #[.val (.int (16 : Int32))]) ⟨_, own_EW hw⟩ (plainFor_of_name (by first | (simp [plainName, overriddenIn]; done) | decide +kernel)) (fun m => by first | (simp [entryFrame, mkF, argsToLocals, Value.category]; done) | rfl) ?_
  intro C k
  replace k := k.iloadN d41_0 rfl
  replace k := k.ifYes (pc' := 12) d41_1 (by decide) (by decide) (by decide)
  replace k := k.iloadN d41_12 rfl
  replace k := k.ldcInt d41_13 (hw _ (List.mem_of_getElem? (i := 202) rfl))
  replace k := k.icmpYes (pc' := 55) d41_15 (by decide) (by decide) (by decide)
  replace k := k.iloadN d41_55 rfl
  replace k := k.iconst (1 : Int32) d41_56 rfl
  replace k := k.ishl d41_57
  replace k := k.foldI (32 : Int32) (by decide)
  exact k.iret d41_58 rfl (by simp) rfl (fun sp hsp => ⟨rfl, rfl⟩) (by decide) (by decide)

set_option maxRecDepth 65536 in
set_option maxHeartbeats 40000000 in
theorem rm40_16 (Z : State) (a0 : Array Value) (hw : ∀ d ∈ tables_1, d.before a0 Z = true)  (h0 : Heap) (n0 : Nat) (Z0 : n0 ≤ h0.size) :
    Con Z n0 (⟨"java/lang/StringUTF16", "newBytesFor", "(I)[B"⟩ : MethodName) jdk_52_method_2_code 1 (some (.array .byte)) [] ({ frames := 1, cells := 1, slots := 32, locals := 12 } : Room) #[(.int (16 : Int32))] h0 [] (fun v h sp => ∃ b, v = some (.ref b) ∧ Keep h0 h [] ∧ h0.size ≤ b ∧ n0 ≤ b ∧ sp b ∧ Arf Z h b .byte 32 (own_bf (fun _ => 0))) := by
  refine Con.intro (L0 := #[.val (.int (16 : Int32))]) ⟨_, own_EW hw⟩ (plainFor_of_name (by first | (simp [plainName, overriddenIn]; done) | decide +kernel)) (fun m => by first | (simp [entryFrame, mkF, argsToLocals, Value.category]; done) | rfl) ?_
  intro C k
  replace k := k.iloadN d40_0 rfl
  obtain ⟨_, _, sp1, ⟨rfl, rfl⟩, k⟩ := k.callS (y := (⟨"java/lang/StringUTF16", "newBytesLength", "(I)I"⟩ : MethodName)) d40_1 (hw _ (List.mem_of_getElem? (i := 199) rfl)) (hw _ (List.mem_of_getElem? (i := 200) rfl)) (hw _ (List.mem_of_getElem? (i := 185) rfl)) (hw _ (List.mem_of_getElem? (i := 201) rfl)) (W := 0) (argsL := [(.int (16 : Int32))]) (rest := []) (rm41_16 Z a0 hw h0 n0) all0 rfl (pd_13) rfl rfl rfl (by decide) (by decide) (by decide) (by decide) (by decide)
  replace k := (k [] all0).sfx [] rfl
  replace k := k.stk [(.int (32 : Int32))] rfl
  obtain ⟨h101, b101, g101, E101, A101, X101, k⟩ := k.newarr (ad := "[B") d40_4 (hw _ (List.mem_of_getElem? (i := 19) rfl)) (by decide) 32 (by decide) 32 (by decide) (by decide) (by decide) (by decide) (by decide)
  have ge_b101 : n0 ≤ b101 := Nat.le_trans Z0 (Nat.le_of_eq g101.symm)
  have sz_b101 : h0.size ≤ b101 := Nat.le_trans (Keep.refl h0 ([] : List Addr)).1 (Nat.le_of_eq g101.symm)
  have K101 : Keep h0 h101 [] := (Keep.refl h0 ([] : List Addr)).ext E101
  exact k.aret d40_6 rfl rfl rfl rfl (fun sp hsp => ⟨_, rfl, K101, sz_b101, ge_b101, (hsp _ (List.mem_of_getElem? (i := 0) rfl)), A101⟩) (by decide) (by decide)

theorem d37_0 : decode jdk_52_method_21_code 0 = .ok (.iconst 0, 1) := by decide +kernel
theorem d37_1 : decode jdk_52_method_21_code 1 = .ok (.istore 5, 2) := by decide +kernel
theorem d37_3 : decode jdk_52_method_21_code 3 = .ok (.iload 5, 2) := by decide +kernel
theorem d37_5 : decode jdk_52_method_21_code 5 = .ok (.iload 4, 2) := by decide +kernel
theorem d37_7 : decode jdk_52_method_21_code 7 = .ok (.if_icmp .ge 37, 3) := by decide +kernel
theorem d37_10 : decode jdk_52_method_21_code 10 = .ok (.aload_n 0, 1) := by decide +kernel
theorem d37_11 : decode jdk_52_method_21_code 11 = .ok (.iload_n 1, 1) := by decide +kernel
theorem d37_12 : decode jdk_52_method_21_code 12 = .ok (.caload, 1) := by decide +kernel
theorem d37_13 : decode jdk_52_method_21_code 13 = .ok (.istore 6, 2) := by decide +kernel
theorem d37_15 : decode jdk_52_method_21_code 15 = .ok (.iload 6, 2) := by decide +kernel
theorem d37_17 : decode jdk_52_method_21_code 17 = .ok (.sipush 255, 3) := by decide +kernel
theorem d37_20 : decode jdk_52_method_21_code 20 = .ok (.if_icmp .le 6, 3) := by decide +kernel
theorem d37_23 : decode jdk_52_method_21_code 23 = .ok (.iload 5, 2) := by decide +kernel
theorem d37_25 : decode jdk_52_method_21_code 25 = .ok (.ireturn, 1) := by decide +kernel
theorem d37_26 : decode jdk_52_method_21_code 26 = .ok (.aload_n 2, 1) := by decide +kernel
theorem d37_27 : decode jdk_52_method_21_code 27 = .ok (.iload_n 3, 1) := by decide +kernel
theorem d37_28 : decode jdk_52_method_21_code 28 = .ok (.iload 6, 2) := by decide +kernel
theorem d37_30 : decode jdk_52_method_21_code 30 = .ok (.i2b, 1) := by decide +kernel
theorem d37_31 : decode jdk_52_method_21_code 31 = .ok (.bastore, 1) := by decide +kernel
theorem d37_32 : decode jdk_52_method_21_code 32 = .ok (.iinc 1 1, 3) := by decide +kernel
theorem d37_35 : decode jdk_52_method_21_code 35 = .ok (.iinc 3 1, 3) := by decide +kernel
theorem d37_38 : decode jdk_52_method_21_code 38 = .ok (.iinc 5 1, 3) := by decide +kernel
theorem d37_41 : decode jdk_52_method_21_code 41 = .ok (.goto (-38), 3) := by decide +kernel
theorem d37_44 : decode jdk_52_method_21_code 44 = .ok (.iload 4, 2) := by decide +kernel
theorem d37_46 : decode jdk_52_method_21_code 46 = .ok (.ireturn, 1) := by decide +kernel
set_option maxRecDepth 65536 in
set_option maxHeartbeats 40000000 in
theorem rm37_1 (Z : State) (a0 : Array Value) (hw : ∀ d ∈ tables_1, d.before a0 Z = true) (a1 a2 : Addr) (f2 : Nat → Value) (c0 : Int32) (h0 : Heap) (n0 : Nat) (ne : a1 ≠ a2) (g2 : n0 ≤ a2) (A1 : Arf Z h0 a1 .char 1 (own_arr [c0])) (A2 : Arf Z h0 a2 .byte 1 f2) :
    Con Z n0 (⟨"java/lang/StringUTF16", "compress", "([CI[BII)I"⟩ : MethodName) jdk_52_method_21_code 7 (some .int) [] ({ frames := 0, cells := 0, slots := 0, locals := 0 } : Room) #[(.ref a1), (.int (0 : Int32)), (.ref a2), (.int (0 : Int32)), (.int (1 : Int32))] h0 [a2] (fun v h sp => ∃ j : Int32, v = some (.int j) ∧ Keep h0 h [a2] ∧ ((j = (1 : Int32) ∧ (¬ ((255 : Int32) < c0)) ∧ Arf Z h a2 .byte 1 (own_arr [(c0.toInt8.toInt32)])) ∨ (j = (0 : Int32) ∧ (255 : Int32) < c0))) := by
  refine Con.intro (L0 := #[.val (.ref a1), .val (.int (0 : Int32)), .val (.ref a2), .val (.int (0 : Int32)), .val (.int (1 : Int32)), .unset, .unset]) ⟨_, own_EW hw⟩ (plainFor_of_name (by first | (simp [plainName, overriddenIn]; done) | decide +kernel)) (fun m => by first | (simp [entryFrame, mkF, argsToLocals, Value.category]; done) | rfl) ?_
  intro C k
  replace k := k.iconst (0 : Int32) d37_0 rfl
  replace k := k.istore #[.val (.ref a1), .val (.int (0 : Int32)), .val (.ref a2), .val (.int (0 : Int32)), .val (.int (1 : Int32)), .val (.int (0 : Int32)), .unset] d37_1 rfl
  replace k := k.iload d37_3 rfl
  replace k := k.iload d37_5 rfl
  replace k := k.icmpNo d37_7 (by decide)
  replace k := k.aloadN d37_10 rfl rfl
  replace k := k.iloadN d37_11 rfl
  replace k := k.caload d37_12 A1  0 (by decide) (by decide) (by decide) (.int c0) rfl
  replace k := k.istore #[.val (.ref a1), .val (.int (0 : Int32)), .val (.ref a2), .val (.int (0 : Int32)), .val (.int (1 : Int32)), .val (.int (0 : Int32)), .val (.int c0)] d37_13 rfl
  replace k := k.iload d37_15 rfl
  replace k := k.sipush (255 : Int32) d37_17 rfl
  by_cases hc101 : (255 : Int32) < c0
  · skip
    replace k := k.icmpNo d37_20 (tlt hc101).2.2.2
    replace k := k.iload d37_23 rfl
    exact k.iret d37_25 rfl (by simp) rfl (fun sp hsp => ⟨_, rfl, (Keep.refl h0 ([a2] : List Addr)), Or.inr (⟨rfl, hc101⟩)⟩) (by decide) (by decide)
  · skip
    replace k := k.icmpYes (pc' := 26) d37_20 (flt hc101).2.2.2 (by decide) (by decide)
    replace k := k.aloadN d37_26 rfl rfl
    replace k := k.iloadN d37_27 rfl
    replace k := k.iload d37_28 rfl
    replace k := k.i2b d37_30
    obtain ⟨h102, W102, A102, k⟩ := k.bastore d37_31 A2 0 (by decide) (by decide) (by decide) g2 (List.mem_of_getElem? (i := 0) rfl) (c0.toInt8.toInt32) (own_i2b _)
    have K102 : Keep h0 h102 [a2] := (Keep.refl h0 ([a2] : List Addr)).wr W102 (Or.inl (List.mem_of_getElem? (i := 0) rfl))
    replace k := k.iinc (1 : Int32) #[.val (.ref a1), .val (.int ((0 : Int32) + (1 : Int32))), .val (.ref a2), .val (.int (0 : Int32)), .val (.int (1 : Int32)), .val (.int (0 : Int32)), .val (.int c0)] d37_32 rfl rfl rfl
    replace k := k.loc #[.val (.ref a1), .val (.int (1 : Int32)), .val (.ref a2), .val (.int (0 : Int32)), .val (.int (1 : Int32)), .val (.int (0 : Int32)), .val (.int c0)] (by rfl)
    replace k := k.iinc (1 : Int32) #[.val (.ref a1), .val (.int (1 : Int32)), .val (.ref a2), .val (.int ((0 : Int32) + (1 : Int32))), .val (.int (1 : Int32)), .val (.int (0 : Int32)), .val (.int c0)] d37_35 rfl rfl rfl
    replace k := k.loc #[.val (.ref a1), .val (.int (1 : Int32)), .val (.ref a2), .val (.int (1 : Int32)), .val (.int (1 : Int32)), .val (.int (0 : Int32)), .val (.int c0)] (by rfl)
    replace k := k.iinc (1 : Int32) #[.val (.ref a1), .val (.int (1 : Int32)), .val (.ref a2), .val (.int (1 : Int32)), .val (.int (1 : Int32)), .val (.int ((0 : Int32) + (1 : Int32))), .val (.int c0)] d37_38 rfl rfl rfl
    replace k := k.loc #[.val (.ref a1), .val (.int (1 : Int32)), .val (.ref a2), .val (.int (1 : Int32)), .val (.int (1 : Int32)), .val (.int (1 : Int32)), .val (.int c0)] (by rfl)
    replace k := k.goto (pc' := 3) d37_41 (by decide) (by decide)
    replace k := k.iload d37_3 rfl
    replace k := k.iload d37_5 rfl
    replace k := k.icmpYes (pc' := 44) d37_7 (by decide) (by decide) (by decide)
    replace k := k.iload d37_44 rfl
    exact k.iret d37_46 rfl (by simp) rfl (fun sp hsp => ⟨_, rfl, K102, Or.inl ⟨rfl, hc101, A102.congr (fun i hi => own_cg1 i hi)⟩⟩) (by decide) (by decide)

theorem d39_0 : decode jdk_52_method_14_code 0 = .ok (.iload_n 2, 1) := by decide +kernel
theorem d39_1 : decode jdk_52_method_14_code 1 = .ok (.invokestatic 107, 3) := by decide +kernel
theorem d39_4 : decode jdk_52_method_14_code 4 = .ok (.astore_n 3, 1) := by decide +kernel
theorem d39_5 : decode jdk_52_method_14_code 5 = .ok (.iconst 0, 1) := by decide +kernel
theorem d39_6 : decode jdk_52_method_14_code 6 = .ok (.istore 4, 2) := by decide +kernel
theorem d39_8 : decode jdk_52_method_14_code 8 = .ok (.iload 4, 2) := by decide +kernel
theorem d39_10 : decode jdk_52_method_14_code 10 = .ok (.iload_n 2, 1) := by decide +kernel
theorem d39_11 : decode jdk_52_method_14_code 11 = .ok (.if_icmp .ge 21, 3) := by decide +kernel
theorem d39_14 : decode jdk_52_method_14_code 14 = .ok (.aload_n 3, 1) := by decide +kernel
theorem d39_15 : decode jdk_52_method_14_code 15 = .ok (.iload 4, 2) := by decide +kernel
theorem d39_17 : decode jdk_52_method_14_code 17 = .ok (.aload_n 0, 1) := by decide +kernel
theorem d39_18 : decode jdk_52_method_14_code 18 = .ok (.iload_n 1, 1) := by decide +kernel
theorem d39_19 : decode jdk_52_method_14_code 19 = .ok (.caload, 1) := by decide +kernel
theorem d39_20 : decode jdk_52_method_14_code 20 = .ok (.invokestatic 111, 3) := by decide +kernel
theorem d39_23 : decode jdk_52_method_14_code 23 = .ok (.iinc 1 1, 3) := by decide +kernel
theorem d39_26 : decode jdk_52_method_14_code 26 = .ok (.iinc 4 1, 3) := by decide +kernel
theorem d39_29 : decode jdk_52_method_14_code 29 = .ok (.goto (-21), 3) := by decide +kernel
theorem d39_32 : decode jdk_52_method_14_code 32 = .ok (.aload_n 3, 1) := by decide +kernel
theorem d39_33 : decode jdk_52_method_14_code 33 = .ok (.areturn, 1) := by decide +kernel
set_option maxRecDepth 65536 in
set_option maxHeartbeats 40000000 in
theorem rm39_1 (Z : State) (a0 : Array Value) (hw : ∀ d ∈ tables_1, d.before a0 Z = true) (zC : Int32) (vF : Value) (a1 : Addr) (c0 : Int32) (h0 : Heap) (n0 : Nat) (Z0 : n0 ≤ h0.size) (S_C : Sta Z h0 "java/lang/String" "COMPACT_STRINGS" "Z" (.int zC)) (S_F : Sta Z h0 "jdk/internal/util/Preconditions" "SIOOBE_FORMATTER" "Ljava/util/function/BiFunction;" vF) (S_AD : Sta Z h0 "java/lang/StringUTF16" "$assertionsDisabled" "Z" (.int (1 : Int32))) (S_HI : Sta Z h0 "java/lang/StringUTF16" "HI_BYTE_SHIFT" "I" (.int (0 : Int32))) (S_LO : Sta Z h0 "java/lang/StringUTF16" "LO_BYTE_SHIFT" "I" (.int (8 : Int32))) (hC : ¬ (zC = (0 : Int32))) (hF : vF = .null ∨ ∃ b, vF = .ref b) (A1 : Arf Z h0 a1 .char 1 (own_arr [c0])) (hk0 : own_ch c0) :
    Con Z n0 (⟨"java/lang/StringUTF16", "toBytes", "([CII)[B"⟩ : MethodName) jdk_52_method_14_code 5 (some (.array .byte)) [] ({ frames := 2, cells := 1, slots := 2, locals := 24 } : Room) #[(.ref a1), (.int (0 : Int32)), (.int (1 : Int32))] h0 [] (fun v h sp => ∃ b G, v = some (.ref b) ∧ Keep h0 h [] ∧ h0.size ≤ b ∧ Arf Z h b .byte 2 (own_bf G) ∧ own_der G ∧ ∀ i, i < 1 → own_dec 1 G i = own_li [c0] i) := by
  refine Con.intro (L0 := #[.val (.ref a1), .val (.int (0 : Int32)), .val (.int (1 : Int32)), .unset, .unset]) ⟨_, own_EW hw⟩ (plainFor_of_name (by first | (simp [plainName, overriddenIn]; done) | decide +kernel)) (fun m => by first | (simp [entryFrame, mkF, argsToLocals, Value.category]; done) | rfl) ?_
  intro C k
  replace k := k.iloadN d39_0 rfl
  obtain ⟨_, hn101, sp1, ⟨bn101, rfl, Kn101, zn101, gn101, sn101, An101⟩, k⟩ := k.callS (y := (⟨"java/lang/StringUTF16", "newBytesFor", "(I)[B"⟩ : MethodName)) d39_1 (hw _ (List.mem_of_getElem? (i := 196) rfl)) (hw _ (List.mem_of_getElem? (i := 197) rfl)) (hw _ (List.mem_of_getElem? (i := 185) rfl)) (hw _ (List.mem_of_getElem? (i := 198) rfl)) (W := 0) (argsL := [(.int (1 : Int32))]) (rest := []) (rm40_1 Z a0 hw h0 n0 Z0) all0 rfl (pd_14) rfl rfl rfl (by decide) (by decide) (by decide) (by decide) (by decide)
  have Kc102 : Keep h0 hn101 [] := (Keep.refl h0 ([] : List Addr)).trans Kn101 all0
  replace k := (k [bn101] (allS ⟨sn101, An101.lt⟩ all0)).sfx [bn101] rfl
  replace k := k.stk [(.ref bn101)] rfl
  have zz103 : h0.size ≤ bn101 := Nat.le_trans (Keep.refl h0 ([] : List Addr)).1 zn101
  replace k := k.astoreN #[.val (.ref a1), .val (.int (0 : Int32)), .val (.int (1 : Int32)), .val (.ref bn101), .unset] d39_4 rfl rfl
  replace k := k.iconst (0 : Int32) d39_5 rfl
  replace k := k.istore #[.val (.ref a1), .val (.int (0 : Int32)), .val (.int (1 : Int32)), .val (.ref bn101), .val (.int (0 : Int32))] d39_6 rfl
  replace k := k.iload d39_8 rfl
  replace k := k.iloadN d39_10 rfl
  replace k := k.icmpNo d39_11 (by decide)
  replace k := k.aloadN d39_14 rfl rfl
  replace k := k.iload d39_15 rfl
  replace k := k.aloadN d39_17 rfl rfl
  replace k := k.iloadN d39_18 rfl
  replace k := k.caload d39_19 (A1.keep Kn101 nin0)  0 (by decide) (by decide) (by decide) (.int c0) rfl
  obtain ⟨_, hp104, sp20, ⟨rfl, Kp104, Ap104⟩, k⟩ := k.callS (y := (⟨"java/lang/StringUTF16", "putChar", "([BII)V"⟩ : MethodName)) d39_20 (hw _ (List.mem_of_getElem? (i := 203) rfl)) (hw _ (List.mem_of_getElem? (i := 204) rfl)) (hw _ (List.mem_of_getElem? (i := 185) rfl)) (hw _ (List.mem_of_getElem? (i := 205) rfl)) (W := 0) (argsL := [(.ref bn101), (.int (0 : Int32)), (.int c0)]) (rest := []) (rm42 Z a0 hw zC vF bn101 2 0 (0 : Int32) c0 (fun _ => 0) hn101 n0 (Nat.le_trans Z0 Kn101.1) (Sta.keepN S_C Kn101 all0) (Sta.keepN S_F Kn101 all0) (Sta.keepN S_AD Kn101 all0) (Sta.keepN S_HI Kn101 all0) (Sta.keepN S_LO Kn101 all0) hC hF gn101 An101 (by decide) (by decide) (by decide)) (allS (List.mem_of_getElem? (i := 0) rfl) all0) rfl (pd_15) rfl rfl rfl (by decide) (by decide) (by decide) (by decide) (by decide)
  have Kc105 : Keep h0 hp104 [] := Kc102.trans Kp104 (allS (Or.inr zz103) all0)
  replace k := (k [] all0).sfx [bn101] rfl
  replace k := k.stk [] rfl
  replace k := k.iinc (1 : Int32) #[.val (.ref a1), .val (.int ((0 : Int32) + (1 : Int32))), .val (.int (1 : Int32)), .val (.ref bn101), .val (.int (0 : Int32))] d39_23 rfl rfl rfl
  replace k := k.loc #[.val (.ref a1), .val (.int (1 : Int32)), .val (.int (1 : Int32)), .val (.ref bn101), .val (.int (0 : Int32))] (by rfl)
  replace k := k.iinc (1 : Int32) #[.val (.ref a1), .val (.int (1 : Int32)), .val (.int (1 : Int32)), .val (.ref bn101), .val (.int ((0 : Int32) + (1 : Int32)))] d39_26 rfl rfl rfl
  replace k := k.loc #[.val (.ref a1), .val (.int (1 : Int32)), .val (.int (1 : Int32)), .val (.ref bn101), .val (.int (1 : Int32))] (by rfl)
  replace k := k.goto (pc' := 8) d39_29 (by decide) (by decide)
  replace k := k.iload d39_8 rfl
  replace k := k.iloadN d39_10 rfl
  replace k := k.icmpYes (pc' := 32) d39_11 (by decide) (by decide) (by decide)
  replace k := k.aloadN d39_32 rfl rfl
  exact k.aret d39_33 rfl rfl rfl rfl (fun sp hsp => ⟨_, _, rfl, Kc105, zz103, Ap104, (own_derP own_der0), own_tb1 hk0⟩) (by decide) (by decide)

theorem d36_0 : decode jdk_52_method_16_code 0 = .ok (.iload_n 2, 1) := by decide +kernel
theorem d36_1 : decode jdk_52_method_16_code 1 = .ok (.newarray .byte, 2) := by decide +kernel
theorem d36_3 : decode jdk_52_method_16_code 3 = .ok (.astore_n 3, 1) := by decide +kernel
theorem d36_4 : decode jdk_52_method_16_code 4 = .ok (.aload_n 0, 1) := by decide +kernel
theorem d36_5 : decode jdk_52_method_16_code 5 = .ok (.iload_n 1, 1) := by decide +kernel
theorem d36_6 : decode jdk_52_method_16_code 6 = .ok (.aload_n 3, 1) := by decide +kernel
theorem d36_7 : decode jdk_52_method_16_code 7 = .ok (.iconst 0, 1) := by decide +kernel
theorem d36_8 : decode jdk_52_method_16_code 8 = .ok (.iload_n 2, 1) := by decide +kernel
theorem d36_9 : decode jdk_52_method_16_code 9 = .ok (.invokestatic 115, 3) := by decide +kernel
theorem d36_12 : decode jdk_52_method_16_code 12 = .ok (.istore 4, 2) := by decide +kernel
theorem d36_14 : decode jdk_52_method_16_code 14 = .ok (.iload 4, 2) := by decide +kernel
theorem d36_16 : decode jdk_52_method_16_code 16 = .ok (.iload_n 2, 1) := by decide +kernel
theorem d36_17 : decode jdk_52_method_16_code 17 = .ok (.if_icmp .eq 40, 3) := by decide +kernel
theorem d36_20 : decode jdk_52_method_16_code 20 = .ok (.aload_n 0, 1) := by decide +kernel
theorem d36_21 : decode jdk_52_method_16_code 21 = .ok (.iload_n 1, 1) := by decide +kernel
theorem d36_22 : decode jdk_52_method_16_code 22 = .ok (.iload_n 2, 1) := by decide +kernel
theorem d36_23 : decode jdk_52_method_16_code 23 = .ok (.invokestatic 119, 3) := by decide +kernel
theorem d36_26 : decode jdk_52_method_16_code 26 = .ok (.astore 5, 2) := by decide +kernel
theorem d36_28 : decode jdk_52_method_16_code 28 = .ok (.aload 5, 2) := by decide +kernel
theorem d36_30 : decode jdk_52_method_16_code 30 = .ok (.iload 4, 2) := by decide +kernel
theorem d36_32 : decode jdk_52_method_16_code 32 = .ok (.invokestatic 71, 3) := by decide +kernel
theorem d36_35 : decode jdk_52_method_16_code 35 = .ok (.sipush 255, 3) := by decide +kernel
theorem d36_38 : decode jdk_52_method_16_code 38 = .ok (.if_icmp .gt 16, 3) := by decide +kernel
theorem d36_54 : decode jdk_52_method_16_code 54 = .ok (.aload 5, 2) := by decide +kernel
theorem d36_56 : decode jdk_52_method_16_code 56 = .ok (.areturn, 1) := by decide +kernel
theorem d36_57 : decode jdk_52_method_16_code 57 = .ok (.aload_n 3, 1) := by decide +kernel
theorem d36_58 : decode jdk_52_method_16_code 58 = .ok (.areturn, 1) := by decide +kernel
set_option maxRecDepth 65536 in
set_option maxHeartbeats 40000000 in
theorem rm36_1 (Z : State) (a0 : Array Value) (hw : ∀ d ∈ tables_1, d.before a0 Z = true) (zC : Int32) (vF : Value) (a1 : Addr) (c0 : Int32) (h0 : Heap) (n0 : Nat) (Z0 : n0 ≤ h0.size) (S_C : Sta Z h0 "java/lang/String" "COMPACT_STRINGS" "Z" (.int zC)) (S_F : Sta Z h0 "jdk/internal/util/Preconditions" "SIOOBE_FORMATTER" "Ljava/util/function/BiFunction;" vF) (S_AD : Sta Z h0 "java/lang/StringUTF16" "$assertionsDisabled" "Z" (.int (1 : Int32))) (S_HI : Sta Z h0 "java/lang/StringUTF16" "HI_BYTE_SHIFT" "I" (.int (0 : Int32))) (S_LO : Sta Z h0 "java/lang/StringUTF16" "LO_BYTE_SHIFT" "I" (.int (8 : Int32))) (hC : ¬ (zC = (0 : Int32))) (hF : vF = .null ∨ ∃ b, vF = .ref b) (A1 : Arf Z h0 a1 .char 1 (own_arr [c0])) (hk0 : own_ch c0) :
    Con Z n0 (⟨"java/lang/StringUTF16", "compress", "([CII)[B"⟩ : MethodName) jdk_52_method_16_code 6 (some (.array .byte)) [] ({ frames := 3, cells := 2, slots := 3, locals := 40 } : Room) #[(.ref a1), (.int (0 : Int32)), (.int (1 : Int32))] h0 [] (fun v h sp => ∃ b cod G, v = some (.ref b) ∧ Keep h0 h [] ∧ h0.size ≤ b ∧ (cod = 0 ∨ cod = 1) ∧ Arf Z h b .byte (own_ln cod 1) (own_bf G) ∧ own_der G ∧ ∀ i, i < 1 → own_dec cod G i = own_li [c0] i) := by
  refine Con.intro (L0 := #[.val (.ref a1), .val (.int (0 : Int32)), .val (.int (1 : Int32)), .unset, .unset, .unset]) ⟨_, own_EW hw⟩ (plainFor_of_name (by first | (simp [plainName, overriddenIn]; done) | decide +kernel)) (fun m => by first | (simp [entryFrame, mkF, argsToLocals, Value.category]; done) | rfl) ?_
  intro C k
  replace k := k.iloadN d36_0 rfl
  obtain ⟨h101, b101, g101, E101, A101, X101, k⟩ := k.newarr (ad := "[B") d36_1 (hw _ (List.mem_of_getElem? (i := 19) rfl)) (by decide) 1 (by decide) 1 (by decide) (by decide) (by decide) (by decide) (by decide)
  have ge_b101 : n0 ≤ b101 := Nat.le_trans Z0 (Nat.le_of_eq g101.symm)
  have sz_b101 : h0.size ≤ b101 := Nat.le_trans (Keep.refl h0 ([] : List Addr)).1 (Nat.le_of_eq g101.symm)
  have K101 : Keep h0 h101 [] := (Keep.refl h0 ([] : List Addr)).ext E101
  replace k := k.astoreN #[.val (.ref a1), .val (.int (0 : Int32)), .val (.int (1 : Int32)), .val (.ref b101), .unset, .unset] d36_3 rfl rfl
  replace k := k.aloadN d36_4 rfl rfl
  replace k := k.iloadN d36_5 rfl
  replace k := k.aloadN d36_6 rfl rfl
  replace k := k.iconst (0 : Int32) d36_7 rfl
  replace k := k.iloadN d36_8 rfl
  obtain ⟨_, hz102, sp9, ⟨jz102, rfl, Kz102, Rz102⟩, k⟩ := k.callS (y := (⟨"java/lang/StringUTF16", "compress", "([CI[BII)I"⟩ : MethodName)) d36_9 (hw _ (List.mem_of_getElem? (i := 187) rfl)) (hw _ (List.mem_of_getElem? (i := 188) rfl)) (hw _ (List.mem_of_getElem? (i := 185) rfl)) (hw _ (List.mem_of_getElem? (i := 189) rfl)) (W := 0) (argsL := [(.ref a1), (.int (0 : Int32)), (.ref b101), (.int (0 : Int32)), (.int (1 : Int32))]) (rest := []) (rm37_1 Z a0 hw a1 b101 _ c0 h101 n0 (Nat.ne_of_lt (Nat.lt_of_lt_of_le A1.lt (Nat.le_of_eq g101.symm))) ge_b101 (A1.ext E101) A101) (allS (List.mem_of_getElem? (i := 0) rfl) all0) rfl (pd_16) rfl rfl rfl (by decide) (by decide) (by decide) (by decide) (by decide)
  have Kc103 : Keep h0 hz102 [] := K101.trans Kz102 (allS (Or.inr sz_b101) all0)
  replace k := (k [] all0).sfx [b101] rfl
  replace k := k.stk [(.int jz102)] rfl
  rcases Rz102 with ⟨rfl, hp0, Ac⟩ | ⟨rfl, hgt⟩
  · skip
    replace k := k.istore #[.val (.ref a1), .val (.int (0 : Int32)), .val (.int (1 : Int32)), .val (.ref b101), .val (.int (1 : Int32)), .unset] d36_12 rfl
    replace k := k.iload d36_14 rfl
    replace k := k.iloadN d36_16 rfl
    replace k := k.icmpYes (pc' := 57) d36_17 (by decide) (by decide) (by decide)
    replace k := k.aloadN d36_57 rfl rfl
    exact k.aret d36_58 rfl rfl rfl rfl (fun sp hsp => ⟨_, 0, own_li [(c0.toInt8.toInt32)], rfl, Kc103, sz_b101, Or.inl rfl, Ac, own_der8 (l := [c0]), own_lt1 hp0 hk0⟩) (by decide) (by decide)
  · skip
    replace k := k.istore #[.val (.ref a1), .val (.int (0 : Int32)), .val (.int (1 : Int32)), .val (.ref b101), .val (.int (0 : Int32)), .unset] d36_12 rfl
    replace k := k.iload d36_14 rfl
    replace k := k.iloadN d36_16 rfl
    replace k := k.icmpNo d36_17 (by decide)
    replace k := k.aloadN d36_20 rfl rfl
    replace k := k.iloadN d36_21 rfl
    replace k := k.iloadN d36_22 rfl
    obtain ⟨_, hy104, sp23, ⟨by104, Gy104, rfl, Ky104, zy104, Ay104, Dy104, Ty104⟩, k⟩ := k.callS (y := (⟨"java/lang/StringUTF16", "toBytes", "([CII)[B"⟩ : MethodName)) d36_23 (hw _ (List.mem_of_getElem? (i := 193) rfl)) (hw _ (List.mem_of_getElem? (i := 194) rfl)) (hw _ (List.mem_of_getElem? (i := 185) rfl)) (hw _ (List.mem_of_getElem? (i := 195) rfl)) (W := 0) (argsL := [(.ref a1), (.int (0 : Int32)), (.int (1 : Int32))]) (rest := []) (rm39_1 Z a0 hw zC vF a1 c0 hz102 n0 (Nat.le_trans (Nat.le_trans Z0 E101.1) Kz102.1) (Sta.keepN (Sta.ext E101 S_C) Kz102 (allS (Exa.nost X101) all0)) (Sta.keepN (Sta.ext E101 S_F) Kz102 (allS (Exa.nost X101) all0)) (Sta.keepN (Sta.ext E101 S_AD) Kz102 (allS (Exa.nost X101) all0)) (Sta.keepN (Sta.ext E101 S_HI) Kz102 (allS (Exa.nost X101) all0)) (Sta.keepN (Sta.ext E101 S_LO) Kz102 (allS (Exa.nost X101) all0)) hC hF ((A1.ext E101).keep Kz102 (ninS (Nat.ne_of_lt (Nat.lt_of_lt_of_le A1.lt (Nat.le_of_eq g101.symm))) nin0)) hk0) all0 rfl (pd_17) rfl rfl rfl (by decide) (by decide) (by decide) (by decide) (by decide)
    have Kc105 : Keep h0 hy104 [] := Kc103.trans Ky104 all0
    replace k := (k [] all0).sfx [b101] rfl
    replace k := k.stk [(.ref by104)] rfl
    replace k := k.astore #[.val (.ref a1), .val (.int (0 : Int32)), .val (.int (1 : Int32)), .val (.ref b101), .val (.int (0 : Int32)), .val (.ref by104)] d36_26 rfl rfl
    replace k := k.aload d36_28 rfl rfl
    replace k := k.iload d36_30 rfl
    obtain ⟨_, _, sp32, ⟨rfl, rfl⟩, k⟩ := k.callS (y := (⟨"java/lang/StringUTF16", "getChar", "([BI)C"⟩ : MethodName)) d36_32 (hw _ (List.mem_of_getElem? (i := 209) rfl)) (hw _ (List.mem_of_getElem? (i := 210) rfl)) (hw _ (List.mem_of_getElem? (i := 185) rfl)) (hw _ (List.mem_of_getElem? (i := 211) rfl)) (W := 0) (argsL := [(.ref by104), (.int (0 : Int32))]) (rest := []) (rm43 Z a0 hw zC vF by104 2 0 (0 : Int32) Gy104 hy104 n0 (Nat.le_trans (Nat.le_trans (Nat.le_trans Z0 E101.1) Kz102.1) Ky104.1) (Sta.keepN (Sta.keepN (Sta.ext E101 S_C) Kz102 (allS (Exa.nost X101) all0)) Ky104 all0) (Sta.keepN (Sta.keepN (Sta.ext E101 S_F) Kz102 (allS (Exa.nost X101) all0)) Ky104 all0) (Sta.keepN (Sta.keepN (Sta.ext E101 S_AD) Kz102 (allS (Exa.nost X101) all0)) Ky104 all0) (Sta.keepN (Sta.keepN (Sta.ext E101 S_HI) Kz102 (allS (Exa.nost X101) all0)) Ky104 all0) (Sta.keepN (Sta.keepN (Sta.ext E101 S_LO) Kz102 (allS (Exa.nost X101) all0)) Ky104 all0) hC hF Ay104 (by decide) (by decide) (by decide)) all0 rfl (pd_7) rfl rfl rfl (by decide) (by decide) (by decide) (by decide) (by decide)
    replace k := (k [] all0).sfx [b101] rfl
    replace k := k.stk [(.int (own_gc (Gy104 (2 * 0)) (Gy104 (2 * 0 + 1))))] rfl
    replace k := k.stk [(.int c0)] (by rw [show own_gc (Gy104 (2 * 0)) (Gy104 (2 * 0 + 1)) = c0 from Ty104 0 (by decide)])
    replace k := k.sipush (255 : Int32) d36_35 rfl
    replace k := k.icmpYes (pc' := 54) d36_38 (tlt hgt).2.2.1 (by decide) (by decide)
    replace k := k.aload d36_54 rfl rfl
    have zz106 : h0.size ≤ by104 := Nat.le_trans Kc103.1 zy104
    exact k.aret d36_56 rfl rfl rfl rfl (fun sp hsp => ⟨_, 1, _, rfl, Kc105, zz106, Or.inr rfl, Ay104, Dy104, Ty104⟩) (by decide) (by decide)

theorem d38_0 : decode jdk_52_method_15_code 0 = .ok (.iload_n 1, 1) := by decide +kernel
theorem d38_1 : decode jdk_52_method_15_code 1 = .ok (.aload_n 0, 1) := by decide +kernel
theorem d38_2 : decode jdk_52_method_15_code 2 = .ok (.arraylength, 1) := by decide +kernel
theorem d38_3 : decode jdk_52_method_15_code 3 = .ok (.isub, 1) := by decide +kernel
theorem d38_4 : decode jdk_52_method_15_code 4 = .ok (.bipush 31, 2) := by decide +kernel
theorem d38_6 : decode jdk_52_method_15_code 6 = .ok (.iushr, 1) := by decide +kernel
theorem d38_7 : decode jdk_52_method_15_code 7 = .ok (.i2b, 1) := by decide +kernel
theorem d38_8 : decode jdk_52_method_15_code 8 = .ok (.ireturn, 1) := by decide +kernel
set_option maxRecDepth 65536 in
set_option maxHeartbeats 40000000 in
theorem rm38_1_0 (Z : State) (a0 : Array Value) (hw : ∀ d ∈ tables_1, d.before a0 Z = true) (a1 : Addr) (f1 : Nat → Value) (h0 : Heap) (n0 : Nat) (A1 : Arf Z h0 a1 .byte 1 f1) :
    Con Z n0 (⟨"java/lang/StringUTF16", "coderFromArrayLen", "([BI)B"⟩ : MethodName) jdk_52_method_15_code 2 (some .byte) [] ({ frames := 0, cells := 0, slots := 0, locals := 0 } : Room) #[(.ref a1), (.int (1 : Int32))] h0 [] (fun v h sp => v = some (.int (0 : Int32)) ∧ h0 = h) := by
  refine Con.intro (L0 := #[.val (.ref a1), .val (.int (1 : Int32))]) ⟨_, own_EW hw⟩ (plainFor_of_name (by first | (simp [plainName, overriddenIn]; done) | decide +kernel)) (fun m => by first | (simp [entryFrame, mkF, argsToLocals, Value.category]; done) | rfl) ?_
  intro C k
  replace k := k.iloadN d38_0 rfl
  replace k := k.aloadN d38_1 rfl rfl
  replace k := k.arrlen d38_2 A1 (1 : Int32) (by decide)
  replace k := k.isub d38_3
  replace k := k.foldI (0 : Int32) (by decide)
  replace k := k.bipush (31 : Int32) d38_4 rfl
  replace k := k.iushr d38_6
  replace k := k.foldI (0 : Int32) (by decide)
  replace k := k.i2b d38_7
  replace k := k.foldI (0 : Int32) (by decide)
  exact k.iret d38_8 rfl (by simp) rfl (fun sp hsp => ⟨rfl, rfl⟩) (by decide) (by decide)

set_option maxRecDepth 65536 in
set_option maxHeartbeats 40000000 in
theorem rm38_1_1 (Z : State) (a0 : Array Value) (hw : ∀ d ∈ tables_1, d.before a0 Z = true) (a1 : Addr) (f1 : Nat → Value) (h0 : Heap) (n0 : Nat) (A1 : Arf Z h0 a1 .byte 2 f1) :
    Con Z n0 (⟨"java/lang/StringUTF16", "coderFromArrayLen", "([BI)B"⟩ : MethodName) jdk_52_method_15_code 2 (some .byte) [] ({ frames := 0, cells := 0, slots := 0, locals := 0 } : Room) #[(.ref a1), (.int (1 : Int32))] h0 [] (fun v h sp => v = some (.int (1 : Int32)) ∧ h0 = h) := by
  refine Con.intro (L0 := #[.val (.ref a1), .val (.int (1 : Int32))]) ⟨_, own_EW hw⟩ (plainFor_of_name (by first | (simp [plainName, overriddenIn]; done) | decide +kernel)) (fun m => by first | (simp [entryFrame, mkF, argsToLocals, Value.category]; done) | rfl) ?_
  intro C k
  replace k := k.iloadN d38_0 rfl
  replace k := k.aloadN d38_1 rfl rfl
  replace k := k.arrlen d38_2 A1 (2 : Int32) (by decide)
  replace k := k.isub d38_3
  replace k := k.foldI (-1 : Int32) (by decide)
  replace k := k.bipush (31 : Int32) d38_4 rfl
  replace k := k.iushr d38_6
  replace k := k.foldI (1 : Int32) (by decide)
  replace k := k.i2b d38_7
  replace k := k.foldI (1 : Int32) (by decide)
  exact k.iret d38_8 rfl (by simp) rfl (fun sp hsp => ⟨rfl, rfl⟩) (by decide) (by decide)

theorem d3_0 : decode jdk_42_method_149_code 0 = .ok (.aload_n 0, 1) := by decide +kernel
theorem d3_1 : decode jdk_42_method_149_code 1 = .ok (.invokespecial 1, 3) := by decide +kernel
theorem d3_4 : decode jdk_42_method_149_code 4 = .ok (.iload_n 3, 1) := by decide +kernel
theorem d3_5 : decode jdk_42_method_149_code 5 = .ok (.ifCond .ne 22, 3) := by decide +kernel
theorem d3_27 : decode jdk_42_method_149_code 27 = .ok (.getstatic 38, 3) := by decide +kernel
theorem d3_30 : decode jdk_42_method_149_code 30 = .ok (.ifCond .eq 28, 3) := by decide +kernel
theorem d3_33 : decode jdk_42_method_149_code 33 = .ok (.aload_n 1, 1) := by decide +kernel
theorem d3_34 : decode jdk_42_method_149_code 34 = .ok (.iload_n 2, 1) := by decide +kernel
theorem d3_35 : decode jdk_42_method_149_code 35 = .ok (.iload_n 3, 1) := by decide +kernel
theorem d3_36 : decode jdk_42_method_149_code 36 = .ok (.invokestatic 177, 3) := by decide +kernel
theorem d3_39 : decode jdk_42_method_149_code 39 = .ok (.astore 5, 2) := by decide +kernel
theorem d3_41 : decode jdk_42_method_149_code 41 = .ok (.aload_n 0, 1) := by decide +kernel
theorem d3_42 : decode jdk_42_method_149_code 42 = .ok (.aload 5, 2) := by decide +kernel
theorem d3_44 : decode jdk_42_method_149_code 44 = .ok (.iload_n 3, 1) := by decide +kernel
theorem d3_45 : decode jdk_42_method_149_code 45 = .ok (.invokestatic 47, 3) := by decide +kernel
theorem d3_48 : decode jdk_42_method_149_code 48 = .ok (.putfield 15, 3) := by decide +kernel
theorem d3_51 : decode jdk_42_method_149_code 51 = .ok (.aload_n 0, 1) := by decide +kernel
theorem d3_52 : decode jdk_42_method_149_code 52 = .ok (.aload 5, 2) := by decide +kernel
theorem d3_54 : decode jdk_42_method_149_code 54 = .ok (.putfield 9, 3) := by decide +kernel
theorem d3_57 : decode jdk_42_method_149_code 57 = .ok (.return_, 1) := by decide +kernel
set_option maxRecDepth 65536 in
set_option maxHeartbeats 40000000 in
theorem rm3_1 (Z : State) (a0 : Array Value) (hw : ∀ d ∈ tables_1, d.before a0 Z = true) (zC : Int32) (vF : Value) (a1 a2 : Addr) (c0 : Int32) (h0 : Heap) (n0 : Nat) (Z0 : n0 ≤ h0.size) (S_C : Sta Z h0 "java/lang/String" "COMPACT_STRINGS" "Z" (.int zC)) (S_F : Sta Z h0 "jdk/internal/util/Preconditions" "SIOOBE_FORMATTER" "Ljava/util/function/BiFunction;" vF) (S_AD : Sta Z h0 "java/lang/StringUTF16" "$assertionsDisabled" "Z" (.int (1 : Int32))) (S_HI : Sta Z h0 "java/lang/StringUTF16" "HI_BYTE_SHIFT" "I" (.int (0 : Int32))) (S_LO : Sta Z h0 "java/lang/StringUTF16" "LO_BYTE_SHIFT" "I" (.int (8 : Int32))) (hC : ¬ (zC = (0 : Int32))) (hF : vF = .null ∨ ∃ b, vF = .ref b) (g1 : n0 ≤ a1) (E1 : Exa Z h0 a1 "java/lang/String") (F1 : Fld Z h0 a1 "java/lang/String" "value" "[B" .null) (F2 : Fld Z h0 a1 "java/lang/String" "coder" "B" (.int (0 : Int32))) (A2 : Arf Z h0 a2 .char 1 (own_arr [c0])) (hk0 : own_ch c0) :
    Con Z n0 (⟨"java/lang/String", "<init>", "([CIILjava/lang/Void;)V"⟩ : MethodName) jdk_42_method_149_code 6 none [] ({ frames := 4, cells := 2, slots := 3, locals := 57 } : Room) #[(.ref a1), (.ref a2), (.int (0 : Int32)), (.int (1 : Int32)), .null] h0 [a1] (fun v h sp => v = none ∧ Keep h0 h [a1] ∧ ∃ t cod G, Fld Z h a1 "java/lang/String" "coder" "B" (.int cod) ∧ Fld Z h a1 "java/lang/String" "value" "[B" (.ref t) ∧ (cod = 0 ∨ cod = 1) ∧ Arf Z h t .byte (own_ln cod 1) (own_bf G) ∧ own_der G ∧ ∀ i, i < 1 → own_dec cod G i = own_li [c0] i) := by
  refine Con.intro (L0 := #[.val (.ref a1), .val (.ref a2), .val (.int (0 : Int32)), .val (.int (1 : Int32)), .val .null, .unset]) ⟨_, own_EW hw⟩ (plainFor_of_name (by first | (simp [plainName, overriddenIn]; done) | decide +kernel)) (fun m => by first | (simp [entryFrame, mkF, argsToLocals, Value.category]; done) | rfl) ?_
  intro C k
  replace k := k.aloadN d3_0 rfl rfl
  replace k := k.initO (W := 0) d3_1 (hw _ (List.mem_of_getElem? (i := 15) rfl)) (hw _ (List.mem_of_getElem? (i := 16) rfl)) (hw _ (List.mem_of_getElem? (i := 17) rfl)) rfl rfl (by decide) (by decide)
  replace k := k.iloadN d3_4 rfl
  replace k := k.ifYes (pc' := 27) d3_5 (by decide) (by decide) (by decide)
  replace k := k.getS d3_27 (host := "") (Or.inl (hw _ (List.mem_of_getElem? (i := 69) rfl))) Via.refl S_C
  replace k := k.ifNo d3_30 (feq hC).1
  replace k := k.aloadN d3_33 rfl rfl
  replace k := k.iloadN d3_34 rfl
  replace k := k.iloadN d3_35 rfl
  obtain ⟨_, hx101, sp36, ⟨bx101, dx101, Gx101, rfl, Kx101, zx101, hcx101, Ax101, Dx101, Tx101⟩, k⟩ := k.callS (y := (⟨"java/lang/StringUTF16", "compress", "([CII)[B"⟩ : MethodName)) d3_36 (hw _ (List.mem_of_getElem? (i := 183) rfl)) (hw _ (List.mem_of_getElem? (i := 184) rfl)) (hw _ (List.mem_of_getElem? (i := 185) rfl)) (hw _ (List.mem_of_getElem? (i := 186) rfl)) (W := 0) (argsL := [(.ref a2), (.int (0 : Int32)), (.int (1 : Int32))]) (rest := []) (rm36_1 Z a0 hw zC vF a2 c0 h0 n0 Z0 S_C S_F S_AD S_HI S_LO hC hF A2 hk0) all0 rfl (pd_17) rfl rfl rfl (by decide) (by decide) (by decide) (by decide) (by decide)
  have Kc102 : Keep h0 hx101 [a1] := (Keep.refl h0 ([a1] : List Addr)).trans Kx101 all0
  replace k := (k [] all0).sfx [a1] rfl
  replace k := k.stk [(.ref bx101)] rfl
  rcases hcx101 with rfl | rfl
  · skip
    replace Ax101 := own_ln0 Ax101
    replace k := k.astore #[.val (.ref a1), .val (.ref a2), .val (.int (0 : Int32)), .val (.int (1 : Int32)), .val .null, .val (.ref bx101)] d3_39 rfl rfl
    replace k := k.aloadN d3_41 rfl rfl
    replace k := k.aload d3_42 rfl rfl
    replace k := k.iloadN d3_44 rfl
    obtain ⟨_, _, sp45, ⟨rfl, rfl⟩, k⟩ := k.callS (y := (⟨"java/lang/StringUTF16", "coderFromArrayLen", "([BI)B"⟩ : MethodName)) d3_45 (hw _ (List.mem_of_getElem? (i := 190) rfl)) (hw _ (List.mem_of_getElem? (i := 191) rfl)) (hw _ (List.mem_of_getElem? (i := 185) rfl)) (hw _ (List.mem_of_getElem? (i := 192) rfl)) (W := 1) (argsL := [(.ref bx101), (.int (1 : Int32))]) (rest := [(.ref a1)]) (rm38_1_0 Z a0 hw bx101 _ hx101 n0 Ax101) all0 rfl (pd_18) rfl rfl rfl (by decide) (by decide) (by decide) (by decide) (by decide)
    replace k := (k [] all0).sfx [a1] rfl
    replace k := k.stk [(.int (0 : Int32)), (.ref a1)] rfl
    obtain ⟨h103, W103, k⟩ := k.putF d3_48 (host := "") (Or.inl (hw _ (List.mem_of_getElem? (i := 25) rfl))) Via.refl (F2.keep Kx101 nin0) (E1.keep Kx101) (Or.inr ⟨(hw _ (List.mem_of_getElem? (i := 21) rfl)), rfl, rfl⟩) (hw _ (List.mem_of_getElem? (i := 5) rfl)) (ty := .byte) (by decide) rfl rfl g1 (List.mem_of_getElem? (i := 0) rfl)
    have Fw103 := Fld.same W103 (F2.keep Kx101 nin0)
    have K103 : Keep h0 h103 [a1] := Kc102.wr W103 (Or.inl (List.mem_of_getElem? (i := 0) rfl))
    replace k := k.aloadN d3_51 rfl rfl
    replace k := k.aload d3_52 rfl rfl
    obtain ⟨h104, W104, k⟩ := k.putF d3_54 (host := "") (Or.inl (hw _ (List.mem_of_getElem? (i := 24) rfl))) Via.refl (Fld.other W103 (F1.keep Kx101 nin0) (Or.inr (slot_ne (Or.inr (hw _ (List.mem_of_getElem? (i := 20) rfl))) (Or.inr (hw _ (List.mem_of_getElem? (i := 21) rfl))) (by decide) (t := (.array .byte)) (t' := .byte) (by decide) (by decide)))) (Exa.wr W103 (E1.keep Kx101)) (Or.inr ⟨(hw _ (List.mem_of_getElem? (i := 20) rfl)), rfl, rfl⟩) (hw _ (List.mem_of_getElem? (i := 5) rfl)) (ty := (.array .byte)) (by decide) rfl rfl g1 (List.mem_of_getElem? (i := 0) rfl)
    have Fw104 := Fld.same W104 (Fld.other W103 (F1.keep Kx101 nin0) (Or.inr (slot_ne (Or.inr (hw _ (List.mem_of_getElem? (i := 20) rfl))) (Or.inr (hw _ (List.mem_of_getElem? (i := 21) rfl))) (by decide) (t := (.array .byte)) (t' := .byte) (by decide) (by decide))))
    have K104 : Keep h0 h104 [a1] := K103.wr W104 (Or.inl (List.mem_of_getElem? (i := 0) rfl))
    exact k.vret d3_57 rfl (fun sp hsp => ⟨rfl, K104, _, (0 : Int32), _, (Fld.other W104 Fw103 (Or.inr (slot_ne (Or.inr (hw _ (List.mem_of_getElem? (i := 21) rfl))) (Or.inr (hw _ (List.mem_of_getElem? (i := 20) rfl))) (by decide) (t := .byte) (t' := (.array .byte)) (by decide) (by decide)))), Fw104, Or.inl rfl, ((Ax101.other W103 (Ne.symm (Nat.ne_of_lt (Nat.lt_of_lt_of_le E1.lt zx101)))).other W104 (Ne.symm (Nat.ne_of_lt (Nat.lt_of_lt_of_le E1.lt zx101)))), Dx101, Tx101⟩) (by decide) (by decide)
  · skip
    replace Ax101 := own_ln1 Ax101
    replace k := k.astore #[.val (.ref a1), .val (.ref a2), .val (.int (0 : Int32)), .val (.int (1 : Int32)), .val .null, .val (.ref bx101)] d3_39 rfl rfl
    replace k := k.aloadN d3_41 rfl rfl
    replace k := k.aload d3_42 rfl rfl
    replace k := k.iloadN d3_44 rfl
    obtain ⟨_, _, sp45, ⟨rfl, rfl⟩, k⟩ := k.callS (y := (⟨"java/lang/StringUTF16", "coderFromArrayLen", "([BI)B"⟩ : MethodName)) d3_45 (hw _ (List.mem_of_getElem? (i := 190) rfl)) (hw _ (List.mem_of_getElem? (i := 191) rfl)) (hw _ (List.mem_of_getElem? (i := 185) rfl)) (hw _ (List.mem_of_getElem? (i := 192) rfl)) (W := 1) (argsL := [(.ref bx101), (.int (1 : Int32))]) (rest := [(.ref a1)]) (rm38_1_1 Z a0 hw bx101 _ hx101 n0 Ax101) all0 rfl (pd_18) rfl rfl rfl (by decide) (by decide) (by decide) (by decide) (by decide)
    replace k := (k [] all0).sfx [a1] rfl
    replace k := k.stk [(.int (1 : Int32)), (.ref a1)] rfl
    obtain ⟨h105, W105, k⟩ := k.putF d3_48 (host := "") (Or.inl (hw _ (List.mem_of_getElem? (i := 25) rfl))) Via.refl (F2.keep Kx101 nin0) (E1.keep Kx101) (Or.inr ⟨(hw _ (List.mem_of_getElem? (i := 21) rfl)), rfl, rfl⟩) (hw _ (List.mem_of_getElem? (i := 5) rfl)) (ty := .byte) (by decide) rfl rfl g1 (List.mem_of_getElem? (i := 0) rfl)
    have Fw105 := Fld.same W105 (F2.keep Kx101 nin0)
    have K105 : Keep h0 h105 [a1] := Kc102.wr W105 (Or.inl (List.mem_of_getElem? (i := 0) rfl))
    replace k := k.aloadN d3_51 rfl rfl
    replace k := k.aload d3_52 rfl rfl
    obtain ⟨h106, W106, k⟩ := k.putF d3_54 (host := "") (Or.inl (hw _ (List.mem_of_getElem? (i := 24) rfl))) Via.refl (Fld.other W105 (F1.keep Kx101 nin0) (Or.inr (slot_ne (Or.inr (hw _ (List.mem_of_getElem? (i := 20) rfl))) (Or.inr (hw _ (List.mem_of_getElem? (i := 21) rfl))) (by decide) (t := (.array .byte)) (t' := .byte) (by decide) (by decide)))) (Exa.wr W105 (E1.keep Kx101)) (Or.inr ⟨(hw _ (List.mem_of_getElem? (i := 20) rfl)), rfl, rfl⟩) (hw _ (List.mem_of_getElem? (i := 5) rfl)) (ty := (.array .byte)) (by decide) rfl rfl g1 (List.mem_of_getElem? (i := 0) rfl)
    have Fw106 := Fld.same W106 (Fld.other W105 (F1.keep Kx101 nin0) (Or.inr (slot_ne (Or.inr (hw _ (List.mem_of_getElem? (i := 20) rfl))) (Or.inr (hw _ (List.mem_of_getElem? (i := 21) rfl))) (by decide) (t := (.array .byte)) (t' := .byte) (by decide) (by decide))))
    have K106 : Keep h0 h106 [a1] := K105.wr W106 (Or.inl (List.mem_of_getElem? (i := 0) rfl))
    exact k.vret d3_57 rfl (fun sp hsp => ⟨rfl, K106, _, (1 : Int32), _, (Fld.other W106 Fw105 (Or.inr (slot_ne (Or.inr (hw _ (List.mem_of_getElem? (i := 21) rfl))) (Or.inr (hw _ (List.mem_of_getElem? (i := 20) rfl))) (by decide) (t := .byte) (t' := (.array .byte)) (by decide) (by decide)))), Fw106, Or.inr rfl, ((Ax101.other W105 (Ne.symm (Nat.ne_of_lt (Nat.lt_of_lt_of_le E1.lt zx101)))).other W106 (Ne.symm (Nat.ne_of_lt (Nat.lt_of_lt_of_le E1.lt zx101)))), Dx101, Tx101⟩) (by decide) (by decide)

set_option maxRecDepth 65536 in
set_option maxHeartbeats 40000000 in
theorem rm37_2 (Z : State) (a0 : Array Value) (hw : ∀ d ∈ tables_1, d.before a0 Z = true) (a1 a2 : Addr) (f2 : Nat → Value) (c0 c1 : Int32) (h0 : Heap) (n0 : Nat) (ne : a1 ≠ a2) (g2 : n0 ≤ a2) (A1 : Arf Z h0 a1 .char 2 (own_arr [c0, c1])) (A2 : Arf Z h0 a2 .byte 2 f2) :
    Con Z n0 (⟨"java/lang/StringUTF16", "compress", "([CI[BII)I"⟩ : MethodName) jdk_52_method_21_code 7 (some .int) [] ({ frames := 0, cells := 0, slots := 0, locals := 0 } : Room) #[(.ref a1), (.int (0 : Int32)), (.ref a2), (.int (0 : Int32)), (.int (2 : Int32))] h0 [a2] (fun v h sp => ∃ j : Int32, v = some (.int j) ∧ Keep h0 h [a2] ∧ ((j = (2 : Int32) ∧ (¬ ((255 : Int32) < c0) ∧ ¬ ((255 : Int32) < c1)) ∧ Arf Z h a2 .byte 2 (own_arr [(c0.toInt8.toInt32), (c1.toInt8.toInt32)])) ∨ (j = (0 : Int32) ∧ (255 : Int32) < c0) ∨ (j = (1 : Int32) ∧ (255 : Int32) < c1))) := by
  refine Con.intro (L0 := #[.val (.ref a1), .val (.int (0 : Int32)), .val (.ref a2), .val (.int (0 : Int32)), .val (.int (2 : Int32)), .unset, .unset]) ⟨_, own_EW hw⟩ (plainFor_of_name (by first | (simp [plainName, overriddenIn]; done) | decide +kernel)) (fun m => by first | (simp [entryFrame, mkF, argsToLocals, Value.category]; done) | rfl) ?_
  intro C k
  replace k := k.iconst (0 : Int32) d37_0 rfl
  replace k := k.istore #[.val (.ref a1), .val (.int (0 : Int32)), .val (.ref a2), .val (.int (0 : Int32)), .val (.int (2 : Int32)), .val (.int (0 : Int32)), .unset] d37_1 rfl
  replace k := k.iload d37_3 rfl
  replace k := k.iload d37_5 rfl
  replace k := k.icmpNo d37_7 (by decide)
  replace k := k.aloadN d37_10 rfl rfl
  replace k := k.iloadN d37_11 rfl
  replace k := k.caload d37_12 A1  0 (by decide) (by decide) (by decide) (.int c0) rfl
  replace k := k.istore #[.val (.ref a1), .val (.int (0 : Int32)), .val (.ref a2), .val (.int (0 : Int32)), .val (.int (2 : Int32)), .val (.int (0 : Int32)), .val (.int c0)] d37_13 rfl
  replace k := k.iload d37_15 rfl
  replace k := k.sipush (255 : Int32) d37_17 rfl
  by_cases hc101 : (255 : Int32) < c0
  · skip
    replace k := k.icmpNo d37_20 (tlt hc101).2.2.2
    replace k := k.iload d37_23 rfl
    exact k.iret d37_25 rfl (by simp) rfl (fun sp hsp => ⟨_, rfl, (Keep.refl h0 ([a2] : List Addr)), Or.inr (Or.inl ⟨rfl, hc101⟩)⟩) (by decide) (by decide)
  · skip
    replace k := k.icmpYes (pc' := 26) d37_20 (flt hc101).2.2.2 (by decide) (by decide)
    replace k := k.aloadN d37_26 rfl rfl
    replace k := k.iloadN d37_27 rfl
    replace k := k.iload d37_28 rfl
    replace k := k.i2b d37_30
    obtain ⟨h102, W102, A102, k⟩ := k.bastore d37_31 A2 0 (by decide) (by decide) (by decide) g2 (List.mem_of_getElem? (i := 0) rfl) (c0.toInt8.toInt32) (own_i2b _)
    have K102 : Keep h0 h102 [a2] := (Keep.refl h0 ([a2] : List Addr)).wr W102 (Or.inl (List.mem_of_getElem? (i := 0) rfl))
    replace k := k.iinc (1 : Int32) #[.val (.ref a1), .val (.int ((0 : Int32) + (1 : Int32))), .val (.ref a2), .val (.int (0 : Int32)), .val (.int (2 : Int32)), .val (.int (0 : Int32)), .val (.int c0)] d37_32 rfl rfl rfl
    replace k := k.loc #[.val (.ref a1), .val (.int (1 : Int32)), .val (.ref a2), .val (.int (0 : Int32)), .val (.int (2 : Int32)), .val (.int (0 : Int32)), .val (.int c0)] (by rfl)
    replace k := k.iinc (1 : Int32) #[.val (.ref a1), .val (.int (1 : Int32)), .val (.ref a2), .val (.int ((0 : Int32) + (1 : Int32))), .val (.int (2 : Int32)), .val (.int (0 : Int32)), .val (.int c0)] d37_35 rfl rfl rfl
    replace k := k.loc #[.val (.ref a1), .val (.int (1 : Int32)), .val (.ref a2), .val (.int (1 : Int32)), .val (.int (2 : Int32)), .val (.int (0 : Int32)), .val (.int c0)] (by rfl)
    replace k := k.iinc (1 : Int32) #[.val (.ref a1), .val (.int (1 : Int32)), .val (.ref a2), .val (.int (1 : Int32)), .val (.int (2 : Int32)), .val (.int ((0 : Int32) + (1 : Int32))), .val (.int c0)] d37_38 rfl rfl rfl
    replace k := k.loc #[.val (.ref a1), .val (.int (1 : Int32)), .val (.ref a2), .val (.int (1 : Int32)), .val (.int (2 : Int32)), .val (.int (1 : Int32)), .val (.int c0)] (by rfl)
    replace k := k.goto (pc' := 3) d37_41 (by decide) (by decide)
    replace k := k.iload d37_3 rfl
    replace k := k.iload d37_5 rfl
    replace k := k.icmpNo d37_7 (by decide)
    replace k := k.aloadN d37_10 rfl rfl
    replace k := k.iloadN d37_11 rfl
    replace k := k.caload d37_12 (A1.other W102 ne)  1 (by decide) (by decide) (by decide) (.int c1) rfl
    replace k := k.istore #[.val (.ref a1), .val (.int (1 : Int32)), .val (.ref a2), .val (.int (1 : Int32)), .val (.int (2 : Int32)), .val (.int (1 : Int32)), .val (.int c1)] d37_13 rfl
    replace k := k.iload d37_15 rfl
    replace k := k.sipush (255 : Int32) d37_17 rfl
    by_cases hc103 : (255 : Int32) < c1
    · skip
      replace k := k.icmpNo d37_20 (tlt hc103).2.2.2
      replace k := k.iload d37_23 rfl
      exact k.iret d37_25 rfl (by simp) rfl (fun sp hsp => ⟨_, rfl, K102, Or.inr (Or.inr (⟨rfl, hc103⟩))⟩) (by decide) (by decide)
    · skip
      replace k := k.icmpYes (pc' := 26) d37_20 (flt hc103).2.2.2 (by decide) (by decide)
      replace k := k.aloadN d37_26 rfl rfl
      replace k := k.iloadN d37_27 rfl
      replace k := k.iload d37_28 rfl
      replace k := k.i2b d37_30
      obtain ⟨h104, W104, A104, k⟩ := k.bastore d37_31 A102 1 (by decide) (by decide) (by decide) g2 (List.mem_of_getElem? (i := 0) rfl) (c1.toInt8.toInt32) (own_i2b _)
      have K104 : Keep h0 h104 [a2] := K102.wr W104 (Or.inl (List.mem_of_getElem? (i := 0) rfl))
      replace k := k.iinc (1 : Int32) #[.val (.ref a1), .val (.int ((1 : Int32) + (1 : Int32))), .val (.ref a2), .val (.int (1 : Int32)), .val (.int (2 : Int32)), .val (.int (1 : Int32)), .val (.int c1)] d37_32 rfl rfl rfl
      replace k := k.loc #[.val (.ref a1), .val (.int (2 : Int32)), .val (.ref a2), .val (.int (1 : Int32)), .val (.int (2 : Int32)), .val (.int (1 : Int32)), .val (.int c1)] (by rfl)
      replace k := k.iinc (1 : Int32) #[.val (.ref a1), .val (.int (2 : Int32)), .val (.ref a2), .val (.int ((1 : Int32) + (1 : Int32))), .val (.int (2 : Int32)), .val (.int (1 : Int32)), .val (.int c1)] d37_35 rfl rfl rfl
      replace k := k.loc #[.val (.ref a1), .val (.int (2 : Int32)), .val (.ref a2), .val (.int (2 : Int32)), .val (.int (2 : Int32)), .val (.int (1 : Int32)), .val (.int c1)] (by rfl)
      replace k := k.iinc (1 : Int32) #[.val (.ref a1), .val (.int (2 : Int32)), .val (.ref a2), .val (.int (2 : Int32)), .val (.int (2 : Int32)), .val (.int ((1 : Int32) + (1 : Int32))), .val (.int c1)] d37_38 rfl rfl rfl
      replace k := k.loc #[.val (.ref a1), .val (.int (2 : Int32)), .val (.ref a2), .val (.int (2 : Int32)), .val (.int (2 : Int32)), .val (.int (2 : Int32)), .val (.int c1)] (by rfl)
      replace k := k.goto (pc' := 3) d37_41 (by decide) (by decide)
      replace k := k.iload d37_3 rfl
      replace k := k.iload d37_5 rfl
      replace k := k.icmpYes (pc' := 44) d37_7 (by decide) (by decide) (by decide)
      replace k := k.iload d37_44 rfl
      exact k.iret d37_46 rfl (by simp) rfl (fun sp hsp => ⟨_, rfl, K104, Or.inl ⟨rfl, ⟨hc101, hc103⟩, A104.congr (fun i hi => own_cg2 i hi)⟩⟩) (by decide) (by decide)

set_option maxRecDepth 65536 in
set_option maxHeartbeats 40000000 in
theorem rm39_2 (Z : State) (a0 : Array Value) (hw : ∀ d ∈ tables_1, d.before a0 Z = true) (zC : Int32) (vF : Value) (a1 : Addr) (c0 c1 : Int32) (h0 : Heap) (n0 : Nat) (Z0 : n0 ≤ h0.size) (S_C : Sta Z h0 "java/lang/String" "COMPACT_STRINGS" "Z" (.int zC)) (S_F : Sta Z h0 "jdk/internal/util/Preconditions" "SIOOBE_FORMATTER" "Ljava/util/function/BiFunction;" vF) (S_AD : Sta Z h0 "java/lang/StringUTF16" "$assertionsDisabled" "Z" (.int (1 : Int32))) (S_HI : Sta Z h0 "java/lang/StringUTF16" "HI_BYTE_SHIFT" "I" (.int (0 : Int32))) (S_LO : Sta Z h0 "java/lang/StringUTF16" "LO_BYTE_SHIFT" "I" (.int (8 : Int32))) (hC : ¬ (zC = (0 : Int32))) (hF : vF = .null ∨ ∃ b, vF = .ref b) (A1 : Arf Z h0 a1 .char 2 (own_arr [c0, c1])) (hk0 : own_ch c0) (hk1 : own_ch c1) :
    Con Z n0 (⟨"java/lang/StringUTF16", "toBytes", "([CII)[B"⟩ : MethodName) jdk_52_method_14_code 5 (some (.array .byte)) [] ({ frames := 2, cells := 1, slots := 4, locals := 24 } : Room) #[(.ref a1), (.int (0 : Int32)), (.int (2 : Int32))] h0 [] (fun v h sp => ∃ b G, v = some (.ref b) ∧ Keep h0 h [] ∧ h0.size ≤ b ∧ Arf Z h b .byte 4 (own_bf G) ∧ own_der G ∧ ∀ i, i < 2 → own_dec 1 G i = own_li [c0, c1] i) := by
  refine Con.intro (L0 := #[.val (.ref a1), .val (.int (0 : Int32)), .val (.int (2 : Int32)), .unset, .unset]) ⟨_, own_EW hw⟩ (plainFor_of_name (by first | (simp [plainName, overriddenIn]; done) | decide +kernel)) (fun m => by first | (simp [entryFrame, mkF, argsToLocals, Value.category]; done) | rfl) ?_
  intro C k
  replace k := k.iloadN d39_0 rfl
  obtain ⟨_, hn101, sp1, ⟨bn101, rfl, Kn101, zn101, gn101, sn101, An101⟩, k⟩ := k.callS (y := (⟨"java/lang/StringUTF16", "newBytesFor", "(I)[B"⟩ : MethodName)) d39_1 (hw _ (List.mem_of_getElem? (i := 196) rfl)) (hw _ (List.mem_of_getElem? (i := 197) rfl)) (hw _ (List.mem_of_getElem? (i := 185) rfl)) (hw _ (List.mem_of_getElem? (i := 198) rfl)) (W := 0) (argsL := [(.int (2 : Int32))]) (rest := []) (rm40_2 Z a0 hw h0 n0 Z0) all0 rfl (pd_14) rfl rfl rfl (by decide) (by decide) (by decide) (by decide) (by decide)
  have Kc102 : Keep h0 hn101 [] := (Keep.refl h0 ([] : List Addr)).trans Kn101 all0
  replace k := (k [bn101] (allS ⟨sn101, An101.lt⟩ all0)).sfx [bn101] rfl
  replace k := k.stk [(.ref bn101)] rfl
  have zz103 : h0.size ≤ bn101 := Nat.le_trans (Keep.refl h0 ([] : List Addr)).1 zn101
  replace k := k.astoreN #[.val (.ref a1), .val (.int (0 : Int32)), .val (.int (2 : Int32)), .val (.ref bn101), .unset] d39_4 rfl rfl
  replace k := k.iconst (0 : Int32) d39_5 rfl
  replace k := k.istore #[.val (.ref a1), .val (.int (0 : Int32)), .val (.int (2 : Int32)), .val (.ref bn101), .val (.int (0 : Int32))] d39_6 rfl
  replace k := k.iload d39_8 rfl
  replace k := k.iloadN d39_10 rfl
  replace k := k.icmpNo d39_11 (by decide)
  replace k := k.aloadN d39_14 rfl rfl
  replace k := k.iload d39_15 rfl
  replace k := k.aloadN d39_17 rfl rfl
  replace k := k.iloadN d39_18 rfl
  replace k := k.caload d39_19 (A1.keep Kn101 nin0)  0 (by decide) (by decide) (by decide) (.int c0) rfl
  obtain ⟨_, hp104, sp20, ⟨rfl, Kp104, Ap104⟩, k⟩ := k.callS (y := (⟨"java/lang/StringUTF16", "putChar", "([BII)V"⟩ : MethodName)) d39_20 (hw _ (List.mem_of_getElem? (i := 203) rfl)) (hw _ (List.mem_of_getElem? (i := 204) rfl)) (hw _ (List.mem_of_getElem? (i := 185) rfl)) (hw _ (List.mem_of_getElem? (i := 205) rfl)) (W := 0) (argsL := [(.ref bn101), (.int (0 : Int32)), (.int c0)]) (rest := []) (rm42 Z a0 hw zC vF bn101 4 0 (0 : Int32) c0 (fun _ => 0) hn101 n0 (Nat.le_trans Z0 Kn101.1) (Sta.keepN S_C Kn101 all0) (Sta.keepN S_F Kn101 all0) (Sta.keepN S_AD Kn101 all0) (Sta.keepN S_HI Kn101 all0) (Sta.keepN S_LO Kn101 all0) hC hF gn101 An101 (by decide) (by decide) (by decide)) (allS (List.mem_of_getElem? (i := 0) rfl) all0) rfl (pd_15) rfl rfl rfl (by decide) (by decide) (by decide) (by decide) (by decide)
  have Kc105 : Keep h0 hp104 [] := Kc102.trans Kp104 (allS (Or.inr zz103) all0)
  replace k := (k [] all0).sfx [bn101] rfl
  replace k := k.stk [] rfl
  replace k := k.iinc (1 : Int32) #[.val (.ref a1), .val (.int ((0 : Int32) + (1 : Int32))), .val (.int (2 : Int32)), .val (.ref bn101), .val (.int (0 : Int32))] d39_23 rfl rfl rfl
  replace k := k.loc #[.val (.ref a1), .val (.int (1 : Int32)), .val (.int (2 : Int32)), .val (.ref bn101), .val (.int (0 : Int32))] (by rfl)
  replace k := k.iinc (1 : Int32) #[.val (.ref a1), .val (.int (1 : Int32)), .val (.int (2 : Int32)), .val (.ref bn101), .val (.int ((0 : Int32) + (1 : Int32)))] d39_26 rfl rfl rfl
  replace k := k.loc #[.val (.ref a1), .val (.int (1 : Int32)), .val (.int (2 : Int32)), .val (.ref bn101), .val (.int (1 : Int32))] (by rfl)
  replace k := k.goto (pc' := 8) d39_29 (by decide) (by decide)
  replace k := k.iload d39_8 rfl
  replace k := k.iloadN d39_10 rfl
  replace k := k.icmpNo d39_11 (by decide)
  replace k := k.aloadN d39_14 rfl rfl
  replace k := k.iload d39_15 rfl
  replace k := k.aloadN d39_17 rfl rfl
  replace k := k.iloadN d39_18 rfl
  replace k := k.caload d39_19 ((A1.keep Kn101 nin0).keep Kp104 (ninS (Nat.ne_of_lt (Nat.lt_of_lt_of_le A1.lt zn101)) nin0))  1 (by decide) (by decide) (by decide) (.int c1) rfl
  obtain ⟨_, hp106, sp20, ⟨rfl, Kp106, Ap106⟩, k⟩ := k.callS (y := (⟨"java/lang/StringUTF16", "putChar", "([BII)V"⟩ : MethodName)) d39_20 (hw _ (List.mem_of_getElem? (i := 203) rfl)) (hw _ (List.mem_of_getElem? (i := 204) rfl)) (hw _ (List.mem_of_getElem? (i := 185) rfl)) (hw _ (List.mem_of_getElem? (i := 205) rfl)) (W := 0) (argsL := [(.ref bn101), (.int (1 : Int32)), (.int c1)]) (rest := []) (rm42 Z a0 hw zC vF bn101 4 1 (1 : Int32) c1 (own_pc (fun _ => 0) 0 c0) hp104 n0 (Nat.le_trans (Nat.le_trans Z0 Kn101.1) Kp104.1) (Sta.keepN (Sta.keepN S_C Kn101 all0) Kp104 (allS (Arf.nost An101) all0)) (Sta.keepN (Sta.keepN S_F Kn101 all0) Kp104 (allS (Arf.nost An101) all0)) (Sta.keepN (Sta.keepN S_AD Kn101 all0) Kp104 (allS (Arf.nost An101) all0)) (Sta.keepN (Sta.keepN S_HI Kn101 all0) Kp104 (allS (Arf.nost An101) all0)) (Sta.keepN (Sta.keepN S_LO Kn101 all0) Kp104 (allS (Arf.nost An101) all0)) hC hF gn101 Ap104 (by decide) (by decide) (by decide)) (allS (List.mem_of_getElem? (i := 0) rfl) all0) rfl (pd_15) rfl rfl rfl (by decide) (by decide) (by decide) (by decide) (by decide)
  have Kc107 : Keep h0 hp106 [] := Kc105.trans Kp106 (allS (Or.inr zz103) all0)
  replace k := (k [] all0).sfx [bn101] rfl
  replace k := k.stk [] rfl
  replace k := k.iinc (1 : Int32) #[.val (.ref a1), .val (.int ((1 : Int32) + (1 : Int32))), .val (.int (2 : Int32)), .val (.ref bn101), .val (.int (1 : Int32))] d39_23 rfl rfl rfl
  replace k := k.loc #[.val (.ref a1), .val (.int (2 : Int32)), .val (.int (2 : Int32)), .val (.ref bn101), .val (.int (1 : Int32))] (by rfl)
  replace k := k.iinc (1 : Int32) #[.val (.ref a1), .val (.int (2 : Int32)), .val (.int (2 : Int32)), .val (.ref bn101), .val (.int ((1 : Int32) + (1 : Int32)))] d39_26 rfl rfl rfl
  replace k := k.loc #[.val (.ref a1), .val (.int (2 : Int32)), .val (.int (2 : Int32)), .val (.ref bn101), .val (.int (2 : Int32))] (by rfl)
  replace k := k.goto (pc' := 8) d39_29 (by decide) (by decide)
  replace k := k.iload d39_8 rfl
  replace k := k.iloadN d39_10 rfl
  replace k := k.icmpYes (pc' := 32) d39_11 (by decide) (by decide) (by decide)
  replace k := k.aloadN d39_32 rfl rfl
  exact k.aret d39_33 rfl rfl rfl rfl (fun sp hsp => ⟨_, _, rfl, Kc107, zz103, Ap106, (own_derP (own_derP own_der0)), own_tb2 hk0 hk1⟩) (by decide) (by decide)

set_option maxRecDepth 65536 in
set_option maxHeartbeats 40000000 in
theorem rm36_2 (Z : State) (a0 : Array Value) (hw : ∀ d ∈ tables_1, d.before a0 Z = true) (zC : Int32) (vF : Value) (a1 : Addr) (c0 c1 : Int32) (h0 : Heap) (n0 : Nat) (Z0 : n0 ≤ h0.size) (S_C : Sta Z h0 "java/lang/String" "COMPACT_STRINGS" "Z" (.int zC)) (S_F : Sta Z h0 "jdk/internal/util/Preconditions" "SIOOBE_FORMATTER" "Ljava/util/function/BiFunction;" vF) (S_AD : Sta Z h0 "java/lang/StringUTF16" "$assertionsDisabled" "Z" (.int (1 : Int32))) (S_HI : Sta Z h0 "java/lang/StringUTF16" "HI_BYTE_SHIFT" "I" (.int (0 : Int32))) (S_LO : Sta Z h0 "java/lang/StringUTF16" "LO_BYTE_SHIFT" "I" (.int (8 : Int32))) (hC : ¬ (zC = (0 : Int32))) (hF : vF = .null ∨ ∃ b, vF = .ref b) (A1 : Arf Z h0 a1 .char 2 (own_arr [c0, c1])) (hk0 : own_ch c0) (hk1 : own_ch c1) :
    Con Z n0 (⟨"java/lang/StringUTF16", "compress", "([CII)[B"⟩ : MethodName) jdk_52_method_16_code 6 (some (.array .byte)) [] ({ frames := 3, cells := 2, slots := 6, locals := 40 } : Room) #[(.ref a1), (.int (0 : Int32)), (.int (2 : Int32))] h0 [] (fun v h sp => ∃ b cod G, v = some (.ref b) ∧ Keep h0 h [] ∧ h0.size ≤ b ∧ (cod = 0 ∨ cod = 1) ∧ Arf Z h b .byte (own_ln cod 2) (own_bf G) ∧ own_der G ∧ ∀ i, i < 2 → own_dec cod G i = own_li [c0, c1] i) := by
  refine Con.intro (L0 := #[.val (.ref a1), .val (.int (0 : Int32)), .val (.int (2 : Int32)), .unset, .unset, .unset]) ⟨_, own_EW hw⟩ (plainFor_of_name (by first | (simp [plainName, overriddenIn]; done) | decide +kernel)) (fun m => by first | (simp [entryFrame, mkF, argsToLocals, Value.category]; done) | rfl) ?_
  intro C k
  replace k := k.iloadN d36_0 rfl
  obtain ⟨h101, b101, g101, E101, A101, X101, k⟩ := k.newarr (ad := "[B") d36_1 (hw _ (List.mem_of_getElem? (i := 19) rfl)) (by decide) 2 (by decide) 2 (by decide) (by decide) (by decide) (by decide) (by decide)
  have ge_b101 : n0 ≤ b101 := Nat.le_trans Z0 (Nat.le_of_eq g101.symm)
  have sz_b101 : h0.size ≤ b101 := Nat.le_trans (Keep.refl h0 ([] : List Addr)).1 (Nat.le_of_eq g101.symm)
  have K101 : Keep h0 h101 [] := (Keep.refl h0 ([] : List Addr)).ext E101
  replace k := k.astoreN #[.val (.ref a1), .val (.int (0 : Int32)), .val (.int (2 : Int32)), .val (.ref b101), .unset, .unset] d36_3 rfl rfl
  replace k := k.aloadN d36_4 rfl rfl
  replace k := k.iloadN d36_5 rfl
  replace k := k.aloadN d36_6 rfl rfl
  replace k := k.iconst (0 : Int32) d36_7 rfl
  replace k := k.iloadN d36_8 rfl
  obtain ⟨_, hz102, sp9, ⟨jz102, rfl, Kz102, Rz102⟩, k⟩ := k.callS (y := (⟨"java/lang/StringUTF16", "compress", "([CI[BII)I"⟩ : MethodName)) d36_9 (hw _ (List.mem_of_getElem? (i := 187) rfl)) (hw _ (List.mem_of_getElem? (i := 188) rfl)) (hw _ (List.mem_of_getElem? (i := 185) rfl)) (hw _ (List.mem_of_getElem? (i := 189) rfl)) (W := 0) (argsL := [(.ref a1), (.int (0 : Int32)), (.ref b101), (.int (0 : Int32)), (.int (2 : Int32))]) (rest := []) (rm37_2 Z a0 hw a1 b101 _ c0 c1 h101 n0 (Nat.ne_of_lt (Nat.lt_of_lt_of_le A1.lt (Nat.le_of_eq g101.symm))) ge_b101 (A1.ext E101) A101) (allS (List.mem_of_getElem? (i := 0) rfl) all0) rfl (pd_16) rfl rfl rfl (by decide) (by decide) (by decide) (by decide) (by decide)
  have Kc103 : Keep h0 hz102 [] := K101.trans Kz102 (allS (Or.inr sz_b101) all0)
  replace k := (k [] all0).sfx [b101] rfl
  replace k := k.stk [(.int jz102)] rfl
  rcases Rz102 with ⟨rfl, ⟨hp0, hp1⟩, Ac⟩ | ⟨rfl, hgt⟩ | ⟨rfl, hgt⟩
  · skip
    replace k := k.istore #[.val (.ref a1), .val (.int (0 : Int32)), .val (.int (2 : Int32)), .val (.ref b101), .val (.int (2 : Int32)), .unset] d36_12 rfl
    replace k := k.iload d36_14 rfl
    replace k := k.iloadN d36_16 rfl
    replace k := k.icmpYes (pc' := 57) d36_17 (by decide) (by decide) (by decide)
    replace k := k.aloadN d36_57 rfl rfl
    exact k.aret d36_58 rfl rfl rfl rfl (fun sp hsp => ⟨_, 0, own_li [(c0.toInt8.toInt32), (c1.toInt8.toInt32)], rfl, Kc103, sz_b101, Or.inl rfl, Ac, own_der8 (l := [c0, c1]), own_lt2 hp0 hk0 hp1 hk1⟩) (by decide) (by decide)
  · skip
    replace k := k.istore #[.val (.ref a1), .val (.int (0 : Int32)), .val (.int (2 : Int32)), .val (.ref b101), .val (.int (0 : Int32)), .unset] d36_12 rfl
    replace k := k.iload d36_14 rfl
    replace k := k.iloadN d36_16 rfl
    replace k := k.icmpNo d36_17 (by decide)
    replace k := k.aloadN d36_20 rfl rfl
    replace k := k.iloadN d36_21 rfl
    replace k := k.iloadN d36_22 rfl
    obtain ⟨_, hy104, sp23, ⟨by104, Gy104, rfl, Ky104, zy104, Ay104, Dy104, Ty104⟩, k⟩ := k.callS (y := (⟨"java/lang/StringUTF16", "toBytes", "([CII)[B"⟩ : MethodName)) d36_23 (hw _ (List.mem_of_getElem? (i := 193) rfl)) (hw _ (List.mem_of_getElem? (i := 194) rfl)) (hw _ (List.mem_of_getElem? (i := 185) rfl)) (hw _ (List.mem_of_getElem? (i := 195) rfl)) (W := 0) (argsL := [(.ref a1), (.int (0 : Int32)), (.int (2 : Int32))]) (rest := []) (rm39_2 Z a0 hw zC vF a1 c0 c1 hz102 n0 (Nat.le_trans (Nat.le_trans Z0 E101.1) Kz102.1) (Sta.keepN (Sta.ext E101 S_C) Kz102 (allS (Exa.nost X101) all0)) (Sta.keepN (Sta.ext E101 S_F) Kz102 (allS (Exa.nost X101) all0)) (Sta.keepN (Sta.ext E101 S_AD) Kz102 (allS (Exa.nost X101) all0)) (Sta.keepN (Sta.ext E101 S_HI) Kz102 (allS (Exa.nost X101) all0)) (Sta.keepN (Sta.ext E101 S_LO) Kz102 (allS (Exa.nost X101) all0)) hC hF ((A1.ext E101).keep Kz102 (ninS (Nat.ne_of_lt (Nat.lt_of_lt_of_le A1.lt (Nat.le_of_eq g101.symm))) nin0)) hk0 hk1) all0 rfl (pd_17) rfl rfl rfl (by decide) (by decide) (by decide) (by decide) (by decide)
    have Kc105 : Keep h0 hy104 [] := Kc103.trans Ky104 all0
    replace k := (k [] all0).sfx [b101] rfl
    replace k := k.stk [(.ref by104)] rfl
    replace k := k.astore #[.val (.ref a1), .val (.int (0 : Int32)), .val (.int (2 : Int32)), .val (.ref b101), .val (.int (0 : Int32)), .val (.ref by104)] d36_26 rfl rfl
    replace k := k.aload d36_28 rfl rfl
    replace k := k.iload d36_30 rfl
    obtain ⟨_, _, sp32, ⟨rfl, rfl⟩, k⟩ := k.callS (y := (⟨"java/lang/StringUTF16", "getChar", "([BI)C"⟩ : MethodName)) d36_32 (hw _ (List.mem_of_getElem? (i := 209) rfl)) (hw _ (List.mem_of_getElem? (i := 210) rfl)) (hw _ (List.mem_of_getElem? (i := 185) rfl)) (hw _ (List.mem_of_getElem? (i := 211) rfl)) (W := 0) (argsL := [(.ref by104), (.int (0 : Int32))]) (rest := []) (rm43 Z a0 hw zC vF by104 4 0 (0 : Int32) Gy104 hy104 n0 (Nat.le_trans (Nat.le_trans (Nat.le_trans Z0 E101.1) Kz102.1) Ky104.1) (Sta.keepN (Sta.keepN (Sta.ext E101 S_C) Kz102 (allS (Exa.nost X101) all0)) Ky104 all0) (Sta.keepN (Sta.keepN (Sta.ext E101 S_F) Kz102 (allS (Exa.nost X101) all0)) Ky104 all0) (Sta.keepN (Sta.keepN (Sta.ext E101 S_AD) Kz102 (allS (Exa.nost X101) all0)) Ky104 all0) (Sta.keepN (Sta.keepN (Sta.ext E101 S_HI) Kz102 (allS (Exa.nost X101) all0)) Ky104 all0) (Sta.keepN (Sta.keepN (Sta.ext E101 S_LO) Kz102 (allS (Exa.nost X101) all0)) Ky104 all0) hC hF Ay104 (by decide) (by decide) (by decide)) all0 rfl (pd_7) rfl rfl rfl (by decide) (by decide) (by decide) (by decide) (by decide)
    replace k := (k [] all0).sfx [b101] rfl
    replace k := k.stk [(.int (own_gc (Gy104 (2 * 0)) (Gy104 (2 * 0 + 1))))] rfl
    replace k := k.stk [(.int c0)] (by rw [show own_gc (Gy104 (2 * 0)) (Gy104 (2 * 0 + 1)) = c0 from Ty104 0 (by decide)])
    replace k := k.sipush (255 : Int32) d36_35 rfl
    replace k := k.icmpYes (pc' := 54) d36_38 (tlt hgt).2.2.1 (by decide) (by decide)
    replace k := k.aload d36_54 rfl rfl
    have zz106 : h0.size ≤ by104 := Nat.le_trans Kc103.1 zy104
    exact k.aret d36_56 rfl rfl rfl rfl (fun sp hsp => ⟨_, 1, _, rfl, Kc105, zz106, Or.inr rfl, Ay104, Dy104, Ty104⟩) (by decide) (by decide)
  · skip
    replace k := k.istore #[.val (.ref a1), .val (.int (0 : Int32)), .val (.int (2 : Int32)), .val (.ref b101), .val (.int (1 : Int32)), .unset] d36_12 rfl
    replace k := k.iload d36_14 rfl
    replace k := k.iloadN d36_16 rfl
    replace k := k.icmpNo d36_17 (by decide)
    replace k := k.aloadN d36_20 rfl rfl
    replace k := k.iloadN d36_21 rfl
    replace k := k.iloadN d36_22 rfl
    obtain ⟨_, hy107, sp23, ⟨by107, Gy107, rfl, Ky107, zy107, Ay107, Dy107, Ty107⟩, k⟩ := k.callS (y := (⟨"java/lang/StringUTF16", "toBytes", "([CII)[B"⟩ : MethodName)) d36_23 (hw _ (List.mem_of_getElem? (i := 193) rfl)) (hw _ (List.mem_of_getElem? (i := 194) rfl)) (hw _ (List.mem_of_getElem? (i := 185) rfl)) (hw _ (List.mem_of_getElem? (i := 195) rfl)) (W := 0) (argsL := [(.ref a1), (.int (0 : Int32)), (.int (2 : Int32))]) (rest := []) (rm39_2 Z a0 hw zC vF a1 c0 c1 hz102 n0 (Nat.le_trans (Nat.le_trans Z0 E101.1) Kz102.1) (Sta.keepN (Sta.ext E101 S_C) Kz102 (allS (Exa.nost X101) all0)) (Sta.keepN (Sta.ext E101 S_F) Kz102 (allS (Exa.nost X101) all0)) (Sta.keepN (Sta.ext E101 S_AD) Kz102 (allS (Exa.nost X101) all0)) (Sta.keepN (Sta.ext E101 S_HI) Kz102 (allS (Exa.nost X101) all0)) (Sta.keepN (Sta.ext E101 S_LO) Kz102 (allS (Exa.nost X101) all0)) hC hF ((A1.ext E101).keep Kz102 (ninS (Nat.ne_of_lt (Nat.lt_of_lt_of_le A1.lt (Nat.le_of_eq g101.symm))) nin0)) hk0 hk1) all0 rfl (pd_17) rfl rfl rfl (by decide) (by decide) (by decide) (by decide) (by decide)
    have Kc108 : Keep h0 hy107 [] := Kc103.trans Ky107 all0
    replace k := (k [] all0).sfx [b101] rfl
    replace k := k.stk [(.ref by107)] rfl
    replace k := k.astore #[.val (.ref a1), .val (.int (0 : Int32)), .val (.int (2 : Int32)), .val (.ref b101), .val (.int (1 : Int32)), .val (.ref by107)] d36_26 rfl rfl
    replace k := k.aload d36_28 rfl rfl
    replace k := k.iload d36_30 rfl
    obtain ⟨_, _, sp32, ⟨rfl, rfl⟩, k⟩ := k.callS (y := (⟨"java/lang/StringUTF16", "getChar", "([BI)C"⟩ : MethodName)) d36_32 (hw _ (List.mem_of_getElem? (i := 209) rfl)) (hw _ (List.mem_of_getElem? (i := 210) rfl)) (hw _ (List.mem_of_getElem? (i := 185) rfl)) (hw _ (List.mem_of_getElem? (i := 211) rfl)) (W := 0) (argsL := [(.ref by107), (.int (1 : Int32))]) (rest := []) (rm43 Z a0 hw zC vF by107 4 1 (1 : Int32) Gy107 hy107 n0 (Nat.le_trans (Nat.le_trans (Nat.le_trans Z0 E101.1) Kz102.1) Ky107.1) (Sta.keepN (Sta.keepN (Sta.ext E101 S_C) Kz102 (allS (Exa.nost X101) all0)) Ky107 all0) (Sta.keepN (Sta.keepN (Sta.ext E101 S_F) Kz102 (allS (Exa.nost X101) all0)) Ky107 all0) (Sta.keepN (Sta.keepN (Sta.ext E101 S_AD) Kz102 (allS (Exa.nost X101) all0)) Ky107 all0) (Sta.keepN (Sta.keepN (Sta.ext E101 S_HI) Kz102 (allS (Exa.nost X101) all0)) Ky107 all0) (Sta.keepN (Sta.keepN (Sta.ext E101 S_LO) Kz102 (allS (Exa.nost X101) all0)) Ky107 all0) hC hF Ay107 (by decide) (by decide) (by decide)) all0 rfl (pd_7) rfl rfl rfl (by decide) (by decide) (by decide) (by decide) (by decide)
    replace k := (k [] all0).sfx [b101] rfl
    replace k := k.stk [(.int (own_gc (Gy107 (2 * 1)) (Gy107 (2 * 1 + 1))))] rfl
    replace k := k.stk [(.int c1)] (by rw [show own_gc (Gy107 (2 * 1)) (Gy107 (2 * 1 + 1)) = c1 from Ty107 1 (by decide)])
    replace k := k.sipush (255 : Int32) d36_35 rfl
    replace k := k.icmpYes (pc' := 54) d36_38 (tlt hgt).2.2.1 (by decide) (by decide)
    replace k := k.aload d36_54 rfl rfl
    have zz109 : h0.size ≤ by107 := Nat.le_trans Kc103.1 zy107
    exact k.aret d36_56 rfl rfl rfl rfl (fun sp hsp => ⟨_, 1, _, rfl, Kc108, zz109, Or.inr rfl, Ay107, Dy107, Ty107⟩) (by decide) (by decide)

set_option maxRecDepth 65536 in
set_option maxHeartbeats 40000000 in
theorem rm38_2_0 (Z : State) (a0 : Array Value) (hw : ∀ d ∈ tables_1, d.before a0 Z = true) (a1 : Addr) (f1 : Nat → Value) (h0 : Heap) (n0 : Nat) (A1 : Arf Z h0 a1 .byte 2 f1) :
    Con Z n0 (⟨"java/lang/StringUTF16", "coderFromArrayLen", "([BI)B"⟩ : MethodName) jdk_52_method_15_code 2 (some .byte) [] ({ frames := 0, cells := 0, slots := 0, locals := 0 } : Room) #[(.ref a1), (.int (2 : Int32))] h0 [] (fun v h sp => v = some (.int (0 : Int32)) ∧ h0 = h) := by
  refine Con.intro (L0 := #[.val (.ref a1), .val (.int (2 : Int32))]) ⟨_, own_EW hw⟩ (plainFor_of_name (by first | (simp [plainName, overriddenIn]; done) | decide +kernel)) (fun m => by first | (simp [entryFrame, mkF, argsToLocals, Value.category]; done) | rfl) ?_
  intro C k
  replace k := k.iloadN d38_0 rfl
  replace k := k.aloadN d38_1 rfl rfl
  replace k := k.arrlen d38_2 A1 (2 : Int32) (by decide)
  replace k := k.isub d38_3
  replace k := k.foldI (0 : Int32) (by decide)
  replace k := k.bipush (31 : Int32) d38_4 rfl
  replace k := k.iushr d38_6
  replace k := k.foldI (0 : Int32) (by decide)
  replace k := k.i2b d38_7
  replace k := k.foldI (0 : Int32) (by decide)
  exact k.iret d38_8 rfl (by simp) rfl (fun sp hsp => ⟨rfl, rfl⟩) (by decide) (by decide)

set_option maxRecDepth 65536 in
set_option maxHeartbeats 40000000 in
theorem rm38_2_1 (Z : State) (a0 : Array Value) (hw : ∀ d ∈ tables_1, d.before a0 Z = true) (a1 : Addr) (f1 : Nat → Value) (h0 : Heap) (n0 : Nat) (A1 : Arf Z h0 a1 .byte 4 f1) :
    Con Z n0 (⟨"java/lang/StringUTF16", "coderFromArrayLen", "([BI)B"⟩ : MethodName) jdk_52_method_15_code 2 (some .byte) [] ({ frames := 0, cells := 0, slots := 0, locals := 0 } : Room) #[(.ref a1), (.int (2 : Int32))] h0 [] (fun v h sp => v = some (.int (1 : Int32)) ∧ h0 = h) := by
  refine Con.intro (L0 := #[.val (.ref a1), .val (.int (2 : Int32))]) ⟨_, own_EW hw⟩ (plainFor_of_name (by first | (simp [plainName, overriddenIn]; done) | decide +kernel)) (fun m => by first | (simp [entryFrame, mkF, argsToLocals, Value.category]; done) | rfl) ?_
  intro C k
  replace k := k.iloadN d38_0 rfl
  replace k := k.aloadN d38_1 rfl rfl
  replace k := k.arrlen d38_2 A1 (4 : Int32) (by decide)
  replace k := k.isub d38_3
  replace k := k.foldI (-2 : Int32) (by decide)
  replace k := k.bipush (31 : Int32) d38_4 rfl
  replace k := k.iushr d38_6
  replace k := k.foldI (1 : Int32) (by decide)
  replace k := k.i2b d38_7
  replace k := k.foldI (1 : Int32) (by decide)
  exact k.iret d38_8 rfl (by simp) rfl (fun sp hsp => ⟨rfl, rfl⟩) (by decide) (by decide)

set_option maxRecDepth 65536 in
set_option maxHeartbeats 40000000 in
theorem rm3_2 (Z : State) (a0 : Array Value) (hw : ∀ d ∈ tables_1, d.before a0 Z = true) (zC : Int32) (vF : Value) (a1 a2 : Addr) (c0 c1 : Int32) (h0 : Heap) (n0 : Nat) (Z0 : n0 ≤ h0.size) (S_C : Sta Z h0 "java/lang/String" "COMPACT_STRINGS" "Z" (.int zC)) (S_F : Sta Z h0 "jdk/internal/util/Preconditions" "SIOOBE_FORMATTER" "Ljava/util/function/BiFunction;" vF) (S_AD : Sta Z h0 "java/lang/StringUTF16" "$assertionsDisabled" "Z" (.int (1 : Int32))) (S_HI : Sta Z h0 "java/lang/StringUTF16" "HI_BYTE_SHIFT" "I" (.int (0 : Int32))) (S_LO : Sta Z h0 "java/lang/StringUTF16" "LO_BYTE_SHIFT" "I" (.int (8 : Int32))) (hC : ¬ (zC = (0 : Int32))) (hF : vF = .null ∨ ∃ b, vF = .ref b) (g1 : n0 ≤ a1) (E1 : Exa Z h0 a1 "java/lang/String") (F1 : Fld Z h0 a1 "java/lang/String" "value" "[B" .null) (F2 : Fld Z h0 a1 "java/lang/String" "coder" "B" (.int (0 : Int32))) (A2 : Arf Z h0 a2 .char 2 (own_arr [c0, c1])) (hk0 : own_ch c0) (hk1 : own_ch c1) :
    Con Z n0 (⟨"java/lang/String", "<init>", "([CIILjava/lang/Void;)V"⟩ : MethodName) jdk_42_method_149_code 6 none [] ({ frames := 4, cells := 2, slots := 6, locals := 57 } : Room) #[(.ref a1), (.ref a2), (.int (0 : Int32)), (.int (2 : Int32)), .null] h0 [a1] (fun v h sp => v = none ∧ Keep h0 h [a1] ∧ ∃ t cod G, Fld Z h a1 "java/lang/String" "coder" "B" (.int cod) ∧ Fld Z h a1 "java/lang/String" "value" "[B" (.ref t) ∧ (cod = 0 ∨ cod = 1) ∧ Arf Z h t .byte (own_ln cod 2) (own_bf G) ∧ own_der G ∧ ∀ i, i < 2 → own_dec cod G i = own_li [c0, c1] i) := by
  refine Con.intro (L0 := #[.val (.ref a1), .val (.ref a2), .val (.int (0 : Int32)), .val (.int (2 : Int32)), .val .null, .unset]) ⟨_, own_EW hw⟩ (plainFor_of_name (by first | (simp [plainName, overriddenIn]; done) | decide +kernel)) (fun m => by first | (simp [entryFrame, mkF, argsToLocals, Value.category]; done) | rfl) ?_
  intro C k
  replace k := k.aloadN d3_0 rfl rfl
  replace k := k.initO (W := 0) d3_1 (hw _ (List.mem_of_getElem? (i := 15) rfl)) (hw _ (List.mem_of_getElem? (i := 16) rfl)) (hw _ (List.mem_of_getElem? (i := 17) rfl)) rfl rfl (by decide) (by decide)
  replace k := k.iloadN d3_4 rfl
  replace k := k.ifYes (pc' := 27) d3_5 (by decide) (by decide) (by decide)
  replace k := k.getS d3_27 (host := "") (Or.inl (hw _ (List.mem_of_getElem? (i := 69) rfl))) Via.refl S_C
  replace k := k.ifNo d3_30 (feq hC).1
  replace k := k.aloadN d3_33 rfl rfl
  replace k := k.iloadN d3_34 rfl
  replace k := k.iloadN d3_35 rfl
  obtain ⟨_, hx101, sp36, ⟨bx101, dx101, Gx101, rfl, Kx101, zx101, hcx101, Ax101, Dx101, Tx101⟩, k⟩ := k.callS (y := (⟨"java/lang/StringUTF16", "compress", "([CII)[B"⟩ : MethodName)) d3_36 (hw _ (List.mem_of_getElem? (i := 183) rfl)) (hw _ (List.mem_of_getElem? (i := 184) rfl)) (hw _ (List.mem_of_getElem? (i := 185) rfl)) (hw _ (List.mem_of_getElem? (i := 186) rfl)) (W := 0) (argsL := [(.ref a2), (.int (0 : Int32)), (.int (2 : Int32))]) (rest := []) (rm36_2 Z a0 hw zC vF a2 c0 c1 h0 n0 Z0 S_C S_F S_AD S_HI S_LO hC hF A2 hk0 hk1) all0 rfl (pd_17) rfl rfl rfl (by decide) (by decide) (by decide) (by decide) (by decide)
  have Kc102 : Keep h0 hx101 [a1] := (Keep.refl h0 ([a1] : List Addr)).trans Kx101 all0
  replace k := (k [] all0).sfx [a1] rfl
  replace k := k.stk [(.ref bx101)] rfl
  rcases hcx101 with rfl | rfl
  · skip
    replace Ax101 := own_ln0 Ax101
    replace k := k.astore #[.val (.ref a1), .val (.ref a2), .val (.int (0 : Int32)), .val (.int (2 : Int32)), .val .null, .val (.ref bx101)] d3_39 rfl rfl
    replace k := k.aloadN d3_41 rfl rfl
    replace k := k.aload d3_42 rfl rfl
    replace k := k.iloadN d3_44 rfl
    obtain ⟨_, _, sp45, ⟨rfl, rfl⟩, k⟩ := k.callS (y := (⟨"java/lang/StringUTF16", "coderFromArrayLen", "([BI)B"⟩ : MethodName)) d3_45 (hw _ (List.mem_of_getElem? (i := 190) rfl)) (hw _ (List.mem_of_getElem? (i := 191) rfl)) (hw _ (List.mem_of_getElem? (i := 185) rfl)) (hw _ (List.mem_of_getElem? (i := 192) rfl)) (W := 1) (argsL := [(.ref bx101), (.int (2 : Int32))]) (rest := [(.ref a1)]) (rm38_2_0 Z a0 hw bx101 _ hx101 n0 Ax101) all0 rfl (pd_18) rfl rfl rfl (by decide) (by decide) (by decide) (by decide) (by decide)
    replace k := (k [] all0).sfx [a1] rfl
    replace k := k.stk [(.int (0 : Int32)), (.ref a1)] rfl
    obtain ⟨h103, W103, k⟩ := k.putF d3_48 (host := "") (Or.inl (hw _ (List.mem_of_getElem? (i := 25) rfl))) Via.refl (F2.keep Kx101 nin0) (E1.keep Kx101) (Or.inr ⟨(hw _ (List.mem_of_getElem? (i := 21) rfl)), rfl, rfl⟩) (hw _ (List.mem_of_getElem? (i := 5) rfl)) (ty := .byte) (by decide) rfl rfl g1 (List.mem_of_getElem? (i := 0) rfl)
    have Fw103 := Fld.same W103 (F2.keep Kx101 nin0)
    have K103 : Keep h0 h103 [a1] := Kc102.wr W103 (Or.inl (List.mem_of_getElem? (i := 0) rfl))
    replace k := k.aloadN d3_51 rfl rfl
    replace k := k.aload d3_52 rfl rfl
    obtain ⟨h104, W104, k⟩ := k.putF d3_54 (host := "") (Or.inl (hw _ (List.mem_of_getElem? (i := 24) rfl))) Via.refl (Fld.other W103 (F1.keep Kx101 nin0) (Or.inr (slot_ne (Or.inr (hw _ (List.mem_of_getElem? (i := 20) rfl))) (Or.inr (hw _ (List.mem_of_getElem? (i := 21) rfl))) (by decide) (t := (.array .byte)) (t' := .byte) (by decide) (by decide)))) (Exa.wr W103 (E1.keep Kx101)) (Or.inr ⟨(hw _ (List.mem_of_getElem? (i := 20) rfl)), rfl, rfl⟩) (hw _ (List.mem_of_getElem? (i := 5) rfl)) (ty := (.array .byte)) (by decide) rfl rfl g1 (List.mem_of_getElem? (i := 0) rfl)
    have Fw104 := Fld.same W104 (Fld.other W103 (F1.keep Kx101 nin0) (Or.inr (slot_ne (Or.inr (hw _ (List.mem_of_getElem? (i := 20) rfl))) (Or.inr (hw _ (List.mem_of_getElem? (i := 21) rfl))) (by decide) (t := (.array .byte)) (t' := .byte) (by decide) (by decide))))
    have K104 : Keep h0 h104 [a1] := K103.wr W104 (Or.inl (List.mem_of_getElem? (i := 0) rfl))
    exact k.vret d3_57 rfl (fun sp hsp => ⟨rfl, K104, _, (0 : Int32), _, (Fld.other W104 Fw103 (Or.inr (slot_ne (Or.inr (hw _ (List.mem_of_getElem? (i := 21) rfl))) (Or.inr (hw _ (List.mem_of_getElem? (i := 20) rfl))) (by decide) (t := .byte) (t' := (.array .byte)) (by decide) (by decide)))), Fw104, Or.inl rfl, ((Ax101.other W103 (Ne.symm (Nat.ne_of_lt (Nat.lt_of_lt_of_le E1.lt zx101)))).other W104 (Ne.symm (Nat.ne_of_lt (Nat.lt_of_lt_of_le E1.lt zx101)))), Dx101, Tx101⟩) (by decide) (by decide)
  · skip
    replace Ax101 := own_ln1 Ax101
    replace k := k.astore #[.val (.ref a1), .val (.ref a2), .val (.int (0 : Int32)), .val (.int (2 : Int32)), .val .null, .val (.ref bx101)] d3_39 rfl rfl
    replace k := k.aloadN d3_41 rfl rfl
    replace k := k.aload d3_42 rfl rfl
    replace k := k.iloadN d3_44 rfl
    obtain ⟨_, _, sp45, ⟨rfl, rfl⟩, k⟩ := k.callS (y := (⟨"java/lang/StringUTF16", "coderFromArrayLen", "([BI)B"⟩ : MethodName)) d3_45 (hw _ (List.mem_of_getElem? (i := 190) rfl)) (hw _ (List.mem_of_getElem? (i := 191) rfl)) (hw _ (List.mem_of_getElem? (i := 185) rfl)) (hw _ (List.mem_of_getElem? (i := 192) rfl)) (W := 1) (argsL := [(.ref bx101), (.int (2 : Int32))]) (rest := [(.ref a1)]) (rm38_2_1 Z a0 hw bx101 _ hx101 n0 Ax101) all0 rfl (pd_18) rfl rfl rfl (by decide) (by decide) (by decide) (by decide) (by decide)
    replace k := (k [] all0).sfx [a1] rfl
    replace k := k.stk [(.int (1 : Int32)), (.ref a1)] rfl
    obtain ⟨h105, W105, k⟩ := k.putF d3_48 (host := "") (Or.inl (hw _ (List.mem_of_getElem? (i := 25) rfl))) Via.refl (F2.keep Kx101 nin0) (E1.keep Kx101) (Or.inr ⟨(hw _ (List.mem_of_getElem? (i := 21) rfl)), rfl, rfl⟩) (hw _ (List.mem_of_getElem? (i := 5) rfl)) (ty := .byte) (by decide) rfl rfl g1 (List.mem_of_getElem? (i := 0) rfl)
    have Fw105 := Fld.same W105 (F2.keep Kx101 nin0)
    have K105 : Keep h0 h105 [a1] := Kc102.wr W105 (Or.inl (List.mem_of_getElem? (i := 0) rfl))
    replace k := k.aloadN d3_51 rfl rfl
    replace k := k.aload d3_52 rfl rfl
    obtain ⟨h106, W106, k⟩ := k.putF d3_54 (host := "") (Or.inl (hw _ (List.mem_of_getElem? (i := 24) rfl))) Via.refl (Fld.other W105 (F1.keep Kx101 nin0) (Or.inr (slot_ne (Or.inr (hw _ (List.mem_of_getElem? (i := 20) rfl))) (Or.inr (hw _ (List.mem_of_getElem? (i := 21) rfl))) (by decide) (t := (.array .byte)) (t' := .byte) (by decide) (by decide)))) (Exa.wr W105 (E1.keep Kx101)) (Or.inr ⟨(hw _ (List.mem_of_getElem? (i := 20) rfl)), rfl, rfl⟩) (hw _ (List.mem_of_getElem? (i := 5) rfl)) (ty := (.array .byte)) (by decide) rfl rfl g1 (List.mem_of_getElem? (i := 0) rfl)
    have Fw106 := Fld.same W106 (Fld.other W105 (F1.keep Kx101 nin0) (Or.inr (slot_ne (Or.inr (hw _ (List.mem_of_getElem? (i := 20) rfl))) (Or.inr (hw _ (List.mem_of_getElem? (i := 21) rfl))) (by decide) (t := (.array .byte)) (t' := .byte) (by decide) (by decide))))
    have K106 : Keep h0 h106 [a1] := K105.wr W106 (Or.inl (List.mem_of_getElem? (i := 0) rfl))
    exact k.vret d3_57 rfl (fun sp hsp => ⟨rfl, K106, _, (1 : Int32), _, (Fld.other W106 Fw105 (Or.inr (slot_ne (Or.inr (hw _ (List.mem_of_getElem? (i := 21) rfl))) (Or.inr (hw _ (List.mem_of_getElem? (i := 20) rfl))) (by decide) (t := .byte) (t' := (.array .byte)) (by decide) (by decide)))), Fw106, Or.inr rfl, ((Ax101.other W105 (Ne.symm (Nat.ne_of_lt (Nat.lt_of_lt_of_le E1.lt zx101)))).other W106 (Ne.symm (Nat.ne_of_lt (Nat.lt_of_lt_of_le E1.lt zx101)))), Dx101, Tx101⟩) (by decide) (by decide)

set_option maxRecDepth 65536 in
set_option maxHeartbeats 40000000 in
theorem rm37_3 (Z : State) (a0 : Array Value) (hw : ∀ d ∈ tables_1, d.before a0 Z = true) (a1 a2 : Addr) (f2 : Nat → Value) (c0 c1 c2 : Int32) (h0 : Heap) (n0 : Nat) (ne : a1 ≠ a2) (g2 : n0 ≤ a2) (A1 : Arf Z h0 a1 .char 3 (own_arr [c0, c1, c2])) (A2 : Arf Z h0 a2 .byte 3 f2) :
    Con Z n0 (⟨"java/lang/StringUTF16", "compress", "([CI[BII)I"⟩ : MethodName) jdk_52_method_21_code 7 (some .int) [] ({ frames := 0, cells := 0, slots := 0, locals := 0 } : Room) #[(.ref a1), (.int (0 : Int32)), (.ref a2), (.int (0 : Int32)), (.int (3 : Int32))] h0 [a2] (fun v h sp => ∃ j : Int32, v = some (.int j) ∧ Keep h0 h [a2] ∧ ((j = (3 : Int32) ∧ (¬ ((255 : Int32) < c0) ∧ ¬ ((255 : Int32) < c1) ∧ ¬ ((255 : Int32) < c2)) ∧ Arf Z h a2 .byte 3 (own_arr [(c0.toInt8.toInt32), (c1.toInt8.toInt32), (c2.toInt8.toInt32)])) ∨ (j = (0 : Int32) ∧ (255 : Int32) < c0) ∨ (j = (1 : Int32) ∧ (255 : Int32) < c1) ∨ (j = (2 : Int32) ∧ (255 : Int32) < c2))) := by
  refine Con.intro (L0 := #[.val (.ref a1), .val (.int (0 : Int32)), .val (.ref a2), .val (.int (0 : Int32)), .val (.int (3 : Int32)), .unset, .unset]) ⟨_, own_EW hw⟩ (plainFor_of_name (by first | (simp [plainName, overriddenIn]; done) | decide +kernel)) (fun m => by first | (simp [entryFrame, mkF, argsToLocals, Value.category]; done) | rfl) ?_
  intro C k
  replace k := k.iconst (0 : Int32) d37_0 rfl
  replace k := k.istore #[.val (.ref a1), .val (.int (0 : Int32)), .val (.ref a2), .val (.int (0 : Int32)), .val (.int (3 : Int32)), .val (.int (0 : Int32)), .unset] d37_1 rfl
  replace k := k.iload d37_3 rfl
  replace k := k.iload d37_5 rfl
  replace k := k.icmpNo d37_7 (by decide)
  replace k := k.aloadN d37_10 rfl rfl
  replace k := k.iloadN d37_11 rfl
  replace k := k.caload d37_12 A1  0 (by decide) (by decide) (by decide) (.int c0) rfl
  replace k := k.istore #[.val (.ref a1), .val (.int (0 : Int32)), .val (.ref a2), .val (.int (0 : Int32)), .val (.int (3 : Int32)), .val (.int (0 : Int32)), .val (.int c0)] d37_13 rfl
  replace k := k.iload d37_15 rfl
  replace k := k.sipush (255 : Int32) d37_17 rfl
  by_cases hc101 : (255 : Int32) < c0
  · skip
    replace k := k.icmpNo d37_20 (tlt hc101).2.2.2
    replace k := k.iload d37_23 rfl
    exact k.iret d37_25 rfl (by simp) rfl (fun sp hsp => ⟨_, rfl, (Keep.refl h0 ([a2] : List Addr)), Or.inr (Or.inl ⟨rfl, hc101⟩)⟩) (by decide) (by decide)
  · skip
    replace k := k.icmpYes (pc' := 26) d37_20 (flt hc101).2.2.2 (by decide) (by decide)
    replace k := k.aloadN d37_26 rfl rfl
    replace k := k.iloadN d37_27 rfl
    replace k := k.iload d37_28 rfl
    replace k := k.i2b d37_30
    obtain ⟨h102, W102, A102, k⟩ := k.bastore d37_31 A2 0 (by decide) (by decide) (by decide) g2 (List.mem_of_getElem? (i := 0) rfl) (c0.toInt8.toInt32) (own_i2b _)
    have K102 : Keep h0 h102 [a2] := (Keep.refl h0 ([a2] : List Addr)).wr W102 (Or.inl (List.mem_of_getElem? (i := 0) rfl))
    replace k := k.iinc (1 : Int32) #[.val (.ref a1), .val (.int ((0 : Int32) + (1 : Int32))), .val (.ref a2), .val (.int (0 : Int32)), .val (.int (3 : Int32)), .val (.int (0 : Int32)), .val (.int c0)] d37_32 rfl rfl rfl
    replace k := k.loc #[.val (.ref a1), .val (.int (1 : Int32)), .val (.ref a2), .val (.int (0 : Int32)), .val (.int (3 : Int32)), .val (.int (0 : Int32)), .val (.int c0)] (by rfl)
    replace k := k.iinc (1 : Int32) #[.val (.ref a1), .val (.int (1 : Int32)), .val (.ref a2), .val (.int ((0 : Int32) + (1 : Int32))), .val (.int (3 : Int32)), .val (.int (0 : Int32)), .val (.int c0)] d37_35 rfl rfl rfl
    replace k := k.loc #[.val (.ref a1), .val (.int (1 : Int32)), .val (.ref a2), .val (.int (1 : Int32)), .val (.int (3 : Int32)), .val (.int (0 : Int32)), .val (.int c0)] (by rfl)
    replace k := k.iinc (1 : Int32) #[.val (.ref a1), .val (.int (1 : Int32)), .val (.ref a2), .val (.int (1 : Int32)), .val (.int (3 : Int32)), .val (.int ((0 : Int32) + (1 : Int32))), .val (.int c0)] d37_38 rfl rfl rfl
    replace k := k.loc #[.val (.ref a1), .val (.int (1 : Int32)), .val (.ref a2), .val (.int (1 : Int32)), .val (.int (3 : Int32)), .val (.int (1 : Int32)), .val (.int c0)] (by rfl)
    replace k := k.goto (pc' := 3) d37_41 (by decide) (by decide)
    replace k := k.iload d37_3 rfl
    replace k := k.iload d37_5 rfl
    replace k := k.icmpNo d37_7 (by decide)
    replace k := k.aloadN d37_10 rfl rfl
    replace k := k.iloadN d37_11 rfl
    replace k := k.caload d37_12 (A1.other W102 ne)  1 (by decide) (by decide) (by decide) (.int c1) rfl
    replace k := k.istore #[.val (.ref a1), .val (.int (1 : Int32)), .val (.ref a2), .val (.int (1 : Int32)), .val (.int (3 : Int32)), .val (.int (1 : Int32)), .val (.int c1)] d37_13 rfl
    replace k := k.iload d37_15 rfl
    replace k := k.sipush (255 : Int32) d37_17 rfl
    by_cases hc103 : (255 : Int32) < c1
    · skip
      replace k := k.icmpNo d37_20 (tlt hc103).2.2.2
      replace k := k.iload d37_23 rfl
      exact k.iret d37_25 rfl (by simp) rfl (fun sp hsp => ⟨_, rfl, K102, Or.inr (Or.inr (Or.inl ⟨rfl, hc103⟩))⟩) (by decide) (by decide)
    · skip
      replace k := k.icmpYes (pc' := 26) d37_20 (flt hc103).2.2.2 (by decide) (by decide)
      replace k := k.aloadN d37_26 rfl rfl
      replace k := k.iloadN d37_27 rfl
      replace k := k.iload d37_28 rfl
      replace k := k.i2b d37_30
      obtain ⟨h104, W104, A104, k⟩ := k.bastore d37_31 A102 1 (by decide) (by decide) (by decide) g2 (List.mem_of_getElem? (i := 0) rfl) (c1.toInt8.toInt32) (own_i2b _)
      have K104 : Keep h0 h104 [a2] := K102.wr W104 (Or.inl (List.mem_of_getElem? (i := 0) rfl))
      replace k := k.iinc (1 : Int32) #[.val (.ref a1), .val (.int ((1 : Int32) + (1 : Int32))), .val (.ref a2), .val (.int (1 : Int32)), .val (.int (3 : Int32)), .val (.int (1 : Int32)), .val (.int c1)] d37_32 rfl rfl rfl
      replace k := k.loc #[.val (.ref a1), .val (.int (2 : Int32)), .val (.ref a2), .val (.int (1 : Int32)), .val (.int (3 : Int32)), .val (.int (1 : Int32)), .val (.int c1)] (by rfl)
      replace k := k.iinc (1 : Int32) #[.val (.ref a1), .val (.int (2 : Int32)), .val (.ref a2), .val (.int ((1 : Int32) + (1 : Int32))), .val (.int (3 : Int32)), .val (.int (1 : Int32)), .val (.int c1)] d37_35 rfl rfl rfl
      replace k := k.loc #[.val (.ref a1), .val (.int (2 : Int32)), .val (.ref a2), .val (.int (2 : Int32)), .val (.int (3 : Int32)), .val (.int (1 : Int32)), .val (.int c1)] (by rfl)
      replace k := k.iinc (1 : Int32) #[.val (.ref a1), .val (.int (2 : Int32)), .val (.ref a2), .val (.int (2 : Int32)), .val (.int (3 : Int32)), .val (.int ((1 : Int32) + (1 : Int32))), .val (.int c1)] d37_38 rfl rfl rfl
      replace k := k.loc #[.val (.ref a1), .val (.int (2 : Int32)), .val (.ref a2), .val (.int (2 : Int32)), .val (.int (3 : Int32)), .val (.int (2 : Int32)), .val (.int c1)] (by rfl)
      replace k := k.goto (pc' := 3) d37_41 (by decide) (by decide)
      replace k := k.iload d37_3 rfl
      replace k := k.iload d37_5 rfl
      replace k := k.icmpNo d37_7 (by decide)
      replace k := k.aloadN d37_10 rfl rfl
      replace k := k.iloadN d37_11 rfl
      replace k := k.caload d37_12 ((A1.other W102 ne).other W104 ne)  2 (by decide) (by decide) (by decide) (.int c2) rfl
      replace k := k.istore #[.val (.ref a1), .val (.int (2 : Int32)), .val (.ref a2), .val (.int (2 : Int32)), .val (.int (3 : Int32)), .val (.int (2 : Int32)), .val (.int c2)] d37_13 rfl
      replace k := k.iload d37_15 rfl
      replace k := k.sipush (255 : Int32) d37_17 rfl
      by_cases hc105 : (255 : Int32) < c2
      · skip
        replace k := k.icmpNo d37_20 (tlt hc105).2.2.2
        replace k := k.iload d37_23 rfl
        exact k.iret d37_25 rfl (by simp) rfl (fun sp hsp => ⟨_, rfl, K104, Or.inr (Or.inr (Or.inr (⟨rfl, hc105⟩)))⟩) (by decide) (by decide)
      · skip
        replace k := k.icmpYes (pc' := 26) d37_20 (flt hc105).2.2.2 (by decide) (by decide)
        replace k := k.aloadN d37_26 rfl rfl
        replace k := k.iloadN d37_27 rfl
        replace k := k.iload d37_28 rfl
        replace k := k.i2b d37_30
        obtain ⟨h106, W106, A106, k⟩ := k.bastore d37_31 A104 2 (by decide) (by decide) (by decide) g2 (List.mem_of_getElem? (i := 0) rfl) (c2.toInt8.toInt32) (own_i2b _)
        have K106 : Keep h0 h106 [a2] := K104.wr W106 (Or.inl (List.mem_of_getElem? (i := 0) rfl))
        replace k := k.iinc (1 : Int32) #[.val (.ref a1), .val (.int ((2 : Int32) + (1 : Int32))), .val (.ref a2), .val (.int (2 : Int32)), .val (.int (3 : Int32)), .val (.int (2 : Int32)), .val (.int c2)] d37_32 rfl rfl rfl
        replace k := k.loc #[.val (.ref a1), .val (.int (3 : Int32)), .val (.ref a2), .val (.int (2 : Int32)), .val (.int (3 : Int32)), .val (.int (2 : Int32)), .val (.int c2)] (by rfl)
        replace k := k.iinc (1 : Int32) #[.val (.ref a1), .val (.int (3 : Int32)), .val (.ref a2), .val (.int ((2 : Int32) + (1 : Int32))), .val (.int (3 : Int32)), .val (.int (2 : Int32)), .val (.int c2)] d37_35 rfl rfl rfl
        replace k := k.loc #[.val (.ref a1), .val (.int (3 : Int32)), .val (.ref a2), .val (.int (3 : Int32)), .val (.int (3 : Int32)), .val (.int (2 : Int32)), .val (.int c2)] (by rfl)
        replace k := k.iinc (1 : Int32) #[.val (.ref a1), .val (.int (3 : Int32)), .val (.ref a2), .val (.int (3 : Int32)), .val (.int (3 : Int32)), .val (.int ((2 : Int32) + (1 : Int32))), .val (.int c2)] d37_38 rfl rfl rfl
        replace k := k.loc #[.val (.ref a1), .val (.int (3 : Int32)), .val (.ref a2), .val (.int (3 : Int32)), .val (.int (3 : Int32)), .val (.int (3 : Int32)), .val (.int c2)] (by rfl)
        replace k := k.goto (pc' := 3) d37_41 (by decide) (by decide)
        replace k := k.iload d37_3 rfl
        replace k := k.iload d37_5 rfl
        replace k := k.icmpYes (pc' := 44) d37_7 (by decide) (by decide) (by decide)
        replace k := k.iload d37_44 rfl
        exact k.iret d37_46 rfl (by simp) rfl (fun sp hsp => ⟨_, rfl, K106, Or.inl ⟨rfl, ⟨hc101, hc103, hc105⟩, A106.congr (fun i hi => own_cg3 i hi)⟩⟩) (by decide) (by decide)

set_option maxRecDepth 65536 in
set_option maxHeartbeats 40000000 in
theorem rm39_3 (Z : State) (a0 : Array Value) (hw : ∀ d ∈ tables_1, d.before a0 Z = true) (zC : Int32) (vF : Value) (a1 : Addr) (c0 c1 c2 : Int32) (h0 : Heap) (n0 : Nat) (Z0 : n0 ≤ h0.size) (S_C : Sta Z h0 "java/lang/String" "COMPACT_STRINGS" "Z" (.int zC)) (S_F : Sta Z h0 "jdk/internal/util/Preconditions" "SIOOBE_FORMATTER" "Ljava/util/function/BiFunction;" vF) (S_AD : Sta Z h0 "java/lang/StringUTF16" "$assertionsDisabled" "Z" (.int (1 : Int32))) (S_HI : Sta Z h0 "java/lang/StringUTF16" "HI_BYTE_SHIFT" "I" (.int (0 : Int32))) (S_LO : Sta Z h0 "java/lang/StringUTF16" "LO_BYTE_SHIFT" "I" (.int (8 : Int32))) (hC : ¬ (zC = (0 : Int32))) (hF : vF = .null ∨ ∃ b, vF = .ref b) (A1 : Arf Z h0 a1 .char 3 (own_arr [c0, c1, c2])) (hk0 : own_ch c0) (hk1 : own_ch c1) (hk2 : own_ch c2) :
    Con Z n0 (⟨"java/lang/StringUTF16", "toBytes", "([CII)[B"⟩ : MethodName) jdk_52_method_14_code 5 (some (.array .byte)) [] ({ frames := 2, cells := 1, slots := 6, locals := 24 } : Room) #[(.ref a1), (.int (0 : Int32)), (.int (3 : Int32))] h0 [] (fun v h sp => ∃ b G, v = some (.ref b) ∧ Keep h0 h [] ∧ h0.size ≤ b ∧ Arf Z h b .byte 6 (own_bf G) ∧ own_der G ∧ ∀ i, i < 3 → own_dec 1 G i = own_li [c0, c1, c2] i) := by
  refine Con.intro (L0 := #[.val (.ref a1), .val (.int (0 : Int32)), .val (.int (3 : Int32)), .unset, .unset]) ⟨_, own_EW hw⟩ (plainFor_of_name (by first | (simp [plainName, overriddenIn]; done) | decide +kernel)) (fun m => by first | (simp [entryFrame, mkF, argsToLocals, Value.category]; done) | rfl) ?_
  intro C k
  replace k := k.iloadN d39_0 rfl
  obtain ⟨_, hn101, sp1, ⟨bn101, rfl, Kn101, zn101, gn101, sn101, An101⟩, k⟩ := k.callS (y := (⟨"java/lang/StringUTF16", "newBytesFor", "(I)[B"⟩ : MethodName)) d39_1 (hw _ (List.mem_of_getElem? (i := 196) rfl)) (hw _ (List.mem_of_getElem? (i := 197) rfl)) (hw _ (List.mem_of_getElem? (i := 185) rfl)) (hw _ (List.mem_of_getElem? (i := 198) rfl)) (W := 0) (argsL := [(.int (3 : Int32))]) (rest := []) (rm40_3 Z a0 hw h0 n0 Z0) all0 rfl (pd_14) rfl rfl rfl (by decide) (by decide) (by decide) (by decide) (by decide)
  have Kc102 : Keep h0 hn101 [] := (Keep.refl h0 ([] : List Addr)).trans Kn101 all0
  replace k := (k [bn101] (allS ⟨sn101, An101.lt⟩ all0)).sfx [bn101] rfl
  replace k := k.stk [(.ref bn101)] rfl
  have zz103 : h0.size ≤ bn101 := Nat.le_trans (Keep.refl h0 ([] : List Addr)).1 zn101
  replace k := k.astoreN #[.val (.ref a1), .val (.int (0 : Int32)), .val (.int (3 : Int32)), .val (.ref bn101), .unset] d39_4 rfl rfl
  replace k := k.iconst (0 : Int32) d39_5 rfl
  replace k := k.istore #[.val (.ref a1), .val (.int (0 : Int32)), .val (.int (3 : Int32)), .val (.ref bn101), .val (.int (0 : Int32))] d39_6 rfl
  replace k := k.iload d39_8 rfl
  replace k := k.iloadN d39_10 rfl
  replace k := k.icmpNo d39_11 (by decide)
  replace k := k.aloadN d39_14 rfl rfl
  replace k := k.iload d39_15 rfl
  replace k := k.aloadN d39_17 rfl rfl
  replace k := k.iloadN d39_18 rfl
  replace k := k.caload d39_19 (A1.keep Kn101 nin0)  0 (by decide) (by decide) (by decide) (.int c0) rfl
  obtain ⟨_, hp104, sp20, ⟨rfl, Kp104, Ap104⟩, k⟩ := k.callS (y := (⟨"java/lang/StringUTF16", "putChar", "([BII)V"⟩ : MethodName)) d39_20 (hw _ (List.mem_of_getElem? (i := 203) rfl)) (hw _ (List.mem_of_getElem? (i := 204) rfl)) (hw _ (List.mem_of_getElem? (i := 185) rfl)) (hw _ (List.mem_of_getElem? (i := 205) rfl)) (W := 0) (argsL := [(.ref bn101), (.int (0 : Int32)), (.int c0)]) (rest := []) (rm42 Z a0 hw zC vF bn101 6 0 (0 : Int32) c0 (fun _ => 0) hn101 n0 (Nat.le_trans Z0 Kn101.1) (Sta.keepN S_C Kn101 all0) (Sta.keepN S_F Kn101 all0) (Sta.keepN S_AD Kn101 all0) (Sta.keepN S_HI Kn101 all0) (Sta.keepN S_LO Kn101 all0) hC hF gn101 An101 (by decide) (by decide) (by decide)) (allS (List.mem_of_getElem? (i := 0) rfl) all0) rfl (pd_15) rfl rfl rfl (by decide) (by decide) (by decide) (by decide) (by decide)
  have Kc105 : Keep h0 hp104 [] := Kc102.trans Kp104 (allS (Or.inr zz103) all0)
  replace k := (k [] all0).sfx [bn101] rfl
  replace k := k.stk [] rfl
  replace k := k.iinc (1 : Int32) #[.val (.ref a1), .val (.int ((0 : Int32) + (1 : Int32))), .val (.int (3 : Int32)), .val (.ref bn101), .val (.int (0 : Int32))] d39_23 rfl rfl rfl
  replace k := k.loc #[.val (.ref a1), .val (.int (1 : Int32)), .val (.int (3 : Int32)), .val (.ref bn101), .val (.int (0 : Int32))] (by rfl)
  replace k := k.iinc (1 : Int32) #[.val (.ref a1), .val (.int (1 : Int32)), .val (.int (3 : Int32)), .val (.ref bn101), .val (.int ((0 : Int32) + (1 : Int32)))] d39_26 rfl rfl rfl
  replace k := k.loc #[.val (.ref a1), .val (.int (1 : Int32)), .val (.int (3 : Int32)), .val (.ref bn101), .val (.int (1 : Int32))] (by rfl)
  replace k := k.goto (pc' := 8) d39_29 (by decide) (by decide)
  replace k := k.iload d39_8 rfl
  replace k := k.iloadN d39_10 rfl
  replace k := k.icmpNo d39_11 (by decide)
  replace k := k.aloadN d39_14 rfl rfl
  replace k := k.iload d39_15 rfl
  replace k := k.aloadN d39_17 rfl rfl
  replace k := k.iloadN d39_18 rfl
  replace k := k.caload d39_19 ((A1.keep Kn101 nin0).keep Kp104 (ninS (Nat.ne_of_lt (Nat.lt_of_lt_of_le A1.lt zn101)) nin0))  1 (by decide) (by decide) (by decide) (.int c1) rfl
  obtain ⟨_, hp106, sp20, ⟨rfl, Kp106, Ap106⟩, k⟩ := k.callS (y := (⟨"java/lang/StringUTF16", "putChar", "([BII)V"⟩ : MethodName)) d39_20 (hw _ (List.mem_of_getElem? (i := 203) rfl)) (hw _ (List.mem_of_getElem? (i := 204) rfl)) (hw _ (List.mem_of_getElem? (i := 185) rfl)) (hw _ (List.mem_of_getElem? (i := 205) rfl)) (W := 0) (argsL := [(.ref bn101), (.int (1 : Int32)), (.int c1)]) (rest := []) (rm42 Z a0 hw zC vF bn101 6 1 (1 : Int32) c1 (own_pc (fun _ => 0) 0 c0) hp104 n0 (Nat.le_trans (Nat.le_trans Z0 Kn101.1) Kp104.1) (Sta.keepN (Sta.keepN S_C Kn101 all0) Kp104 (allS (Arf.nost An101) all0)) (Sta.keepN (Sta.keepN S_F Kn101 all0) Kp104 (allS (Arf.nost An101) all0)) (Sta.keepN (Sta.keepN S_AD Kn101 all0) Kp104 (allS (Arf.nost An101) all0)) (Sta.keepN (Sta.keepN S_HI Kn101 all0) Kp104 (allS (Arf.nost An101) all0)) (Sta.keepN (Sta.keepN S_LO Kn101 all0) Kp104 (allS (Arf.nost An101) all0)) hC hF gn101 Ap104 (by decide) (by decide) (by decide)) (allS (List.mem_of_getElem? (i := 0) rfl) all0) rfl (pd_15) rfl rfl rfl (by decide) (by decide) (by decide) (by decide) (by decide)
  have Kc107 : Keep h0 hp106 [] := Kc105.trans Kp106 (allS (Or.inr zz103) all0)
  replace k := (k [] all0).sfx [bn101] rfl
  replace k := k.stk [] rfl
  replace k := k.iinc (1 : Int32) #[.val (.ref a1), .val (.int ((1 : Int32) + (1 : Int32))), .val (.int (3 : Int32)), .val (.ref bn101), .val (.int (1 : Int32))] d39_23 rfl rfl rfl
  replace k := k.loc #[.val (.ref a1), .val (.int (2 : Int32)), .val (.int (3 : Int32)), .val (.ref bn101), .val (.int (1 : Int32))] (by rfl)
  replace k := k.iinc (1 : Int32) #[.val (.ref a1), .val (.int (2 : Int32)), .val (.int (3 : Int32)), .val (.ref bn101), .val (.int ((1 : Int32) + (1 : Int32)))] d39_26 rfl rfl rfl
  replace k := k.loc #[.val (.ref a1), .val (.int (2 : Int32)), .val (.int (3 : Int32)), .val (.ref bn101), .val (.int (2 : Int32))] (by rfl)
  replace k := k.goto (pc' := 8) d39_29 (by decide) (by decide)
  replace k := k.iload d39_8 rfl
  replace k := k.iloadN d39_10 rfl
  replace k := k.icmpNo d39_11 (by decide)
  replace k := k.aloadN d39_14 rfl rfl
  replace k := k.iload d39_15 rfl
  replace k := k.aloadN d39_17 rfl rfl
  replace k := k.iloadN d39_18 rfl
  replace k := k.caload d39_19 (((A1.keep Kn101 nin0).keep Kp104 (ninS (Nat.ne_of_lt (Nat.lt_of_lt_of_le A1.lt zn101)) nin0)).keep Kp106 (ninS (Nat.ne_of_lt (Nat.lt_of_lt_of_le A1.lt zn101)) nin0))  2 (by decide) (by decide) (by decide) (.int c2) rfl
  obtain ⟨_, hp108, sp20, ⟨rfl, Kp108, Ap108⟩, k⟩ := k.callS (y := (⟨"java/lang/StringUTF16", "putChar", "([BII)V"⟩ : MethodName)) d39_20 (hw _ (List.mem_of_getElem? (i := 203) rfl)) (hw _ (List.mem_of_getElem? (i := 204) rfl)) (hw _ (List.mem_of_getElem? (i := 185) rfl)) (hw _ (List.mem_of_getElem? (i := 205) rfl)) (W := 0) (argsL := [(.ref bn101), (.int (2 : Int32)), (.int c2)]) (rest := []) (rm42 Z a0 hw zC vF bn101 6 2 (2 : Int32) c2 (own_pc (own_pc (fun _ => 0) 0 c0) 1 c1) hp106 n0 (Nat.le_trans (Nat.le_trans (Nat.le_trans Z0 Kn101.1) Kp104.1) Kp106.1) (Sta.keepN (Sta.keepN (Sta.keepN S_C Kn101 all0) Kp104 (allS (Arf.nost An101) all0)) Kp106 (allS (Arf.nost Ap104) all0)) (Sta.keepN (Sta.keepN (Sta.keepN S_F Kn101 all0) Kp104 (allS (Arf.nost An101) all0)) Kp106 (allS (Arf.nost Ap104) all0)) (Sta.keepN (Sta.keepN (Sta.keepN S_AD Kn101 all0) Kp104 (allS (Arf.nost An101) all0)) Kp106 (allS (Arf.nost Ap104) all0)) (Sta.keepN (Sta.keepN (Sta.keepN S_HI Kn101 all0) Kp104 (allS (Arf.nost An101) all0)) Kp106 (allS (Arf.nost Ap104) all0)) (Sta.keepN (Sta.keepN (Sta.keepN S_LO Kn101 all0) Kp104 (allS (Arf.nost An101) all0)) Kp106 (allS (Arf.nost Ap104) all0)) hC hF gn101 Ap106 (by decide) (by decide) (by decide)) (allS (List.mem_of_getElem? (i := 0) rfl) all0) rfl (pd_15) rfl rfl rfl (by decide) (by decide) (by decide) (by decide) (by decide)
  have Kc109 : Keep h0 hp108 [] := Kc107.trans Kp108 (allS (Or.inr zz103) all0)
  replace k := (k [] all0).sfx [bn101] rfl
  replace k := k.stk [] rfl
  replace k := k.iinc (1 : Int32) #[.val (.ref a1), .val (.int ((2 : Int32) + (1 : Int32))), .val (.int (3 : Int32)), .val (.ref bn101), .val (.int (2 : Int32))] d39_23 rfl rfl rfl
  replace k := k.loc #[.val (.ref a1), .val (.int (3 : Int32)), .val (.int (3 : Int32)), .val (.ref bn101), .val (.int (2 : Int32))] (by rfl)
  replace k := k.iinc (1 : Int32) #[.val (.ref a1), .val (.int (3 : Int32)), .val (.int (3 : Int32)), .val (.ref bn101), .val (.int ((2 : Int32) + (1 : Int32)))] d39_26 rfl rfl rfl
  replace k := k.loc #[.val (.ref a1), .val (.int (3 : Int32)), .val (.int (3 : Int32)), .val (.ref bn101), .val (.int (3 : Int32))] (by rfl)
  replace k := k.goto (pc' := 8) d39_29 (by decide) (by decide)
  replace k := k.iload d39_8 rfl
  replace k := k.iloadN d39_10 rfl
  replace k := k.icmpYes (pc' := 32) d39_11 (by decide) (by decide) (by decide)
  replace k := k.aloadN d39_32 rfl rfl
  exact k.aret d39_33 rfl rfl rfl rfl (fun sp hsp => ⟨_, _, rfl, Kc109, zz103, Ap108, (own_derP (own_derP (own_derP own_der0))), own_tb3 hk0 hk1 hk2⟩) (by decide) (by decide)

set_option maxRecDepth 65536 in
set_option maxHeartbeats 40000000 in
theorem rm36_3 (Z : State) (a0 : Array Value) (hw : ∀ d ∈ tables_1, d.before a0 Z = true) (zC : Int32) (vF : Value) (a1 : Addr) (c0 c1 c2 : Int32) (h0 : Heap) (n0 : Nat) (Z0 : n0 ≤ h0.size) (S_C : Sta Z h0 "java/lang/String" "COMPACT_STRINGS" "Z" (.int zC)) (S_F : Sta Z h0 "jdk/internal/util/Preconditions" "SIOOBE_FORMATTER" "Ljava/util/function/BiFunction;" vF) (S_AD : Sta Z h0 "java/lang/StringUTF16" "$assertionsDisabled" "Z" (.int (1 : Int32))) (S_HI : Sta Z h0 "java/lang/StringUTF16" "HI_BYTE_SHIFT" "I" (.int (0 : Int32))) (S_LO : Sta Z h0 "java/lang/StringUTF16" "LO_BYTE_SHIFT" "I" (.int (8 : Int32))) (hC : ¬ (zC = (0 : Int32))) (hF : vF = .null ∨ ∃ b, vF = .ref b) (A1 : Arf Z h0 a1 .char 3 (own_arr [c0, c1, c2])) (hk0 : own_ch c0) (hk1 : own_ch c1) (hk2 : own_ch c2) :
    Con Z n0 (⟨"java/lang/StringUTF16", "compress", "([CII)[B"⟩ : MethodName) jdk_52_method_16_code 6 (some (.array .byte)) [] ({ frames := 3, cells := 2, slots := 9, locals := 40 } : Room) #[(.ref a1), (.int (0 : Int32)), (.int (3 : Int32))] h0 [] (fun v h sp => ∃ b cod G, v = some (.ref b) ∧ Keep h0 h [] ∧ h0.size ≤ b ∧ (cod = 0 ∨ cod = 1) ∧ Arf Z h b .byte (own_ln cod 3) (own_bf G) ∧ own_der G ∧ ∀ i, i < 3 → own_dec cod G i = own_li [c0, c1, c2] i) := by
  refine Con.intro (L0 := #[.val (.ref a1), .val (.int (0 : Int32)), .val (.int (3 : Int32)), .unset, .unset, .unset]) ⟨_, own_EW hw⟩ (plainFor_of_name (by first | (simp [plainName, overriddenIn]; done) | decide +kernel)) (fun m => by first | (simp [entryFrame, mkF, argsToLocals, Value.category]; done) | rfl) ?_
  intro C k
  replace k := k.iloadN d36_0 rfl
  obtain ⟨h101, b101, g101, E101, A101, X101, k⟩ := k.newarr (ad := "[B") d36_1 (hw _ (List.mem_of_getElem? (i := 19) rfl)) (by decide) 3 (by decide) 3 (by decide) (by decide) (by decide) (by decide) (by decide)
  have ge_b101 : n0 ≤ b101 := Nat.le_trans Z0 (Nat.le_of_eq g101.symm)
  have sz_b101 : h0.size ≤ b101 := Nat.le_trans (Keep.refl h0 ([] : List Addr)).1 (Nat.le_of_eq g101.symm)
  have K101 : Keep h0 h101 [] := (Keep.refl h0 ([] : List Addr)).ext E101
  replace k := k.astoreN #[.val (.ref a1), .val (.int (0 : Int32)), .val (.int (3 : Int32)), .val (.ref b101), .unset, .unset] d36_3 rfl rfl
  replace k := k.aloadN d36_4 rfl rfl
  replace k := k.iloadN d36_5 rfl
  replace k := k.aloadN d36_6 rfl rfl
  replace k := k.iconst (0 : Int32) d36_7 rfl
  replace k := k.iloadN d36_8 rfl
  obtain ⟨_, hz102, sp9, ⟨jz102, rfl, Kz102, Rz102⟩, k⟩ := k.callS (y := (⟨"java/lang/StringUTF16", "compress", "([CI[BII)I"⟩ : MethodName)) d36_9 (hw _ (List.mem_of_getElem? (i := 187) rfl)) (hw _ (List.mem_of_getElem? (i := 188) rfl)) (hw _ (List.mem_of_getElem? (i := 185) rfl)) (hw _ (List.mem_of_getElem? (i := 189) rfl)) (W := 0) (argsL := [(.ref a1), (.int (0 : Int32)), (.ref b101), (.int (0 : Int32)), (.int (3 : Int32))]) (rest := []) (rm37_3 Z a0 hw a1 b101 _ c0 c1 c2 h101 n0 (Nat.ne_of_lt (Nat.lt_of_lt_of_le A1.lt (Nat.le_of_eq g101.symm))) ge_b101 (A1.ext E101) A101) (allS (List.mem_of_getElem? (i := 0) rfl) all0) rfl (pd_16) rfl rfl rfl (by decide) (by decide) (by decide) (by decide) (by decide)
  have Kc103 : Keep h0 hz102 [] := K101.trans Kz102 (allS (Or.inr sz_b101) all0)
  replace k := (k [] all0).sfx [b101] rfl
  replace k := k.stk [(.int jz102)] rfl
  rcases Rz102 with ⟨rfl, ⟨hp0, hp1, hp2⟩, Ac⟩ | ⟨rfl, hgt⟩ | ⟨rfl, hgt⟩ | ⟨rfl, hgt⟩
  · skip
    replace k := k.istore #[.val (.ref a1), .val (.int (0 : Int32)), .val (.int (3 : Int32)), .val (.ref b101), .val (.int (3 : Int32)), .unset] d36_12 rfl
    replace k := k.iload d36_14 rfl
    replace k := k.iloadN d36_16 rfl
    replace k := k.icmpYes (pc' := 57) d36_17 (by decide) (by decide) (by decide)
    replace k := k.aloadN d36_57 rfl rfl
    exact k.aret d36_58 rfl rfl rfl rfl (fun sp hsp => ⟨_, 0, own_li [(c0.toInt8.toInt32), (c1.toInt8.toInt32), (c2.toInt8.toInt32)], rfl, Kc103, sz_b101, Or.inl rfl, Ac, own_der8 (l := [c0, c1, c2]), own_lt3 hp0 hk0 hp1 hk1 hp2 hk2⟩) (by decide) (by decide)
  · skip
    replace k := k.istore #[.val (.ref a1), .val (.int (0 : Int32)), .val (.int (3 : Int32)), .val (.ref b101), .val (.int (0 : Int32)), .unset] d36_12 rfl
    replace k := k.iload d36_14 rfl
    replace k := k.iloadN d36_16 rfl
    replace k := k.icmpNo d36_17 (by decide)
    replace k := k.aloadN d36_20 rfl rfl
    replace k := k.iloadN d36_21 rfl
    replace k := k.iloadN d36_22 rfl
    obtain ⟨_, hy104, sp23, ⟨by104, Gy104, rfl, Ky104, zy104, Ay104, Dy104, Ty104⟩, k⟩ := k.callS (y := (⟨"java/lang/StringUTF16", "toBytes", "([CII)[B"⟩ : MethodName)) d36_23 (hw _ (List.mem_of_getElem? (i := 193) rfl)) (hw _ (List.mem_of_getElem? (i := 194) rfl)) (hw _ (List.mem_of_getElem? (i := 185) rfl)) (hw _ (List.mem_of_getElem? (i := 195) rfl)) (W := 0) (argsL := [(.ref a1), (.int (0 : Int32)), (.int (3 : Int32))]) (rest := []) (rm39_3 Z a0 hw zC vF a1 c0 c1 c2 hz102 n0 (Nat.le_trans (Nat.le_trans Z0 E101.1) Kz102.1) (Sta.keepN (Sta.ext E101 S_C) Kz102 (allS (Exa.nost X101) all0)) (Sta.keepN (Sta.ext E101 S_F) Kz102 (allS (Exa.nost X101) all0)) (Sta.keepN (Sta.ext E101 S_AD) Kz102 (allS (Exa.nost X101) all0)) (Sta.keepN (Sta.ext E101 S_HI) Kz102 (allS (Exa.nost X101) all0)) (Sta.keepN (Sta.ext E101 S_LO) Kz102 (allS (Exa.nost X101) all0)) hC hF ((A1.ext E101).keep Kz102 (ninS (Nat.ne_of_lt (Nat.lt_of_lt_of_le A1.lt (Nat.le_of_eq g101.symm))) nin0)) hk0 hk1 hk2) all0 rfl (pd_17) rfl rfl rfl (by decide) (by decide) (by decide) (by decide) (by decide)
    have Kc105 : Keep h0 hy104 [] := Kc103.trans Ky104 all0
    replace k := (k [] all0).sfx [b101] rfl
    replace k := k.stk [(.ref by104)] rfl
    replace k := k.astore #[.val (.ref a1), .val (.int (0 : Int32)), .val (.int (3 : Int32)), .val (.ref b101), .val (.int (0 : Int32)), .val (.ref by104)] d36_26 rfl rfl
    replace k := k.aload d36_28 rfl rfl
    replace k := k.iload d36_30 rfl
    obtain ⟨_, _, sp32, ⟨rfl, rfl⟩, k⟩ := k.callS (y := (⟨"java/lang/StringUTF16", "getChar", "([BI)C"⟩ : MethodName)) d36_32 (hw _ (List.mem_of_getElem? (i := 209) rfl)) (hw _ (List.mem_of_getElem? (i := 210) rfl)) (hw _ (List.mem_of_getElem? (i := 185) rfl)) (hw _ (List.mem_of_getElem? (i := 211) rfl)) (W := 0) (argsL := [(.ref by104), (.int (0 : Int32))]) (rest := []) (rm43 Z a0 hw zC vF by104 6 0 (0 : Int32) Gy104 hy104 n0 (Nat.le_trans (Nat.le_trans (Nat.le_trans Z0 E101.1) Kz102.1) Ky104.1) (Sta.keepN (Sta.keepN (Sta.ext E101 S_C) Kz102 (allS (Exa.nost X101) all0)) Ky104 all0) (Sta.keepN (Sta.keepN (Sta.ext E101 S_F) Kz102 (allS (Exa.nost X101) all0)) Ky104 all0) (Sta.keepN (Sta.keepN (Sta.ext E101 S_AD) Kz102 (allS (Exa.nost X101) all0)) Ky104 all0) (Sta.keepN (Sta.keepN (Sta.ext E101 S_HI) Kz102 (allS (Exa.nost X101) all0)) Ky104 all0) (Sta.keepN (Sta.keepN (Sta.ext E101 S_LO) Kz102 (allS (Exa.nost X101) all0)) Ky104 all0) hC hF Ay104 (by decide) (by decide) (by decide)) all0 rfl (pd_7) rfl rfl rfl (by decide) (by decide) (by decide) (by decide) (by decide)
    replace k := (k [] all0).sfx [b101] rfl
    replace k := k.stk [(.int (own_gc (Gy104 (2 * 0)) (Gy104 (2 * 0 + 1))))] rfl
    replace k := k.stk [(.int c0)] (by rw [show own_gc (Gy104 (2 * 0)) (Gy104 (2 * 0 + 1)) = c0 from Ty104 0 (by decide)])
    replace k := k.sipush (255 : Int32) d36_35 rfl
    replace k := k.icmpYes (pc' := 54) d36_38 (tlt hgt).2.2.1 (by decide) (by decide)
    replace k := k.aload d36_54 rfl rfl
    have zz106 : h0.size ≤ by104 := Nat.le_trans Kc103.1 zy104
    exact k.aret d36_56 rfl rfl rfl rfl (fun sp hsp => ⟨_, 1, _, rfl, Kc105, zz106, Or.inr rfl, Ay104, Dy104, Ty104⟩) (by decide) (by decide)
  · skip
    replace k := k.istore #[.val (.ref a1), .val (.int (0 : Int32)), .val (.int (3 : Int32)), .val (.ref b101), .val (.int (1 : Int32)), .unset] d36_12 rfl
    replace k := k.iload d36_14 rfl
    replace k := k.iloadN d36_16 rfl
    replace k := k.icmpNo d36_17 (by decide)
    replace k := k.aloadN d36_20 rfl rfl
    replace k := k.iloadN d36_21 rfl
    replace k := k.iloadN d36_22 rfl
    obtain ⟨_, hy107, sp23, ⟨by107, Gy107, rfl, Ky107, zy107, Ay107, Dy107, Ty107⟩, k⟩ := k.callS (y := (⟨"java/lang/StringUTF16", "toBytes", "([CII)[B"⟩ : MethodName)) d36_23 (hw _ (List.mem_of_getElem? (i := 193) rfl)) (hw _ (List.mem_of_getElem? (i := 194) rfl)) (hw _ (List.mem_of_getElem? (i := 185) rfl)) (hw _ (List.mem_of_getElem? (i := 195) rfl)) (W := 0) (argsL := [(.ref a1), (.int (0 : Int32)), (.int (3 : Int32))]) (rest := []) (rm39_3 Z a0 hw zC vF a1 c0 c1 c2 hz102 n0 (Nat.le_trans (Nat.le_trans Z0 E101.1) Kz102.1) (Sta.keepN (Sta.ext E101 S_C) Kz102 (allS (Exa.nost X101) all0)) (Sta.keepN (Sta.ext E101 S_F) Kz102 (allS (Exa.nost X101) all0)) (Sta.keepN (Sta.ext E101 S_AD) Kz102 (allS (Exa.nost X101) all0)) (Sta.keepN (Sta.ext E101 S_HI) Kz102 (allS (Exa.nost X101) all0)) (Sta.keepN (Sta.ext E101 S_LO) Kz102 (allS (Exa.nost X101) all0)) hC hF ((A1.ext E101).keep Kz102 (ninS (Nat.ne_of_lt (Nat.lt_of_lt_of_le A1.lt (Nat.le_of_eq g101.symm))) nin0)) hk0 hk1 hk2) all0 rfl (pd_17) rfl rfl rfl (by decide) (by decide) (by decide) (by decide) (by decide)
    have Kc108 : Keep h0 hy107 [] := Kc103.trans Ky107 all0
    replace k := (k [] all0).sfx [b101] rfl
    replace k := k.stk [(.ref by107)] rfl
    replace k := k.astore #[.val (.ref a1), .val (.int (0 : Int32)), .val (.int (3 : Int32)), .val (.ref b101), .val (.int (1 : Int32)), .val (.ref by107)] d36_26 rfl rfl
    replace k := k.aload d36_28 rfl rfl
    replace k := k.iload d36_30 rfl
    obtain ⟨_, _, sp32, ⟨rfl, rfl⟩, k⟩ := k.callS (y := (⟨"java/lang/StringUTF16", "getChar", "([BI)C"⟩ : MethodName)) d36_32 (hw _ (List.mem_of_getElem? (i := 209) rfl)) (hw _ (List.mem_of_getElem? (i := 210) rfl)) (hw _ (List.mem_of_getElem? (i := 185) rfl)) (hw _ (List.mem_of_getElem? (i := 211) rfl)) (W := 0) (argsL := [(.ref by107), (.int (1 : Int32))]) (rest := []) (rm43 Z a0 hw zC vF by107 6 1 (1 : Int32) Gy107 hy107 n0 (Nat.le_trans (Nat.le_trans (Nat.le_trans Z0 E101.1) Kz102.1) Ky107.1) (Sta.keepN (Sta.keepN (Sta.ext E101 S_C) Kz102 (allS (Exa.nost X101) all0)) Ky107 all0) (Sta.keepN (Sta.keepN (Sta.ext E101 S_F) Kz102 (allS (Exa.nost X101) all0)) Ky107 all0) (Sta.keepN (Sta.keepN (Sta.ext E101 S_AD) Kz102 (allS (Exa.nost X101) all0)) Ky107 all0) (Sta.keepN (Sta.keepN (Sta.ext E101 S_HI) Kz102 (allS (Exa.nost X101) all0)) Ky107 all0) (Sta.keepN (Sta.keepN (Sta.ext E101 S_LO) Kz102 (allS (Exa.nost X101) all0)) Ky107 all0) hC hF Ay107 (by decide) (by decide) (by decide)) all0 rfl (pd_7) rfl rfl rfl (by decide) (by decide) (by decide) (by decide) (by decide)
    replace k := (k [] all0).sfx [b101] rfl
    replace k := k.stk [(.int (own_gc (Gy107 (2 * 1)) (Gy107 (2 * 1 + 1))))] rfl
    replace k := k.stk [(.int c1)] (by rw [show own_gc (Gy107 (2 * 1)) (Gy107 (2 * 1 + 1)) = c1 from Ty107 1 (by decide)])
    replace k := k.sipush (255 : Int32) d36_35 rfl
    replace k := k.icmpYes (pc' := 54) d36_38 (tlt hgt).2.2.1 (by decide) (by decide)
    replace k := k.aload d36_54 rfl rfl
    have zz109 : h0.size ≤ by107 := Nat.le_trans Kc103.1 zy107
    exact k.aret d36_56 rfl rfl rfl rfl (fun sp hsp => ⟨_, 1, _, rfl, Kc108, zz109, Or.inr rfl, Ay107, Dy107, Ty107⟩) (by decide) (by decide)
  · skip
    replace k := k.istore #[.val (.ref a1), .val (.int (0 : Int32)), .val (.int (3 : Int32)), .val (.ref b101), .val (.int (2 : Int32)), .unset] d36_12 rfl
    replace k := k.iload d36_14 rfl
    replace k := k.iloadN d36_16 rfl
    replace k := k.icmpNo d36_17 (by decide)
    replace k := k.aloadN d36_20 rfl rfl
    replace k := k.iloadN d36_21 rfl
    replace k := k.iloadN d36_22 rfl
    obtain ⟨_, hy110, sp23, ⟨by110, Gy110, rfl, Ky110, zy110, Ay110, Dy110, Ty110⟩, k⟩ := k.callS (y := (⟨"java/lang/StringUTF16", "toBytes", "([CII)[B"⟩ : MethodName)) d36_23 (hw _ (List.mem_of_getElem? (i := 193) rfl)) (hw _ (List.mem_of_getElem? (i := 194) rfl)) (hw _ (List.mem_of_getElem? (i := 185) rfl)) (hw _ (List.mem_of_getElem? (i := 195) rfl)) (W := 0) (argsL := [(.ref a1), (.int (0 : Int32)), (.int (3 : Int32))]) (rest := []) (rm39_3 Z a0 hw zC vF a1 c0 c1 c2 hz102 n0 (Nat.le_trans (Nat.le_trans Z0 E101.1) Kz102.1) (Sta.keepN (Sta.ext E101 S_C) Kz102 (allS (Exa.nost X101) all0)) (Sta.keepN (Sta.ext E101 S_F) Kz102 (allS (Exa.nost X101) all0)) (Sta.keepN (Sta.ext E101 S_AD) Kz102 (allS (Exa.nost X101) all0)) (Sta.keepN (Sta.ext E101 S_HI) Kz102 (allS (Exa.nost X101) all0)) (Sta.keepN (Sta.ext E101 S_LO) Kz102 (allS (Exa.nost X101) all0)) hC hF ((A1.ext E101).keep Kz102 (ninS (Nat.ne_of_lt (Nat.lt_of_lt_of_le A1.lt (Nat.le_of_eq g101.symm))) nin0)) hk0 hk1 hk2) all0 rfl (pd_17) rfl rfl rfl (by decide) (by decide) (by decide) (by decide) (by decide)
    have Kc111 : Keep h0 hy110 [] := Kc103.trans Ky110 all0
    replace k := (k [] all0).sfx [b101] rfl
    replace k := k.stk [(.ref by110)] rfl
    replace k := k.astore #[.val (.ref a1), .val (.int (0 : Int32)), .val (.int (3 : Int32)), .val (.ref b101), .val (.int (2 : Int32)), .val (.ref by110)] d36_26 rfl rfl
    replace k := k.aload d36_28 rfl rfl
    replace k := k.iload d36_30 rfl
    obtain ⟨_, _, sp32, ⟨rfl, rfl⟩, k⟩ := k.callS (y := (⟨"java/lang/StringUTF16", "getChar", "([BI)C"⟩ : MethodName)) d36_32 (hw _ (List.mem_of_getElem? (i := 209) rfl)) (hw _ (List.mem_of_getElem? (i := 210) rfl)) (hw _ (List.mem_of_getElem? (i := 185) rfl)) (hw _ (List.mem_of_getElem? (i := 211) rfl)) (W := 0) (argsL := [(.ref by110), (.int (2 : Int32))]) (rest := []) (rm43 Z a0 hw zC vF by110 6 2 (2 : Int32) Gy110 hy110 n0 (Nat.le_trans (Nat.le_trans (Nat.le_trans Z0 E101.1) Kz102.1) Ky110.1) (Sta.keepN (Sta.keepN (Sta.ext E101 S_C) Kz102 (allS (Exa.nost X101) all0)) Ky110 all0) (Sta.keepN (Sta.keepN (Sta.ext E101 S_F) Kz102 (allS (Exa.nost X101) all0)) Ky110 all0) (Sta.keepN (Sta.keepN (Sta.ext E101 S_AD) Kz102 (allS (Exa.nost X101) all0)) Ky110 all0) (Sta.keepN (Sta.keepN (Sta.ext E101 S_HI) Kz102 (allS (Exa.nost X101) all0)) Ky110 all0) (Sta.keepN (Sta.keepN (Sta.ext E101 S_LO) Kz102 (allS (Exa.nost X101) all0)) Ky110 all0) hC hF Ay110 (by decide) (by decide) (by decide)) all0 rfl (pd_7) rfl rfl rfl (by decide) (by decide) (by decide) (by decide) (by decide)
    replace k := (k [] all0).sfx [b101] rfl
    replace k := k.stk [(.int (own_gc (Gy110 (2 * 2)) (Gy110 (2 * 2 + 1))))] rfl
    replace k := k.stk [(.int c2)] (by rw [show own_gc (Gy110 (2 * 2)) (Gy110 (2 * 2 + 1)) = c2 from Ty110 2 (by decide)])
    replace k := k.sipush (255 : Int32) d36_35 rfl
    replace k := k.icmpYes (pc' := 54) d36_38 (tlt hgt).2.2.1 (by decide) (by decide)
    replace k := k.aload d36_54 rfl rfl
    have zz112 : h0.size ≤ by110 := Nat.le_trans Kc103.1 zy110
    exact k.aret d36_56 rfl rfl rfl rfl (fun sp hsp => ⟨_, 1, _, rfl, Kc111, zz112, Or.inr rfl, Ay110, Dy110, Ty110⟩) (by decide) (by decide)

set_option maxRecDepth 65536 in
set_option maxHeartbeats 40000000 in
theorem rm38_3_0 (Z : State) (a0 : Array Value) (hw : ∀ d ∈ tables_1, d.before a0 Z = true) (a1 : Addr) (f1 : Nat → Value) (h0 : Heap) (n0 : Nat) (A1 : Arf Z h0 a1 .byte 3 f1) :
    Con Z n0 (⟨"java/lang/StringUTF16", "coderFromArrayLen", "([BI)B"⟩ : MethodName) jdk_52_method_15_code 2 (some .byte) [] ({ frames := 0, cells := 0, slots := 0, locals := 0 } : Room) #[(.ref a1), (.int (3 : Int32))] h0 [] (fun v h sp => v = some (.int (0 : Int32)) ∧ h0 = h) := by
  refine Con.intro (L0 := #[.val (.ref a1), .val (.int (3 : Int32))]) ⟨_, own_EW hw⟩ (plainFor_of_name (by first | (simp [plainName, overriddenIn]; done) | decide +kernel)) (fun m => by first | (simp [entryFrame, mkF, argsToLocals, Value.category]; done) | rfl) ?_
  intro C k
  replace k := k.iloadN d38_0 rfl
  replace k := k.aloadN d38_1 rfl rfl
  replace k := k.arrlen d38_2 A1 (3 : Int32) (by decide)
  replace k := k.isub d38_3
  replace k := k.foldI (0 : Int32) (by decide)
  replace k := k.bipush (31 : Int32) d38_4 rfl
  replace k := k.iushr d38_6
  replace k := k.foldI (0 : Int32) (by decide)
  replace k := k.i2b d38_7
  replace k := k.foldI (0 : Int32) (by decide)
  exact k.iret d38_8 rfl (by simp) rfl (fun sp hsp => ⟨rfl, rfl⟩) (by decide) (by decide)

set_option maxRecDepth 65536 in
set_option maxHeartbeats 40000000 in
theorem rm38_3_1 (Z : State) (a0 : Array Value) (hw : ∀ d ∈ tables_1, d.before a0 Z = true) (a1 : Addr) (f1 : Nat → Value) (h0 : Heap) (n0 : Nat) (A1 : Arf Z h0 a1 .byte 6 f1) :
    Con Z n0 (⟨"java/lang/StringUTF16", "coderFromArrayLen", "([BI)B"⟩ : MethodName) jdk_52_method_15_code 2 (some .byte) [] ({ frames := 0, cells := 0, slots := 0, locals := 0 } : Room) #[(.ref a1), (.int (3 : Int32))] h0 [] (fun v h sp => v = some (.int (1 : Int32)) ∧ h0 = h) := by
  refine Con.intro (L0 := #[.val (.ref a1), .val (.int (3 : Int32))]) ⟨_, own_EW hw⟩ (plainFor_of_name (by first | (simp [plainName, overriddenIn]; done) | decide +kernel)) (fun m => by first | (simp [entryFrame, mkF, argsToLocals, Value.category]; done) | rfl) ?_
  intro C k
  replace k := k.iloadN d38_0 rfl
  replace k := k.aloadN d38_1 rfl rfl
  replace k := k.arrlen d38_2 A1 (6 : Int32) (by decide)
  replace k := k.isub d38_3
  replace k := k.foldI (-3 : Int32) (by decide)
  replace k := k.bipush (31 : Int32) d38_4 rfl
  replace k := k.iushr d38_6
  replace k := k.foldI (1 : Int32) (by decide)
  replace k := k.i2b d38_7
  replace k := k.foldI (1 : Int32) (by decide)
  exact k.iret d38_8 rfl (by simp) rfl (fun sp hsp => ⟨rfl, rfl⟩) (by decide) (by decide)

set_option maxRecDepth 65536 in
set_option maxHeartbeats 40000000 in
theorem rm3_3 (Z : State) (a0 : Array Value) (hw : ∀ d ∈ tables_1, d.before a0 Z = true) (zC : Int32) (vF : Value) (a1 a2 : Addr) (c0 c1 c2 : Int32) (h0 : Heap) (n0 : Nat) (Z0 : n0 ≤ h0.size) (S_C : Sta Z h0 "java/lang/String" "COMPACT_STRINGS" "Z" (.int zC)) (S_F : Sta Z h0 "jdk/internal/util/Preconditions" "SIOOBE_FORMATTER" "Ljava/util/function/BiFunction;" vF) (S_AD : Sta Z h0 "java/lang/StringUTF16" "$assertionsDisabled" "Z" (.int (1 : Int32))) (S_HI : Sta Z h0 "java/lang/StringUTF16" "HI_BYTE_SHIFT" "I" (.int (0 : Int32))) (S_LO : Sta Z h0 "java/lang/StringUTF16" "LO_BYTE_SHIFT" "I" (.int (8 : Int32))) (hC : ¬ (zC = (0 : Int32))) (hF : vF = .null ∨ ∃ b, vF = .ref b) (g1 : n0 ≤ a1) (E1 : Exa Z h0 a1 "java/lang/String") (F1 : Fld Z h0 a1 "java/lang/String" "value" "[B" .null) (F2 : Fld Z h0 a1 "java/lang/String" "coder" "B" (.int (0 : Int32))) (A2 : Arf Z h0 a2 .char 3 (own_arr [c0, c1, c2])) (hk0 : own_ch c0) (hk1 : own_ch c1) (hk2 : own_ch c2) :
    Con Z n0 (⟨"java/lang/String", "<init>", "([CIILjava/lang/Void;)V"⟩ : MethodName) jdk_42_method_149_code 6 none [] ({ frames := 4, cells := 2, slots := 9, locals := 57 } : Room) #[(.ref a1), (.ref a2), (.int (0 : Int32)), (.int (3 : Int32)), .null] h0 [a1] (fun v h sp => v = none ∧ Keep h0 h [a1] ∧ ∃ t cod G, Fld Z h a1 "java/lang/String" "coder" "B" (.int cod) ∧ Fld Z h a1 "java/lang/String" "value" "[B" (.ref t) ∧ (cod = 0 ∨ cod = 1) ∧ Arf Z h t .byte (own_ln cod 3) (own_bf G) ∧ own_der G ∧ ∀ i, i < 3 → own_dec cod G i = own_li [c0, c1, c2] i) := by
  refine Con.intro (L0 := #[.val (.ref a1), .val (.ref a2), .val (.int (0 : Int32)), .val (.int (3 : Int32)), .val .null, .unset]) ⟨_, own_EW hw⟩ (plainFor_of_name (by first | (simp [plainName, overriddenIn]; done) | decide +kernel)) (fun m => by first | (simp [entryFrame, mkF, argsToLocals, Value.category]; done) | rfl) ?_
  intro C k
  replace k := k.aloadN d3_0 rfl rfl
  replace k := k.initO (W := 0) d3_1 (hw _ (List.mem_of_getElem? (i := 15) rfl)) (hw _ (List.mem_of_getElem? (i := 16) rfl)) (hw _ (List.mem_of_getElem? (i := 17) rfl)) rfl rfl (by decide) (by decide)
  replace k := k.iloadN d3_4 rfl
  replace k := k.ifYes (pc' := 27) d3_5 (by decide) (by decide) (by decide)
  replace k := k.getS d3_27 (host := "") (Or.inl (hw _ (List.mem_of_getElem? (i := 69) rfl))) Via.refl S_C
  replace k := k.ifNo d3_30 (feq hC).1
  replace k := k.aloadN d3_33 rfl rfl
  replace k := k.iloadN d3_34 rfl
  replace k := k.iloadN d3_35 rfl
  obtain ⟨_, hx101, sp36, ⟨bx101, dx101, Gx101, rfl, Kx101, zx101, hcx101, Ax101, Dx101, Tx101⟩, k⟩ := k.callS (y := (⟨"java/lang/StringUTF16", "compress", "([CII)[B"⟩ : MethodName)) d3_36 (hw _ (List.mem_of_getElem? (i := 183) rfl)) (hw _ (List.mem_of_getElem? (i := 184) rfl)) (hw _ (List.mem_of_getElem? (i := 185) rfl)) (hw _ (List.mem_of_getElem? (i := 186) rfl)) (W := 0) (argsL := [(.ref a2), (.int (0 : Int32)), (.int (3 : Int32))]) (rest := []) (rm36_3 Z a0 hw zC vF a2 c0 c1 c2 h0 n0 Z0 S_C S_F S_AD S_HI S_LO hC hF A2 hk0 hk1 hk2) all0 rfl (pd_17) rfl rfl rfl (by decide) (by decide) (by decide) (by decide) (by decide)
  have Kc102 : Keep h0 hx101 [a1] := (Keep.refl h0 ([a1] : List Addr)).trans Kx101 all0
  replace k := (k [] all0).sfx [a1] rfl
  replace k := k.stk [(.ref bx101)] rfl
  rcases hcx101 with rfl | rfl
  · skip
    replace Ax101 := own_ln0 Ax101
    replace k := k.astore #[.val (.ref a1), .val (.ref a2), .val (.int (0 : Int32)), .val (.int (3 : Int32)), .val .null, .val (.ref bx101)] d3_39 rfl rfl
    replace k := k.aloadN d3_41 rfl rfl
    replace k := k.aload d3_42 rfl rfl
    replace k := k.iloadN d3_44 rfl
    obtain ⟨_, _, sp45, ⟨rfl, rfl⟩, k⟩ := k.callS (y := (⟨"java/lang/StringUTF16", "coderFromArrayLen", "([BI)B"⟩ : MethodName)) d3_45 (hw _ (List.mem_of_getElem? (i := 190) rfl)) (hw _ (List.mem_of_getElem? (i := 191) rfl)) (hw _ (List.mem_of_getElem? (i := 185) rfl)) (hw _ (List.mem_of_getElem? (i := 192) rfl)) (W := 1) (argsL := [(.ref bx101), (.int (3 : Int32))]) (rest := [(.ref a1)]) (rm38_3_0 Z a0 hw bx101 _ hx101 n0 Ax101) all0 rfl (pd_18) rfl rfl rfl (by decide) (by decide) (by decide) (by decide) (by decide)
    replace k := (k [] all0).sfx [a1] rfl
    replace k := k.stk [(.int (0 : Int32)), (.ref a1)] rfl
    obtain ⟨h103, W103, k⟩ := k.putF d3_48 (host := "") (Or.inl (hw _ (List.mem_of_getElem? (i := 25) rfl))) Via.refl (F2.keep Kx101 nin0) (E1.keep Kx101) (Or.inr ⟨(hw _ (List.mem_of_getElem? (i := 21) rfl)), rfl, rfl⟩) (hw _ (List.mem_of_getElem? (i := 5) rfl)) (ty := .byte) (by decide) rfl rfl g1 (List.mem_of_getElem? (i := 0) rfl)
    have Fw103 := Fld.same W103 (F2.keep Kx101 nin0)
    have K103 : Keep h0 h103 [a1] := Kc102.wr W103 (Or.inl (List.mem_of_getElem? (i := 0) rfl))
    replace k := k.aloadN d3_51 rfl rfl
    replace k := k.aload d3_52 rfl rfl
    obtain ⟨h104, W104, k⟩ := k.putF d3_54 (host := "") (Or.inl (hw _ (List.mem_of_getElem? (i := 24) rfl))) Via.refl (Fld.other W103 (F1.keep Kx101 nin0) (Or.inr (slot_ne (Or.inr (hw _ (List.mem_of_getElem? (i := 20) rfl))) (Or.inr (hw _ (List.mem_of_getElem? (i := 21) rfl))) (by decide) (t := (.array .byte)) (t' := .byte) (by decide) (by decide)))) (Exa.wr W103 (E1.keep Kx101)) (Or.inr ⟨(hw _ (List.mem_of_getElem? (i := 20) rfl)), rfl, rfl⟩) (hw _ (List.mem_of_getElem? (i := 5) rfl)) (ty := (.array .byte)) (by decide) rfl rfl g1 (List.mem_of_getElem? (i := 0) rfl)
    have Fw104 := Fld.same W104 (Fld.other W103 (F1.keep Kx101 nin0) (Or.inr (slot_ne (Or.inr (hw _ (List.mem_of_getElem? (i := 20) rfl))) (Or.inr (hw _ (List.mem_of_getElem? (i := 21) rfl))) (by decide) (t := (.array .byte)) (t' := .byte) (by decide) (by decide))))
    have K104 : Keep h0 h104 [a1] := K103.wr W104 (Or.inl (List.mem_of_getElem? (i := 0) rfl))
    exact k.vret d3_57 rfl (fun sp hsp => ⟨rfl, K104, _, (0 : Int32), _, (Fld.other W104 Fw103 (Or.inr (slot_ne (Or.inr (hw _ (List.mem_of_getElem? (i := 21) rfl))) (Or.inr (hw _ (List.mem_of_getElem? (i := 20) rfl))) (by decide) (t := .byte) (t' := (.array .byte)) (by decide) (by decide)))), Fw104, Or.inl rfl, ((Ax101.other W103 (Ne.symm (Nat.ne_of_lt (Nat.lt_of_lt_of_le E1.lt zx101)))).other W104 (Ne.symm (Nat.ne_of_lt (Nat.lt_of_lt_of_le E1.lt zx101)))), Dx101, Tx101⟩) (by decide) (by decide)
  · skip
    replace Ax101 := own_ln1 Ax101
    replace k := k.astore #[.val (.ref a1), .val (.ref a2), .val (.int (0 : Int32)), .val (.int (3 : Int32)), .val .null, .val (.ref bx101)] d3_39 rfl rfl
    replace k := k.aloadN d3_41 rfl rfl
    replace k := k.aload d3_42 rfl rfl
    replace k := k.iloadN d3_44 rfl
    obtain ⟨_, _, sp45, ⟨rfl, rfl⟩, k⟩ := k.callS (y := (⟨"java/lang/StringUTF16", "coderFromArrayLen", "([BI)B"⟩ : MethodName)) d3_45 (hw _ (List.mem_of_getElem? (i := 190) rfl)) (hw _ (List.mem_of_getElem? (i := 191) rfl)) (hw _ (List.mem_of_getElem? (i := 185) rfl)) (hw _ (List.mem_of_getElem? (i := 192) rfl)) (W := 1) (argsL := [(.ref bx101), (.int (3 : Int32))]) (rest := [(.ref a1)]) (rm38_3_1 Z a0 hw bx101 _ hx101 n0 Ax101) all0 rfl (pd_18) rfl rfl rfl (by decide) (by decide) (by decide) (by decide) (by decide)
    replace k := (k [] all0).sfx [a1] rfl
    replace k := k.stk [(.int (1 : Int32)), (.ref a1)] rfl
    obtain ⟨h105, W105, k⟩ := k.putF d3_48 (host := "") (Or.inl (hw _ (List.mem_of_getElem? (i := 25) rfl))) Via.refl (F2.keep Kx101 nin0) (E1.keep Kx101) (Or.inr ⟨(hw _ (List.mem_of_getElem? (i := 21) rfl)), rfl, rfl⟩) (hw _ (List.mem_of_getElem? (i := 5) rfl)) (ty := .byte) (by decide) rfl rfl g1 (List.mem_of_getElem? (i := 0) rfl)
    have Fw105 := Fld.same W105 (F2.keep Kx101 nin0)
    have K105 : Keep h0 h105 [a1] := Kc102.wr W105 (Or.inl (List.mem_of_getElem? (i := 0) rfl))
    replace k := k.aloadN d3_51 rfl rfl
    replace k := k.aload d3_52 rfl rfl
    obtain ⟨h106, W106, k⟩ := k.putF d3_54 (host := "") (Or.inl (hw _ (List.mem_of_getElem? (i := 24) rfl))) Via.refl (Fld.other W105 (F1.keep Kx101 nin0) (Or.inr (slot_ne (Or.inr (hw _ (List.mem_of_getElem? (i := 20) rfl))) (Or.inr (hw _ (List.mem_of_getElem? (i := 21) rfl))) (by decide) (t := (.array .byte)) (t' := .byte) (by decide) (by decide)))) (Exa.wr W105 (E1.keep Kx101)) (Or.inr ⟨(hw _ (List.mem_of_getElem? (i := 20) rfl)), rfl, rfl⟩) (hw _ (List.mem_of_getElem? (i := 5) rfl)) (ty := (.array .byte)) (by decide) rfl rfl g1 (List.mem_of_getElem? (i := 0) rfl)
    have Fw106 := Fld.same W106 (Fld.other W105 (F1.keep Kx101 nin0) (Or.inr (slot_ne (Or.inr (hw _ (List.mem_of_getElem? (i := 20) rfl))) (Or.inr (hw _ (List.mem_of_getElem? (i := 21) rfl))) (by decide) (t := (.array .byte)) (t' := .byte) (by decide) (by decide))))
    have K106 : Keep h0 h106 [a1] := K105.wr W106 (Or.inl (List.mem_of_getElem? (i := 0) rfl))
    exact k.vret d3_57 rfl (fun sp hsp => ⟨rfl, K106, _, (1 : Int32), _, (Fld.other W106 Fw105 (Or.inr (slot_ne (Or.inr (hw _ (List.mem_of_getElem? (i := 21) rfl))) (Or.inr (hw _ (List.mem_of_getElem? (i := 20) rfl))) (by decide) (t := .byte) (t' := (.array .byte)) (by decide) (by decide)))), Fw106, Or.inr rfl, ((Ax101.other W105 (Ne.symm (Nat.ne_of_lt (Nat.lt_of_lt_of_le E1.lt zx101)))).other W106 (Ne.symm (Nat.ne_of_lt (Nat.lt_of_lt_of_le E1.lt zx101)))), Dx101, Tx101⟩) (by decide) (by decide)

theorem d3_8 : decode jdk_42_method_149_code 8 = .ok (.aload_n 0, 1) := by decide +kernel
theorem d3_9 : decode jdk_42_method_149_code 9 = .ok (.ldc 7, 2) := by decide +kernel
theorem d3_11 : decode jdk_42_method_149_code 11 = .ok (.getfield 9, 3) := by decide +kernel
theorem d3_14 : decode jdk_42_method_149_code 14 = .ok (.putfield 9, 3) := by decide +kernel
theorem d3_17 : decode jdk_42_method_149_code 17 = .ok (.aload_n 0, 1) := by decide +kernel
theorem d3_18 : decode jdk_42_method_149_code 18 = .ok (.ldc 7, 2) := by decide +kernel
theorem d3_20 : decode jdk_42_method_149_code 20 = .ok (.getfield 15, 3) := by decide +kernel
theorem d3_23 : decode jdk_42_method_149_code 23 = .ok (.putfield 15, 3) := by decide +kernel
theorem d3_26 : decode jdk_42_method_149_code 26 = .ok (.return_, 1) := by decide +kernel
set_option maxRecDepth 65536 in
set_option maxHeartbeats 40000000 in
theorem rm3_0 (Z : State) (a0 : Array Value) (hw : ∀ d ∈ tables_1, d.before a0 Z = true) (zC : Int32) (vF : Value) (a1 a2 : Addr) (h0 : Heap) (n0 : Nat) (Z0 : n0 ≤ h0.size) (S_C : Sta Z h0 "java/lang/String" "COMPACT_STRINGS" "Z" (.int zC)) (S_F : Sta Z h0 "jdk/internal/util/Preconditions" "SIOOBE_FORMATTER" "Ljava/util/function/BiFunction;" vF) (S_AD : Sta Z h0 "java/lang/StringUTF16" "$assertionsDisabled" "Z" (.int (1 : Int32))) (S_HI : Sta Z h0 "java/lang/StringUTF16" "HI_BYTE_SHIFT" "I" (.int (0 : Int32))) (S_LO : Sta Z h0 "java/lang/StringUTF16" "LO_BYTE_SHIFT" "I" (.int (8 : Int32))) (hC : ¬ (zC = (0 : Int32))) (hF : vF = .null ∨ ∃ b, vF = .ref b) (g1 : n0 ≤ a1) (E1 : Exa Z h0 a1 "java/lang/String") (F1 : Fld Z h0 a1 "java/lang/String" "value" "[B" .null) (F2 : Fld Z h0 a1 "java/lang/String" "coder" "B" (.int (0 : Int32))) (A2 : Arf Z h0 a2 .char 0 (own_arr []))  :
    Con Z n0 (⟨"java/lang/String", "<init>", "([CIILjava/lang/Void;)V"⟩ : MethodName) jdk_42_method_149_code 6 none [] ({ frames := 1, cells := 4, slots := 8, locals := 12 } : Room) #[(.ref a1), (.ref a2), (.int (0 : Int32)), (.int (0 : Int32)), .null] h0 [a1] (fun v h sp => v = none ∧ Keep h0 h [a1] ∧ ∃ t cod G, Fld Z h a1 "java/lang/String" "coder" "B" (.int cod) ∧ Fld Z h a1 "java/lang/String" "value" "[B" (.ref t) ∧ (cod = 0 ∨ cod = 1) ∧ Arf Z h t .byte (own_ln cod 0) (own_bf G) ∧ own_der G ∧ ∀ i, i < 0 → own_dec cod G i = own_li [] i) := by
  refine Con.intro (L0 := #[.val (.ref a1), .val (.ref a2), .val (.int (0 : Int32)), .val (.int (0 : Int32)), .val .null, .unset]) ⟨_, own_EW hw⟩ (plainFor_of_name (by first | (simp [plainName, overriddenIn]; done) | decide +kernel)) (fun m => by first | (simp [entryFrame, mkF, argsToLocals, Value.category]; done) | rfl) ?_
  intro C k
  replace k := k.aloadN d3_0 rfl rfl
  replace k := k.initO (W := 0) d3_1 (hw _ (List.mem_of_getElem? (i := 15) rfl)) (hw _ (List.mem_of_getElem? (i := 16) rfl)) (hw _ (List.mem_of_getElem? (i := 17) rfl)) rfl rfl (by decide) (by decide)
  replace k := k.iloadN d3_4 rfl
  replace k := k.ifNo d3_5 (by decide)
  replace k := k.aloadN d3_8 rfl rfl
  obtain ⟨h101, b101, t101, E101, Ex101, Fc101, Fv101, Ab101, ne101, k⟩ := k.ldcLit d3_9 (hw _ (List.mem_of_getElem? (i := 18) rfl)) (fun a ha => hw a (own_sa a ha)) (own_EW hw) (by decide) [] ⟨by decide, by rfl⟩ (0 : Int32) (by decide) (by decide) 0 (by decide) (by decide) (by decide) (by decide)
  have K101 : Keep h0 h101 [a1] := (Keep.refl h0 ([a1] : List Addr)).ext E101
  replace k := k.getF d3_11 (host := "") (Or.inl (hw _ (List.mem_of_getElem? (i := 24) rfl))) Via.refl Fv101
  obtain ⟨h102, W102, k⟩ := k.putF d3_14 (host := "") (Or.inl (hw _ (List.mem_of_getElem? (i := 24) rfl))) Via.refl (Fld.ext E101 F1) (Exa.ext E101 E1) (Or.inr ⟨(hw _ (List.mem_of_getElem? (i := 20) rfl)), rfl, rfl⟩) (hw _ (List.mem_of_getElem? (i := 5) rfl)) (ty := (.array .byte)) (by decide) rfl rfl g1 (List.mem_of_getElem? (i := 0) rfl)
  have Fw102 := Fld.same W102 (Fld.ext E101 F1)
  have K102 : Keep h0 h102 [a1] := K101.wr W102 (Or.inl (List.mem_of_getElem? (i := 0) rfl))
  replace k := k.aloadN d3_17 rfl rfl
  obtain ⟨h103, b103, t103, E103, Ex103, Fc103, Fv103, Ab103, ne103, k⟩ := k.ldcLit d3_18 (hw _ (List.mem_of_getElem? (i := 18) rfl)) (fun a ha => hw a (own_sa a ha)) (own_EW hw) (by decide) [] ⟨by decide, by rfl⟩ (0 : Int32) (by decide) (by decide) 0 (by decide) (by decide) (by decide) (by decide)
  have K103 : Keep h0 h103 [a1] := K102.ext E103
  replace k := k.getF d3_20 (host := "") (Or.inl (hw _ (List.mem_of_getElem? (i := 25) rfl))) Via.refl Fc103
  obtain ⟨h104, W104, k⟩ := k.putF d3_23 (host := "") (Or.inl (hw _ (List.mem_of_getElem? (i := 25) rfl))) Via.refl (Fld.ext E103 (Fld.other W102 (Fld.ext E101 F2) (Or.inr (slot_ne (Or.inr (hw _ (List.mem_of_getElem? (i := 21) rfl))) (Or.inr (hw _ (List.mem_of_getElem? (i := 20) rfl))) (by decide) (t := .byte) (t' := (.array .byte)) (by decide) (by decide))))) (Exa.ext E103 (Exa.wr W102 (Exa.ext E101 E1))) (Or.inr ⟨(hw _ (List.mem_of_getElem? (i := 21) rfl)), rfl, rfl⟩) (hw _ (List.mem_of_getElem? (i := 5) rfl)) (ty := .byte) (by decide) rfl rfl g1 (List.mem_of_getElem? (i := 0) rfl)
  have Fw104 := Fld.same W104 (Fld.ext E103 (Fld.other W102 (Fld.ext E101 F2) (Or.inr (slot_ne (Or.inr (hw _ (List.mem_of_getElem? (i := 21) rfl))) (Or.inr (hw _ (List.mem_of_getElem? (i := 20) rfl))) (by decide) (t := .byte) (t' := (.array .byte)) (by decide) (by decide)))))
  have K104 : Keep h0 h104 [a1] := K103.wr W104 (Or.inl (List.mem_of_getElem? (i := 0) rfl))
  exact k.vret d3_26 rfl (fun sp hsp => ⟨rfl, K104, t101, 0, (fun i => ([] : List Int32).getD i 0), Fw104, (Fld.other W104 (Fld.ext E103 Fw102) (Or.inr (slot_ne (Or.inr (hw _ (List.mem_of_getElem? (i := 20) rfl))) (Or.inr (hw _ (List.mem_of_getElem? (i := 21) rfl))) (by decide) (t := (.array .byte)) (t' := .byte) (by decide) (by decide)))), Or.inl rfl, (((Ab101.other W102 (Ne.symm (ne101 a1 (List.mem_of_getElem? (i := 0) rfl)).2)).ext E103).other W104 (Ne.symm (ne101 a1 (List.mem_of_getElem? (i := 0) rfl)).2)), own_derL [] (by decide), fun i hi => absurd hi (Nat.not_lt_zero _)⟩) (by decide) (by decide)

theorem d2_0 : decode jdk_42_method_3_code 0 = .ok (.aload_n 0, 1) := by decide +kernel
theorem d2_1 : decode jdk_42_method_3_code 1 = .ok (.aload_n 1, 1) := by decide +kernel
theorem d2_2 : decode jdk_42_method_3_code 2 = .ok (.iconst 0, 1) := by decide +kernel
theorem d2_3 : decode jdk_42_method_3_code 3 = .ok (.aload_n 1, 1) := by decide +kernel
theorem d2_4 : decode jdk_42_method_3_code 4 = .ok (.arraylength, 1) := by decide +kernel
theorem d2_5 : decode jdk_42_method_3_code 5 = .ok (.aconst_null, 1) := by decide +kernel
theorem d2_6 : decode jdk_42_method_3_code 6 = .ok (.invokespecial 27, 3) := by decide +kernel
theorem d2_9 : decode jdk_42_method_3_code 9 = .ok (.return_, 1) := by decide +kernel
set_option maxRecDepth 65536 in
set_option maxHeartbeats 40000000 in
theorem rm2_0 (Z : State) (a0 : Array Value) (hw : ∀ d ∈ tables_1, d.before a0 Z = true) (zC : Int32) (vF : Value) (a1 a2 : Addr)  (h0 : Heap) (n0 : Nat) (Z0 : n0 ≤ h0.size) (S_C : Sta Z h0 "java/lang/String" "COMPACT_STRINGS" "Z" (.int zC)) (S_F : Sta Z h0 "jdk/internal/util/Preconditions" "SIOOBE_FORMATTER" "Ljava/util/function/BiFunction;" vF) (S_AD : Sta Z h0 "java/lang/StringUTF16" "$assertionsDisabled" "Z" (.int (1 : Int32))) (S_HI : Sta Z h0 "java/lang/StringUTF16" "HI_BYTE_SHIFT" "I" (.int (0 : Int32))) (S_LO : Sta Z h0 "java/lang/StringUTF16" "LO_BYTE_SHIFT" "I" (.int (8 : Int32))) (hC : ¬ (zC = (0 : Int32))) (hF : vF = .null ∨ ∃ b, vF = .ref b) (g1 : n0 ≤ a1) (E1 : Exa Z h0 a1 "java/lang/String") (F1 : Fld Z h0 a1 "java/lang/String" "value" "[B" .null) (F2 : Fld Z h0 a1 "java/lang/String" "coder" "B" (.int (0 : Int32))) (A2 : Arf Z h0 a2 .char 0 (own_arr []))  :
    Con Z n0 (⟨"java/lang/String", "<init>", "([C)V"⟩ : MethodName) jdk_42_method_3_code 2 none [] ({ frames := 2, cells := 4, slots := 8, locals := 29 } : Room) #[(.ref a1), (.ref a2)] h0 [a1] (fun v h sp => v = none ∧ Keep h0 h [a1] ∧ ∃ t cod G, Fld Z h a1 "java/lang/String" "coder" "B" (.int cod) ∧ Fld Z h a1 "java/lang/String" "value" "[B" (.ref t) ∧ (cod = 0 ∨ cod = 1) ∧ Arf Z h t .byte (own_ln cod 0) (own_bf G) ∧ own_der G ∧ ∀ i, i < 0 → own_dec cod G i = own_li [] i) := by
  refine Con.intro (L0 := #[.val (.ref a1), .val (.ref a2)]) ⟨_, own_EW hw⟩ (plainFor_of_name (by first | (simp [plainName, overriddenIn]; done) | decide +kernel)) (fun m => by first | (simp [entryFrame, mkF, argsToLocals, Value.category]; done) | rfl) ?_
  intro C k
  replace k := k.aloadN d2_0 rfl rfl
  replace k := k.aloadN d2_1 rfl rfl
  replace k := k.iconst (0 : Int32) d2_2 rfl
  replace k := k.aloadN d2_3 rfl rfl
  replace k := k.arrlen d2_4 A2 (0 : Int32) (by decide)
  replace k := k.aconstNull d2_5
  obtain ⟨_, hx101, sp6, ⟨rfl, Kx101, Px101⟩, k⟩ := k.callI (y := (⟨"java/lang/String", "<init>", "([CIILjava/lang/Void;)V"⟩ : MethodName)) (a := a1) d2_6 rfl (hw _ (List.mem_of_getElem? (i := 11) rfl)) (hw _ (List.mem_of_getElem? (i := 12) rfl)) (hw _ (List.mem_of_getElem? (i := 6) rfl)) (hw _ (List.mem_of_getElem? (i := 14) rfl)) (W := 0) (argsL := [(.ref a2), (.int (0 : Int32)), (.int (0 : Int32)), .null]) (rest := []) (rm3_0 Z a0 hw zC vF a1 a2  h0 n0 Z0 S_C S_F S_AD S_HI S_LO hC hF g1 E1 F1 F2 A2 ) (allS (List.mem_of_getElem? (i := 0) rfl) all0) rfl (pd_19) rfl rfl rfl (by decide) (by decide) (by decide) (by decide) (by decide)
  have Kc102 : Keep h0 hx101 [a1] := (Keep.refl h0 ([a1] : List Addr)).trans Kx101 (allS (Or.inl (List.mem_of_getElem? (i := 0) rfl)) all0)
  replace k := (k [] all0).sfx [a1] rfl
  replace k := k.stk [] rfl
  exact k.vret d2_9 rfl (fun sp hsp => ⟨rfl, Kx101, Px101⟩) (by decide) (by decide)

set_option maxRecDepth 65536 in
set_option maxHeartbeats 40000000 in
theorem rm2_1 (Z : State) (a0 : Array Value) (hw : ∀ d ∈ tables_1, d.before a0 Z = true) (zC : Int32) (vF : Value) (a1 a2 : Addr) (c0 : Int32) (h0 : Heap) (n0 : Nat) (Z0 : n0 ≤ h0.size) (S_C : Sta Z h0 "java/lang/String" "COMPACT_STRINGS" "Z" (.int zC)) (S_F : Sta Z h0 "jdk/internal/util/Preconditions" "SIOOBE_FORMATTER" "Ljava/util/function/BiFunction;" vF) (S_AD : Sta Z h0 "java/lang/StringUTF16" "$assertionsDisabled" "Z" (.int (1 : Int32))) (S_HI : Sta Z h0 "java/lang/StringUTF16" "HI_BYTE_SHIFT" "I" (.int (0 : Int32))) (S_LO : Sta Z h0 "java/lang/StringUTF16" "LO_BYTE_SHIFT" "I" (.int (8 : Int32))) (hC : ¬ (zC = (0 : Int32))) (hF : vF = .null ∨ ∃ b, vF = .ref b) (g1 : n0 ≤ a1) (E1 : Exa Z h0 a1 "java/lang/String") (F1 : Fld Z h0 a1 "java/lang/String" "value" "[B" .null) (F2 : Fld Z h0 a1 "java/lang/String" "coder" "B" (.int (0 : Int32))) (A2 : Arf Z h0 a2 .char 1 (own_arr [c0])) (hk0 : own_ch c0) :
    Con Z n0 (⟨"java/lang/String", "<init>", "([C)V"⟩ : MethodName) jdk_42_method_3_code 2 none [] ({ frames := 5, cells := 2, slots := 3, locals := 74 } : Room) #[(.ref a1), (.ref a2)] h0 [a1] (fun v h sp => v = none ∧ Keep h0 h [a1] ∧ ∃ t cod G, Fld Z h a1 "java/lang/String" "coder" "B" (.int cod) ∧ Fld Z h a1 "java/lang/String" "value" "[B" (.ref t) ∧ (cod = 0 ∨ cod = 1) ∧ Arf Z h t .byte (own_ln cod 1) (own_bf G) ∧ own_der G ∧ ∀ i, i < 1 → own_dec cod G i = own_li [c0] i) := by
  refine Con.intro (L0 := #[.val (.ref a1), .val (.ref a2)]) ⟨_, own_EW hw⟩ (plainFor_of_name (by first | (simp [plainName, overriddenIn]; done) | decide +kernel)) (fun m => by first | (simp [entryFrame, mkF, argsToLocals, Value.category]; done) | rfl) ?_
  intro C k
  replace k := k.aloadN d2_0 rfl rfl
  replace k := k.aloadN d2_1 rfl rfl
  replace k := k.iconst (0 : Int32) d2_2 rfl
  replace k := k.aloadN d2_3 rfl rfl
  replace k := k.arrlen d2_4 A2 (1 : Int32) (by decide)
  replace k := k.aconstNull d2_5
  obtain ⟨_, hx101, sp6, ⟨rfl, Kx101, Px101⟩, k⟩ := k.callI (y := (⟨"java/lang/String", "<init>", "([CIILjava/lang/Void;)V"⟩ : MethodName)) (a := a1) d2_6 rfl (hw _ (List.mem_of_getElem? (i := 11) rfl)) (hw _ (List.mem_of_getElem? (i := 12) rfl)) (hw _ (List.mem_of_getElem? (i := 6) rfl)) (hw _ (List.mem_of_getElem? (i := 14) rfl)) (W := 0) (argsL := [(.ref a2), (.int (0 : Int32)), (.int (1 : Int32)), .null]) (rest := []) (rm3_1 Z a0 hw zC vF a1 a2 c0 h0 n0 Z0 S_C S_F S_AD S_HI S_LO hC hF g1 E1 F1 F2 A2 hk0) (allS (List.mem_of_getElem? (i := 0) rfl) all0) rfl (pd_19) rfl rfl rfl (by decide) (by decide) (by decide) (by decide) (by decide)
  have Kc102 : Keep h0 hx101 [a1] := (Keep.refl h0 ([a1] : List Addr)).trans Kx101 (allS (Or.inl (List.mem_of_getElem? (i := 0) rfl)) all0)
  replace k := (k [] all0).sfx [a1] rfl
  replace k := k.stk [] rfl
  exact k.vret d2_9 rfl (fun sp hsp => ⟨rfl, Kx101, Px101⟩) (by decide) (by decide)

set_option maxRecDepth 65536 in
set_option maxHeartbeats 40000000 in
theorem rm2_2 (Z : State) (a0 : Array Value) (hw : ∀ d ∈ tables_1, d.before a0 Z = true) (zC : Int32) (vF : Value) (a1 a2 : Addr) (c0 c1 : Int32) (h0 : Heap) (n0 : Nat) (Z0 : n0 ≤ h0.size) (S_C : Sta Z h0 "java/lang/String" "COMPACT_STRINGS" "Z" (.int zC)) (S_F : Sta Z h0 "jdk/internal/util/Preconditions" "SIOOBE_FORMATTER" "Ljava/util/function/BiFunction;" vF) (S_AD : Sta Z h0 "java/lang/StringUTF16" "$assertionsDisabled" "Z" (.int (1 : Int32))) (S_HI : Sta Z h0 "java/lang/StringUTF16" "HI_BYTE_SHIFT" "I" (.int (0 : Int32))) (S_LO : Sta Z h0 "java/lang/StringUTF16" "LO_BYTE_SHIFT" "I" (.int (8 : Int32))) (hC : ¬ (zC = (0 : Int32))) (hF : vF = .null ∨ ∃ b, vF = .ref b) (g1 : n0 ≤ a1) (E1 : Exa Z h0 a1 "java/lang/String") (F1 : Fld Z h0 a1 "java/lang/String" "value" "[B" .null) (F2 : Fld Z h0 a1 "java/lang/String" "coder" "B" (.int (0 : Int32))) (A2 : Arf Z h0 a2 .char 2 (own_arr [c0, c1])) (hk0 : own_ch c0) (hk1 : own_ch c1) :
    Con Z n0 (⟨"java/lang/String", "<init>", "([C)V"⟩ : MethodName) jdk_42_method_3_code 2 none [] ({ frames := 5, cells := 2, slots := 6, locals := 74 } : Room) #[(.ref a1), (.ref a2)] h0 [a1] (fun v h sp => v = none ∧ Keep h0 h [a1] ∧ ∃ t cod G, Fld Z h a1 "java/lang/String" "coder" "B" (.int cod) ∧ Fld Z h a1 "java/lang/String" "value" "[B" (.ref t) ∧ (cod = 0 ∨ cod = 1) ∧ Arf Z h t .byte (own_ln cod 2) (own_bf G) ∧ own_der G ∧ ∀ i, i < 2 → own_dec cod G i = own_li [c0, c1] i) := by
  refine Con.intro (L0 := #[.val (.ref a1), .val (.ref a2)]) ⟨_, own_EW hw⟩ (plainFor_of_name (by first | (simp [plainName, overriddenIn]; done) | decide +kernel)) (fun m => by first | (simp [entryFrame, mkF, argsToLocals, Value.category]; done) | rfl) ?_
  intro C k
  replace k := k.aloadN d2_0 rfl rfl
  replace k := k.aloadN d2_1 rfl rfl
  replace k := k.iconst (0 : Int32) d2_2 rfl
  replace k := k.aloadN d2_3 rfl rfl
  replace k := k.arrlen d2_4 A2 (2 : Int32) (by decide)
  replace k := k.aconstNull d2_5
  obtain ⟨_, hx101, sp6, ⟨rfl, Kx101, Px101⟩, k⟩ := k.callI (y := (⟨"java/lang/String", "<init>", "([CIILjava/lang/Void;)V"⟩ : MethodName)) (a := a1) d2_6 rfl (hw _ (List.mem_of_getElem? (i := 11) rfl)) (hw _ (List.mem_of_getElem? (i := 12) rfl)) (hw _ (List.mem_of_getElem? (i := 6) rfl)) (hw _ (List.mem_of_getElem? (i := 14) rfl)) (W := 0) (argsL := [(.ref a2), (.int (0 : Int32)), (.int (2 : Int32)), .null]) (rest := []) (rm3_2 Z a0 hw zC vF a1 a2 c0 c1 h0 n0 Z0 S_C S_F S_AD S_HI S_LO hC hF g1 E1 F1 F2 A2 hk0 hk1) (allS (List.mem_of_getElem? (i := 0) rfl) all0) rfl (pd_19) rfl rfl rfl (by decide) (by decide) (by decide) (by decide) (by decide)
  have Kc102 : Keep h0 hx101 [a1] := (Keep.refl h0 ([a1] : List Addr)).trans Kx101 (allS (Or.inl (List.mem_of_getElem? (i := 0) rfl)) all0)
  replace k := (k [] all0).sfx [a1] rfl
  replace k := k.stk [] rfl
  exact k.vret d2_9 rfl (fun sp hsp => ⟨rfl, Kx101, Px101⟩) (by decide) (by decide)

set_option maxRecDepth 65536 in
set_option maxHeartbeats 40000000 in
theorem rm2_3 (Z : State) (a0 : Array Value) (hw : ∀ d ∈ tables_1, d.before a0 Z = true) (zC : Int32) (vF : Value) (a1 a2 : Addr) (c0 c1 c2 : Int32) (h0 : Heap) (n0 : Nat) (Z0 : n0 ≤ h0.size) (S_C : Sta Z h0 "java/lang/String" "COMPACT_STRINGS" "Z" (.int zC)) (S_F : Sta Z h0 "jdk/internal/util/Preconditions" "SIOOBE_FORMATTER" "Ljava/util/function/BiFunction;" vF) (S_AD : Sta Z h0 "java/lang/StringUTF16" "$assertionsDisabled" "Z" (.int (1 : Int32))) (S_HI : Sta Z h0 "java/lang/StringUTF16" "HI_BYTE_SHIFT" "I" (.int (0 : Int32))) (S_LO : Sta Z h0 "java/lang/StringUTF16" "LO_BYTE_SHIFT" "I" (.int (8 : Int32))) (hC : ¬ (zC = (0 : Int32))) (hF : vF = .null ∨ ∃ b, vF = .ref b) (g1 : n0 ≤ a1) (E1 : Exa Z h0 a1 "java/lang/String") (F1 : Fld Z h0 a1 "java/lang/String" "value" "[B" .null) (F2 : Fld Z h0 a1 "java/lang/String" "coder" "B" (.int (0 : Int32))) (A2 : Arf Z h0 a2 .char 3 (own_arr [c0, c1, c2])) (hk0 : own_ch c0) (hk1 : own_ch c1) (hk2 : own_ch c2) :
    Con Z n0 (⟨"java/lang/String", "<init>", "([C)V"⟩ : MethodName) jdk_42_method_3_code 2 none [] ({ frames := 5, cells := 2, slots := 9, locals := 74 } : Room) #[(.ref a1), (.ref a2)] h0 [a1] (fun v h sp => v = none ∧ Keep h0 h [a1] ∧ ∃ t cod G, Fld Z h a1 "java/lang/String" "coder" "B" (.int cod) ∧ Fld Z h a1 "java/lang/String" "value" "[B" (.ref t) ∧ (cod = 0 ∨ cod = 1) ∧ Arf Z h t .byte (own_ln cod 3) (own_bf G) ∧ own_der G ∧ ∀ i, i < 3 → own_dec cod G i = own_li [c0, c1, c2] i) := by
  refine Con.intro (L0 := #[.val (.ref a1), .val (.ref a2)]) ⟨_, own_EW hw⟩ (plainFor_of_name (by first | (simp [plainName, overriddenIn]; done) | decide +kernel)) (fun m => by first | (simp [entryFrame, mkF, argsToLocals, Value.category]; done) | rfl) ?_
  intro C k
  replace k := k.aloadN d2_0 rfl rfl
  replace k := k.aloadN d2_1 rfl rfl
  replace k := k.iconst (0 : Int32) d2_2 rfl
  replace k := k.aloadN d2_3 rfl rfl
  replace k := k.arrlen d2_4 A2 (3 : Int32) (by decide)
  replace k := k.aconstNull d2_5
  obtain ⟨_, hx101, sp6, ⟨rfl, Kx101, Px101⟩, k⟩ := k.callI (y := (⟨"java/lang/String", "<init>", "([CIILjava/lang/Void;)V"⟩ : MethodName)) (a := a1) d2_6 rfl (hw _ (List.mem_of_getElem? (i := 11) rfl)) (hw _ (List.mem_of_getElem? (i := 12) rfl)) (hw _ (List.mem_of_getElem? (i := 6) rfl)) (hw _ (List.mem_of_getElem? (i := 14) rfl)) (W := 0) (argsL := [(.ref a2), (.int (0 : Int32)), (.int (3 : Int32)), .null]) (rest := []) (rm3_3 Z a0 hw zC vF a1 a2 c0 c1 c2 h0 n0 Z0 S_C S_F S_AD S_HI S_LO hC hF g1 E1 F1 F2 A2 hk0 hk1 hk2) (allS (List.mem_of_getElem? (i := 0) rfl) all0) rfl (pd_19) rfl rfl rfl (by decide) (by decide) (by decide) (by decide) (by decide)
  have Kc102 : Keep h0 hx101 [a1] := (Keep.refl h0 ([a1] : List Addr)).trans Kx101 (allS (Or.inl (List.mem_of_getElem? (i := 0) rfl)) all0)
  replace k := (k [] all0).sfx [a1] rfl
  replace k := k.stk [] rfl
  exact k.vret d2_9 rfl (fun sp hsp => ⟨rfl, Kx101, Px101⟩) (by decide) (by decide)

theorem d1_0 : decode method_4_code 0 = .ok (.iload_n 2, 1) := by decide +kernel
theorem d1_1 : decode method_4_code 1 = .ok (.ifCond .ne 14, 3) := by decide +kernel
theorem d1_4 : decode method_4_code 4 = .ok (.new 20, 3) := by decide +kernel
theorem d1_7 : decode method_4_code 7 = .ok (.dup, 1) := by decide +kernel
theorem d1_8 : decode method_4_code 8 = .ok (.iconst 0, 1) := by decide +kernel
theorem d1_9 : decode method_4_code 9 = .ok (.newarray .char, 2) := by decide +kernel
theorem d1_11 : decode method_4_code 11 = .ok (.invokespecial 31, 3) := by decide +kernel
theorem d1_14 : decode method_4_code 14 = .ok (.areturn, 1) := by decide +kernel
theorem d1_15 : decode method_4_code 15 = .ok (.iload_n 2, 1) := by decide +kernel
theorem d1_16 : decode method_4_code 16 = .ok (.iconst 1, 1) := by decide +kernel
theorem d1_17 : decode method_4_code 17 = .ok (.if_icmp .ne 24, 3) := by decide +kernel
theorem d1_20 : decode method_4_code 20 = .ok (.iconst 1, 1) := by decide +kernel
theorem d1_21 : decode method_4_code 21 = .ok (.newarray .char, 2) := by decide +kernel
theorem d1_23 : decode method_4_code 23 = .ok (.astore_n 3, 1) := by decide +kernel
theorem d1_24 : decode method_4_code 24 = .ok (.aload_n 3, 1) := by decide +kernel
theorem d1_25 : decode method_4_code 25 = .ok (.iconst 0, 1) := by decide +kernel
theorem d1_26 : decode method_4_code 26 = .ok (.lload_n 0, 1) := by decide +kernel
theorem d1_27 : decode method_4_code 27 = .ok (.iconst 0, 1) := by decide +kernel
theorem d1_28 : decode method_4_code 28 = .ok (.invokestatic 34, 3) := by decide +kernel
theorem d1_31 : decode method_4_code 31 = .ok (.castore, 1) := by decide +kernel
theorem d1_32 : decode method_4_code 32 = .ok (.new 20, 3) := by decide +kernel
theorem d1_35 : decode method_4_code 35 = .ok (.dup, 1) := by decide +kernel
theorem d1_36 : decode method_4_code 36 = .ok (.aload_n 3, 1) := by decide +kernel
theorem d1_37 : decode method_4_code 37 = .ok (.invokespecial 31, 3) := by decide +kernel
theorem d1_40 : decode method_4_code 40 = .ok (.areturn, 1) := by decide +kernel
theorem d1_41 : decode method_4_code 41 = .ok (.iload_n 2, 1) := by decide +kernel
theorem d1_42 : decode method_4_code 42 = .ok (.iconst 2, 1) := by decide +kernel
theorem d1_43 : decode method_4_code 43 = .ok (.if_icmp .ne 32, 3) := by decide +kernel
theorem d1_46 : decode method_4_code 46 = .ok (.iconst 2, 1) := by decide +kernel
theorem d1_47 : decode method_4_code 47 = .ok (.newarray .char, 2) := by decide +kernel
theorem d1_49 : decode method_4_code 49 = .ok (.astore_n 3, 1) := by decide +kernel
theorem d1_50 : decode method_4_code 50 = .ok (.aload_n 3, 1) := by decide +kernel
theorem d1_51 : decode method_4_code 51 = .ok (.iconst 0, 1) := by decide +kernel
theorem d1_52 : decode method_4_code 52 = .ok (.lload_n 0, 1) := by decide +kernel
theorem d1_53 : decode method_4_code 53 = .ok (.iconst 0, 1) := by decide +kernel
theorem d1_54 : decode method_4_code 54 = .ok (.invokestatic 34, 3) := by decide +kernel
theorem d1_57 : decode method_4_code 57 = .ok (.castore, 1) := by decide +kernel
theorem d1_58 : decode method_4_code 58 = .ok (.aload_n 3, 1) := by decide +kernel
theorem d1_59 : decode method_4_code 59 = .ok (.iconst 1, 1) := by decide +kernel
theorem d1_60 : decode method_4_code 60 = .ok (.lload_n 0, 1) := by decide +kernel
theorem d1_61 : decode method_4_code 61 = .ok (.iconst 1, 1) := by decide +kernel
theorem d1_62 : decode method_4_code 62 = .ok (.invokestatic 34, 3) := by decide +kernel
theorem d1_65 : decode method_4_code 65 = .ok (.castore, 1) := by decide +kernel
theorem d1_66 : decode method_4_code 66 = .ok (.new 20, 3) := by decide +kernel
theorem d1_69 : decode method_4_code 69 = .ok (.dup, 1) := by decide +kernel
theorem d1_70 : decode method_4_code 70 = .ok (.aload_n 3, 1) := by decide +kernel
theorem d1_71 : decode method_4_code 71 = .ok (.invokespecial 31, 3) := by decide +kernel
theorem d1_74 : decode method_4_code 74 = .ok (.areturn, 1) := by decide +kernel
theorem d1_75 : decode method_4_code 75 = .ok (.iconst 3, 1) := by decide +kernel
theorem d1_76 : decode method_4_code 76 = .ok (.newarray .char, 2) := by decide +kernel
theorem d1_78 : decode method_4_code 78 = .ok (.astore_n 3, 1) := by decide +kernel
theorem d1_79 : decode method_4_code 79 = .ok (.aload_n 3, 1) := by decide +kernel
theorem d1_80 : decode method_4_code 80 = .ok (.iconst 0, 1) := by decide +kernel
theorem d1_81 : decode method_4_code 81 = .ok (.lload_n 0, 1) := by decide +kernel
theorem d1_82 : decode method_4_code 82 = .ok (.iconst 0, 1) := by decide +kernel
theorem d1_83 : decode method_4_code 83 = .ok (.invokestatic 34, 3) := by decide +kernel
theorem d1_86 : decode method_4_code 86 = .ok (.castore, 1) := by decide +kernel
theorem d1_87 : decode method_4_code 87 = .ok (.aload_n 3, 1) := by decide +kernel
theorem d1_88 : decode method_4_code 88 = .ok (.iconst 1, 1) := by decide +kernel
theorem d1_89 : decode method_4_code 89 = .ok (.lload_n 0, 1) := by decide +kernel
theorem d1_90 : decode method_4_code 90 = .ok (.iconst 1, 1) := by decide +kernel
theorem d1_91 : decode method_4_code 91 = .ok (.invokestatic 34, 3) := by decide +kernel
theorem d1_94 : decode method_4_code 94 = .ok (.castore, 1) := by decide +kernel
theorem d1_95 : decode method_4_code 95 = .ok (.aload_n 3, 1) := by decide +kernel
theorem d1_96 : decode method_4_code 96 = .ok (.iconst 2, 1) := by decide +kernel
theorem d1_97 : decode method_4_code 97 = .ok (.lload_n 0, 1) := by decide +kernel
theorem d1_98 : decode method_4_code 98 = .ok (.iconst 2, 1) := by decide +kernel
theorem d1_99 : decode method_4_code 99 = .ok (.invokestatic 34, 3) := by decide +kernel
theorem d1_102 : decode method_4_code 102 = .ok (.castore, 1) := by decide +kernel
theorem d1_103 : decode method_4_code 103 = .ok (.new 20, 3) := by decide +kernel
theorem d1_106 : decode method_4_code 106 = .ok (.dup, 1) := by decide +kernel
theorem d1_107 : decode method_4_code 107 = .ok (.aload_n 3, 1) := by decide +kernel
theorem d1_108 : decode method_4_code 108 = .ok (.invokespecial 31, 3) := by decide +kernel
theorem d1_111 : decode method_4_code 111 = .ok (.areturn, 1) := by decide +kernel
set_option maxRecDepth 65536 in
set_option maxHeartbeats 40000000 in
theorem rm1 (Z : State) (a0 : Array Value) (hw : ∀ d ∈ tables_1, d.before a0 Z = true) (zC : Int32) (vF : Value) (p1 : Int64) (p2 : Int32) (h0 : Heap) (n0 : Nat) (Z0 : n0 ≤ h0.size) (S_C : Sta Z h0 "java/lang/String" "COMPACT_STRINGS" "Z" (.int zC)) (S_F : Sta Z h0 "jdk/internal/util/Preconditions" "SIOOBE_FORMATTER" "Ljava/util/function/BiFunction;" vF) (S_AD : Sta Z h0 "java/lang/StringUTF16" "$assertionsDisabled" "Z" (.int (1 : Int32))) (S_HI : Sta Z h0 "java/lang/StringUTF16" "HI_BYTE_SHIFT" "I" (.int (0 : Int32))) (S_LO : Sta Z h0 "java/lang/StringUTF16" "LO_BYTE_SHIFT" "I" (.int (8 : Int32))) (hC : ¬ (zC = (0 : Int32))) (hF : vF = .null ∨ ∃ b, vF = .ref b) (hL : p2 = 0 ∨ p2 = 1 ∨ p2 = 2 ∨ p2 = 3) :
    Con Z n0 (⟨"com/example/vidare/vidare/core/GatePauseReasonPinLaw", "mk", "(JI)Ljava/lang/String;"⟩ : MethodName) method_4_code 4 (some (.object "java/lang/String")) [] ({ frames := 6, cells := 6, slots := 16, locals := 88 } : Room) #[(.long p1), (.int p2)] h0 [] (fun v h sp => ∃ s t cod G n, v = some (.ref s) ∧ Keep h0 h [] ∧ Exa Z h s "java/lang/String" ∧ Fld Z h s "java/lang/String" "coder" "B" (.int cod) ∧ Fld Z h s "java/lang/String" "value" "[B" (.ref t) ∧ (cod = 0 ∨ cod = 1) ∧ Arf Z h t .byte (own_ln cod n) (own_bf G) ∧ own_der G ∧ own_small p2 n ∧ ∀ i, i < n → own_dec cod G i = own_chf p1 (Nat.toInt32 i)) := by
  refine Con.intro (L0 := #[.val (.long p1), .second, .val (.int p2), .unset]) ⟨_, own_EW hw⟩ (plainFor_of_name (by first | (simp [plainName, overriddenIn]; done) | decide +kernel)) (fun m => by first | (simp [entryFrame, mkF, argsToLocals, Value.category]; done) | rfl) ?_
  intro C k
  replace k := k.iloadN d1_0 rfl
  by_cases hc101 : p2 = (0 : Int32)
  · skip
    replace k := k.ifNo d1_1 (teq hc101).2
    obtain ⟨h102, b102, g102, E102, A102, D102, k⟩ := k.newO d1_4 (hw _ (List.mem_of_getElem? (i := 4) rfl)) (hw _ (List.mem_of_getElem? (i := 5) rfl)) (hw _ (List.mem_of_getElem? (i := 6) rfl)) (by decide) (by decide)
    have ge_b102 : n0 ≤ b102 := Nat.le_trans Z0 (Nat.le_of_eq g102.symm)
    have sz_b102 : h0.size ≤ b102 := Nat.le_trans (Keep.refl h0 ([] : List Addr)).1 (Nat.le_of_eq g102.symm)
    have K102 : Keep h0 h102 [] := (Keep.refl h0 ([] : List Addr)).ext E102
    have F_value_b102 : Fld Z h102 b102 "java/lang/String" "value" "[B" .null := D102 (Or.inr (hw _ (List.mem_of_getElem? (i := 20) rfl))) (ty := (.array .byte)) (by decide)
    have F_coder_b102 : Fld Z h102 b102 "java/lang/String" "coder" "B" (.int (0 : Int32)) := D102 (Or.inr (hw _ (List.mem_of_getElem? (i := 21) rfl))) (ty := .byte) (by decide)
    replace k := k.dup d1_7 rfl
    replace k := k.iconst (0 : Int32) d1_8 rfl
    obtain ⟨h103, b103, g103, E103, A103, X103, k⟩ := k.newarr (ad := "[C") d1_9 (hw _ (List.mem_of_getElem? (i := 7) rfl)) (by decide) 0 (by decide) 0 (by decide) (by decide) (by decide) (by decide) (by decide)
    have ge_b103 : n0 ≤ b103 := Nat.le_trans (Nat.le_trans Z0 E102.1) (Nat.le_of_eq g103.symm)
    have sz_b103 : h0.size ≤ b103 := Nat.le_trans K102.1 (Nat.le_of_eq g103.symm)
    have K103 : Keep h0 h103 [] := K102.ext E103
    obtain ⟨_, hs104, sp11, ⟨rfl, Ks104, ts104, ds104, Gs104, Fcs104, Fvs104, hcs104, Ats104, Ds104, Ts104⟩, k⟩ := k.callI (y := (⟨"java/lang/String", "<init>", "([C)V"⟩ : MethodName)) (a := b102) d1_11 rfl (hw _ (List.mem_of_getElem? (i := 8) rfl)) (hw _ (List.mem_of_getElem? (i := 9) rfl)) (hw _ (List.mem_of_getElem? (i := 6) rfl)) (hw _ (List.mem_of_getElem? (i := 10) rfl)) (W := 1) (argsL := [(.ref b103)]) (rest := [(.ref b102)]) (rm2_0 Z a0 hw zC vF b102 b103  h103 n0 (Nat.le_trans (Nat.le_trans Z0 E102.1) E103.1) (Sta.ext E103 (Sta.ext E102 S_C)) (Sta.ext E103 (Sta.ext E102 S_F)) (Sta.ext E103 (Sta.ext E102 S_AD)) (Sta.ext E103 (Sta.ext E102 S_HI)) (Sta.ext E103 (Sta.ext E102 S_LO)) hC hF ge_b102 (Exa.ext E103 A102) (Fld.ext E103 F_value_b102) (Fld.ext E103 F_coder_b102) (A103.congr (fun i hi => absurd hi (Nat.not_lt_zero _))) ) (allS (List.mem_of_getElem? (i := 1) rfl) all0) rfl (pd_20) rfl rfl rfl (by decide) (by decide) (by decide) (by decide) (by decide)
    have Kc105 : Keep h0 hs104 [] := K103.trans Ks104 (allS (Or.inr sz_b102) all0)
    replace k := (k [] all0).sfx [b103, b102] rfl
    replace k := k.stk [(.ref b102)] rfl
    exact k.aret d1_14 rfl rfl rfl rfl (fun sp hsp => ⟨_, _, _, _, _, rfl, Kc105, ((Exa.ext E103 A102).keep Ks104), Fcs104, Fvs104, hcs104, Ats104, Ds104, Or.inl ⟨hc101, rfl⟩, fun i hi => (Ts104 i hi).trans (own_lc0 i hi)⟩) (by decide) (by decide)
  · skip
    replace k := k.ifYes (pc' := 15) d1_1 (feq hc101).2 (by decide) (by decide)
    replace k := k.iloadN d1_15 rfl
    replace k := k.iconst (1 : Int32) d1_16 rfl
    by_cases hc106 : p2 = (1 : Int32)
    · skip
      replace k := k.icmpNo d1_17 (teq hc106).2
      replace k := k.iconst (1 : Int32) d1_20 rfl
      obtain ⟨h107, b107, g107, E107, A107, X107, k⟩ := k.newarr (ad := "[C") d1_21 (hw _ (List.mem_of_getElem? (i := 7) rfl)) (by decide) 1 (by decide) 1 (by decide) (by decide) (by decide) (by decide) (by decide)
      have ge_b107 : n0 ≤ b107 := Nat.le_trans Z0 (Nat.le_of_eq g107.symm)
      have sz_b107 : h0.size ≤ b107 := Nat.le_trans (Keep.refl h0 ([] : List Addr)).1 (Nat.le_of_eq g107.symm)
      have K107 : Keep h0 h107 [] := (Keep.refl h0 ([] : List Addr)).ext E107
      replace k := k.astoreN #[.val (.long p1), .second, .val (.int p2), .val (.ref b107)] d1_23 rfl rfl
      replace k := k.aloadN d1_24 rfl rfl
      replace k := k.iconst (0 : Int32) d1_25 rfl
      replace k := k.lloadN d1_26 rfl
      replace k := k.iconst (0 : Int32) d1_27 rfl
      obtain ⟨_, _, sp28, ⟨rfl, rfl⟩, k⟩ := k.callS (y := (⟨"com/example/vidare/vidare/core/GatePauseReasonPinLaw", "ch", "(JI)C"⟩ : MethodName)) d1_28 (hw _ (List.mem_of_getElem? (i := 179) rfl)) (hw _ (List.mem_of_getElem? (i := 180) rfl)) (hw _ (List.mem_of_getElem? (i := 2) rfl)) (hw _ (List.mem_of_getElem? (i := 181) rfl)) (W := 2) (argsL := [(.long p1), (.int (0 : Int32))]) (rest := [(.int (0 : Int32)), (.ref b107)]) (rm35 Z a0 hw p1 (0 : Int32) h107 n0) all0 rfl (pd_9) rfl rfl rfl (by decide) (by decide) (by decide) (by decide) (by decide)
      replace k := (k [] all0).sfx [b107] rfl
      replace k := k.stk [(.int (own_chf p1 (0 : Int32))), (.int (0 : Int32)), (.ref b107)] rfl
      obtain ⟨h108, W108, A108, k⟩ := k.castore d1_31 A107 0 (by decide) (by decide) (by decide) ge_b107 (List.mem_of_getElem? (i := 0) rfl) (own_chf p1 (0 : Int32)) (own_chi _ _)
      have K108 : Keep h0 h108 [] := K107.wr W108 (Or.inr sz_b107)
      obtain ⟨h109, b109, g109, E109, A109, D109, k⟩ := k.newO d1_32 (hw _ (List.mem_of_getElem? (i := 4) rfl)) (hw _ (List.mem_of_getElem? (i := 5) rfl)) (hw _ (List.mem_of_getElem? (i := 6) rfl)) (by decide) (by decide)
      have ge_b109 : n0 ≤ b109 := Nat.le_trans (Nat.le_trans (Nat.le_trans Z0 E107.1) (Nat.le_of_eq (Wr.size W108).symm)) (Nat.le_of_eq g109.symm)
      have sz_b109 : h0.size ≤ b109 := Nat.le_trans K108.1 (Nat.le_of_eq g109.symm)
      have K109 : Keep h0 h109 [] := K108.ext E109
      have F_value_b109 : Fld Z h109 b109 "java/lang/String" "value" "[B" .null := D109 (Or.inr (hw _ (List.mem_of_getElem? (i := 20) rfl))) (ty := (.array .byte)) (by decide)
      have F_coder_b109 : Fld Z h109 b109 "java/lang/String" "coder" "B" (.int (0 : Int32)) := D109 (Or.inr (hw _ (List.mem_of_getElem? (i := 21) rfl))) (ty := .byte) (by decide)
      replace k := k.dup d1_35 rfl
      replace k := k.aloadN d1_36 rfl rfl
      obtain ⟨_, hs110, sp37, ⟨rfl, Ks110, ts110, ds110, Gs110, Fcs110, Fvs110, hcs110, Ats110, Ds110, Ts110⟩, k⟩ := k.callI (y := (⟨"java/lang/String", "<init>", "([C)V"⟩ : MethodName)) (a := b109) d1_37 rfl (hw _ (List.mem_of_getElem? (i := 8) rfl)) (hw _ (List.mem_of_getElem? (i := 9) rfl)) (hw _ (List.mem_of_getElem? (i := 6) rfl)) (hw _ (List.mem_of_getElem? (i := 10) rfl)) (W := 1) (argsL := [(.ref b107)]) (rest := [(.ref b109)]) (rm2_1 Z a0 hw zC vF b109 b107 (own_chf p1 (0 : Int32)) h109 n0 (Nat.le_trans (Nat.le_trans (Nat.le_trans Z0 E107.1) (Nat.le_of_eq (Wr.size W108).symm)) E109.1) (Sta.ext E109 (Sta.wr W108 (Sta.ext E107 S_C))) (Sta.ext E109 (Sta.wr W108 (Sta.ext E107 S_F))) (Sta.ext E109 (Sta.wr W108 (Sta.ext E107 S_AD))) (Sta.ext E109 (Sta.wr W108 (Sta.ext E107 S_HI))) (Sta.ext E109 (Sta.wr W108 (Sta.ext E107 S_LO))) hC hF ge_b109 A109 F_value_b109 F_coder_b109 ((A108.ext E109).congr (fun i hi => own_cg1 i hi)) (own_chr _ _)) (allS (List.mem_of_getElem? (i := 0) rfl) all0) rfl (pd_20) rfl rfl rfl (by decide) (by decide) (by decide) (by decide) (by decide)
      have Kc111 : Keep h0 hs110 [] := K109.trans Ks110 (allS (Or.inr sz_b109) all0)
      replace k := (k [] all0).sfx [b109, b107] rfl
      replace k := k.stk [(.ref b109)] rfl
      exact k.aret d1_40 rfl rfl rfl rfl (fun sp hsp => ⟨_, _, _, _, _, rfl, Kc111, (A109.keep Ks110), Fcs110, Fvs110, hcs110, Ats110, Ds110, Or.inr (Or.inl ⟨hc106, rfl⟩), fun i hi => (Ts110 i hi).trans (own_lc1 i hi)⟩) (by decide) (by decide)
    · skip
      replace k := k.icmpYes (pc' := 41) d1_17 (feq hc106).2 (by decide) (by decide)
      replace k := k.iloadN d1_41 rfl
      replace k := k.iconst (2 : Int32) d1_42 rfl
      by_cases hc112 : p2 = (2 : Int32)
      · skip
        replace k := k.icmpNo d1_43 (teq hc112).2
        replace k := k.iconst (2 : Int32) d1_46 rfl
        obtain ⟨h113, b113, g113, E113, A113, X113, k⟩ := k.newarr (ad := "[C") d1_47 (hw _ (List.mem_of_getElem? (i := 7) rfl)) (by decide) 2 (by decide) 2 (by decide) (by decide) (by decide) (by decide) (by decide)
        have ge_b113 : n0 ≤ b113 := Nat.le_trans Z0 (Nat.le_of_eq g113.symm)
        have sz_b113 : h0.size ≤ b113 := Nat.le_trans (Keep.refl h0 ([] : List Addr)).1 (Nat.le_of_eq g113.symm)
        have K113 : Keep h0 h113 [] := (Keep.refl h0 ([] : List Addr)).ext E113
        replace k := k.astoreN #[.val (.long p1), .second, .val (.int p2), .val (.ref b113)] d1_49 rfl rfl
        replace k := k.aloadN d1_50 rfl rfl
        replace k := k.iconst (0 : Int32) d1_51 rfl
        replace k := k.lloadN d1_52 rfl
        replace k := k.iconst (0 : Int32) d1_53 rfl
        obtain ⟨_, _, sp54, ⟨rfl, rfl⟩, k⟩ := k.callS (y := (⟨"com/example/vidare/vidare/core/GatePauseReasonPinLaw", "ch", "(JI)C"⟩ : MethodName)) d1_54 (hw _ (List.mem_of_getElem? (i := 179) rfl)) (hw _ (List.mem_of_getElem? (i := 180) rfl)) (hw _ (List.mem_of_getElem? (i := 2) rfl)) (hw _ (List.mem_of_getElem? (i := 181) rfl)) (W := 2) (argsL := [(.long p1), (.int (0 : Int32))]) (rest := [(.int (0 : Int32)), (.ref b113)]) (rm35 Z a0 hw p1 (0 : Int32) h113 n0) all0 rfl (pd_9) rfl rfl rfl (by decide) (by decide) (by decide) (by decide) (by decide)
        replace k := (k [] all0).sfx [b113] rfl
        replace k := k.stk [(.int (own_chf p1 (0 : Int32))), (.int (0 : Int32)), (.ref b113)] rfl
        obtain ⟨h114, W114, A114, k⟩ := k.castore d1_57 A113 0 (by decide) (by decide) (by decide) ge_b113 (List.mem_of_getElem? (i := 0) rfl) (own_chf p1 (0 : Int32)) (own_chi _ _)
        have K114 : Keep h0 h114 [] := K113.wr W114 (Or.inr sz_b113)
        replace k := k.aloadN d1_58 rfl rfl
        replace k := k.iconst (1 : Int32) d1_59 rfl
        replace k := k.lloadN d1_60 rfl
        replace k := k.iconst (1 : Int32) d1_61 rfl
        obtain ⟨_, _, sp62, ⟨rfl, rfl⟩, k⟩ := k.callS (y := (⟨"com/example/vidare/vidare/core/GatePauseReasonPinLaw", "ch", "(JI)C"⟩ : MethodName)) d1_62 (hw _ (List.mem_of_getElem? (i := 179) rfl)) (hw _ (List.mem_of_getElem? (i := 180) rfl)) (hw _ (List.mem_of_getElem? (i := 2) rfl)) (hw _ (List.mem_of_getElem? (i := 181) rfl)) (W := 2) (argsL := [(.long p1), (.int (1 : Int32))]) (rest := [(.int (1 : Int32)), (.ref b113)]) (rm35 Z a0 hw p1 (1 : Int32) h114 n0) all0 rfl (pd_9) rfl rfl rfl (by decide) (by decide) (by decide) (by decide) (by decide)
        replace k := (k [] all0).sfx [b113] rfl
        replace k := k.stk [(.int (own_chf p1 (1 : Int32))), (.int (1 : Int32)), (.ref b113)] rfl
        obtain ⟨h115, W115, A115, k⟩ := k.castore d1_65 A114 1 (by decide) (by decide) (by decide) ge_b113 (List.mem_of_getElem? (i := 0) rfl) (own_chf p1 (1 : Int32)) (own_chi _ _)
        have K115 : Keep h0 h115 [] := K114.wr W115 (Or.inr sz_b113)
        obtain ⟨h116, b116, g116, E116, A116, D116, k⟩ := k.newO d1_66 (hw _ (List.mem_of_getElem? (i := 4) rfl)) (hw _ (List.mem_of_getElem? (i := 5) rfl)) (hw _ (List.mem_of_getElem? (i := 6) rfl)) (by decide) (by decide)
        have ge_b116 : n0 ≤ b116 := Nat.le_trans (Nat.le_trans (Nat.le_trans (Nat.le_trans Z0 E113.1) (Nat.le_of_eq (Wr.size W114).symm)) (Nat.le_of_eq (Wr.size W115).symm)) (Nat.le_of_eq g116.symm)
        have sz_b116 : h0.size ≤ b116 := Nat.le_trans K115.1 (Nat.le_of_eq g116.symm)
        have K116 : Keep h0 h116 [] := K115.ext E116
        have F_value_b116 : Fld Z h116 b116 "java/lang/String" "value" "[B" .null := D116 (Or.inr (hw _ (List.mem_of_getElem? (i := 20) rfl))) (ty := (.array .byte)) (by decide)
        have F_coder_b116 : Fld Z h116 b116 "java/lang/String" "coder" "B" (.int (0 : Int32)) := D116 (Or.inr (hw _ (List.mem_of_getElem? (i := 21) rfl))) (ty := .byte) (by decide)
        replace k := k.dup d1_69 rfl
        replace k := k.aloadN d1_70 rfl rfl
        obtain ⟨_, hs117, sp71, ⟨rfl, Ks117, ts117, ds117, Gs117, Fcs117, Fvs117, hcs117, Ats117, Ds117, Ts117⟩, k⟩ := k.callI (y := (⟨"java/lang/String", "<init>", "([C)V"⟩ : MethodName)) (a := b116) d1_71 rfl (hw _ (List.mem_of_getElem? (i := 8) rfl)) (hw _ (List.mem_of_getElem? (i := 9) rfl)) (hw _ (List.mem_of_getElem? (i := 6) rfl)) (hw _ (List.mem_of_getElem? (i := 10) rfl)) (W := 1) (argsL := [(.ref b113)]) (rest := [(.ref b116)]) (rm2_2 Z a0 hw zC vF b116 b113 (own_chf p1 (0 : Int32)) (own_chf p1 (1 : Int32)) h116 n0 (Nat.le_trans (Nat.le_trans (Nat.le_trans (Nat.le_trans Z0 E113.1) (Nat.le_of_eq (Wr.size W114).symm)) (Nat.le_of_eq (Wr.size W115).symm)) E116.1) (Sta.ext E116 (Sta.wr W115 (Sta.wr W114 (Sta.ext E113 S_C)))) (Sta.ext E116 (Sta.wr W115 (Sta.wr W114 (Sta.ext E113 S_F)))) (Sta.ext E116 (Sta.wr W115 (Sta.wr W114 (Sta.ext E113 S_AD)))) (Sta.ext E116 (Sta.wr W115 (Sta.wr W114 (Sta.ext E113 S_HI)))) (Sta.ext E116 (Sta.wr W115 (Sta.wr W114 (Sta.ext E113 S_LO)))) hC hF ge_b116 A116 F_value_b116 F_coder_b116 ((A115.ext E116).congr (fun i hi => own_cg2 i hi)) (own_chr _ _) (own_chr _ _)) (allS (List.mem_of_getElem? (i := 0) rfl) all0) rfl (pd_20) rfl rfl rfl (by decide) (by decide) (by decide) (by decide) (by decide)
        have Kc118 : Keep h0 hs117 [] := K116.trans Ks117 (allS (Or.inr sz_b116) all0)
        replace k := (k [] all0).sfx [b116, b113] rfl
        replace k := k.stk [(.ref b116)] rfl
        exact k.aret d1_74 rfl rfl rfl rfl (fun sp hsp => ⟨_, _, _, _, _, rfl, Kc118, (A116.keep Ks117), Fcs117, Fvs117, hcs117, Ats117, Ds117, Or.inr (Or.inr (Or.inl ⟨hc112, rfl⟩)), fun i hi => (Ts117 i hi).trans (own_lc2 i hi)⟩) (by decide) (by decide)
      · skip
        replace k := k.icmpYes (pc' := 75) d1_43 (feq hc112).2 (by decide) (by decide)
        replace k := k.iconst (3 : Int32) d1_75 rfl
        obtain ⟨h119, b119, g119, E119, A119, X119, k⟩ := k.newarr (ad := "[C") d1_76 (hw _ (List.mem_of_getElem? (i := 7) rfl)) (by decide) 3 (by decide) 3 (by decide) (by decide) (by decide) (by decide) (by decide)
        have ge_b119 : n0 ≤ b119 := Nat.le_trans Z0 (Nat.le_of_eq g119.symm)
        have sz_b119 : h0.size ≤ b119 := Nat.le_trans (Keep.refl h0 ([] : List Addr)).1 (Nat.le_of_eq g119.symm)
        have K119 : Keep h0 h119 [] := (Keep.refl h0 ([] : List Addr)).ext E119
        replace k := k.astoreN #[.val (.long p1), .second, .val (.int p2), .val (.ref b119)] d1_78 rfl rfl
        replace k := k.aloadN d1_79 rfl rfl
        replace k := k.iconst (0 : Int32) d1_80 rfl
        replace k := k.lloadN d1_81 rfl
        replace k := k.iconst (0 : Int32) d1_82 rfl
        obtain ⟨_, _, sp83, ⟨rfl, rfl⟩, k⟩ := k.callS (y := (⟨"com/example/vidare/vidare/core/GatePauseReasonPinLaw", "ch", "(JI)C"⟩ : MethodName)) d1_83 (hw _ (List.mem_of_getElem? (i := 179) rfl)) (hw _ (List.mem_of_getElem? (i := 180) rfl)) (hw _ (List.mem_of_getElem? (i := 2) rfl)) (hw _ (List.mem_of_getElem? (i := 181) rfl)) (W := 2) (argsL := [(.long p1), (.int (0 : Int32))]) (rest := [(.int (0 : Int32)), (.ref b119)]) (rm35 Z a0 hw p1 (0 : Int32) h119 n0) all0 rfl (pd_9) rfl rfl rfl (by decide) (by decide) (by decide) (by decide) (by decide)
        replace k := (k [] all0).sfx [b119] rfl
        replace k := k.stk [(.int (own_chf p1 (0 : Int32))), (.int (0 : Int32)), (.ref b119)] rfl
        obtain ⟨h120, W120, A120, k⟩ := k.castore d1_86 A119 0 (by decide) (by decide) (by decide) ge_b119 (List.mem_of_getElem? (i := 0) rfl) (own_chf p1 (0 : Int32)) (own_chi _ _)
        have K120 : Keep h0 h120 [] := K119.wr W120 (Or.inr sz_b119)
        replace k := k.aloadN d1_87 rfl rfl
        replace k := k.iconst (1 : Int32) d1_88 rfl
        replace k := k.lloadN d1_89 rfl
        replace k := k.iconst (1 : Int32) d1_90 rfl
        obtain ⟨_, _, sp91, ⟨rfl, rfl⟩, k⟩ := k.callS (y := (⟨"com/example/vidare/vidare/core/GatePauseReasonPinLaw", "ch", "(JI)C"⟩ : MethodName)) d1_91 (hw _ (List.mem_of_getElem? (i := 179) rfl)) (hw _ (List.mem_of_getElem? (i := 180) rfl)) (hw _ (List.mem_of_getElem? (i := 2) rfl)) (hw _ (List.mem_of_getElem? (i := 181) rfl)) (W := 2) (argsL := [(.long p1), (.int (1 : Int32))]) (rest := [(.int (1 : Int32)), (.ref b119)]) (rm35 Z a0 hw p1 (1 : Int32) h120 n0) all0 rfl (pd_9) rfl rfl rfl (by decide) (by decide) (by decide) (by decide) (by decide)
        replace k := (k [] all0).sfx [b119] rfl
        replace k := k.stk [(.int (own_chf p1 (1 : Int32))), (.int (1 : Int32)), (.ref b119)] rfl
        obtain ⟨h121, W121, A121, k⟩ := k.castore d1_94 A120 1 (by decide) (by decide) (by decide) ge_b119 (List.mem_of_getElem? (i := 0) rfl) (own_chf p1 (1 : Int32)) (own_chi _ _)
        have K121 : Keep h0 h121 [] := K120.wr W121 (Or.inr sz_b119)
        replace k := k.aloadN d1_95 rfl rfl
        replace k := k.iconst (2 : Int32) d1_96 rfl
        replace k := k.lloadN d1_97 rfl
        replace k := k.iconst (2 : Int32) d1_98 rfl
        obtain ⟨_, _, sp99, ⟨rfl, rfl⟩, k⟩ := k.callS (y := (⟨"com/example/vidare/vidare/core/GatePauseReasonPinLaw", "ch", "(JI)C"⟩ : MethodName)) d1_99 (hw _ (List.mem_of_getElem? (i := 179) rfl)) (hw _ (List.mem_of_getElem? (i := 180) rfl)) (hw _ (List.mem_of_getElem? (i := 2) rfl)) (hw _ (List.mem_of_getElem? (i := 181) rfl)) (W := 2) (argsL := [(.long p1), (.int (2 : Int32))]) (rest := [(.int (2 : Int32)), (.ref b119)]) (rm35 Z a0 hw p1 (2 : Int32) h121 n0) all0 rfl (pd_9) rfl rfl rfl (by decide) (by decide) (by decide) (by decide) (by decide)
        replace k := (k [] all0).sfx [b119] rfl
        replace k := k.stk [(.int (own_chf p1 (2 : Int32))), (.int (2 : Int32)), (.ref b119)] rfl
        obtain ⟨h122, W122, A122, k⟩ := k.castore d1_102 A121 2 (by decide) (by decide) (by decide) ge_b119 (List.mem_of_getElem? (i := 0) rfl) (own_chf p1 (2 : Int32)) (own_chi _ _)
        have K122 : Keep h0 h122 [] := K121.wr W122 (Or.inr sz_b119)
        obtain ⟨h123, b123, g123, E123, A123, D123, k⟩ := k.newO d1_103 (hw _ (List.mem_of_getElem? (i := 4) rfl)) (hw _ (List.mem_of_getElem? (i := 5) rfl)) (hw _ (List.mem_of_getElem? (i := 6) rfl)) (by decide) (by decide)
        have ge_b123 : n0 ≤ b123 := Nat.le_trans (Nat.le_trans (Nat.le_trans (Nat.le_trans (Nat.le_trans Z0 E119.1) (Nat.le_of_eq (Wr.size W120).symm)) (Nat.le_of_eq (Wr.size W121).symm)) (Nat.le_of_eq (Wr.size W122).symm)) (Nat.le_of_eq g123.symm)
        have sz_b123 : h0.size ≤ b123 := Nat.le_trans K122.1 (Nat.le_of_eq g123.symm)
        have K123 : Keep h0 h123 [] := K122.ext E123
        have F_value_b123 : Fld Z h123 b123 "java/lang/String" "value" "[B" .null := D123 (Or.inr (hw _ (List.mem_of_getElem? (i := 20) rfl))) (ty := (.array .byte)) (by decide)
        have F_coder_b123 : Fld Z h123 b123 "java/lang/String" "coder" "B" (.int (0 : Int32)) := D123 (Or.inr (hw _ (List.mem_of_getElem? (i := 21) rfl))) (ty := .byte) (by decide)
        replace k := k.dup d1_106 rfl
        replace k := k.aloadN d1_107 rfl rfl
        obtain ⟨_, hs124, sp108, ⟨rfl, Ks124, ts124, ds124, Gs124, Fcs124, Fvs124, hcs124, Ats124, Ds124, Ts124⟩, k⟩ := k.callI (y := (⟨"java/lang/String", "<init>", "([C)V"⟩ : MethodName)) (a := b123) d1_108 rfl (hw _ (List.mem_of_getElem? (i := 8) rfl)) (hw _ (List.mem_of_getElem? (i := 9) rfl)) (hw _ (List.mem_of_getElem? (i := 6) rfl)) (hw _ (List.mem_of_getElem? (i := 10) rfl)) (W := 1) (argsL := [(.ref b119)]) (rest := [(.ref b123)]) (rm2_3 Z a0 hw zC vF b123 b119 (own_chf p1 (0 : Int32)) (own_chf p1 (1 : Int32)) (own_chf p1 (2 : Int32)) h123 n0 (Nat.le_trans (Nat.le_trans (Nat.le_trans (Nat.le_trans (Nat.le_trans Z0 E119.1) (Nat.le_of_eq (Wr.size W120).symm)) (Nat.le_of_eq (Wr.size W121).symm)) (Nat.le_of_eq (Wr.size W122).symm)) E123.1) (Sta.ext E123 (Sta.wr W122 (Sta.wr W121 (Sta.wr W120 (Sta.ext E119 S_C))))) (Sta.ext E123 (Sta.wr W122 (Sta.wr W121 (Sta.wr W120 (Sta.ext E119 S_F))))) (Sta.ext E123 (Sta.wr W122 (Sta.wr W121 (Sta.wr W120 (Sta.ext E119 S_AD))))) (Sta.ext E123 (Sta.wr W122 (Sta.wr W121 (Sta.wr W120 (Sta.ext E119 S_HI))))) (Sta.ext E123 (Sta.wr W122 (Sta.wr W121 (Sta.wr W120 (Sta.ext E119 S_LO))))) hC hF ge_b123 A123 F_value_b123 F_coder_b123 ((A122.ext E123).congr (fun i hi => own_cg3 i hi)) (own_chr _ _) (own_chr _ _) (own_chr _ _)) (allS (List.mem_of_getElem? (i := 0) rfl) all0) rfl (pd_20) rfl rfl rfl (by decide) (by decide) (by decide) (by decide) (by decide)
        have Kc125 : Keep h0 hs124 [] := K123.trans Ks124 (allS (Or.inr sz_b123) all0)
        replace k := (k [] all0).sfx [b123, b119] rfl
        replace k := k.stk [(.ref b123)] rfl
        exact k.aret d1_111 rfl rfl rfl rfl (fun sp hsp => ⟨_, _, _, _, _, rfl, Kc125, (A123.keep Ks124), Fcs124, Fvs124, hcs124, Ats124, Ds124, own_s3 hL hc101 hc106 hc112, fun i hi => (Ts124 i hi).trans (own_lc3 i hi)⟩) (by decide) (by decide)

theorem d46_10 : decode jdk_52_method_86_code 10 = .ok (.iload 5, 2) := by decide +kernel
theorem d46_12 : decode jdk_52_method_86_code 12 = .ok (.iload 4, 2) := by decide +kernel
theorem d46_14 : decode jdk_52_method_86_code 14 = .ok (.if_icmp .ge 27, 3) := by decide +kernel
theorem d46_17 : decode jdk_52_method_86_code 17 = .ok (.aload_n 2, 1) := by decide +kernel
theorem d46_18 : decode jdk_52_method_86_code 18 = .ok (.iload_n 3, 1) := by decide +kernel
theorem d46_19 : decode jdk_52_method_86_code 19 = .ok (.iinc 3 1, 3) := by decide +kernel
theorem d46_22 : decode jdk_52_method_86_code 22 = .ok (.aload_n 0, 1) := by decide +kernel
theorem d46_23 : decode jdk_52_method_86_code 23 = .ok (.iload_n 1, 1) := by decide +kernel
theorem d46_24 : decode jdk_52_method_86_code 24 = .ok (.iinc 1 1, 3) := by decide +kernel
theorem d46_27 : decode jdk_52_method_86_code 27 = .ok (.baload, 1) := by decide +kernel
theorem d46_28 : decode jdk_52_method_86_code 28 = .ok (.sipush 255, 3) := by decide +kernel
theorem d46_31 : decode jdk_52_method_86_code 31 = .ok (.iand, 1) := by decide +kernel
theorem d46_32 : decode jdk_52_method_86_code 32 = .ok (.invokestatic 111, 3) := by decide +kernel
theorem d46_35 : decode jdk_52_method_86_code 35 = .ok (.iinc 5 1, 3) := by decide +kernel
theorem d46_38 : decode jdk_52_method_86_code 38 = .ok (.goto (-28), 3) := by decide +kernel
theorem d46_41 : decode jdk_52_method_86_code 41 = .ok (.return_, 1) := by decide +kernel
set_option maxRecDepth 65536 in
set_option maxHeartbeats 40000000 in
theorem rm46_loop (Z : State) (a0 : Array Value) (hw : ∀ d ∈ tables_1, d.before a0 Z = true) (zC : Int32) (vF : Value) (a1 a2 : Addr) (o len : Int32) (n D M : Nat) (G G2 : Nat → Int32) (h0 : Heap) (n0 : Nat) (Z0 : n0 ≤ h0.size) (S_C : Sta Z h0 "java/lang/String" "COMPACT_STRINGS" "Z" (.int zC)) (S_F : Sta Z h0 "jdk/internal/util/Preconditions" "SIOOBE_FORMATTER" "Ljava/util/function/BiFunction;" vF) (S_AD : Sta Z h0 "java/lang/StringUTF16" "$assertionsDisabled" "Z" (.int (1 : Int32))) (S_HI : Sta Z h0 "java/lang/StringUTF16" "HI_BYTE_SHIFT" "I" (.int (0 : Int32))) (S_LO : Sta Z h0 "java/lang/StringUTF16" "LO_BYTE_SHIFT" "I" (.int (8 : Int32))) (hC : ¬ (zC = (0 : Int32))) (hF : vF = .null ∨ ∃ b, vF = .ref b) (ne : a1 ≠ a2) (g2 : n0 ≤ a2) (A1 : Arf Z h0 a1 .byte n (own_bf G)) (A2 : Arf Z h0 a2 .byte 32 (own_bf G2)) (D2 : own_der G2) (ho : o.toInt = (D : Int)) (hl : len.toInt = (M : Int)) (hM : M ≤ n) (hDM : D + M ≤ 16) (C : Cx) :
    ∀ (m I : Nat) (x1 x3 x5 : Int32) (h : Heap) (G3 : Nat → Int32), I + m = M → x1.toInt = (I : Int) → x3.toInt = ((D + I : Nat) : Int) → x5.toInt = (I : Int) → Keep h0 h [a2] → Arf Z h a2 .byte 32 (own_bf G3) → own_der G3 → (∀ i, i < I → own_dec 1 G3 (D + i) = (G i &&& (255 : Int32))) → (∀ i, i < D → own_dec 1 G3 i = own_dec 1 G2 i) → Run C ({ frames := 3, cells := 0, slots := 0, locals := 43 } : Room) Z n0 "java/lang/StringUTF16" "inflate" none jdk_52_method_86_code 6 ([a2] : List Addr) h 0 0 10 #[.val (.ref a1), .val (.int x1), .val (.ref a2), .val (.int x3), .val (.int len), .val (.int x5)] [] → Fini C Z ({ frames := 3, cells := 0, slots := 0, locals := 43 } : Room) n0 (fun v h sp => v = none ∧ Keep h0 h [a2] ∧ ∃ G3, Arf Z h a2 .byte 32 (own_bf G3) ∧ own_der G3 ∧ (∀ i, i < M → own_dec 1 G3 (D + i) = (G i &&& (255 : Int32))) ∧ ∀ i, i < D → own_dec 1 G3 i = own_dec 1 G2 i) := by
  intro m
  induction m with
  | zero =>
    intro I x1 x3 x5 h G3 hIm hx1 hx3 hx5 K B2 D3 P1 P2 k
    replace k := k.iload d46_10 rfl
    replace k := k.iload d46_12 rfl
    replace k := k.icmpYes (pc' := 41) d46_14 (flt (own_nlt hx5 hl (by omega))).2.1 (by decide) (by decide)
    exact k.vret d46_41 rfl (fun sp hsp => ⟨rfl, K, G3, B2, D3, (show I = M by omega) ▸ P1, P2⟩) (by decide) (by decide)
  | succ m ih =>
    intro I x1 x3 x5 h G3 hIm hx1 hx3 hx5 K B2 D3 P1 P2 k
    replace k := k.iload d46_10 rfl
    replace k := k.iload d46_12 rfl
    replace k := k.icmpNo d46_14 (tlt (own_ltI hx5 hl (by omega))).2.1
    replace k := k.aloadN d46_17 rfl rfl
    replace k := k.iloadN d46_18 rfl
    replace k := k.iinc (1 : Int32) #[.val (.ref a1), .val (.int x1), .val (.ref a2), .val (.int (x3 + (1 : Int32))), .val (.int len), .val (.int x5)] d46_19 rfl rfl rfl
    replace k := k.aloadN d46_22 rfl rfl
    replace k := k.iloadN d46_23 rfl
    replace k := k.iinc (1 : Int32) #[.val (.ref a1), .val (.int (x1 + (1 : Int32))), .val (.ref a2), .val (.int (x3 + (1 : Int32))), .val (.int len), .val (.int x5)] d46_24 rfl rfl rfl
    replace k := k.baload d46_27 (A1.keep K (ninS ne nin0))  I (own_at hx1) (own_nn hx1) (by omega) (.int (G I)) rfl
    replace k := k.sipush (255 : Int32) d46_28 rfl
    replace k := k.iand d46_31
    obtain ⟨_, hp101, sp32, ⟨rfl, Kp101, Ap101⟩, k⟩ := k.callS (y := (⟨"java/lang/StringUTF16", "putChar", "([BII)V"⟩ : MethodName)) d46_32 (hw _ (List.mem_of_getElem? (i := 203) rfl)) (hw _ (List.mem_of_getElem? (i := 204) rfl)) (hw _ (List.mem_of_getElem? (i := 185) rfl)) (hw _ (List.mem_of_getElem? (i := 205) rfl)) (W := 0) (argsL := [(.ref a2), (.int x3), (.int ((G I) &&& (255 : Int32)))]) (rest := []) (rm42 Z a0 hw zC vF a2 32 (D + I) x3 ((G I) &&& (255 : Int32)) G3 h n0 (Nat.le_trans Z0 K.1) (Sta.keepN S_C K (allS (Arf.nost A2) all0)) (Sta.keepN S_F K (allS (Arf.nost A2) all0)) (Sta.keepN S_AD K (allS (Arf.nost A2) all0)) (Sta.keepN S_HI K (allS (Arf.nost A2) all0)) (Sta.keepN S_LO K (allS (Arf.nost A2) all0)) hC hF g2 B2 hx3 (by omega) (by decide)) (allS (List.mem_of_getElem? (i := 0) rfl) all0) rfl (pd_15) rfl rfl rfl (by decide) (by decide) (by decide) (by decide) (by decide)
    have Kc102 : Keep h0 hp101 [a2] := K.trans Kp101 (allS (Or.inl (List.mem_of_getElem? (i := 0) rfl)) all0)
    replace k := (k [] all0).sfx [a2] rfl
    replace k := k.stk [] rfl
    replace k := k.iinc (1 : Int32) #[.val (.ref a1), .val (.int (x1 + (1 : Int32))), .val (.ref a2), .val (.int (x3 + (1 : Int32))), .val (.int len), .val (.int (x5 + (1 : Int32)))] d46_35 rfl rfl rfl
    replace k := k.goto (pc' := 10) d46_38 (by decide) (by decide)
    exact ih (I + 1) _ _ _ hp101 (own_pc G3 (D + I) (G I &&& (255 : Int32))) (by omega) (own_ad (B := 1) hx1 (by decide) (by omega)) ((own_ad (A := D + I) (B := 1) hx3 (by decide) (by omega)).trans (by omega)) (own_ad (B := 1) hx5 (by decide) (by omega)) Kc102 Ap101 (own_derP D3) (own_lp1 P1) (own_lp2 P2) k

theorem d46_0 : decode jdk_52_method_86_code 0 = .ok (.iload_n 3, 1) := by decide +kernel
theorem d46_1 : decode jdk_52_method_86_code 1 = .ok (.iload 4, 2) := by decide +kernel
theorem d46_3 : decode jdk_52_method_86_code 3 = .ok (.aload_n 2, 1) := by decide +kernel
theorem d46_4 : decode jdk_52_method_86_code 4 = .ok (.invokestatic 173, 3) := by decide +kernel
theorem d46_7 : decode jdk_52_method_86_code 7 = .ok (.iconst 0, 1) := by decide +kernel
theorem d46_8 : decode jdk_52_method_86_code 8 = .ok (.istore 5, 2) := by decide +kernel
set_option maxRecDepth 65536 in
set_option maxHeartbeats 40000000 in
theorem rm46 (Z : State) (a0 : Array Value) (hw : ∀ d ∈ tables_1, d.before a0 Z = true) (zC : Int32) (vF : Value) (a1 a2 : Addr) (o len : Int32) (n D M : Nat) (G G2 : Nat → Int32) (h0 : Heap) (n0 : Nat) (Z0 : n0 ≤ h0.size) (S_C : Sta Z h0 "java/lang/String" "COMPACT_STRINGS" "Z" (.int zC)) (S_F : Sta Z h0 "jdk/internal/util/Preconditions" "SIOOBE_FORMATTER" "Ljava/util/function/BiFunction;" vF) (S_AD : Sta Z h0 "java/lang/StringUTF16" "$assertionsDisabled" "Z" (.int (1 : Int32))) (S_HI : Sta Z h0 "java/lang/StringUTF16" "HI_BYTE_SHIFT" "I" (.int (0 : Int32))) (S_LO : Sta Z h0 "java/lang/StringUTF16" "LO_BYTE_SHIFT" "I" (.int (8 : Int32))) (hC : ¬ (zC = (0 : Int32))) (hF : vF = .null ∨ ∃ b, vF = .ref b) (ne : a1 ≠ a2) (g2 : n0 ≤ a2) (A1 : Arf Z h0 a1 .byte n (own_bf G)) (A2 : Arf Z h0 a2 .byte 32 (own_bf G2)) (D2 : own_der G2) (ho : o.toInt = (D : Int)) (hl : len.toInt = (M : Int)) (hM : M ≤ n) (hDM : D + M ≤ 16) :
    Con Z n0 (⟨"java/lang/StringUTF16", "inflate", "([BI[BII)V"⟩ : MethodName) jdk_52_method_86_code 6 none [] ({ frames := 3, cells := 0, slots := 0, locals := 43 } : Room) #[(.ref a1), (.int (0 : Int32)), (.ref a2), (.int o), (.int len)] h0 [a2] (fun v h sp => v = none ∧ Keep h0 h [a2] ∧ ∃ G3, Arf Z h a2 .byte 32 (own_bf G3) ∧ own_der G3 ∧ (∀ i, i < M → own_dec 1 G3 (D + i) = (G i &&& (255 : Int32))) ∧ ∀ i, i < D → own_dec 1 G3 i = own_dec 1 G2 i) := by
  refine Con.intro (L0 := #[.val (.ref a1), .val (.int (0 : Int32)), .val (.ref a2), .val (.int o), .val (.int len), .unset]) ⟨_, own_EW hw⟩ (plainFor_of_name (by first | (simp [plainName, overriddenIn]; done) | decide +kernel)) (fun m => by first | (simp [entryFrame, mkF, argsToLocals, Value.category]; done) | rfl) ?_
  intro C k
  replace k := k.iloadN d46_0 rfl
  replace k := k.iload d46_1 rfl
  replace k := k.aloadN d46_3 rfl rfl
  obtain ⟨_, _, sp4, ⟨rfl, rfl⟩, k⟩ := k.callS (y := (⟨"java/lang/StringUTF16", "checkBoundsOffCount", "(II[B)V"⟩ : MethodName)) d46_4 (hw _ (List.mem_of_getElem? (i := 225) rfl)) (hw _ (List.mem_of_getElem? (i := 226) rfl)) (hw _ (List.mem_of_getElem? (i := 185) rfl)) (hw _ (List.mem_of_getElem? (i := 227) rfl)) (W := 0) (argsL := [(.int o), (.int len), (.ref a2)]) (rest := []) (rm47 Z a0 hw zC vF a2 16 D M o len _ h0 n0 Z0 S_C S_F S_AD S_HI S_LO hC hF A2 (by decide) ho hl hDM) all0 rfl (pd_21) rfl rfl rfl (by decide) (by decide) (by decide) (by decide) (by decide)
  replace k := (k [] all0).sfx [a2] rfl
  replace k := k.stk [] rfl
  replace k := k.iconst (0 : Int32) d46_7 rfl
  replace k := k.istore #[.val (.ref a1), .val (.int (0 : Int32)), .val (.ref a2), .val (.int o), .val (.int len), .val (.int (0 : Int32))] d46_8 rfl
  exact rm46_loop Z a0 hw zC vF a1 a2 o len n D M G G2 h0 n0 Z0 S_C S_F S_AD S_HI S_LO hC hF ne g2 A1 A2 D2 ho hl hM hDM C M 0 (0 : Int32) o (0 : Int32) h0 G2 (by omega) (by decide) ho (by decide) (Keep.refl h0 _) A2 D2 (fun i hi => absurd hi (Nat.not_lt_zero _)) (fun i hi => rfl) k

theorem d45_0 : decode jdk_43_method_50_code 0 = .ok (.aload_n 0, 1) := by decide +kernel
theorem d45_1 : decode jdk_43_method_50_code 1 = .ok (.iload_n 1, 1) := by decide +kernel
theorem d45_2 : decode jdk_43_method_50_code 2 = .ok (.aload_n 2, 1) := by decide +kernel
theorem d45_3 : decode jdk_43_method_50_code 3 = .ok (.iload_n 3, 1) := by decide +kernel
theorem d45_4 : decode jdk_43_method_50_code 4 = .ok (.iload 4, 2) := by decide +kernel
theorem d45_6 : decode jdk_43_method_50_code 6 = .ok (.invokestatic 240, 3) := by decide +kernel
theorem d45_9 : decode jdk_43_method_50_code 9 = .ok (.return_, 1) := by decide +kernel
set_option maxRecDepth 65536 in
set_option maxHeartbeats 40000000 in
theorem rm45 (Z : State) (a0 : Array Value) (hw : ∀ d ∈ tables_1, d.before a0 Z = true) (zC : Int32) (vF : Value) (a1 a2 : Addr) (o len : Int32) (n D M : Nat) (G G2 : Nat → Int32) (h0 : Heap) (n0 : Nat) (Z0 : n0 ≤ h0.size) (S_C : Sta Z h0 "java/lang/String" "COMPACT_STRINGS" "Z" (.int zC)) (S_F : Sta Z h0 "jdk/internal/util/Preconditions" "SIOOBE_FORMATTER" "Ljava/util/function/BiFunction;" vF) (S_AD : Sta Z h0 "java/lang/StringUTF16" "$assertionsDisabled" "Z" (.int (1 : Int32))) (S_HI : Sta Z h0 "java/lang/StringUTF16" "HI_BYTE_SHIFT" "I" (.int (0 : Int32))) (S_LO : Sta Z h0 "java/lang/StringUTF16" "LO_BYTE_SHIFT" "I" (.int (8 : Int32))) (hC : ¬ (zC = (0 : Int32))) (hF : vF = .null ∨ ∃ b, vF = .ref b) (ne : a1 ≠ a2) (g2 : n0 ≤ a2) (A1 : Arf Z h0 a1 .byte n (own_bf G)) (A2 : Arf Z h0 a2 .byte 32 (own_bf G2)) (D2 : own_der G2) (ho : o.toInt = (D : Int)) (hl : len.toInt = (M : Int)) (hM : M ≤ n) (hDM : D + M ≤ 16) :
    Con Z n0 (⟨"java/lang/StringLatin1", "inflate", "([BI[BII)V"⟩ : MethodName) jdk_43_method_50_code 5 none [] ({ frames := 4, cells := 0, slots := 0, locals := 60 } : Room) #[(.ref a1), (.int (0 : Int32)), (.ref a2), (.int o), (.int len)] h0 [a2] (fun v h sp => v = none ∧ Keep h0 h [a2] ∧ ∃ G3, Arf Z h a2 .byte 32 (own_bf G3) ∧ own_der G3 ∧ (∀ i, i < M → own_dec 1 G3 (D + i) = (G i &&& (255 : Int32))) ∧ ∀ i, i < D → own_dec 1 G3 i = own_dec 1 G2 i) := by
  refine Con.intro (L0 := #[.val (.ref a1), .val (.int (0 : Int32)), .val (.ref a2), .val (.int o), .val (.int len)]) ⟨_, own_EW hw⟩ (plainFor_of_name (by first | (simp [plainName, overriddenIn]; done) | decide +kernel)) (fun m => by first | (simp [entryFrame, mkF, argsToLocals, Value.category]; done) | rfl) ?_
  intro C k
  replace k := k.aloadN d45_0 rfl rfl
  replace k := k.iloadN d45_1 rfl
  replace k := k.aloadN d45_2 rfl rfl
  replace k := k.iloadN d45_3 rfl
  replace k := k.iload d45_4 rfl
  obtain ⟨_, hu101, sp6, ⟨rfl, Ku101, Pu101⟩, k⟩ := k.callS (y := (⟨"java/lang/StringUTF16", "inflate", "([BI[BII)V"⟩ : MethodName)) d45_6 (hw _ (List.mem_of_getElem? (i := 222) rfl)) (hw _ (List.mem_of_getElem? (i := 223) rfl)) (hw _ (List.mem_of_getElem? (i := 185) rfl)) (hw _ (List.mem_of_getElem? (i := 224) rfl)) (W := 0) (argsL := [(.ref a1), (.int (0 : Int32)), (.ref a2), (.int o), (.int len)]) (rest := []) (rm46 Z a0 hw zC vF a1 a2 o len n D M G G2 h0 n0 Z0 S_C S_F S_AD S_HI S_LO hC hF ne g2 A1 A2 D2 ho hl hM hDM) (allS (List.mem_of_getElem? (i := 0) rfl) all0) rfl (pd_22) rfl rfl rfl (by decide) (by decide) (by decide) (by decide) (by decide)
  have Kc102 : Keep h0 hu101 [a2] := (Keep.refl h0 ([a2] : List Addr)).trans Ku101 (allS (Or.inl (List.mem_of_getElem? (i := 0) rfl)) all0)
  replace k := (k [] all0).sfx [a2] rfl
  replace k := k.stk [] rfl
  exact k.vret d45_9 rfl (fun sp hsp => ⟨rfl, Ku101, Pu101⟩) (by decide) (by decide)

theorem d23_0 : decode jdk_68_method_68_code 0 = .ok (.getstatic 18, 3) := by decide +kernel
theorem d23_3 : decode jdk_68_method_68_code 3 = .ok (.ifCond .eq 14, 3) := by decide +kernel
theorem d23_6 : decode jdk_68_method_68_code 6 = .ok (.aload_n 0, 1) := by decide +kernel
theorem d23_7 : decode jdk_68_method_68_code 7 = .ok (.getfield 22, 3) := by decide +kernel
theorem d23_10 : decode jdk_68_method_68_code 10 = .ok (.ifCond .ne 7, 3) := by decide +kernel
theorem d23_13 : decode jdk_68_method_68_code 13 = .ok (.iconst 1, 1) := by decide +kernel
theorem d23_14 : decode jdk_68_method_68_code 14 = .ok (.goto 4, 3) := by decide +kernel
theorem d23_18 : decode jdk_68_method_68_code 18 = .ok (.ireturn, 1) := by decide +kernel
set_option maxRecDepth 65536 in
set_option maxHeartbeats 40000000 in
theorem rm23_0 (Z : State) (a0 : Array Value) (hw : ∀ d ∈ tables_1, d.before a0 Z = true) (zC : Int32) (vF : Value) (sb : Addr) (h0 : Heap) (n0 : Nat) (Z0 : n0 ≤ h0.size) (S_C : Sta Z h0 "java/lang/String" "COMPACT_STRINGS" "Z" (.int zC)) (S_F : Sta Z h0 "jdk/internal/util/Preconditions" "SIOOBE_FORMATTER" "Ljava/util/function/BiFunction;" vF) (S_AD : Sta Z h0 "java/lang/StringUTF16" "$assertionsDisabled" "Z" (.int (1 : Int32))) (S_HI : Sta Z h0 "java/lang/StringUTF16" "HI_BYTE_SHIFT" "I" (.int (0 : Int32))) (S_LO : Sta Z h0 "java/lang/StringUTF16" "LO_BYTE_SHIFT" "I" (.int (8 : Int32))) (hC : ¬ (zC = (0 : Int32))) (hF : vF = .null ∨ ∃ b, vF = .ref b) (Bc : Fld Z h0 sb "java/lang/AbstractStringBuilder" "coder" "B" (.int (0 : Int32))) :
    Con Z n0 (⟨"java/lang/AbstractStringBuilder", "isLatin1", "()Z"⟩ : MethodName) jdk_68_method_68_code 1 (some .boolean) [] ({ frames := 0, cells := 0, slots := 0, locals := 0 } : Room) #[(.ref sb)] h0 [] (fun v h sp => v = some (.int (1 : Int32)) ∧ h0 = h) := by
  refine Con.intro (L0 := #[.val (.ref sb)]) ⟨_, own_EW hw⟩ (plainFor_of_name (by first | (simp [plainName, overriddenIn]; done) | decide +kernel)) (fun m => by first | (simp [entryFrame, mkF, argsToLocals, Value.category]; done) | rfl) ?_
  intro C k
  replace k := k.getS d23_0 (host := "") (Or.inl (hw _ (List.mem_of_getElem? (i := 43) rfl))) Via.refl S_C
  replace k := k.ifNo d23_3 (feq hC).1
  replace k := k.aloadN d23_6 rfl rfl
  replace k := k.getF d23_7 (host := "") (Or.inl (hw _ (List.mem_of_getElem? (i := 46) rfl))) Via.refl Bc
  replace k := k.ifNo d23_10 (by decide)
  replace k := k.iconst (1 : Int32) d23_13 rfl
  replace k := k.goto (pc' := 18) d23_14 (by decide) (by decide)
  exact k.iret d23_18 rfl (by simp) rfl (fun sp hsp => ⟨rfl, rfl⟩) (by decide) (by decide)

theorem d23_17 : decode jdk_68_method_68_code 17 = .ok (.iconst 0, 1) := by decide +kernel
set_option maxRecDepth 65536 in
set_option maxHeartbeats 40000000 in
theorem rm23_1 (Z : State) (a0 : Array Value) (hw : ∀ d ∈ tables_1, d.before a0 Z = true) (zC : Int32) (vF : Value) (sb : Addr) (h0 : Heap) (n0 : Nat) (Z0 : n0 ≤ h0.size) (S_C : Sta Z h0 "java/lang/String" "COMPACT_STRINGS" "Z" (.int zC)) (S_F : Sta Z h0 "jdk/internal/util/Preconditions" "SIOOBE_FORMATTER" "Ljava/util/function/BiFunction;" vF) (S_AD : Sta Z h0 "java/lang/StringUTF16" "$assertionsDisabled" "Z" (.int (1 : Int32))) (S_HI : Sta Z h0 "java/lang/StringUTF16" "HI_BYTE_SHIFT" "I" (.int (0 : Int32))) (S_LO : Sta Z h0 "java/lang/StringUTF16" "LO_BYTE_SHIFT" "I" (.int (8 : Int32))) (hC : ¬ (zC = (0 : Int32))) (hF : vF = .null ∨ ∃ b, vF = .ref b) (Bc : Fld Z h0 sb "java/lang/AbstractStringBuilder" "coder" "B" (.int (1 : Int32))) :
    Con Z n0 (⟨"java/lang/AbstractStringBuilder", "isLatin1", "()Z"⟩ : MethodName) jdk_68_method_68_code 1 (some .boolean) [] ({ frames := 0, cells := 0, slots := 0, locals := 0 } : Room) #[(.ref sb)] h0 [] (fun v h sp => v = some (.int (0 : Int32)) ∧ h0 = h) := by
  refine Con.intro (L0 := #[.val (.ref sb)]) ⟨_, own_EW hw⟩ (plainFor_of_name (by first | (simp [plainName, overriddenIn]; done) | decide +kernel)) (fun m => by first | (simp [entryFrame, mkF, argsToLocals, Value.category]; done) | rfl) ?_
  intro C k
  replace k := k.getS d23_0 (host := "") (Or.inl (hw _ (List.mem_of_getElem? (i := 43) rfl))) Via.refl S_C
  replace k := k.ifNo d23_3 (feq hC).1
  replace k := k.aloadN d23_6 rfl rfl
  replace k := k.getF d23_7 (host := "") (Or.inl (hw _ (List.mem_of_getElem? (i := 46) rfl))) Via.refl Bc
  replace k := k.ifYes (pc' := 17) d23_10 (by decide) (by decide) (by decide)
  replace k := k.iconst (0 : Int32) d23_17 rfl
  exact k.iret d23_18 rfl (by simp) rfl (fun sp hsp => ⟨rfl, rfl⟩) (by decide) (by decide)

theorem d20_0 : decode jdk_68_method_64_code 0 = .ok (.aload_n 0, 1) := by decide +kernel
theorem d20_1 : decode jdk_68_method_64_code 1 = .ok (.getfield 15, 3) := by decide +kernel
theorem d20_4 : decode jdk_68_method_64_code 4 = .ok (.areturn, 1) := by decide +kernel
set_option maxRecDepth 65536 in
set_option maxHeartbeats 40000000 in
theorem rm20 (Z : State) (a0 : Array Value) (hw : ∀ d ∈ tables_1, d.before a0 Z = true) (sb bv : Addr) (h0 : Heap) (n0 : Nat) (Bv : Fld Z h0 sb "java/lang/AbstractStringBuilder" "value" "[B" (.ref bv)) :
    Con Z n0 (⟨"java/lang/AbstractStringBuilder", "getValue", "()[B"⟩ : MethodName) jdk_68_method_64_code 1 (some (.array .byte)) [] ({ frames := 0, cells := 0, slots := 0, locals := 0 } : Room) #[(.ref sb)] h0 [] (fun v h sp => v = some (.ref bv) ∧ h0 = h) := by
  refine Con.intro (L0 := #[.val (.ref sb)]) ⟨_, own_EW hw⟩ (plainFor_of_name (by first | (simp [plainName, overriddenIn]; done) | decide +kernel)) (fun m => by first | (simp [entryFrame, mkF, argsToLocals, Value.category]; done) | rfl) ?_
  intro C k
  replace k := k.aloadN d20_0 rfl rfl
  replace k := k.getF d20_1 (host := "") (Or.inl (hw _ (List.mem_of_getElem? (i := 44) rfl))) Via.refl Bv
  exact k.aret d20_4 rfl rfl rfl rfl (fun sp hsp => ⟨rfl, rfl⟩) (by decide) (by decide)

theorem d22_0 : decode jdk_68_method_6_code 0 = .ok (.aload_n 0, 1) := by decide +kernel
theorem d22_1 : decode jdk_68_method_6_code 1 = .ok (.getfield 79, 3) := by decide +kernel
theorem d22_4 : decode jdk_68_method_6_code 4 = .ok (.ireturn, 1) := by decide +kernel
set_option maxRecDepth 65536 in
set_option maxHeartbeats 40000000 in
theorem rm22 (Z : State) (a0 : Array Value) (hw : ∀ d ∈ tables_1, d.before a0 Z = true) (sb : Addr) (z : Int32) (h0 : Heap) (n0 : Nat) (Bn : Fld Z h0 sb "java/lang/AbstractStringBuilder" "count" "I" (.int z)) :
    Con Z n0 (⟨"java/lang/AbstractStringBuilder", "length", "()I"⟩ : MethodName) jdk_68_method_6_code 1 (some .int) [] ({ frames := 0, cells := 0, slots := 0, locals := 0 } : Room) #[(.ref sb)] h0 [] (fun v h sp => v = some (.int z) ∧ h0 = h) := by
  refine Con.intro (L0 := #[.val (.ref sb)]) ⟨_, own_EW hw⟩ (plainFor_of_name (by first | (simp [plainName, overriddenIn]; done) | decide +kernel)) (fun m => by first | (simp [entryFrame, mkF, argsToLocals, Value.category]; done) | rfl) ?_
  intro C k
  replace k := k.aloadN d22_0 rfl rfl
  replace k := k.getF d22_1 (host := "") (Or.inl (hw _ (List.mem_of_getElem? (i := 70) rfl))) Via.refl Bn
  exact k.iret d22_4 rfl (by simp) rfl (fun sp hsp => ⟨rfl, rfl⟩) (by decide) (by decide)

theorem d21_0 : decode jdk_67_method_93_code 0 = .ok (.aload_n 0, 1) := by decide +kernel
theorem d21_1 : decode jdk_67_method_93_code 1 = .ok (.invokespecial 343, 3) := by decide +kernel
theorem d21_4 : decode jdk_67_method_93_code 4 = .ok (.ireturn, 1) := by decide +kernel
set_option maxRecDepth 65536 in
set_option maxHeartbeats 40000000 in
theorem rm21 (Z : State) (a0 : Array Value) (hw : ∀ d ∈ tables_1, d.before a0 Z = true) (sb : Addr) (z : Int32) (h0 : Heap) (n0 : Nat) (Eb : Exa Z h0 sb "java/lang/StringBuilder") (Bn : Fld Z h0 sb "java/lang/AbstractStringBuilder" "count" "I" (.int z)) :
    Con Z n0 (⟨"java/lang/StringBuilder", "length", "()I"⟩ : MethodName) jdk_67_method_93_code 1 (some .int) [] ({ frames := 1, cells := 0, slots := 0, locals := 12 } : Room) #[(.ref sb)] h0 [] (fun v h sp => v = some (.int z) ∧ h0 = h) := by
  refine Con.intro (L0 := #[.val (.ref sb)]) ⟨_, own_EW hw⟩ (plainFor_of_name (by first | (simp [plainName, overriddenIn]; done) | decide +kernel)) (fun m => by first | (simp [entryFrame, mkF, argsToLocals, Value.category]; done) | rfl) ?_
  intro C k
  replace k := k.aloadN d21_0 rfl rfl
  obtain ⟨_, _, sp1, ⟨rfl, rfl⟩, k⟩ := k.callU (y := (⟨"java/lang/AbstractStringBuilder", "length", "()I"⟩ : MethodName)) (a := sb) d21_1 (hw _ (List.mem_of_getElem? (i := 128) rfl)) (hw _ (List.mem_of_getElem? (i := 75) rfl)) rfl (hw _ (List.mem_of_getElem? (i := 124) rfl)) (hw _ (List.mem_of_getElem? (i := 56) rfl)) (by decide) (hw _ (List.mem_of_getElem? (i := 40) rfl)) (hw _ (List.mem_of_getElem? (i := 129) rfl)) (Ins.self Eb) (W := 0) (argsL := []) (rest := []) (rm22 Z a0 hw sb z h0 n0 Bn) all0 rfl (pd_10) rfl rfl rfl (by decide) (by decide) (by decide) (by decide) (by decide)
  replace k := (k [] all0).sfx [] rfl
  replace k := k.stk [(.int z)] rfl
  exact k.iret d21_4 rfl (by simp) rfl (fun sp hsp => ⟨rfl, rfl⟩) (by decide) (by decide)

theorem d7_0 : decode jdk_68_method_2_code 0 = .ok (.aload_n 0, 1) := by decide +kernel
theorem d7_1 : decode jdk_68_method_2_code 1 = .ok (.invokespecial 3, 3) := by decide +kernel
theorem d7_4 : decode jdk_68_method_2_code 4 = .ok (.getstatic 18, 3) := by decide +kernel
theorem d7_7 : decode jdk_68_method_2_code 7 = .ok (.ifCond .eq 18, 3) := by decide +kernel
theorem d7_10 : decode jdk_68_method_2_code 10 = .ok (.aload_n 0, 1) := by decide +kernel
theorem d7_11 : decode jdk_68_method_2_code 11 = .ok (.iload_n 1, 1) := by decide +kernel
theorem d7_12 : decode jdk_68_method_2_code 12 = .ok (.newarray .byte, 2) := by decide +kernel
theorem d7_14 : decode jdk_68_method_2_code 14 = .ok (.putfield 15, 3) := by decide +kernel
theorem d7_17 : decode jdk_68_method_2_code 17 = .ok (.aload_n 0, 1) := by decide +kernel
theorem d7_18 : decode jdk_68_method_2_code 18 = .ok (.iconst 0, 1) := by decide +kernel
theorem d7_19 : decode jdk_68_method_2_code 19 = .ok (.putfield 22, 3) := by decide +kernel
theorem d7_22 : decode jdk_68_method_2_code 22 = .ok (.goto 16, 3) := by decide +kernel
theorem d7_38 : decode jdk_68_method_2_code 38 = .ok (.return_, 1) := by decide +kernel
set_option maxRecDepth 65536 in
set_option maxHeartbeats 40000000 in
theorem rm7 (Z : State) (a0 : Array Value) (hw : ∀ d ∈ tables_1, d.before a0 Z = true) (zC : Int32) (vF : Value) (sb : Addr) (h0 : Heap) (n0 : Nat) (Z0 : n0 ≤ h0.size) (S_C : Sta Z h0 "java/lang/String" "COMPACT_STRINGS" "Z" (.int zC)) (S_F : Sta Z h0 "jdk/internal/util/Preconditions" "SIOOBE_FORMATTER" "Ljava/util/function/BiFunction;" vF) (S_AD : Sta Z h0 "java/lang/StringUTF16" "$assertionsDisabled" "Z" (.int (1 : Int32))) (S_HI : Sta Z h0 "java/lang/StringUTF16" "HI_BYTE_SHIFT" "I" (.int (0 : Int32))) (S_LO : Sta Z h0 "java/lang/StringUTF16" "LO_BYTE_SHIFT" "I" (.int (8 : Int32))) (hC : ¬ (zC = (0 : Int32))) (hF : vF = .null ∨ ∃ b, vF = .ref b) (gb : n0 ≤ sb) (Eb : Exa Z h0 sb "java/lang/StringBuilder") (Bc : Fld Z h0 sb "java/lang/AbstractStringBuilder" "coder" "B" (.int (0 : Int32))) (Bn : Fld Z h0 sb "java/lang/AbstractStringBuilder" "count" "I" (.int (0 : Int32))) (Bm : Fld Z h0 sb "java/lang/AbstractStringBuilder" "maybeLatin1" "Z" (.int (0 : Int32))) (Bv : Fld Z h0 sb "java/lang/AbstractStringBuilder" "value" "[B" .null) :
    Con Z n0 (⟨"java/lang/AbstractStringBuilder", "<init>", "(I)V"⟩ : MethodName) jdk_68_method_2_code 2 none [] ({ frames := 1, cells := 1, slots := 16, locals := 12 } : Room) #[(.ref sb), (.int (16 : Int32))] h0 [sb] (fun v h sp => v = none ∧ Keep h0 h [sb] ∧ ∃ bv, h0.size ≤ bv ∧ n0 ≤ bv ∧ sp bv ∧ Fld Z h sb "java/lang/AbstractStringBuilder" "coder" "B" (.int (0 : Int32)) ∧ Fld Z h sb "java/lang/AbstractStringBuilder" "count" "I" (.int (0 : Int32)) ∧ Fld Z h sb "java/lang/AbstractStringBuilder" "maybeLatin1" "Z" (.int (0 : Int32)) ∧ Fld Z h sb "java/lang/AbstractStringBuilder" "value" "[B" (.ref bv) ∧ Arf Z h bv .byte 16 (own_bf (fun _ => 0))) := by
  refine Con.intro (L0 := #[.val (.ref sb), .val (.int (16 : Int32))]) ⟨_, own_EW hw⟩ (plainFor_of_name (by first | (simp [plainName, overriddenIn]; done) | decide +kernel)) (fun m => by first | (simp [entryFrame, mkF, argsToLocals, Value.category]; done) | rfl) ?_
  intro C k
  replace k := k.aloadN d7_0 rfl rfl
  replace k := k.initO (W := 0) d7_1 (hw _ (List.mem_of_getElem? (i := 42) rfl)) (hw _ (List.mem_of_getElem? (i := 16) rfl)) (hw _ (List.mem_of_getElem? (i := 17) rfl)) rfl rfl (by decide) (by decide)
  replace k := k.getS d7_4 (host := "") (Or.inl (hw _ (List.mem_of_getElem? (i := 43) rfl))) Via.refl S_C
  replace k := k.ifNo d7_7 (feq hC).1
  replace k := k.aloadN d7_10 rfl rfl
  replace k := k.iloadN d7_11 rfl
  obtain ⟨h101, b101, g101, E101, A101, X101, k⟩ := k.newarr (ad := "[B") d7_12 (hw _ (List.mem_of_getElem? (i := 19) rfl)) (by decide) 16 (by decide) 16 (by decide) (by decide) (by decide) (by decide) (by decide)
  have ge_b101 : n0 ≤ b101 := Nat.le_trans Z0 (Nat.le_of_eq g101.symm)
  have sz_b101 : h0.size ≤ b101 := Nat.le_trans (Keep.refl h0 ([sb] : List Addr)).1 (Nat.le_of_eq g101.symm)
  have K101 : Keep h0 h101 [sb] := (Keep.refl h0 ([sb] : List Addr)).ext E101
  obtain ⟨h102, W102, k⟩ := k.putF d7_14 (host := "") (Or.inl (hw _ (List.mem_of_getElem? (i := 44) rfl))) Via.refl (Fld.ext E101 Bv) (Exa.ext E101 Eb) (Or.inl (hw _ (List.mem_of_getElem? (i := 45) rfl))) (hw _ (List.mem_of_getElem? (i := 31) rfl)) (ty := (.array .byte)) (by decide) rfl rfl gb (List.mem_of_getElem? (i := 1) rfl)
  have Fw102 := Fld.same W102 (Fld.ext E101 Bv)
  have K102 : Keep h0 h102 [sb] := K101.wr W102 (Or.inl (List.mem_of_getElem? (i := 0) rfl))
  replace k := k.aloadN d7_17 rfl rfl
  replace k := k.iconst (0 : Int32) d7_18 rfl
  obtain ⟨h103, W103, k⟩ := k.putF d7_19 (host := "") (Or.inl (hw _ (List.mem_of_getElem? (i := 46) rfl))) Via.refl (Fld.other W102 (Fld.ext E101 Bc) (Or.inr (slot_ne (Or.inl (hw _ (List.mem_of_getElem? (i := 47) rfl))) (Or.inl (hw _ (List.mem_of_getElem? (i := 45) rfl))) (by decide) (t := .byte) (t' := (.array .byte)) (by decide) (by decide)))) (Exa.wr W102 (Exa.ext E101 Eb)) (Or.inl (hw _ (List.mem_of_getElem? (i := 47) rfl))) (hw _ (List.mem_of_getElem? (i := 31) rfl)) (ty := .byte) (by decide) rfl rfl gb (List.mem_of_getElem? (i := 1) rfl)
  have Fw103 := Fld.same W103 (Fld.other W102 (Fld.ext E101 Bc) (Or.inr (slot_ne (Or.inl (hw _ (List.mem_of_getElem? (i := 47) rfl))) (Or.inl (hw _ (List.mem_of_getElem? (i := 45) rfl))) (by decide) (t := .byte) (t' := (.array .byte)) (by decide) (by decide))))
  have K103 : Keep h0 h103 [sb] := K102.wr W103 (Or.inl (List.mem_of_getElem? (i := 0) rfl))
  replace k := k.goto (pc' := 38) d7_22 (by decide) (by decide)
  exact k.vret d7_38 rfl (fun sp hsp => ⟨rfl, K103, _, sz_b101, ge_b101, (hsp _ (List.mem_of_getElem? (i := 0) rfl)), Fw103, (Fld.other W103 (Fld.other W102 (Fld.ext E101 Bn) (Or.inr (slot_ne (Or.inl (hw _ (List.mem_of_getElem? (i := 71) rfl))) (Or.inl (hw _ (List.mem_of_getElem? (i := 45) rfl))) (by decide) (t := .int) (t' := (.array .byte)) (by decide) (by decide)))) (Or.inr (slot_ne (Or.inl (hw _ (List.mem_of_getElem? (i := 71) rfl))) (Or.inl (hw _ (List.mem_of_getElem? (i := 47) rfl))) (by decide) (t := .int) (t' := .byte) (by decide) (by decide)))), (Fld.other W103 (Fld.other W102 (Fld.ext E101 Bm) (Or.inr (slot_ne (Or.inl (hw _ (List.mem_of_getElem? (i := 239) rfl))) (Or.inl (hw _ (List.mem_of_getElem? (i := 45) rfl))) (by decide) (t := .boolean) (t' := (.array .byte)) (by decide) (by decide)))) (Or.inr (slot_ne (Or.inl (hw _ (List.mem_of_getElem? (i := 239) rfl))) (Or.inl (hw _ (List.mem_of_getElem? (i := 47) rfl))) (by decide) (t := .boolean) (t' := .byte) (by decide) (by decide)))), (Fld.other W103 Fw102 (Or.inr (slot_ne (Or.inl (hw _ (List.mem_of_getElem? (i := 45) rfl))) (Or.inl (hw _ (List.mem_of_getElem? (i := 47) rfl))) (by decide) (t := (.array .byte)) (t' := .byte) (by decide) (by decide)))), ((A101.other W102 (Ne.symm (Nat.ne_of_lt (Nat.lt_of_lt_of_le Eb.lt (Nat.le_of_eq g101.symm))))).other W103 (Ne.symm (Nat.ne_of_lt (Nat.lt_of_lt_of_le Eb.lt (Nat.le_of_eq g101.symm)))))⟩) (by decide) (by decide)

theorem d6_0 : decode jdk_67_method_1_code 0 = .ok (.aload_n 0, 1) := by decide +kernel
theorem d6_1 : decode jdk_67_method_1_code 1 = .ok (.bipush 16, 2) := by decide +kernel
theorem d6_3 : decode jdk_67_method_1_code 3 = .ok (.invokespecial 1, 3) := by decide +kernel
theorem d6_6 : decode jdk_67_method_1_code 6 = .ok (.return_, 1) := by decide +kernel
set_option maxRecDepth 65536 in
set_option maxHeartbeats 40000000 in
theorem rm6 (Z : State) (a0 : Array Value) (hw : ∀ d ∈ tables_1, d.before a0 Z = true) (zC : Int32) (vF : Value) (sb : Addr) (h0 : Heap) (n0 : Nat) (Z0 : n0 ≤ h0.size) (S_C : Sta Z h0 "java/lang/String" "COMPACT_STRINGS" "Z" (.int zC)) (S_F : Sta Z h0 "jdk/internal/util/Preconditions" "SIOOBE_FORMATTER" "Ljava/util/function/BiFunction;" vF) (S_AD : Sta Z h0 "java/lang/StringUTF16" "$assertionsDisabled" "Z" (.int (1 : Int32))) (S_HI : Sta Z h0 "java/lang/StringUTF16" "HI_BYTE_SHIFT" "I" (.int (0 : Int32))) (S_LO : Sta Z h0 "java/lang/StringUTF16" "LO_BYTE_SHIFT" "I" (.int (8 : Int32))) (hC : ¬ (zC = (0 : Int32))) (hF : vF = .null ∨ ∃ b, vF = .ref b) (gb : n0 ≤ sb) (Eb : Exa Z h0 sb "java/lang/StringBuilder") (Bc : Fld Z h0 sb "java/lang/AbstractStringBuilder" "coder" "B" (.int (0 : Int32))) (Bn : Fld Z h0 sb "java/lang/AbstractStringBuilder" "count" "I" (.int (0 : Int32))) (Bm : Fld Z h0 sb "java/lang/AbstractStringBuilder" "maybeLatin1" "Z" (.int (0 : Int32))) (Bv : Fld Z h0 sb "java/lang/AbstractStringBuilder" "value" "[B" .null) :
    Con Z n0 (⟨"java/lang/StringBuilder", "<init>", "()V"⟩ : MethodName) jdk_67_method_1_code 1 none [] ({ frames := 2, cells := 1, slots := 16, locals := 25 } : Room) #[(.ref sb)] h0 [sb] (fun v h sp => v = none ∧ Keep h0 h [sb] ∧ ∃ bv, h0.size ≤ bv ∧ n0 ≤ bv ∧ sp bv ∧ Fld Z h sb "java/lang/AbstractStringBuilder" "coder" "B" (.int (0 : Int32)) ∧ Fld Z h sb "java/lang/AbstractStringBuilder" "count" "I" (.int (0 : Int32)) ∧ Fld Z h sb "java/lang/AbstractStringBuilder" "maybeLatin1" "Z" (.int (0 : Int32)) ∧ Fld Z h sb "java/lang/AbstractStringBuilder" "value" "[B" (.ref bv) ∧ Arf Z h bv .byte 16 (own_bf (fun _ => 0))) := by
  refine Con.intro (L0 := #[.val (.ref sb)]) ⟨_, own_EW hw⟩ (plainFor_of_name (by first | (simp [plainName, overriddenIn]; done) | decide +kernel)) (fun m => by first | (simp [entryFrame, mkF, argsToLocals, Value.category]; done) | rfl) ?_
  intro C k
  replace k := k.aloadN d6_0 rfl rfl
  replace k := k.bipush (16 : Int32) d6_1 rfl
  obtain ⟨_, hi101, sp3, ⟨rfl, Ki101, vi101, zi101, gi101, si101, Bcri101, Bcti101, Bm1i101, Bvei101, Ai101⟩, k⟩ := k.callI (y := (⟨"java/lang/AbstractStringBuilder", "<init>", "(I)V"⟩ : MethodName)) (a := sb) d6_3 rfl (hw _ (List.mem_of_getElem? (i := 36) rfl)) (hw _ (List.mem_of_getElem? (i := 37) rfl)) (hw _ (List.mem_of_getElem? (i := 40) rfl)) (hw _ (List.mem_of_getElem? (i := 41) rfl)) (W := 0) (argsL := [(.int (16 : Int32))]) (rest := []) (rm7 Z a0 hw zC vF sb h0 n0 Z0 S_C S_F S_AD S_HI S_LO hC hF gb Eb Bc Bn Bm Bv) (allS (List.mem_of_getElem? (i := 0) rfl) all0) rfl (pd_23) rfl rfl rfl (by decide) (by decide) (by decide) (by decide) (by decide)
  have Kc102 : Keep h0 hi101 [sb] := (Keep.refl h0 ([sb] : List Addr)).trans Ki101 (allS (Or.inl (List.mem_of_getElem? (i := 0) rfl)) all0)
  replace k := (k [vi101] (allS ⟨si101, Ai101.lt⟩ all0)).sfx [vi101, sb] rfl
  replace k := k.stk [] rfl
  have zz103 : h0.size ≤ vi101 := Nat.le_trans (Keep.refl h0 ([sb] : List Addr)).1 zi101
  exact k.vret d6_6 rfl (fun sp hsp => ⟨rfl, Kc102, _, zz103, gi101, (hsp _ (List.mem_of_getElem? (i := 0) rfl)), Bcri101, Bcti101, Bm1i101, Bvei101, Ai101⟩) (by decide) (by decide)

theorem d12_0 : decode jdk_68_method_9_code 0 = .ok (.aload_n 0, 1) := by decide +kernel
theorem d12_1 : decode jdk_68_method_9_code 1 = .ok (.getfield 15, 3) := by decide +kernel
theorem d12_4 : decode jdk_68_method_9_code 4 = .ok (.arraylength, 1) := by decide +kernel
theorem d12_5 : decode jdk_68_method_9_code 5 = .ok (.aload_n 0, 1) := by decide +kernel
theorem d12_6 : decode jdk_68_method_9_code 6 = .ok (.getfield 22, 3) := by decide +kernel
theorem d12_9 : decode jdk_68_method_9_code 9 = .ok (.ishr, 1) := by decide +kernel
theorem d12_10 : decode jdk_68_method_9_code 10 = .ok (.istore_n 2, 1) := by decide +kernel
theorem d12_11 : decode jdk_68_method_9_code 11 = .ok (.iload_n 1, 1) := by decide +kernel
theorem d12_12 : decode jdk_68_method_9_code 12 = .ok (.iload_n 2, 1) := by decide +kernel
theorem d12_13 : decode jdk_68_method_9_code 13 = .ok (.isub, 1) := by decide +kernel
theorem d12_14 : decode jdk_68_method_9_code 14 = .ok (.ifCond .le 24, 3) := by decide +kernel
theorem d12_38 : decode jdk_68_method_9_code 38 = .ok (.return_, 1) := by decide +kernel
set_option maxRecDepth 65536 in
set_option maxHeartbeats 40000000 in
theorem rm12_0 (Z : State) (a0 : Array Value) (hw : ∀ d ∈ tables_1, d.before a0 Z = true) (zC : Int32) (vF : Value) (sb bv : Addr) (m : Int32) (MM : Nat) (G : Nat → Int32) (h0 : Heap) (n0 : Nat) (Z0 : n0 ≤ h0.size) (S_C : Sta Z h0 "java/lang/String" "COMPACT_STRINGS" "Z" (.int zC)) (S_F : Sta Z h0 "jdk/internal/util/Preconditions" "SIOOBE_FORMATTER" "Ljava/util/function/BiFunction;" vF) (S_AD : Sta Z h0 "java/lang/StringUTF16" "$assertionsDisabled" "Z" (.int (1 : Int32))) (S_HI : Sta Z h0 "java/lang/StringUTF16" "HI_BYTE_SHIFT" "I" (.int (0 : Int32))) (S_LO : Sta Z h0 "java/lang/StringUTF16" "LO_BYTE_SHIFT" "I" (.int (8 : Int32))) (hC : ¬ (zC = (0 : Int32))) (hF : vF = .null ∨ ∃ b, vF = .ref b) (Bc : Fld Z h0 sb "java/lang/AbstractStringBuilder" "coder" "B" (.int (0 : Int32))) (Bv : Fld Z h0 sb "java/lang/AbstractStringBuilder" "value" "[B" (.ref bv)) (Ab : Arf Z h0 bv .byte 16 (own_bf G)) (hm : m.toInt = (MM : Int)) (hM : MM ≤ 16) :
    Con Z n0 (⟨"java/lang/AbstractStringBuilder", "ensureCapacityInternal", "(I)V"⟩ : MethodName) jdk_68_method_9_code 3 none [] ({ frames := 0, cells := 0, slots := 0, locals := 0 } : Room) #[(.ref sb), (.int m)] h0 [] (fun v h sp => v = none ∧ h0 = h) := by
  refine Con.intro (L0 := #[.val (.ref sb), .val (.int m), .unset]) ⟨_, own_EW hw⟩ (plainFor_of_name (by first | (simp [plainName, overriddenIn]; done) | decide +kernel)) (fun m => by first | (simp [entryFrame, mkF, argsToLocals, Value.category]; done) | rfl) ?_
  intro C k
  replace k := k.aloadN d12_0 rfl rfl
  replace k := k.getF d12_1 (host := "") (Or.inl (hw _ (List.mem_of_getElem? (i := 44) rfl))) Via.refl Bv
  replace k := k.arrlen d12_4 Ab (16 : Int32) (by decide)
  replace k := k.aloadN d12_5 rfl rfl
  replace k := k.getF d12_6 (host := "") (Or.inl (hw _ (List.mem_of_getElem? (i := 46) rfl))) Via.refl Bc
  replace k := k.ishr d12_9
  replace k := k.foldI (16 : Int32) (by decide)
  replace k := k.istoreN #[.val (.ref sb), .val (.int m), .val (.int (16 : Int32))] d12_10 rfl
  replace k := k.iloadN d12_11 rfl
  replace k := k.iloadN d12_12 rfl
  replace k := k.isub d12_13
  replace k := k.ifYes (pc' := 38) d12_14 (flt (own_le16 hm hM)).2.2.2 (by decide) (by decide)
  exact k.vret d12_38 rfl (fun sp hsp => ⟨rfl, rfl⟩) (by decide) (by decide)

set_option maxRecDepth 65536 in
set_option maxHeartbeats 40000000 in
theorem rm12_1 (Z : State) (a0 : Array Value) (hw : ∀ d ∈ tables_1, d.before a0 Z = true) (zC : Int32) (vF : Value) (sb bv : Addr) (m : Int32) (MM : Nat) (G : Nat → Int32) (h0 : Heap) (n0 : Nat) (Z0 : n0 ≤ h0.size) (S_C : Sta Z h0 "java/lang/String" "COMPACT_STRINGS" "Z" (.int zC)) (S_F : Sta Z h0 "jdk/internal/util/Preconditions" "SIOOBE_FORMATTER" "Ljava/util/function/BiFunction;" vF) (S_AD : Sta Z h0 "java/lang/StringUTF16" "$assertionsDisabled" "Z" (.int (1 : Int32))) (S_HI : Sta Z h0 "java/lang/StringUTF16" "HI_BYTE_SHIFT" "I" (.int (0 : Int32))) (S_LO : Sta Z h0 "java/lang/StringUTF16" "LO_BYTE_SHIFT" "I" (.int (8 : Int32))) (hC : ¬ (zC = (0 : Int32))) (hF : vF = .null ∨ ∃ b, vF = .ref b) (Bc : Fld Z h0 sb "java/lang/AbstractStringBuilder" "coder" "B" (.int (1 : Int32))) (Bv : Fld Z h0 sb "java/lang/AbstractStringBuilder" "value" "[B" (.ref bv)) (Ab : Arf Z h0 bv .byte 32 (own_bf G)) (hm : m.toInt = (MM : Int)) (hM : MM ≤ 16) :
    Con Z n0 (⟨"java/lang/AbstractStringBuilder", "ensureCapacityInternal", "(I)V"⟩ : MethodName) jdk_68_method_9_code 3 none [] ({ frames := 0, cells := 0, slots := 0, locals := 0 } : Room) #[(.ref sb), (.int m)] h0 [] (fun v h sp => v = none ∧ h0 = h) := by
  refine Con.intro (L0 := #[.val (.ref sb), .val (.int m), .unset]) ⟨_, own_EW hw⟩ (plainFor_of_name (by first | (simp [plainName, overriddenIn]; done) | decide +kernel)) (fun m => by first | (simp [entryFrame, mkF, argsToLocals, Value.category]; done) | rfl) ?_
  intro C k
  replace k := k.aloadN d12_0 rfl rfl
  replace k := k.getF d12_1 (host := "") (Or.inl (hw _ (List.mem_of_getElem? (i := 44) rfl))) Via.refl Bv
  replace k := k.arrlen d12_4 Ab (32 : Int32) (by decide)
  replace k := k.aloadN d12_5 rfl rfl
  replace k := k.getF d12_6 (host := "") (Or.inl (hw _ (List.mem_of_getElem? (i := 46) rfl))) Via.refl Bc
  replace k := k.ishr d12_9
  replace k := k.foldI (16 : Int32) (by decide)
  replace k := k.istoreN #[.val (.ref sb), .val (.int m), .val (.int (16 : Int32))] d12_10 rfl
  replace k := k.iloadN d12_11 rfl
  replace k := k.iloadN d12_12 rfl
  replace k := k.isub d12_13
  replace k := k.ifYes (pc' := 38) d12_14 (flt (own_le16 hm hM)).2.2.2 (by decide) (by decide)
  exact k.vret d12_38 rfl (fun sp hsp => ⟨rfl, rfl⟩) (by decide) (by decide)

theorem d44_0 : decode jdk_68_method_11_code 0 = .ok (.aload_n 0, 1) := by decide +kernel
theorem d44_1 : decode jdk_68_method_11_code 1 = .ok (.invokevirtual 83, 3) := by decide +kernel
theorem d44_4 : decode jdk_68_method_11_code 4 = .ok (.ifCond .ne 4, 3) := by decide +kernel
theorem d44_7 : decode jdk_68_method_11_code 7 = .ok (.return_, 1) := by decide +kernel
set_option maxRecDepth 65536 in
set_option maxHeartbeats 40000000 in
theorem rm44_U (Z : State) (a0 : Array Value) (hw : ∀ d ∈ tables_1, d.before a0 Z = true) (zC : Int32) (vF : Value) (sb : Addr) (h0 : Heap) (n0 : Nat) (Z0 : n0 ≤ h0.size) (S_C : Sta Z h0 "java/lang/String" "COMPACT_STRINGS" "Z" (.int zC)) (S_F : Sta Z h0 "jdk/internal/util/Preconditions" "SIOOBE_FORMATTER" "Ljava/util/function/BiFunction;" vF) (S_AD : Sta Z h0 "java/lang/StringUTF16" "$assertionsDisabled" "Z" (.int (1 : Int32))) (S_HI : Sta Z h0 "java/lang/StringUTF16" "HI_BYTE_SHIFT" "I" (.int (0 : Int32))) (S_LO : Sta Z h0 "java/lang/StringUTF16" "LO_BYTE_SHIFT" "I" (.int (8 : Int32))) (hC : ¬ (zC = (0 : Int32))) (hF : vF = .null ∨ ∃ b, vF = .ref b) (Eb : Exa Z h0 sb "java/lang/StringBuilder") (Bc : Fld Z h0 sb "java/lang/AbstractStringBuilder" "coder" "B" (.int (1 : Int32))) :
    Con Z n0 (⟨"java/lang/AbstractStringBuilder", "inflate", "()V"⟩ : MethodName) jdk_68_method_11_code 2 none [] ({ frames := 1, cells := 0, slots := 0, locals := 12 } : Room) #[(.ref sb)] h0 [] (fun v h sp => v = none ∧ h0 = h) := by
  refine Con.intro (L0 := #[.val (.ref sb), .unset]) ⟨_, own_EW hw⟩ (plainFor_of_name (by first | (simp [plainName, overriddenIn]; done) | decide +kernel)) (fun m => by first | (simp [entryFrame, mkF, argsToLocals, Value.category]; done) | rfl) ?_
  intro C k
  replace k := k.aloadN d44_0 rfl rfl
  obtain ⟨_, _, sp1, ⟨rfl, rfl⟩, k⟩ := k.callV (y := (⟨"java/lang/AbstractStringBuilder", "isLatin1", "()Z"⟩ : MethodName)) (z := (⟨"java/lang/AbstractStringBuilder", "isLatin1", "()Z"⟩ : MethodName)) (a := sb) d44_1 (hw _ (List.mem_of_getElem? (i := 217) rfl)) (hw _ (List.mem_of_getElem? (i := 131) rfl)) (fun s hs => notFace_of_selects (args := #[]) (mvT hs (hw _ (List.mem_of_getElem? (i := 133) rfl)))) (hw _ (List.mem_of_getElem? (i := 133) rfl)) (hw _ (List.mem_of_getElem? (i := 132) rfl)) (hw _ (List.mem_of_getElem? (i := 40) rfl)) (hw _ (List.mem_of_getElem? (i := 134) rfl)) Eb (W := 0) (argsL := []) (rest := []) (rm23_1 Z a0 hw zC vF sb h0 n0 Z0 S_C S_F S_AD S_HI S_LO hC hF Bc) all0 rfl (pd_8) rfl rfl rfl (by decide) (by decide) (by decide) (by decide) (by decide)
  replace k := (k [] all0).sfx [] rfl
  replace k := k.stk [(.int (0 : Int32))] rfl
  replace k := k.ifNo d44_4 (by decide)
  exact k.vret d44_7 rfl (fun sp hsp => ⟨rfl, rfl⟩) (by decide) (by decide)

theorem d44_8 : decode jdk_68_method_11_code 8 = .ok (.aload_n 0, 1) := by decide +kernel
theorem d44_9 : decode jdk_68_method_11_code 9 = .ok (.getfield 15, 3) := by decide +kernel
theorem d44_12 : decode jdk_68_method_11_code 12 = .ok (.arraylength, 1) := by decide +kernel
theorem d44_13 : decode jdk_68_method_11_code 13 = .ok (.invokestatic 26, 3) := by decide +kernel
theorem d44_16 : decode jdk_68_method_11_code 16 = .ok (.astore_n 1, 1) := by decide +kernel
theorem d44_17 : decode jdk_68_method_11_code 17 = .ok (.aload_n 0, 1) := by decide +kernel
theorem d44_18 : decode jdk_68_method_11_code 18 = .ok (.getfield 15, 3) := by decide +kernel
theorem d44_21 : decode jdk_68_method_11_code 21 = .ok (.iconst 0, 1) := by decide +kernel
theorem d44_22 : decode jdk_68_method_11_code 22 = .ok (.aload_n 1, 1) := by decide +kernel
theorem d44_23 : decode jdk_68_method_11_code 23 = .ok (.iconst 0, 1) := by decide +kernel
theorem d44_24 : decode jdk_68_method_11_code 24 = .ok (.aload_n 0, 1) := by decide +kernel
theorem d44_25 : decode jdk_68_method_11_code 25 = .ok (.getfield 79, 3) := by decide +kernel
theorem d44_28 : decode jdk_68_method_11_code 28 = .ok (.invokestatic 125, 3) := by decide +kernel
theorem d44_31 : decode jdk_68_method_11_code 31 = .ok (.aload_n 0, 1) := by decide +kernel
theorem d44_32 : decode jdk_68_method_11_code 32 = .ok (.aload_n 1, 1) := by decide +kernel
theorem d44_33 : decode jdk_68_method_11_code 33 = .ok (.putfield 15, 3) := by decide +kernel
theorem d44_36 : decode jdk_68_method_11_code 36 = .ok (.aload_n 0, 1) := by decide +kernel
theorem d44_37 : decode jdk_68_method_11_code 37 = .ok (.iconst 1, 1) := by decide +kernel
theorem d44_38 : decode jdk_68_method_11_code 38 = .ok (.putfield 22, 3) := by decide +kernel
theorem d44_41 : decode jdk_68_method_11_code 41 = .ok (.return_, 1) := by decide +kernel
set_option maxRecDepth 65536 in
set_option maxHeartbeats 40000000 in
theorem rm44_L (Z : State) (a0 : Array Value) (hw : ∀ d ∈ tables_1, d.before a0 Z = true) (zC : Int32) (vF : Value) (sb bv : Addr) (kq : Nat) (G : Nat → Int32) (h0 : Heap) (n0 : Nat) (Z0 : n0 ≤ h0.size) (S_C : Sta Z h0 "java/lang/String" "COMPACT_STRINGS" "Z" (.int zC)) (S_F : Sta Z h0 "jdk/internal/util/Preconditions" "SIOOBE_FORMATTER" "Ljava/util/function/BiFunction;" vF) (S_AD : Sta Z h0 "java/lang/StringUTF16" "$assertionsDisabled" "Z" (.int (1 : Int32))) (S_HI : Sta Z h0 "java/lang/StringUTF16" "HI_BYTE_SHIFT" "I" (.int (0 : Int32))) (S_LO : Sta Z h0 "java/lang/StringUTF16" "LO_BYTE_SHIFT" "I" (.int (8 : Int32))) (hC : ¬ (zC = (0 : Int32))) (hF : vF = .null ∨ ∃ b, vF = .ref b) (gb : n0 ≤ sb) (gv : n0 ≤ bv) (neb : sb ≠ bv) (Eb : Exa Z h0 sb "java/lang/StringBuilder") (Bc : Fld Z h0 sb "java/lang/AbstractStringBuilder" "coder" "B" (.int (0 : Int32))) (Bn : Fld Z h0 sb "java/lang/AbstractStringBuilder" "count" "I" (.int (Nat.toInt32 kq))) (Bm : Fld Z h0 sb "java/lang/AbstractStringBuilder" "maybeLatin1" "Z" (.int (0 : Int32))) (Bv : Fld Z h0 sb "java/lang/AbstractStringBuilder" "value" "[B" (.ref bv)) (Ab : Arf Z h0 bv .byte 16 (own_bf G)) (Db : own_der G) (hk : kq ≤ 16) :
    Con Z n0 (⟨"java/lang/AbstractStringBuilder", "inflate", "()V"⟩ : MethodName) jdk_68_method_11_code 2 none [] ({ frames := 5, cells := 1, slots := 32, locals := 76 } : Room) #[(.ref sb)] h0 [sb] (fun v h sp => v = none ∧ Keep h0 h [sb] ∧ ∃ b2 G2, h0.size ≤ b2 ∧ n0 ≤ b2 ∧ sp b2 ∧ Fld Z h sb "java/lang/AbstractStringBuilder" "coder" "B" (.int (1 : Int32)) ∧ Fld Z h sb "java/lang/AbstractStringBuilder" "count" "I" (.int (Nat.toInt32 kq)) ∧ Fld Z h sb "java/lang/AbstractStringBuilder" "maybeLatin1" "Z" (.int (0 : Int32)) ∧ Fld Z h sb "java/lang/AbstractStringBuilder" "value" "[B" (.ref b2) ∧ Arf Z h b2 .byte 32 (own_bf G2) ∧ own_der G2 ∧ ∀ i, i < kq → own_dec 1 G2 i = own_dec 0 G i) := by
  refine Con.intro (L0 := #[.val (.ref sb), .unset]) ⟨_, own_EW hw⟩ (plainFor_of_name (by first | (simp [plainName, overriddenIn]; done) | decide +kernel)) (fun m => by first | (simp [entryFrame, mkF, argsToLocals, Value.category]; done) | rfl) ?_
  intro C k
  replace k := k.aloadN d44_0 rfl rfl
  obtain ⟨_, _, sp1, ⟨rfl, rfl⟩, k⟩ := k.callV (y := (⟨"java/lang/AbstractStringBuilder", "isLatin1", "()Z"⟩ : MethodName)) (z := (⟨"java/lang/AbstractStringBuilder", "isLatin1", "()Z"⟩ : MethodName)) (a := sb) d44_1 (hw _ (List.mem_of_getElem? (i := 217) rfl)) (hw _ (List.mem_of_getElem? (i := 131) rfl)) (fun s hs => notFace_of_selects (args := #[]) (mvT hs (hw _ (List.mem_of_getElem? (i := 133) rfl)))) (hw _ (List.mem_of_getElem? (i := 133) rfl)) (hw _ (List.mem_of_getElem? (i := 132) rfl)) (hw _ (List.mem_of_getElem? (i := 40) rfl)) (hw _ (List.mem_of_getElem? (i := 134) rfl)) Eb (W := 0) (argsL := []) (rest := []) (rm23_0 Z a0 hw zC vF sb h0 n0 Z0 S_C S_F S_AD S_HI S_LO hC hF Bc) all0 rfl (pd_8) rfl rfl rfl (by decide) (by decide) (by decide) (by decide) (by decide)
  replace k := (k [] all0).sfx [sb] rfl
  replace k := k.stk [(.int (1 : Int32))] rfl
  replace k := k.ifYes (pc' := 8) d44_4 (by decide) (by decide) (by decide)
  replace k := k.aloadN d44_8 rfl rfl
  replace k := k.getF d44_9 (host := "") (Or.inl (hw _ (List.mem_of_getElem? (i := 44) rfl))) Via.refl Bv
  replace k := k.arrlen d44_12 Ab (16 : Int32) (by decide)
  obtain ⟨_, hn101, sp13, ⟨bn101, rfl, Kn101, zn101, gn101, sn101, An101⟩, k⟩ := k.callS (y := (⟨"java/lang/StringUTF16", "newBytesFor", "(I)[B"⟩ : MethodName)) d44_13 (hw _ (List.mem_of_getElem? (i := 218) rfl)) (hw _ (List.mem_of_getElem? (i := 197) rfl)) (hw _ (List.mem_of_getElem? (i := 185) rfl)) (hw _ (List.mem_of_getElem? (i := 198) rfl)) (W := 0) (argsL := [(.int (16 : Int32))]) (rest := []) (rm40_16 Z a0 hw h0 n0 Z0) all0 rfl (pd_14) rfl rfl rfl (by decide) (by decide) (by decide) (by decide) (by decide)
  have Kc102 : Keep h0 hn101 [sb] := (Keep.refl h0 ([sb] : List Addr)).trans Kn101 all0
  replace k := (k [bn101] (allS ⟨sn101, An101.lt⟩ all0)).sfx [bn101, sb] rfl
  replace k := k.stk [(.ref bn101)] rfl
  have zz103 : h0.size ≤ bn101 := Nat.le_trans (Keep.refl h0 ([sb] : List Addr)).1 zn101
  replace k := k.astoreN #[.val (.ref sb), .val (.ref bn101)] d44_16 rfl rfl
  replace k := k.aloadN d44_17 rfl rfl
  replace k := k.getF d44_18 (host := "") (Or.inl (hw _ (List.mem_of_getElem? (i := 44) rfl))) Via.refl (Bv.keep Kn101 nin0)
  replace k := k.iconst (0 : Int32) d44_21 rfl
  replace k := k.aloadN d44_22 rfl rfl
  replace k := k.iconst (0 : Int32) d44_23 rfl
  replace k := k.aloadN d44_24 rfl rfl
  replace k := k.getF d44_25 (host := "") (Or.inl (hw _ (List.mem_of_getElem? (i := 70) rfl))) Via.refl (Bn.keep Kn101 nin0)
  obtain ⟨_, hv104, sp28, ⟨rfl, Kv104, Hv104, Av104, Dv104, Pv104, Rv104⟩, k⟩ := k.callS (y := (⟨"java/lang/StringLatin1", "inflate", "([BI[BII)V"⟩ : MethodName)) d44_28 (hw _ (List.mem_of_getElem? (i := 219) rfl)) (hw _ (List.mem_of_getElem? (i := 220) rfl)) (hw _ (List.mem_of_getElem? (i := 166) rfl)) (hw _ (List.mem_of_getElem? (i := 221) rfl)) (W := 0) (argsL := [(.ref bv), (.int (0 : Int32)), (.ref bn101), (.int (0 : Int32)), (.int (Nat.toInt32 kq))]) (rest := []) (rm45 Z a0 hw zC vF bv bn101 (0 : Int32) (Nat.toInt32 kq) 16 0 kq G (fun _ => 0) hn101 n0 (Nat.le_trans Z0 Kn101.1) (Sta.keepN S_C Kn101 all0) (Sta.keepN S_F Kn101 all0) (Sta.keepN S_AD Kn101 all0) (Sta.keepN S_HI Kn101 all0) (Sta.keepN S_LO Kn101 all0) hC hF (Nat.ne_of_lt (Nat.lt_of_lt_of_le Ab.lt zn101)) gn101 (Ab.keep Kn101 nin0) An101 own_der0 (by decide) (own_tn (by omega)) (by omega) (by omega)) (allS (List.mem_of_getElem? (i := 0) rfl) all0) rfl (pd_22) rfl rfl rfl (by decide) (by decide) (by decide) (by decide) (by decide)
  have Kc105 : Keep h0 hv104 [sb] := Kc102.trans Kv104 (allS (Or.inr zz103) all0)
  replace k := (k [] all0).sfx [bn101, sb] rfl
  replace k := k.stk [] rfl
  replace k := k.aloadN d44_31 rfl rfl
  replace k := k.aloadN d44_32 rfl rfl
  obtain ⟨h106, W106, k⟩ := k.putF d44_33 (host := "") (Or.inl (hw _ (List.mem_of_getElem? (i := 44) rfl))) Via.refl ((Bv.keep Kn101 nin0).keep Kv104 (ninS (Nat.ne_of_lt (Nat.lt_of_lt_of_le Eb.lt zn101)) nin0)) ((Eb.keep Kn101).keep Kv104) (Or.inl (hw _ (List.mem_of_getElem? (i := 45) rfl))) (hw _ (List.mem_of_getElem? (i := 31) rfl)) (ty := (.array .byte)) (by decide) rfl rfl gb (List.mem_of_getElem? (i := 1) rfl)
  have Fw106 := Fld.same W106 ((Bv.keep Kn101 nin0).keep Kv104 (ninS (Nat.ne_of_lt (Nat.lt_of_lt_of_le Eb.lt zn101)) nin0))
  have K106 : Keep h0 h106 [sb] := Kc105.wr W106 (Or.inl (List.mem_of_getElem? (i := 0) rfl))
  replace k := k.aloadN d44_36 rfl rfl
  replace k := k.iconst (1 : Int32) d44_37 rfl
  obtain ⟨h107, W107, k⟩ := k.putF d44_38 (host := "") (Or.inl (hw _ (List.mem_of_getElem? (i := 46) rfl))) Via.refl (Fld.other W106 ((Bc.keep Kn101 nin0).keep Kv104 (ninS (Nat.ne_of_lt (Nat.lt_of_lt_of_le Eb.lt zn101)) nin0)) (Or.inr (slot_ne (Or.inl (hw _ (List.mem_of_getElem? (i := 47) rfl))) (Or.inl (hw _ (List.mem_of_getElem? (i := 45) rfl))) (by decide) (t := .byte) (t' := (.array .byte)) (by decide) (by decide)))) (Exa.wr W106 ((Eb.keep Kn101).keep Kv104)) (Or.inl (hw _ (List.mem_of_getElem? (i := 47) rfl))) (hw _ (List.mem_of_getElem? (i := 31) rfl)) (ty := .byte) (by decide) rfl rfl gb (List.mem_of_getElem? (i := 1) rfl)
  have Fw107 := Fld.same W107 (Fld.other W106 ((Bc.keep Kn101 nin0).keep Kv104 (ninS (Nat.ne_of_lt (Nat.lt_of_lt_of_le Eb.lt zn101)) nin0)) (Or.inr (slot_ne (Or.inl (hw _ (List.mem_of_getElem? (i := 47) rfl))) (Or.inl (hw _ (List.mem_of_getElem? (i := 45) rfl))) (by decide) (t := .byte) (t' := (.array .byte)) (by decide) (by decide))))
  have K107 : Keep h0 h107 [sb] := K106.wr W107 (Or.inl (List.mem_of_getElem? (i := 0) rfl))
  exact k.vret d44_41 rfl (fun sp hsp => ⟨rfl, K107, _, Hv104, zz103, gn101, (hsp _ (List.mem_of_getElem? (i := 0) rfl)), Fw107, (Fld.other W107 (Fld.other W106 ((Bn.keep Kn101 nin0).keep Kv104 (ninS (Nat.ne_of_lt (Nat.lt_of_lt_of_le Eb.lt zn101)) nin0)) (Or.inr (slot_ne (Or.inl (hw _ (List.mem_of_getElem? (i := 71) rfl))) (Or.inl (hw _ (List.mem_of_getElem? (i := 45) rfl))) (by decide) (t := .int) (t' := (.array .byte)) (by decide) (by decide)))) (Or.inr (slot_ne (Or.inl (hw _ (List.mem_of_getElem? (i := 71) rfl))) (Or.inl (hw _ (List.mem_of_getElem? (i := 47) rfl))) (by decide) (t := .int) (t' := .byte) (by decide) (by decide)))), (Fld.other W107 (Fld.other W106 ((Bm.keep Kn101 nin0).keep Kv104 (ninS (Nat.ne_of_lt (Nat.lt_of_lt_of_le Eb.lt zn101)) nin0)) (Or.inr (slot_ne (Or.inl (hw _ (List.mem_of_getElem? (i := 239) rfl))) (Or.inl (hw _ (List.mem_of_getElem? (i := 45) rfl))) (by decide) (t := .boolean) (t' := (.array .byte)) (by decide) (by decide)))) (Or.inr (slot_ne (Or.inl (hw _ (List.mem_of_getElem? (i := 239) rfl))) (Or.inl (hw _ (List.mem_of_getElem? (i := 47) rfl))) (by decide) (t := .boolean) (t' := .byte) (by decide) (by decide)))), (Fld.other W107 Fw106 (Or.inr (slot_ne (Or.inl (hw _ (List.mem_of_getElem? (i := 45) rfl))) (Or.inl (hw _ (List.mem_of_getElem? (i := 47) rfl))) (by decide) (t := (.array .byte)) (t' := .byte) (by decide) (by decide)))), ((Av104.other W106 (Ne.symm (Nat.ne_of_lt (Nat.lt_of_lt_of_le Eb.lt zn101)))).other W107 (Ne.symm (Nat.ne_of_lt (Nat.lt_of_lt_of_le Eb.lt zn101)))), Dv104, own_z0 Pv104⟩) (by decide) (by decide)

theorem d14_0 : decode jdk_68_method_71_code 0 = .ok (.getstatic 18, 3) := by decide +kernel
theorem d14_3 : decode jdk_68_method_71_code 3 = .ok (.ifCond .eq 18, 3) := by decide +kernel
theorem d14_6 : decode jdk_68_method_71_code 6 = .ok (.aload_n 0, 1) := by decide +kernel
theorem d14_7 : decode jdk_68_method_71_code 7 = .ok (.getfield 22, 3) := by decide +kernel
theorem d14_10 : decode jdk_68_method_71_code 10 = .ok (.aload_n 1, 1) := by decide +kernel
theorem d14_11 : decode jdk_68_method_71_code 11 = .ok (.invokevirtual 40, 3) := by decide +kernel
theorem d14_14 : decode jdk_68_method_71_code 14 = .ok (.if_icmp .eq 7, 3) := by decide +kernel
theorem d14_17 : decode jdk_68_method_71_code 17 = .ok (.aload_n 0, 1) := by decide +kernel
theorem d14_18 : decode jdk_68_method_71_code 18 = .ok (.invokevirtual 195, 3) := by decide +kernel
theorem d14_21 : decode jdk_68_method_71_code 21 = .ok (.return_, 1) := by decide +kernel
set_option maxRecDepth 65536 in
set_option maxHeartbeats 40000000 in
theorem rm14_01 (Z : State) (a0 : Array Value) (hw : ∀ d ∈ tables_1, d.before a0 Z = true) (zC : Int32) (vF : Value) (sb bv : Addr) (kq : Nat) (G : Nat → Int32) (s1 : Addr) (h0 : Heap) (n0 : Nat) (Z0 : n0 ≤ h0.size) (S_C : Sta Z h0 "java/lang/String" "COMPACT_STRINGS" "Z" (.int zC)) (S_F : Sta Z h0 "jdk/internal/util/Preconditions" "SIOOBE_FORMATTER" "Ljava/util/function/BiFunction;" vF) (S_AD : Sta Z h0 "java/lang/StringUTF16" "$assertionsDisabled" "Z" (.int (1 : Int32))) (S_HI : Sta Z h0 "java/lang/StringUTF16" "HI_BYTE_SHIFT" "I" (.int (0 : Int32))) (S_LO : Sta Z h0 "java/lang/StringUTF16" "LO_BYTE_SHIFT" "I" (.int (8 : Int32))) (hC : ¬ (zC = (0 : Int32))) (hF : vF = .null ∨ ∃ b, vF = .ref b) (gb : n0 ≤ sb) (gv : n0 ≤ bv) (neb : sb ≠ bv) (Eb : Exa Z h0 sb "java/lang/StringBuilder") (Bc : Fld Z h0 sb "java/lang/AbstractStringBuilder" "coder" "B" (.int (0 : Int32))) (Bn : Fld Z h0 sb "java/lang/AbstractStringBuilder" "count" "I" (.int (Nat.toInt32 kq))) (Bm : Fld Z h0 sb "java/lang/AbstractStringBuilder" "maybeLatin1" "Z" (.int (0 : Int32))) (Bv : Fld Z h0 sb "java/lang/AbstractStringBuilder" "value" "[B" (.ref bv)) (Ab : Arf Z h0 bv .byte 16 (own_bf G)) (Db : own_der G) (hk : kq ≤ 16) (E1 : Exa Z h0 s1 "java/lang/String") (C1 : Fld Z h0 s1 "java/lang/String" "coder" "B" (.int (1 : Int32))) :
    Con Z n0 (⟨"java/lang/AbstractStringBuilder", "inflateIfNeededFor", "(Ljava/lang/String;)V"⟩ : MethodName) jdk_68_method_71_code 2 none [] ({ frames := 6, cells := 1, slots := 32, locals := 89 } : Room) #[(.ref sb), (.ref s1)] h0 [sb] (fun v h sp => v = none ∧ Keep h0 h [sb] ∧ ∃ b2 G2, h0.size ≤ b2 ∧ n0 ≤ b2 ∧ sp b2 ∧ Fld Z h sb "java/lang/AbstractStringBuilder" "coder" "B" (.int (1 : Int32)) ∧ Fld Z h sb "java/lang/AbstractStringBuilder" "count" "I" (.int (Nat.toInt32 kq)) ∧ Fld Z h sb "java/lang/AbstractStringBuilder" "maybeLatin1" "Z" (.int (0 : Int32)) ∧ Fld Z h sb "java/lang/AbstractStringBuilder" "value" "[B" (.ref b2) ∧ Arf Z h b2 .byte 32 (own_bf G2) ∧ own_der G2 ∧ ∀ i, i < kq → own_dec 1 G2 i = own_dec 0 G i) := by
  refine Con.intro (L0 := #[.val (.ref sb), .val (.ref s1)]) ⟨_, own_EW hw⟩ (plainFor_of_name (by first | (simp [plainName, overriddenIn]; done) | decide +kernel)) (fun m => by first | (simp [entryFrame, mkF, argsToLocals, Value.category]; done) | rfl) ?_
  intro C k
  replace k := k.getS d14_0 (host := "") (Or.inl (hw _ (List.mem_of_getElem? (i := 43) rfl))) Via.refl S_C
  replace k := k.ifNo d14_3 (feq hC).1
  replace k := k.aloadN d14_6 rfl rfl
  replace k := k.getF d14_7 (host := "") (Or.inl (hw _ (List.mem_of_getElem? (i := 46) rfl))) Via.refl Bc
  replace k := k.aloadN d14_10 rfl rfl
  obtain ⟨_, _, sp11, ⟨rfl, rfl⟩, k⟩ := k.callV (y := (⟨"java/lang/String", "coder", "()B"⟩ : MethodName)) (z := (⟨"java/lang/String", "coder", "()B"⟩ : MethodName)) (a := s1) d14_11 (hw _ (List.mem_of_getElem? (i := 87) rfl)) (hw _ (List.mem_of_getElem? (i := 65) rfl)) (fun s hs => notFace_of_selects (args := #[]) (mvT hs (hw _ (List.mem_of_getElem? (i := 67) rfl)))) (hw _ (List.mem_of_getElem? (i := 67) rfl)) (hw _ (List.mem_of_getElem? (i := 66) rfl)) (hw _ (List.mem_of_getElem? (i := 6) rfl)) (hw _ (List.mem_of_getElem? (i := 68) rfl)) E1 (W := 1) (argsL := []) (rest := [(.int (0 : Int32))]) (rm11 Z a0 hw zC vF s1 (1 : Int32) h0 n0 Z0 S_C S_F S_AD S_HI S_LO hC hF C1 (Or.inr rfl)) all0 rfl (pd_0) rfl rfl rfl (by decide) (by decide) (by decide) (by decide) (by decide)
  replace k := (k [] all0).sfx [sb] rfl
  replace k := k.stk [(.int (1 : Int32)), (.int (0 : Int32))] rfl
  replace k := k.icmpNo d14_14 (by decide)
  replace k := k.aloadN d14_17 rfl rfl
  obtain ⟨_, hf101, sp18, ⟨rfl, Kf101, bf101, If101, zf101, gf101, sf101, Bcrf101, Bctf101, Bm1f101, Bvef101, Af101, Df101, Pf101⟩, k⟩ := k.callP (y := (⟨"java/lang/AbstractStringBuilder", "inflate", "()V"⟩ : MethodName)) (a := sb) d14_18 (hw _ (List.mem_of_getElem? (i := 212) rfl)) (hw _ (List.mem_of_getElem? (i := 214) rfl)) (hw _ (List.mem_of_getElem? (i := 215) rfl)) (hw _ (List.mem_of_getElem? (i := 213) rfl)) (hw _ (List.mem_of_getElem? (i := 40) rfl)) (hw _ (List.mem_of_getElem? (i := 216) rfl)) Eb (W := 0) (argsL := []) (rest := []) (rm44_L Z a0 hw zC vF sb bv kq G h0 n0 Z0 S_C S_F S_AD S_HI S_LO hC hF gb gv neb Eb Bc Bn Bm Bv Ab Db hk) (allS (List.mem_of_getElem? (i := 0) rfl) all0) rfl (pd_24) rfl rfl rfl (by decide) (by decide) (by decide) (by decide) (by decide)
  have Kc102 : Keep h0 hf101 [sb] := (Keep.refl h0 ([sb] : List Addr)).trans Kf101 (allS (Or.inl (List.mem_of_getElem? (i := 0) rfl)) all0)
  replace k := (k [bf101] (allS ⟨sf101, Af101.lt⟩ all0)).sfx [bf101, sb] rfl
  replace k := k.stk [] rfl
  have zz103 : h0.size ≤ bf101 := Nat.le_trans (Keep.refl h0 ([sb] : List Addr)).1 zf101
  exact k.vret d14_21 rfl (fun sp hsp => ⟨rfl, Kc102, _, If101, zz103, gf101, (hsp _ (List.mem_of_getElem? (i := 0) rfl)), Bcrf101, Bctf101, Bm1f101, Bvef101, Af101, Df101, Pf101⟩) (by decide) (by decide)

set_option maxRecDepth 65536 in
set_option maxHeartbeats 40000000 in
theorem rm14_00 (Z : State) (a0 : Array Value) (hw : ∀ d ∈ tables_1, d.before a0 Z = true) (zC : Int32) (vF : Value) (sb s1 : Addr) (h0 : Heap) (n0 : Nat) (Z0 : n0 ≤ h0.size) (S_C : Sta Z h0 "java/lang/String" "COMPACT_STRINGS" "Z" (.int zC)) (S_F : Sta Z h0 "jdk/internal/util/Preconditions" "SIOOBE_FORMATTER" "Ljava/util/function/BiFunction;" vF) (S_AD : Sta Z h0 "java/lang/StringUTF16" "$assertionsDisabled" "Z" (.int (1 : Int32))) (S_HI : Sta Z h0 "java/lang/StringUTF16" "HI_BYTE_SHIFT" "I" (.int (0 : Int32))) (S_LO : Sta Z h0 "java/lang/StringUTF16" "LO_BYTE_SHIFT" "I" (.int (8 : Int32))) (hC : ¬ (zC = (0 : Int32))) (hF : vF = .null ∨ ∃ b, vF = .ref b) (Eb : Exa Z h0 sb "java/lang/StringBuilder") (Bc : Fld Z h0 sb "java/lang/AbstractStringBuilder" "coder" "B" (.int (0 : Int32))) (E1 : Exa Z h0 s1 "java/lang/String") (C1 : Fld Z h0 s1 "java/lang/String" "coder" "B" (.int (0 : Int32))) :
    Con Z n0 (⟨"java/lang/AbstractStringBuilder", "inflateIfNeededFor", "(Ljava/lang/String;)V"⟩ : MethodName) jdk_68_method_71_code 2 none [] ({ frames := 1, cells := 0, slots := 0, locals := 13 } : Room) #[(.ref sb), (.ref s1)] h0 [] (fun v h sp => v = none ∧ h0 = h) := by
  refine Con.intro (L0 := #[.val (.ref sb), .val (.ref s1)]) ⟨_, own_EW hw⟩ (plainFor_of_name (by first | (simp [plainName, overriddenIn]; done) | decide +kernel)) (fun m => by first | (simp [entryFrame, mkF, argsToLocals, Value.category]; done) | rfl) ?_
  intro C k
  replace k := k.getS d14_0 (host := "") (Or.inl (hw _ (List.mem_of_getElem? (i := 43) rfl))) Via.refl S_C
  replace k := k.ifNo d14_3 (feq hC).1
  replace k := k.aloadN d14_6 rfl rfl
  replace k := k.getF d14_7 (host := "") (Or.inl (hw _ (List.mem_of_getElem? (i := 46) rfl))) Via.refl Bc
  replace k := k.aloadN d14_10 rfl rfl
  obtain ⟨_, _, sp11, ⟨rfl, rfl⟩, k⟩ := k.callV (y := (⟨"java/lang/String", "coder", "()B"⟩ : MethodName)) (z := (⟨"java/lang/String", "coder", "()B"⟩ : MethodName)) (a := s1) d14_11 (hw _ (List.mem_of_getElem? (i := 87) rfl)) (hw _ (List.mem_of_getElem? (i := 65) rfl)) (fun s hs => notFace_of_selects (args := #[]) (mvT hs (hw _ (List.mem_of_getElem? (i := 67) rfl)))) (hw _ (List.mem_of_getElem? (i := 67) rfl)) (hw _ (List.mem_of_getElem? (i := 66) rfl)) (hw _ (List.mem_of_getElem? (i := 6) rfl)) (hw _ (List.mem_of_getElem? (i := 68) rfl)) E1 (W := 1) (argsL := []) (rest := [(.int (0 : Int32))]) (rm11 Z a0 hw zC vF s1 (0 : Int32) h0 n0 Z0 S_C S_F S_AD S_HI S_LO hC hF C1 (Or.inl rfl)) all0 rfl (pd_0) rfl rfl rfl (by decide) (by decide) (by decide) (by decide) (by decide)
  replace k := (k [] all0).sfx [] rfl
  replace k := k.stk [(.int (0 : Int32)), (.int (0 : Int32))] rfl
  replace k := k.icmpYes (pc' := 21) d14_14 (by decide) (by decide) (by decide)
  exact k.vret d14_21 rfl (fun sp hsp => ⟨rfl, rfl⟩) (by decide) (by decide)

set_option maxRecDepth 65536 in
set_option maxHeartbeats 40000000 in
theorem rm14_11 (Z : State) (a0 : Array Value) (hw : ∀ d ∈ tables_1, d.before a0 Z = true) (zC : Int32) (vF : Value) (sb s1 : Addr) (h0 : Heap) (n0 : Nat) (Z0 : n0 ≤ h0.size) (S_C : Sta Z h0 "java/lang/String" "COMPACT_STRINGS" "Z" (.int zC)) (S_F : Sta Z h0 "jdk/internal/util/Preconditions" "SIOOBE_FORMATTER" "Ljava/util/function/BiFunction;" vF) (S_AD : Sta Z h0 "java/lang/StringUTF16" "$assertionsDisabled" "Z" (.int (1 : Int32))) (S_HI : Sta Z h0 "java/lang/StringUTF16" "HI_BYTE_SHIFT" "I" (.int (0 : Int32))) (S_LO : Sta Z h0 "java/lang/StringUTF16" "LO_BYTE_SHIFT" "I" (.int (8 : Int32))) (hC : ¬ (zC = (0 : Int32))) (hF : vF = .null ∨ ∃ b, vF = .ref b) (Eb : Exa Z h0 sb "java/lang/StringBuilder") (Bc : Fld Z h0 sb "java/lang/AbstractStringBuilder" "coder" "B" (.int (1 : Int32))) (E1 : Exa Z h0 s1 "java/lang/String") (C1 : Fld Z h0 s1 "java/lang/String" "coder" "B" (.int (1 : Int32))) :
    Con Z n0 (⟨"java/lang/AbstractStringBuilder", "inflateIfNeededFor", "(Ljava/lang/String;)V"⟩ : MethodName) jdk_68_method_71_code 2 none [] ({ frames := 1, cells := 0, slots := 0, locals := 13 } : Room) #[(.ref sb), (.ref s1)] h0 [] (fun v h sp => v = none ∧ h0 = h) := by
  refine Con.intro (L0 := #[.val (.ref sb), .val (.ref s1)]) ⟨_, own_EW hw⟩ (plainFor_of_name (by first | (simp [plainName, overriddenIn]; done) | decide +kernel)) (fun m => by first | (simp [entryFrame, mkF, argsToLocals, Value.category]; done) | rfl) ?_
  intro C k
  replace k := k.getS d14_0 (host := "") (Or.inl (hw _ (List.mem_of_getElem? (i := 43) rfl))) Via.refl S_C
  replace k := k.ifNo d14_3 (feq hC).1
  replace k := k.aloadN d14_6 rfl rfl
  replace k := k.getF d14_7 (host := "") (Or.inl (hw _ (List.mem_of_getElem? (i := 46) rfl))) Via.refl Bc
  replace k := k.aloadN d14_10 rfl rfl
  obtain ⟨_, _, sp11, ⟨rfl, rfl⟩, k⟩ := k.callV (y := (⟨"java/lang/String", "coder", "()B"⟩ : MethodName)) (z := (⟨"java/lang/String", "coder", "()B"⟩ : MethodName)) (a := s1) d14_11 (hw _ (List.mem_of_getElem? (i := 87) rfl)) (hw _ (List.mem_of_getElem? (i := 65) rfl)) (fun s hs => notFace_of_selects (args := #[]) (mvT hs (hw _ (List.mem_of_getElem? (i := 67) rfl)))) (hw _ (List.mem_of_getElem? (i := 67) rfl)) (hw _ (List.mem_of_getElem? (i := 66) rfl)) (hw _ (List.mem_of_getElem? (i := 6) rfl)) (hw _ (List.mem_of_getElem? (i := 68) rfl)) E1 (W := 1) (argsL := []) (rest := [(.int (1 : Int32))]) (rm11 Z a0 hw zC vF s1 (1 : Int32) h0 n0 Z0 S_C S_F S_AD S_HI S_LO hC hF C1 (Or.inr rfl)) all0 rfl (pd_0) rfl rfl rfl (by decide) (by decide) (by decide) (by decide) (by decide)
  replace k := (k [] all0).sfx [] rfl
  replace k := k.stk [(.int (1 : Int32)), (.int (1 : Int32))] rfl
  replace k := k.icmpYes (pc' := 21) d14_14 (by decide) (by decide) (by decide)
  exact k.vret d14_21 rfl (fun sp hsp => ⟨rfl, rfl⟩) (by decide) (by decide)

set_option maxRecDepth 65536 in
set_option maxHeartbeats 40000000 in
theorem rm14_10 (Z : State) (a0 : Array Value) (hw : ∀ d ∈ tables_1, d.before a0 Z = true) (zC : Int32) (vF : Value) (sb s1 : Addr) (h0 : Heap) (n0 : Nat) (Z0 : n0 ≤ h0.size) (S_C : Sta Z h0 "java/lang/String" "COMPACT_STRINGS" "Z" (.int zC)) (S_F : Sta Z h0 "jdk/internal/util/Preconditions" "SIOOBE_FORMATTER" "Ljava/util/function/BiFunction;" vF) (S_AD : Sta Z h0 "java/lang/StringUTF16" "$assertionsDisabled" "Z" (.int (1 : Int32))) (S_HI : Sta Z h0 "java/lang/StringUTF16" "HI_BYTE_SHIFT" "I" (.int (0 : Int32))) (S_LO : Sta Z h0 "java/lang/StringUTF16" "LO_BYTE_SHIFT" "I" (.int (8 : Int32))) (hC : ¬ (zC = (0 : Int32))) (hF : vF = .null ∨ ∃ b, vF = .ref b) (Eb : Exa Z h0 sb "java/lang/StringBuilder") (Bc : Fld Z h0 sb "java/lang/AbstractStringBuilder" "coder" "B" (.int (1 : Int32))) (E1 : Exa Z h0 s1 "java/lang/String") (C1 : Fld Z h0 s1 "java/lang/String" "coder" "B" (.int (0 : Int32))) :
    Con Z n0 (⟨"java/lang/AbstractStringBuilder", "inflateIfNeededFor", "(Ljava/lang/String;)V"⟩ : MethodName) jdk_68_method_71_code 2 none [] ({ frames := 2, cells := 0, slots := 0, locals := 25 } : Room) #[(.ref sb), (.ref s1)] h0 [] (fun v h sp => v = none ∧ h0 = h) := by
  refine Con.intro (L0 := #[.val (.ref sb), .val (.ref s1)]) ⟨_, own_EW hw⟩ (plainFor_of_name (by first | (simp [plainName, overriddenIn]; done) | decide +kernel)) (fun m => by first | (simp [entryFrame, mkF, argsToLocals, Value.category]; done) | rfl) ?_
  intro C k
  replace k := k.getS d14_0 (host := "") (Or.inl (hw _ (List.mem_of_getElem? (i := 43) rfl))) Via.refl S_C
  replace k := k.ifNo d14_3 (feq hC).1
  replace k := k.aloadN d14_6 rfl rfl
  replace k := k.getF d14_7 (host := "") (Or.inl (hw _ (List.mem_of_getElem? (i := 46) rfl))) Via.refl Bc
  replace k := k.aloadN d14_10 rfl rfl
  obtain ⟨_, _, sp11, ⟨rfl, rfl⟩, k⟩ := k.callV (y := (⟨"java/lang/String", "coder", "()B"⟩ : MethodName)) (z := (⟨"java/lang/String", "coder", "()B"⟩ : MethodName)) (a := s1) d14_11 (hw _ (List.mem_of_getElem? (i := 87) rfl)) (hw _ (List.mem_of_getElem? (i := 65) rfl)) (fun s hs => notFace_of_selects (args := #[]) (mvT hs (hw _ (List.mem_of_getElem? (i := 67) rfl)))) (hw _ (List.mem_of_getElem? (i := 67) rfl)) (hw _ (List.mem_of_getElem? (i := 66) rfl)) (hw _ (List.mem_of_getElem? (i := 6) rfl)) (hw _ (List.mem_of_getElem? (i := 68) rfl)) E1 (W := 1) (argsL := []) (rest := [(.int (1 : Int32))]) (rm11 Z a0 hw zC vF s1 (0 : Int32) h0 n0 Z0 S_C S_F S_AD S_HI S_LO hC hF C1 (Or.inl rfl)) all0 rfl (pd_0) rfl rfl rfl (by decide) (by decide) (by decide) (by decide) (by decide)
  replace k := (k [] all0).sfx [] rfl
  replace k := k.stk [(.int (0 : Int32)), (.int (1 : Int32))] rfl
  replace k := k.icmpNo d14_14 (by decide)
  replace k := k.aloadN d14_17 rfl rfl
  obtain ⟨_, _, sp18, ⟨rfl, rfl⟩, k⟩ := k.callP (y := (⟨"java/lang/AbstractStringBuilder", "inflate", "()V"⟩ : MethodName)) (a := sb) d14_18 (hw _ (List.mem_of_getElem? (i := 212) rfl)) (hw _ (List.mem_of_getElem? (i := 214) rfl)) (hw _ (List.mem_of_getElem? (i := 215) rfl)) (hw _ (List.mem_of_getElem? (i := 213) rfl)) (hw _ (List.mem_of_getElem? (i := 40) rfl)) (hw _ (List.mem_of_getElem? (i := 216) rfl)) Eb (W := 0) (argsL := []) (rest := []) (rm44_U Z a0 hw zC vF sb h0 n0 Z0 S_C S_F S_AD S_HI S_LO hC hF Eb Bc) all0 rfl (pd_24) rfl rfl rfl (by decide) (by decide) (by decide) (by decide) (by decide)
  replace k := (k [] all0).sfx [] rfl
  replace k := k.stk [] rfl
  exact k.vret d14_21 rfl (fun sp hsp => ⟨rfl, rfl⟩) (by decide) (by decide)

theorem d15_0 : decode jdk_42_method_147_code 0 = .ok (.aload_n 0, 1) := by decide +kernel
theorem d15_1 : decode jdk_42_method_147_code 1 = .ok (.invokevirtual 335, 3) := by decide +kernel
theorem d15_4 : decode jdk_42_method_147_code 4 = .ok (.iload_n 3, 1) := by decide +kernel
theorem d15_5 : decode jdk_42_method_147_code 5 = .ok (.if_icmp .ne 23, 3) := by decide +kernel
theorem d15_8 : decode jdk_42_method_147_code 8 = .ok (.aload_n 0, 1) := by decide +kernel
theorem d15_9 : decode jdk_42_method_147_code 9 = .ok (.getfield 9, 3) := by decide +kernel
theorem d15_12 : decode jdk_42_method_147_code 12 = .ok (.iconst 0, 1) := by decide +kernel
theorem d15_13 : decode jdk_42_method_147_code 13 = .ok (.aload_n 1, 1) := by decide +kernel
theorem d15_14 : decode jdk_42_method_147_code 14 = .ok (.iload_n 2, 1) := by decide +kernel
theorem d15_15 : decode jdk_42_method_147_code 15 = .ok (.iload_n 3, 1) := by decide +kernel
theorem d15_16 : decode jdk_42_method_147_code 16 = .ok (.ishl, 1) := by decide +kernel
theorem d15_17 : decode jdk_42_method_147_code 17 = .ok (.aload_n 0, 1) := by decide +kernel
theorem d15_18 : decode jdk_42_method_147_code 18 = .ok (.getfield 9, 3) := by decide +kernel
theorem d15_21 : decode jdk_42_method_147_code 21 = .ok (.arraylength, 1) := by decide +kernel
theorem d15_22 : decode jdk_42_method_147_code 22 = .ok (.invokestatic 212, 3) := by decide +kernel
theorem d15_25 : decode jdk_42_method_147_code 25 = .ok (.goto 18, 3) := by decide +kernel
theorem d15_43 : decode jdk_42_method_147_code 43 = .ok (.return_, 1) := by decide +kernel
set_option maxRecDepth 65536 in
set_option maxHeartbeats 40000000 in
theorem rm15_00 (Z : State) (a0 : Array Value) (hw : ∀ d ∈ tables_1, d.before a0 Z = true) (zC : Int32) (vF : Value) (s1 t1 bv : Addr) (p : Int32) (n1 P : Nat) (G1 G : Nat → Int32) (h0 : Heap) (n0 : Nat) (Z0 : n0 ≤ h0.size) (S_C : Sta Z h0 "java/lang/String" "COMPACT_STRINGS" "Z" (.int zC)) (S_F : Sta Z h0 "jdk/internal/util/Preconditions" "SIOOBE_FORMATTER" "Ljava/util/function/BiFunction;" vF) (S_AD : Sta Z h0 "java/lang/StringUTF16" "$assertionsDisabled" "Z" (.int (1 : Int32))) (S_HI : Sta Z h0 "java/lang/StringUTF16" "HI_BYTE_SHIFT" "I" (.int (0 : Int32))) (S_LO : Sta Z h0 "java/lang/StringUTF16" "LO_BYTE_SHIFT" "I" (.int (8 : Int32))) (hC : ¬ (zC = (0 : Int32))) (hF : vF = .null ∨ ∃ b, vF = .ref b) (E1 : Exa Z h0 s1 "java/lang/String") (C1 : Fld Z h0 s1 "java/lang/String" "coder" "B" (.int (0 : Int32))) (V1 : Fld Z h0 s1 "java/lang/String" "value" "[B" (.ref t1)) (A1 : Arf Z h0 t1 .byte n1 (own_bf G1)) (D1 : own_der G1) (hn1 : n1 ≤ 16) (gv : n0 ≤ bv) (net : t1 ≠ bv) (Ab : Arf Z h0 bv .byte 16 (own_bf G)) (Db : own_der G) (hp : p.toInt = (P : Int)) (hP : P + n1 ≤ 16) :
    Con Z n0 (⟨"java/lang/String", "getBytes", "([BIB)V"⟩ : MethodName) jdk_42_method_147_code 4 none [] ({ frames := 1, cells := 0, slots := 0, locals := 18 } : Room) #[(.ref s1), (.ref bv), (.int p), (.int (0 : Int32))] h0 [bv] (fun v h sp => v = none ∧ Keep h0 h [bv] ∧ ∃ G3, Arf Z h bv .byte 16 (own_bf G3) ∧ own_der G3 ∧ (∀ i, i < n1 → own_dec 0 G3 (P + i) = own_dec 0 G1 i) ∧ ∀ i, i < P → own_dec 0 G3 i = own_dec 0 G i) := by
  refine Con.intro (L0 := #[.val (.ref s1), .val (.ref bv), .val (.int p), .val (.int (0 : Int32))]) ⟨_, own_EW hw⟩ (plainFor_of_name (by first | (simp [plainName, overriddenIn]; done) | decide +kernel)) (fun m => by first | (simp [entryFrame, mkF, argsToLocals, Value.category]; done) | rfl) ?_
  intro C k
  have qD : (p <<< ((0 : Int32) &&& 31)).toInt = ((P : Nat) : Int) := own_sl0 hp (by omega)
  have qM : (Nat.toInt32 n1).toInt = ((n1 : Nat) : Int) := own_tn (by omega)
  replace k := k.aloadN d15_0 rfl rfl
  obtain ⟨_, _, sp1, ⟨rfl, rfl⟩, k⟩ := k.callV (y := (⟨"java/lang/String", "coder", "()B"⟩ : MethodName)) (z := (⟨"java/lang/String", "coder", "()B"⟩ : MethodName)) (a := s1) d15_1 (hw _ (List.mem_of_getElem? (i := 64) rfl)) (hw _ (List.mem_of_getElem? (i := 65) rfl)) (fun s hs => notFace_of_selects (args := #[]) (mvT hs (hw _ (List.mem_of_getElem? (i := 67) rfl)))) (hw _ (List.mem_of_getElem? (i := 67) rfl)) (hw _ (List.mem_of_getElem? (i := 66) rfl)) (hw _ (List.mem_of_getElem? (i := 6) rfl)) (hw _ (List.mem_of_getElem? (i := 68) rfl)) E1 (W := 0) (argsL := []) (rest := []) (rm11 Z a0 hw zC vF s1 (0 : Int32) h0 n0 Z0 S_C S_F S_AD S_HI S_LO hC hF C1 (Or.inl rfl)) all0 rfl (pd_0) rfl rfl rfl (by decide) (by decide) (by decide) (by decide) (by decide)
  replace k := (k [] all0).sfx [bv] rfl
  replace k := k.stk [(.int (0 : Int32))] rfl
  replace k := k.iloadN d15_4 rfl
  replace k := k.icmpNo d15_5 (by decide)
  replace k := k.aloadN d15_8 rfl rfl
  replace k := k.getF d15_9 (host := "") (Or.inl (hw _ (List.mem_of_getElem? (i := 24) rfl))) Via.refl V1
  replace k := k.iconst (0 : Int32) d15_12 rfl
  replace k := k.aloadN d15_13 rfl rfl
  replace k := k.iloadN d15_14 rfl
  replace k := k.iloadN d15_15 rfl
  replace k := k.ishl d15_16
  replace k := k.aloadN d15_17 rfl rfl
  replace k := k.getF d15_18 (host := "") (Or.inl (hw _ (List.mem_of_getElem? (i := 24) rfl))) Via.refl V1
  replace k := k.arrlen d15_21 A1 (Nat.toInt32 n1) rfl
  obtain ⟨h101, K101, A101, k⟩ := k.bcopy (W := 0) d15_22 (hw _ (List.mem_of_getElem? (i := 93) rfl)) (hw _ (List.mem_of_getElem? (i := 96) rfl)) (hw _ (List.mem_of_getElem? (i := 94) rfl)) (hw _ (List.mem_of_getElem? (i := 95) rfl)) A1 Ab (by omega) (by decide) (fun i _ => own_derF D1 i) (fun i _ => own_derF Db i) 0 P n1 (by decide) (by decide) (own_at qD) (own_nn qD) (own_at qM) (own_nn qM) (by omega) (by omega) gv (List.mem_of_getElem? (i := 0) rfl) rfl rfl (by decide) (by decide)
  have Kc102 : Keep h0 h101 [bv] := (Keep.refl h0 ([bv] : List Addr)).trans K101 (allS (Or.inl (List.mem_of_getElem? (i := 0) rfl)) all0)
  replace k := k.goto (pc' := 43) d15_25 (by decide) (by decide)
  exact k.vret d15_43 rfl (fun sp hsp => ⟨rfl, Kc102, _, (own_cpA A101), own_cpD D1 Db, own_cp0, own_cq0⟩) (by decide) (by decide)

set_option maxRecDepth 65536 in
set_option maxHeartbeats 40000000 in
theorem rm15_11 (Z : State) (a0 : Array Value) (hw : ∀ d ∈ tables_1, d.before a0 Z = true) (zC : Int32) (vF : Value) (s1 t1 bv : Addr) (p : Int32) (n1 P : Nat) (G1 G : Nat → Int32) (h0 : Heap) (n0 : Nat) (Z0 : n0 ≤ h0.size) (S_C : Sta Z h0 "java/lang/String" "COMPACT_STRINGS" "Z" (.int zC)) (S_F : Sta Z h0 "jdk/internal/util/Preconditions" "SIOOBE_FORMATTER" "Ljava/util/function/BiFunction;" vF) (S_AD : Sta Z h0 "java/lang/StringUTF16" "$assertionsDisabled" "Z" (.int (1 : Int32))) (S_HI : Sta Z h0 "java/lang/StringUTF16" "HI_BYTE_SHIFT" "I" (.int (0 : Int32))) (S_LO : Sta Z h0 "java/lang/StringUTF16" "LO_BYTE_SHIFT" "I" (.int (8 : Int32))) (hC : ¬ (zC = (0 : Int32))) (hF : vF = .null ∨ ∃ b, vF = .ref b) (E1 : Exa Z h0 s1 "java/lang/String") (C1 : Fld Z h0 s1 "java/lang/String" "coder" "B" (.int (1 : Int32))) (V1 : Fld Z h0 s1 "java/lang/String" "value" "[B" (.ref t1)) (A1 : Arf Z h0 t1 .byte (2 * n1) (own_bf G1)) (D1 : own_der G1) (hn1 : n1 ≤ 16) (gv : n0 ≤ bv) (net : t1 ≠ bv) (Ab : Arf Z h0 bv .byte 32 (own_bf G)) (Db : own_der G) (hp : p.toInt = (P : Int)) (hP : P + n1 ≤ 16) :
    Con Z n0 (⟨"java/lang/String", "getBytes", "([BIB)V"⟩ : MethodName) jdk_42_method_147_code 4 none [] ({ frames := 1, cells := 0, slots := 0, locals := 18 } : Room) #[(.ref s1), (.ref bv), (.int p), (.int (1 : Int32))] h0 [bv] (fun v h sp => v = none ∧ Keep h0 h [bv] ∧ ∃ G3, Arf Z h bv .byte 32 (own_bf G3) ∧ own_der G3 ∧ (∀ i, i < n1 → own_dec 1 G3 (P + i) = own_dec 1 G1 i) ∧ ∀ i, i < P → own_dec 1 G3 i = own_dec 1 G i) := by
  refine Con.intro (L0 := #[.val (.ref s1), .val (.ref bv), .val (.int p), .val (.int (1 : Int32))]) ⟨_, own_EW hw⟩ (plainFor_of_name (by first | (simp [plainName, overriddenIn]; done) | decide +kernel)) (fun m => by first | (simp [entryFrame, mkF, argsToLocals, Value.category]; done) | rfl) ?_
  intro C k
  have qD : (p <<< ((1 : Int32) &&& 31)).toInt = ((2 * P : Nat) : Int) := own_sl1 hp (by omega)
  have qM : (Nat.toInt32 (2 * n1)).toInt = (((2 * n1) : Nat) : Int) := own_tn (by omega)
  replace k := k.aloadN d15_0 rfl rfl
  obtain ⟨_, _, sp1, ⟨rfl, rfl⟩, k⟩ := k.callV (y := (⟨"java/lang/String", "coder", "()B"⟩ : MethodName)) (z := (⟨"java/lang/String", "coder", "()B"⟩ : MethodName)) (a := s1) d15_1 (hw _ (List.mem_of_getElem? (i := 64) rfl)) (hw _ (List.mem_of_getElem? (i := 65) rfl)) (fun s hs => notFace_of_selects (args := #[]) (mvT hs (hw _ (List.mem_of_getElem? (i := 67) rfl)))) (hw _ (List.mem_of_getElem? (i := 67) rfl)) (hw _ (List.mem_of_getElem? (i := 66) rfl)) (hw _ (List.mem_of_getElem? (i := 6) rfl)) (hw _ (List.mem_of_getElem? (i := 68) rfl)) E1 (W := 0) (argsL := []) (rest := []) (rm11 Z a0 hw zC vF s1 (1 : Int32) h0 n0 Z0 S_C S_F S_AD S_HI S_LO hC hF C1 (Or.inr rfl)) all0 rfl (pd_0) rfl rfl rfl (by decide) (by decide) (by decide) (by decide) (by decide)
  replace k := (k [] all0).sfx [bv] rfl
  replace k := k.stk [(.int (1 : Int32))] rfl
  replace k := k.iloadN d15_4 rfl
  replace k := k.icmpNo d15_5 (by decide)
  replace k := k.aloadN d15_8 rfl rfl
  replace k := k.getF d15_9 (host := "") (Or.inl (hw _ (List.mem_of_getElem? (i := 24) rfl))) Via.refl V1
  replace k := k.iconst (0 : Int32) d15_12 rfl
  replace k := k.aloadN d15_13 rfl rfl
  replace k := k.iloadN d15_14 rfl
  replace k := k.iloadN d15_15 rfl
  replace k := k.ishl d15_16
  replace k := k.aloadN d15_17 rfl rfl
  replace k := k.getF d15_18 (host := "") (Or.inl (hw _ (List.mem_of_getElem? (i := 24) rfl))) Via.refl V1
  replace k := k.arrlen d15_21 A1 (Nat.toInt32 (2 * n1)) rfl
  obtain ⟨h101, K101, A101, k⟩ := k.bcopy (W := 0) d15_22 (hw _ (List.mem_of_getElem? (i := 93) rfl)) (hw _ (List.mem_of_getElem? (i := 96) rfl)) (hw _ (List.mem_of_getElem? (i := 94) rfl)) (hw _ (List.mem_of_getElem? (i := 95) rfl)) A1 Ab (by omega) (by decide) (fun i _ => own_derF D1 i) (fun i _ => own_derF Db i) 0 (2 * P) (2 * n1) (by decide) (by decide) (own_at qD) (own_nn qD) (own_at qM) (own_nn qM) (by omega) (by omega) gv (List.mem_of_getElem? (i := 0) rfl) rfl rfl (by decide) (by decide)
  have Kc102 : Keep h0 h101 [bv] := (Keep.refl h0 ([bv] : List Addr)).trans K101 (allS (Or.inl (List.mem_of_getElem? (i := 0) rfl)) all0)
  replace k := k.goto (pc' := 43) d15_25 (by decide) (by decide)
  exact k.vret d15_43 rfl (fun sp hsp => ⟨rfl, Kc102, _, (own_cpA A101), own_cpD D1 Db, own_cp1, own_cq1⟩) (by decide) (by decide)

theorem d15_28 : decode jdk_42_method_147_code 28 = .ok (.aload_n 0, 1) := by decide +kernel
theorem d15_29 : decode jdk_42_method_147_code 29 = .ok (.getfield 9, 3) := by decide +kernel
theorem d15_32 : decode jdk_42_method_147_code 32 = .ok (.iconst 0, 1) := by decide +kernel
theorem d15_33 : decode jdk_42_method_147_code 33 = .ok (.aload_n 1, 1) := by decide +kernel
theorem d15_34 : decode jdk_42_method_147_code 34 = .ok (.iload_n 2, 1) := by decide +kernel
theorem d15_35 : decode jdk_42_method_147_code 35 = .ok (.aload_n 0, 1) := by decide +kernel
theorem d15_36 : decode jdk_42_method_147_code 36 = .ok (.getfield 9, 3) := by decide +kernel
theorem d15_39 : decode jdk_42_method_147_code 39 = .ok (.arraylength, 1) := by decide +kernel
theorem d15_40 : decode jdk_42_method_147_code 40 = .ok (.invokestatic 106, 3) := by decide +kernel
set_option maxRecDepth 65536 in
set_option maxHeartbeats 40000000 in
theorem rm15_10 (Z : State) (a0 : Array Value) (hw : ∀ d ∈ tables_1, d.before a0 Z = true) (zC : Int32) (vF : Value) (s1 t1 bv : Addr) (p : Int32) (n1 P : Nat) (G1 G : Nat → Int32) (h0 : Heap) (n0 : Nat) (Z0 : n0 ≤ h0.size) (S_C : Sta Z h0 "java/lang/String" "COMPACT_STRINGS" "Z" (.int zC)) (S_F : Sta Z h0 "jdk/internal/util/Preconditions" "SIOOBE_FORMATTER" "Ljava/util/function/BiFunction;" vF) (S_AD : Sta Z h0 "java/lang/StringUTF16" "$assertionsDisabled" "Z" (.int (1 : Int32))) (S_HI : Sta Z h0 "java/lang/StringUTF16" "HI_BYTE_SHIFT" "I" (.int (0 : Int32))) (S_LO : Sta Z h0 "java/lang/StringUTF16" "LO_BYTE_SHIFT" "I" (.int (8 : Int32))) (hC : ¬ (zC = (0 : Int32))) (hF : vF = .null ∨ ∃ b, vF = .ref b) (E1 : Exa Z h0 s1 "java/lang/String") (C1 : Fld Z h0 s1 "java/lang/String" "coder" "B" (.int (0 : Int32))) (V1 : Fld Z h0 s1 "java/lang/String" "value" "[B" (.ref t1)) (A1 : Arf Z h0 t1 .byte n1 (own_bf G1)) (D1 : own_der G1) (hn1 : n1 ≤ 16) (gv : n0 ≤ bv) (net : t1 ≠ bv) (Ab : Arf Z h0 bv .byte 32 (own_bf G)) (Db : own_der G) (hp : p.toInt = (P : Int)) (hP : P + n1 ≤ 16) :
    Con Z n0 (⟨"java/lang/String", "getBytes", "([BIB)V"⟩ : MethodName) jdk_42_method_147_code 4 none [] ({ frames := 5, cells := 0, slots := 0, locals := 76 } : Room) #[(.ref s1), (.ref bv), (.int p), (.int (1 : Int32))] h0 [bv] (fun v h sp => v = none ∧ Keep h0 h [bv] ∧ ∃ G3, Arf Z h bv .byte 32 (own_bf G3) ∧ own_der G3 ∧ (∀ i, i < n1 → own_dec 1 G3 (P + i) = own_dec 0 G1 i) ∧ ∀ i, i < P → own_dec 1 G3 i = own_dec 1 G i) := by
  refine Con.intro (L0 := #[.val (.ref s1), .val (.ref bv), .val (.int p), .val (.int (1 : Int32))]) ⟨_, own_EW hw⟩ (plainFor_of_name (by first | (simp [plainName, overriddenIn]; done) | decide +kernel)) (fun m => by first | (simp [entryFrame, mkF, argsToLocals, Value.category]; done) | rfl) ?_
  intro C k
  have qD : (p <<< ((1 : Int32) &&& 31)).toInt = ((2 * P : Nat) : Int) := own_sl1 hp (by omega)
  have qM : (Nat.toInt32 n1).toInt = ((n1 : Nat) : Int) := own_tn (by omega)
  replace k := k.aloadN d15_0 rfl rfl
  obtain ⟨_, _, sp1, ⟨rfl, rfl⟩, k⟩ := k.callV (y := (⟨"java/lang/String", "coder", "()B"⟩ : MethodName)) (z := (⟨"java/lang/String", "coder", "()B"⟩ : MethodName)) (a := s1) d15_1 (hw _ (List.mem_of_getElem? (i := 64) rfl)) (hw _ (List.mem_of_getElem? (i := 65) rfl)) (fun s hs => notFace_of_selects (args := #[]) (mvT hs (hw _ (List.mem_of_getElem? (i := 67) rfl)))) (hw _ (List.mem_of_getElem? (i := 67) rfl)) (hw _ (List.mem_of_getElem? (i := 66) rfl)) (hw _ (List.mem_of_getElem? (i := 6) rfl)) (hw _ (List.mem_of_getElem? (i := 68) rfl)) E1 (W := 0) (argsL := []) (rest := []) (rm11 Z a0 hw zC vF s1 (0 : Int32) h0 n0 Z0 S_C S_F S_AD S_HI S_LO hC hF C1 (Or.inl rfl)) all0 rfl (pd_0) rfl rfl rfl (by decide) (by decide) (by decide) (by decide) (by decide)
  replace k := (k [] all0).sfx [bv] rfl
  replace k := k.stk [(.int (0 : Int32))] rfl
  replace k := k.iloadN d15_4 rfl
  replace k := k.icmpYes (pc' := 28) d15_5 (by decide) (by decide) (by decide)
  replace k := k.aloadN d15_28 rfl rfl
  replace k := k.getF d15_29 (host := "") (Or.inl (hw _ (List.mem_of_getElem? (i := 24) rfl))) Via.refl V1
  replace k := k.iconst (0 : Int32) d15_32 rfl
  replace k := k.aloadN d15_33 rfl rfl
  replace k := k.iloadN d15_34 rfl
  replace k := k.aloadN d15_35 rfl rfl
  replace k := k.getF d15_36 (host := "") (Or.inl (hw _ (List.mem_of_getElem? (i := 24) rfl))) Via.refl V1
  replace k := k.arrlen d15_39 A1 (Nat.toInt32 n1) rfl
  obtain ⟨_, hv101, sp40, ⟨rfl, Kv101, Hv101, Av101, Dv101, Pv101, Rv101⟩, k⟩ := k.callS (y := (⟨"java/lang/StringLatin1", "inflate", "([BI[BII)V"⟩ : MethodName)) d15_40 (hw _ (List.mem_of_getElem? (i := 237) rfl)) (hw _ (List.mem_of_getElem? (i := 220) rfl)) (hw _ (List.mem_of_getElem? (i := 166) rfl)) (hw _ (List.mem_of_getElem? (i := 221) rfl)) (W := 0) (argsL := [(.ref t1), (.int (0 : Int32)), (.ref bv), (.int p), (.int (Nat.toInt32 n1))]) (rest := []) (rm45 Z a0 hw zC vF t1 bv p (Nat.toInt32 n1) n1 P n1 G1 G h0 n0 Z0 S_C S_F S_AD S_HI S_LO hC hF net gv A1 Ab Db hp qM (by omega) hP) (allS (List.mem_of_getElem? (i := 0) rfl) all0) rfl (pd_22) rfl rfl rfl (by decide) (by decide) (by decide) (by decide) (by decide)
  have Kc102 : Keep h0 hv101 [bv] := (Keep.refl h0 ([bv] : List Addr)).trans Kv101 (allS (Or.inl (List.mem_of_getElem? (i := 0) rfl)) all0)
  replace k := (k [] all0).sfx [bv] rfl
  replace k := k.stk [] rfl
  exact k.vret d15_43 rfl (fun sp hsp => ⟨rfl, Kc102, _, Av101, Dv101, Pv101, Rv101⟩) (by decide) (by decide)

theorem d13_0 : decode jdk_68_method_73_code 0 = .ok (.aload_n 0, 1) := by decide +kernel
theorem d13_1 : decode jdk_68_method_73_code 1 = .ok (.aload_n 2, 1) := by decide +kernel
theorem d13_2 : decode jdk_68_method_73_code 2 = .ok (.invokevirtual 397, 3) := by decide +kernel
theorem d13_5 : decode jdk_68_method_73_code 5 = .ok (.aload_n 2, 1) := by decide +kernel
theorem d13_6 : decode jdk_68_method_73_code 6 = .ok (.aload_n 0, 1) := by decide +kernel
theorem d13_7 : decode jdk_68_method_73_code 7 = .ok (.getfield 15, 3) := by decide +kernel
theorem d13_10 : decode jdk_68_method_73_code 10 = .ok (.iload_n 1, 1) := by decide +kernel
theorem d13_11 : decode jdk_68_method_73_code 11 = .ok (.aload_n 0, 1) := by decide +kernel
theorem d13_12 : decode jdk_68_method_73_code 12 = .ok (.getfield 22, 3) := by decide +kernel
theorem d13_15 : decode jdk_68_method_73_code 15 = .ok (.invokevirtual 399, 3) := by decide +kernel
theorem d13_18 : decode jdk_68_method_73_code 18 = .ok (.return_, 1) := by decide +kernel
set_option maxRecDepth 65536 in
set_option maxHeartbeats 40000000 in
theorem rm13_00 (Z : State) (a0 : Array Value) (hw : ∀ d ∈ tables_1, d.before a0 Z = true) (zC : Int32) (vF : Value) (sb bv : Addr) (kq : Nat) (G : Nat → Int32) (s1 t1 : Addr) (p : Int32) (n1 : Nat) (G1 : Nat → Int32) (h0 : Heap) (n0 : Nat) (Z0 : n0 ≤ h0.size) (S_C : Sta Z h0 "java/lang/String" "COMPACT_STRINGS" "Z" (.int zC)) (S_F : Sta Z h0 "jdk/internal/util/Preconditions" "SIOOBE_FORMATTER" "Ljava/util/function/BiFunction;" vF) (S_AD : Sta Z h0 "java/lang/StringUTF16" "$assertionsDisabled" "Z" (.int (1 : Int32))) (S_HI : Sta Z h0 "java/lang/StringUTF16" "HI_BYTE_SHIFT" "I" (.int (0 : Int32))) (S_LO : Sta Z h0 "java/lang/StringUTF16" "LO_BYTE_SHIFT" "I" (.int (8 : Int32))) (hC : ¬ (zC = (0 : Int32))) (hF : vF = .null ∨ ∃ b, vF = .ref b) (gb : n0 ≤ sb) (gv : n0 ≤ bv) (neb : sb ≠ bv) (Eb : Exa Z h0 sb "java/lang/StringBuilder") (Bc : Fld Z h0 sb "java/lang/AbstractStringBuilder" "coder" "B" (.int (0 : Int32))) (Bn : Fld Z h0 sb "java/lang/AbstractStringBuilder" "count" "I" (.int (Nat.toInt32 kq))) (Bm : Fld Z h0 sb "java/lang/AbstractStringBuilder" "maybeLatin1" "Z" (.int (0 : Int32))) (Bv : Fld Z h0 sb "java/lang/AbstractStringBuilder" "value" "[B" (.ref bv)) (Ab : Arf Z h0 bv .byte 16 (own_bf G)) (Db : own_der G) (hk : kq ≤ 16) (E1 : Exa Z h0 s1 "java/lang/String") (C1 : Fld Z h0 s1 "java/lang/String" "coder" "B" (.int (0 : Int32))) (V1 : Fld Z h0 s1 "java/lang/String" "value" "[B" (.ref t1)) (A1 : Arf Z h0 t1 .byte n1 (own_bf G1)) (D1 : own_der G1) (hn1 : n1 ≤ 16) (nes : s1 ≠ sb) (nes2 : s1 ≠ bv) (net : t1 ≠ sb) (net2 : t1 ≠ bv) (hkn : kq + n1 ≤ 16) (hp : p.toInt = (kq : Int)) :
    Con Z n0 (⟨"java/lang/AbstractStringBuilder", "putStringAt", "(ILjava/lang/String;)V"⟩ : MethodName) jdk_68_method_73_code 3 none [] ({ frames := 2, cells := 0, slots := 0, locals := 33 } : Room) #[(.ref sb), (.int p), (.ref s1)] h0 [sb, bv] (fun v h sp => v = none ∧ Keep h0 h [sb, bv] ∧ ∃ b2 c2 G2, (b2 = bv ∨ h0.size ≤ b2) ∧ n0 ≤ b2 ∧ sb ≠ b2 ∧ sp b2 ∧ (c2 = 0 ∨ c2 = 1) ∧ Fld Z h sb "java/lang/AbstractStringBuilder" "coder" "B" (.int c2) ∧ Fld Z h sb "java/lang/AbstractStringBuilder" "count" "I" (.int (Nat.toInt32 kq)) ∧ Fld Z h sb "java/lang/AbstractStringBuilder" "maybeLatin1" "Z" (.int (0 : Int32)) ∧ Fld Z h sb "java/lang/AbstractStringBuilder" "value" "[B" (.ref b2) ∧ Arf Z h b2 .byte (own_ln c2 16) (own_bf G2) ∧ own_der G2 ∧ (∀ i, i < kq → own_dec c2 G2 i = own_dec 0 G i) ∧ ∀ i, i < n1 → own_dec c2 G2 (kq + i) = own_dec 0 G1 i) := by
  refine Con.intro (L0 := #[.val (.ref sb), .val (.int p), .val (.ref s1)]) ⟨_, own_EW hw⟩ (plainFor_of_name (by first | (simp [plainName, overriddenIn]; done) | decide +kernel)) (fun m => by first | (simp [entryFrame, mkF, argsToLocals, Value.category]; done) | rfl) ?_
  intro C k
  replace k := k.aloadN d13_0 rfl rfl
  replace k := k.aloadN d13_1 rfl rfl
  obtain ⟨_, _, sp2, ⟨rfl, rfl⟩, k⟩ := k.callP (y := (⟨"java/lang/AbstractStringBuilder", "inflateIfNeededFor", "(Ljava/lang/String;)V"⟩ : MethodName)) (a := sb) d13_2 (hw _ (List.mem_of_getElem? (i := 82) rfl)) (hw _ (List.mem_of_getElem? (i := 84) rfl)) (hw _ (List.mem_of_getElem? (i := 85) rfl)) (hw _ (List.mem_of_getElem? (i := 83) rfl)) (hw _ (List.mem_of_getElem? (i := 40) rfl)) (hw _ (List.mem_of_getElem? (i := 86) rfl)) Eb (W := 0) (argsL := [(.ref s1)]) (rest := []) (rm14_00 Z a0 hw zC vF sb s1 h0 n0 Z0 S_C S_F S_AD S_HI S_LO hC hF Eb Bc E1 C1) all0 rfl (pd_25) rfl rfl rfl (by decide) (by decide) (by decide) (by decide) (by decide)
  replace k := (k [] all0).sfx [sb, bv] rfl
  replace k := k.stk [] rfl
  replace k := k.aloadN d13_5 rfl rfl
  replace k := k.aloadN d13_6 rfl rfl
  replace k := k.getF d13_7 (host := "") (Or.inl (hw _ (List.mem_of_getElem? (i := 44) rfl))) Via.refl Bv
  replace k := k.iloadN d13_10 rfl
  replace k := k.aloadN d13_11 rfl rfl
  replace k := k.getF d13_12 (host := "") (Or.inl (hw _ (List.mem_of_getElem? (i := 46) rfl))) Via.refl Bc
  obtain ⟨_, hw101, sp15, ⟨rfl, Kw101, Jw101, Aw101, Dw101, Pw101, Rw101⟩, k⟩ := k.callV (y := (⟨"java/lang/String", "getBytes", "([BIB)V"⟩ : MethodName)) (z := (⟨"java/lang/String", "getBytes", "([BIB)V"⟩ : MethodName)) (a := s1) d13_15 (hw _ (List.mem_of_getElem? (i := 88) rfl)) (hw _ (List.mem_of_getElem? (i := 89) rfl)) (fun s hs => notFace_of_selects (args := #[]) (mvT hs (hw _ (List.mem_of_getElem? (i := 91) rfl)))) (hw _ (List.mem_of_getElem? (i := 91) rfl)) (hw _ (List.mem_of_getElem? (i := 90) rfl)) (hw _ (List.mem_of_getElem? (i := 6) rfl)) (hw _ (List.mem_of_getElem? (i := 92) rfl)) E1 (W := 0) (argsL := [(.ref bv), (.int p), (.int (0 : Int32))]) (rest := []) (rm15_00 Z a0 hw zC vF s1 t1 bv p n1 kq G1 G h0 n0 Z0 S_C S_F S_AD S_HI S_LO hC hF E1 C1 V1 A1 D1 hn1 gv net2 Ab Db hp hkn) (allS (List.mem_of_getElem? (i := 1) rfl) all0) rfl (pd_26) rfl rfl rfl (by decide) (by decide) (by decide) (by decide) (by decide)
  have Kc102 : Keep h0 hw101 [sb, bv] := (Keep.refl h0 ([sb, bv] : List Addr)).trans Kw101 (allS (Or.inl (List.mem_of_getElem? (i := 1) rfl)) all0)
  replace k := (k [] all0).sfx [sb, bv] rfl
  replace k := k.stk [] rfl
  exact k.vret d13_18 rfl (fun sp hsp => ⟨rfl, Kc102, _, (0 : Int32), Jw101, Or.inl rfl, gv, neb, (hsp _ (List.mem_of_getElem? (i := 1) rfl)), Or.inl rfl, (Bc.keep Kw101 (ninS neb nin0)), (Bn.keep Kw101 (ninS neb nin0)), (Bm.keep Kw101 (ninS neb nin0)), (Bv.keep Kw101 (ninS neb nin0)), Aw101, Dw101, Rw101, Pw101⟩) (by decide) (by decide)

set_option maxRecDepth 65536 in
set_option maxHeartbeats 40000000 in
theorem rm13_01 (Z : State) (a0 : Array Value) (hw : ∀ d ∈ tables_1, d.before a0 Z = true) (zC : Int32) (vF : Value) (sb bv : Addr) (kq : Nat) (G : Nat → Int32) (s1 t1 : Addr) (p : Int32) (n1 : Nat) (G1 : Nat → Int32) (h0 : Heap) (n0 : Nat) (Z0 : n0 ≤ h0.size) (S_C : Sta Z h0 "java/lang/String" "COMPACT_STRINGS" "Z" (.int zC)) (S_F : Sta Z h0 "jdk/internal/util/Preconditions" "SIOOBE_FORMATTER" "Ljava/util/function/BiFunction;" vF) (S_AD : Sta Z h0 "java/lang/StringUTF16" "$assertionsDisabled" "Z" (.int (1 : Int32))) (S_HI : Sta Z h0 "java/lang/StringUTF16" "HI_BYTE_SHIFT" "I" (.int (0 : Int32))) (S_LO : Sta Z h0 "java/lang/StringUTF16" "LO_BYTE_SHIFT" "I" (.int (8 : Int32))) (hC : ¬ (zC = (0 : Int32))) (hF : vF = .null ∨ ∃ b, vF = .ref b) (gb : n0 ≤ sb) (gv : n0 ≤ bv) (neb : sb ≠ bv) (Eb : Exa Z h0 sb "java/lang/StringBuilder") (Bc : Fld Z h0 sb "java/lang/AbstractStringBuilder" "coder" "B" (.int (0 : Int32))) (Bn : Fld Z h0 sb "java/lang/AbstractStringBuilder" "count" "I" (.int (Nat.toInt32 kq))) (Bm : Fld Z h0 sb "java/lang/AbstractStringBuilder" "maybeLatin1" "Z" (.int (0 : Int32))) (Bv : Fld Z h0 sb "java/lang/AbstractStringBuilder" "value" "[B" (.ref bv)) (Ab : Arf Z h0 bv .byte 16 (own_bf G)) (Db : own_der G) (hk : kq ≤ 16) (E1 : Exa Z h0 s1 "java/lang/String") (C1 : Fld Z h0 s1 "java/lang/String" "coder" "B" (.int (1 : Int32))) (V1 : Fld Z h0 s1 "java/lang/String" "value" "[B" (.ref t1)) (A1 : Arf Z h0 t1 .byte (2 * n1) (own_bf G1)) (D1 : own_der G1) (hn1 : n1 ≤ 16) (nes : s1 ≠ sb) (nes2 : s1 ≠ bv) (net : t1 ≠ sb) (net2 : t1 ≠ bv) (hkn : kq + n1 ≤ 16) (hp : p.toInt = (kq : Int)) :
    Con Z n0 (⟨"java/lang/AbstractStringBuilder", "putStringAt", "(ILjava/lang/String;)V"⟩ : MethodName) jdk_68_method_73_code 3 none [] ({ frames := 7, cells := 1, slots := 32, locals := 102 } : Room) #[(.ref sb), (.int p), (.ref s1)] h0 [sb, bv] (fun v h sp => v = none ∧ Keep h0 h [sb, bv] ∧ ∃ b2 c2 G2, (b2 = bv ∨ h0.size ≤ b2) ∧ n0 ≤ b2 ∧ sb ≠ b2 ∧ sp b2 ∧ (c2 = 0 ∨ c2 = 1) ∧ Fld Z h sb "java/lang/AbstractStringBuilder" "coder" "B" (.int c2) ∧ Fld Z h sb "java/lang/AbstractStringBuilder" "count" "I" (.int (Nat.toInt32 kq)) ∧ Fld Z h sb "java/lang/AbstractStringBuilder" "maybeLatin1" "Z" (.int (0 : Int32)) ∧ Fld Z h sb "java/lang/AbstractStringBuilder" "value" "[B" (.ref b2) ∧ Arf Z h b2 .byte (own_ln c2 16) (own_bf G2) ∧ own_der G2 ∧ (∀ i, i < kq → own_dec c2 G2 i = own_dec 0 G i) ∧ ∀ i, i < n1 → own_dec c2 G2 (kq + i) = own_dec 1 G1 i) := by
  refine Con.intro (L0 := #[.val (.ref sb), .val (.int p), .val (.ref s1)]) ⟨_, own_EW hw⟩ (plainFor_of_name (by first | (simp [plainName, overriddenIn]; done) | decide +kernel)) (fun m => by first | (simp [entryFrame, mkF, argsToLocals, Value.category]; done) | rfl) ?_
  intro C k
  replace k := k.aloadN d13_0 rfl rfl
  replace k := k.aloadN d13_1 rfl rfl
  obtain ⟨_, hf101, sp2, ⟨rfl, Kf101, bf101, If101, zf101, gf101, sf101, Bcrf101, Bctf101, Bm1f101, Bvef101, Af101, Df101, Pf101⟩, k⟩ := k.callP (y := (⟨"java/lang/AbstractStringBuilder", "inflateIfNeededFor", "(Ljava/lang/String;)V"⟩ : MethodName)) (a := sb) d13_2 (hw _ (List.mem_of_getElem? (i := 82) rfl)) (hw _ (List.mem_of_getElem? (i := 84) rfl)) (hw _ (List.mem_of_getElem? (i := 85) rfl)) (hw _ (List.mem_of_getElem? (i := 83) rfl)) (hw _ (List.mem_of_getElem? (i := 40) rfl)) (hw _ (List.mem_of_getElem? (i := 86) rfl)) Eb (W := 0) (argsL := [(.ref s1)]) (rest := []) (rm14_01 Z a0 hw zC vF sb bv kq G s1 h0 n0 Z0 S_C S_F S_AD S_HI S_LO hC hF gb gv neb Eb Bc Bn Bm Bv Ab Db hk E1 C1) (allS (List.mem_of_getElem? (i := 0) rfl) all0) rfl (pd_25) rfl rfl rfl (by decide) (by decide) (by decide) (by decide) (by decide)
  have Kc102 : Keep h0 hf101 [sb, bv] := (Keep.refl h0 ([sb, bv] : List Addr)).trans Kf101 (allS (Or.inl (List.mem_of_getElem? (i := 0) rfl)) all0)
  replace k := (k [bf101] (allS ⟨sf101, Af101.lt⟩ all0)).sfx [bf101, sb, bv] rfl
  replace k := k.stk [] rfl
  have zz103 : h0.size ≤ bf101 := Nat.le_trans (Keep.refl h0 ([sb, bv] : List Addr)).1 zf101
  replace k := k.aloadN d13_5 rfl rfl
  replace k := k.aloadN d13_6 rfl rfl
  replace k := k.getF d13_7 (host := "") (Or.inl (hw _ (List.mem_of_getElem? (i := 44) rfl))) Via.refl Bvef101
  replace k := k.iloadN d13_10 rfl
  replace k := k.aloadN d13_11 rfl rfl
  replace k := k.getF d13_12 (host := "") (Or.inl (hw _ (List.mem_of_getElem? (i := 46) rfl))) Via.refl Bcrf101
  obtain ⟨_, hw104, sp15, ⟨rfl, Kw104, Jw104, Aw104, Dw104, Pw104, Rw104⟩, k⟩ := k.callV (y := (⟨"java/lang/String", "getBytes", "([BIB)V"⟩ : MethodName)) (z := (⟨"java/lang/String", "getBytes", "([BIB)V"⟩ : MethodName)) (a := s1) d13_15 (hw _ (List.mem_of_getElem? (i := 88) rfl)) (hw _ (List.mem_of_getElem? (i := 89) rfl)) (fun s hs => notFace_of_selects (args := #[]) (mvT hs (hw _ (List.mem_of_getElem? (i := 91) rfl)))) (hw _ (List.mem_of_getElem? (i := 91) rfl)) (hw _ (List.mem_of_getElem? (i := 90) rfl)) (hw _ (List.mem_of_getElem? (i := 6) rfl)) (hw _ (List.mem_of_getElem? (i := 92) rfl)) (E1.keep Kf101) (W := 0) (argsL := [(.ref bf101), (.int p), (.int (1 : Int32))]) (rest := []) (rm15_11 Z a0 hw zC vF s1 t1 bf101 p n1 kq G1 If101 hf101 n0 (Nat.le_trans Z0 Kf101.1) (Sta.keepN S_C Kf101 (allS (Exa.nost Eb) all0)) (Sta.keepN S_F Kf101 (allS (Exa.nost Eb) all0)) (Sta.keepN S_AD Kf101 (allS (Exa.nost Eb) all0)) (Sta.keepN S_HI Kf101 (allS (Exa.nost Eb) all0)) (Sta.keepN S_LO Kf101 (allS (Exa.nost Eb) all0)) hC hF (E1.keep Kf101) (C1.keep Kf101 (ninS nes nin0)) (V1.keep Kf101 (ninS nes nin0)) (A1.keep Kf101 (ninS net nin0)) D1 hn1 gf101 (Nat.ne_of_lt (Nat.lt_of_lt_of_le A1.lt zf101)) Af101 Df101 hp hkn) (allS (List.mem_of_getElem? (i := 0) rfl) all0) rfl (pd_26) rfl rfl rfl (by decide) (by decide) (by decide) (by decide) (by decide)
  have Kc105 : Keep h0 hw104 [sb, bv] := Kc102.trans Kw104 (allS (Or.inr zz103) all0)
  replace k := (k [] all0).sfx [bf101, sb, bv] rfl
  replace k := k.stk [] rfl
  exact k.vret d13_18 rfl (fun sp hsp => ⟨rfl, Kc105, _, 1, Jw104, Or.inr zz103, gf101, (Nat.ne_of_lt (Nat.lt_of_lt_of_le Eb.lt zf101)), (hsp _ (List.mem_of_getElem? (i := 0) rfl)), Or.inr rfl, (Bcrf101.keep Kw104 (ninS (Nat.ne_of_lt (Nat.lt_of_lt_of_le Eb.lt zf101)) nin0)), (Bctf101.keep Kw104 (ninS (Nat.ne_of_lt (Nat.lt_of_lt_of_le Eb.lt zf101)) nin0)), (Bm1f101.keep Kw104 (ninS (Nat.ne_of_lt (Nat.lt_of_lt_of_le Eb.lt zf101)) nin0)), (Bvef101.keep Kw104 (ninS (Nat.ne_of_lt (Nat.lt_of_lt_of_le Eb.lt zf101)) nin0)), Aw104, Dw104, fun i hi => (Rw104 i hi).trans (Pf101 i hi), Pw104⟩) (by decide) (by decide)

set_option maxRecDepth 65536 in
set_option maxHeartbeats 40000000 in
theorem rm13_10 (Z : State) (a0 : Array Value) (hw : ∀ d ∈ tables_1, d.before a0 Z = true) (zC : Int32) (vF : Value) (sb bv : Addr) (kq : Nat) (G : Nat → Int32) (s1 t1 : Addr) (p : Int32) (n1 : Nat) (G1 : Nat → Int32) (h0 : Heap) (n0 : Nat) (Z0 : n0 ≤ h0.size) (S_C : Sta Z h0 "java/lang/String" "COMPACT_STRINGS" "Z" (.int zC)) (S_F : Sta Z h0 "jdk/internal/util/Preconditions" "SIOOBE_FORMATTER" "Ljava/util/function/BiFunction;" vF) (S_AD : Sta Z h0 "java/lang/StringUTF16" "$assertionsDisabled" "Z" (.int (1 : Int32))) (S_HI : Sta Z h0 "java/lang/StringUTF16" "HI_BYTE_SHIFT" "I" (.int (0 : Int32))) (S_LO : Sta Z h0 "java/lang/StringUTF16" "LO_BYTE_SHIFT" "I" (.int (8 : Int32))) (hC : ¬ (zC = (0 : Int32))) (hF : vF = .null ∨ ∃ b, vF = .ref b) (gb : n0 ≤ sb) (gv : n0 ≤ bv) (neb : sb ≠ bv) (Eb : Exa Z h0 sb "java/lang/StringBuilder") (Bc : Fld Z h0 sb "java/lang/AbstractStringBuilder" "coder" "B" (.int (1 : Int32))) (Bn : Fld Z h0 sb "java/lang/AbstractStringBuilder" "count" "I" (.int (Nat.toInt32 kq))) (Bm : Fld Z h0 sb "java/lang/AbstractStringBuilder" "maybeLatin1" "Z" (.int (0 : Int32))) (Bv : Fld Z h0 sb "java/lang/AbstractStringBuilder" "value" "[B" (.ref bv)) (Ab : Arf Z h0 bv .byte 32 (own_bf G)) (Db : own_der G) (hk : kq ≤ 16) (E1 : Exa Z h0 s1 "java/lang/String") (C1 : Fld Z h0 s1 "java/lang/String" "coder" "B" (.int (0 : Int32))) (V1 : Fld Z h0 s1 "java/lang/String" "value" "[B" (.ref t1)) (A1 : Arf Z h0 t1 .byte n1 (own_bf G1)) (D1 : own_der G1) (hn1 : n1 ≤ 16) (nes : s1 ≠ sb) (nes2 : s1 ≠ bv) (net : t1 ≠ sb) (net2 : t1 ≠ bv) (hkn : kq + n1 ≤ 16) (hp : p.toInt = (kq : Int)) :
    Con Z n0 (⟨"java/lang/AbstractStringBuilder", "putStringAt", "(ILjava/lang/String;)V"⟩ : MethodName) jdk_68_method_73_code 3 none [] ({ frames := 6, cells := 0, slots := 0, locals := 91 } : Room) #[(.ref sb), (.int p), (.ref s1)] h0 [sb, bv] (fun v h sp => v = none ∧ Keep h0 h [sb, bv] ∧ ∃ b2 c2 G2, (b2 = bv ∨ h0.size ≤ b2) ∧ n0 ≤ b2 ∧ sb ≠ b2 ∧ sp b2 ∧ (c2 = 0 ∨ c2 = 1) ∧ Fld Z h sb "java/lang/AbstractStringBuilder" "coder" "B" (.int c2) ∧ Fld Z h sb "java/lang/AbstractStringBuilder" "count" "I" (.int (Nat.toInt32 kq)) ∧ Fld Z h sb "java/lang/AbstractStringBuilder" "maybeLatin1" "Z" (.int (0 : Int32)) ∧ Fld Z h sb "java/lang/AbstractStringBuilder" "value" "[B" (.ref b2) ∧ Arf Z h b2 .byte (own_ln c2 16) (own_bf G2) ∧ own_der G2 ∧ (∀ i, i < kq → own_dec c2 G2 i = own_dec 1 G i) ∧ ∀ i, i < n1 → own_dec c2 G2 (kq + i) = own_dec 0 G1 i) := by
  refine Con.intro (L0 := #[.val (.ref sb), .val (.int p), .val (.ref s1)]) ⟨_, own_EW hw⟩ (plainFor_of_name (by first | (simp [plainName, overriddenIn]; done) | decide +kernel)) (fun m => by first | (simp [entryFrame, mkF, argsToLocals, Value.category]; done) | rfl) ?_
  intro C k
  replace k := k.aloadN d13_0 rfl rfl
  replace k := k.aloadN d13_1 rfl rfl
  obtain ⟨_, _, sp2, ⟨rfl, rfl⟩, k⟩ := k.callP (y := (⟨"java/lang/AbstractStringBuilder", "inflateIfNeededFor", "(Ljava/lang/String;)V"⟩ : MethodName)) (a := sb) d13_2 (hw _ (List.mem_of_getElem? (i := 82) rfl)) (hw _ (List.mem_of_getElem? (i := 84) rfl)) (hw _ (List.mem_of_getElem? (i := 85) rfl)) (hw _ (List.mem_of_getElem? (i := 83) rfl)) (hw _ (List.mem_of_getElem? (i := 40) rfl)) (hw _ (List.mem_of_getElem? (i := 86) rfl)) Eb (W := 0) (argsL := [(.ref s1)]) (rest := []) (rm14_10 Z a0 hw zC vF sb s1 h0 n0 Z0 S_C S_F S_AD S_HI S_LO hC hF Eb Bc E1 C1) all0 rfl (pd_25) rfl rfl rfl (by decide) (by decide) (by decide) (by decide) (by decide)
  replace k := (k [] all0).sfx [sb, bv] rfl
  replace k := k.stk [] rfl
  replace k := k.aloadN d13_5 rfl rfl
  replace k := k.aloadN d13_6 rfl rfl
  replace k := k.getF d13_7 (host := "") (Or.inl (hw _ (List.mem_of_getElem? (i := 44) rfl))) Via.refl Bv
  replace k := k.iloadN d13_10 rfl
  replace k := k.aloadN d13_11 rfl rfl
  replace k := k.getF d13_12 (host := "") (Or.inl (hw _ (List.mem_of_getElem? (i := 46) rfl))) Via.refl Bc
  obtain ⟨_, hw101, sp15, ⟨rfl, Kw101, Jw101, Aw101, Dw101, Pw101, Rw101⟩, k⟩ := k.callV (y := (⟨"java/lang/String", "getBytes", "([BIB)V"⟩ : MethodName)) (z := (⟨"java/lang/String", "getBytes", "([BIB)V"⟩ : MethodName)) (a := s1) d13_15 (hw _ (List.mem_of_getElem? (i := 88) rfl)) (hw _ (List.mem_of_getElem? (i := 89) rfl)) (fun s hs => notFace_of_selects (args := #[]) (mvT hs (hw _ (List.mem_of_getElem? (i := 91) rfl)))) (hw _ (List.mem_of_getElem? (i := 91) rfl)) (hw _ (List.mem_of_getElem? (i := 90) rfl)) (hw _ (List.mem_of_getElem? (i := 6) rfl)) (hw _ (List.mem_of_getElem? (i := 92) rfl)) E1 (W := 0) (argsL := [(.ref bv), (.int p), (.int (1 : Int32))]) (rest := []) (rm15_10 Z a0 hw zC vF s1 t1 bv p n1 kq G1 G h0 n0 Z0 S_C S_F S_AD S_HI S_LO hC hF E1 C1 V1 A1 D1 hn1 gv net2 Ab Db hp hkn) (allS (List.mem_of_getElem? (i := 1) rfl) all0) rfl (pd_26) rfl rfl rfl (by decide) (by decide) (by decide) (by decide) (by decide)
  have Kc102 : Keep h0 hw101 [sb, bv] := (Keep.refl h0 ([sb, bv] : List Addr)).trans Kw101 (allS (Or.inl (List.mem_of_getElem? (i := 1) rfl)) all0)
  replace k := (k [] all0).sfx [sb, bv] rfl
  replace k := k.stk [] rfl
  exact k.vret d13_18 rfl (fun sp hsp => ⟨rfl, Kc102, _, (1 : Int32), Jw101, Or.inl rfl, gv, neb, (hsp _ (List.mem_of_getElem? (i := 1) rfl)), Or.inr rfl, (Bc.keep Kw101 (ninS neb nin0)), (Bn.keep Kw101 (ninS neb nin0)), (Bm.keep Kw101 (ninS neb nin0)), (Bv.keep Kw101 (ninS neb nin0)), Aw101, Dw101, Rw101, Pw101⟩) (by decide) (by decide)

set_option maxRecDepth 65536 in
set_option maxHeartbeats 40000000 in
theorem rm13_11 (Z : State) (a0 : Array Value) (hw : ∀ d ∈ tables_1, d.before a0 Z = true) (zC : Int32) (vF : Value) (sb bv : Addr) (kq : Nat) (G : Nat → Int32) (s1 t1 : Addr) (p : Int32) (n1 : Nat) (G1 : Nat → Int32) (h0 : Heap) (n0 : Nat) (Z0 : n0 ≤ h0.size) (S_C : Sta Z h0 "java/lang/String" "COMPACT_STRINGS" "Z" (.int zC)) (S_F : Sta Z h0 "jdk/internal/util/Preconditions" "SIOOBE_FORMATTER" "Ljava/util/function/BiFunction;" vF) (S_AD : Sta Z h0 "java/lang/StringUTF16" "$assertionsDisabled" "Z" (.int (1 : Int32))) (S_HI : Sta Z h0 "java/lang/StringUTF16" "HI_BYTE_SHIFT" "I" (.int (0 : Int32))) (S_LO : Sta Z h0 "java/lang/StringUTF16" "LO_BYTE_SHIFT" "I" (.int (8 : Int32))) (hC : ¬ (zC = (0 : Int32))) (hF : vF = .null ∨ ∃ b, vF = .ref b) (gb : n0 ≤ sb) (gv : n0 ≤ bv) (neb : sb ≠ bv) (Eb : Exa Z h0 sb "java/lang/StringBuilder") (Bc : Fld Z h0 sb "java/lang/AbstractStringBuilder" "coder" "B" (.int (1 : Int32))) (Bn : Fld Z h0 sb "java/lang/AbstractStringBuilder" "count" "I" (.int (Nat.toInt32 kq))) (Bm : Fld Z h0 sb "java/lang/AbstractStringBuilder" "maybeLatin1" "Z" (.int (0 : Int32))) (Bv : Fld Z h0 sb "java/lang/AbstractStringBuilder" "value" "[B" (.ref bv)) (Ab : Arf Z h0 bv .byte 32 (own_bf G)) (Db : own_der G) (hk : kq ≤ 16) (E1 : Exa Z h0 s1 "java/lang/String") (C1 : Fld Z h0 s1 "java/lang/String" "coder" "B" (.int (1 : Int32))) (V1 : Fld Z h0 s1 "java/lang/String" "value" "[B" (.ref t1)) (A1 : Arf Z h0 t1 .byte (2 * n1) (own_bf G1)) (D1 : own_der G1) (hn1 : n1 ≤ 16) (nes : s1 ≠ sb) (nes2 : s1 ≠ bv) (net : t1 ≠ sb) (net2 : t1 ≠ bv) (hkn : kq + n1 ≤ 16) (hp : p.toInt = (kq : Int)) :
    Con Z n0 (⟨"java/lang/AbstractStringBuilder", "putStringAt", "(ILjava/lang/String;)V"⟩ : MethodName) jdk_68_method_73_code 3 none [] ({ frames := 2, cells := 0, slots := 0, locals := 33 } : Room) #[(.ref sb), (.int p), (.ref s1)] h0 [sb, bv] (fun v h sp => v = none ∧ Keep h0 h [sb, bv] ∧ ∃ b2 c2 G2, (b2 = bv ∨ h0.size ≤ b2) ∧ n0 ≤ b2 ∧ sb ≠ b2 ∧ sp b2 ∧ (c2 = 0 ∨ c2 = 1) ∧ Fld Z h sb "java/lang/AbstractStringBuilder" "coder" "B" (.int c2) ∧ Fld Z h sb "java/lang/AbstractStringBuilder" "count" "I" (.int (Nat.toInt32 kq)) ∧ Fld Z h sb "java/lang/AbstractStringBuilder" "maybeLatin1" "Z" (.int (0 : Int32)) ∧ Fld Z h sb "java/lang/AbstractStringBuilder" "value" "[B" (.ref b2) ∧ Arf Z h b2 .byte (own_ln c2 16) (own_bf G2) ∧ own_der G2 ∧ (∀ i, i < kq → own_dec c2 G2 i = own_dec 1 G i) ∧ ∀ i, i < n1 → own_dec c2 G2 (kq + i) = own_dec 1 G1 i) := by
  refine Con.intro (L0 := #[.val (.ref sb), .val (.int p), .val (.ref s1)]) ⟨_, own_EW hw⟩ (plainFor_of_name (by first | (simp [plainName, overriddenIn]; done) | decide +kernel)) (fun m => by first | (simp [entryFrame, mkF, argsToLocals, Value.category]; done) | rfl) ?_
  intro C k
  replace k := k.aloadN d13_0 rfl rfl
  replace k := k.aloadN d13_1 rfl rfl
  obtain ⟨_, _, sp2, ⟨rfl, rfl⟩, k⟩ := k.callP (y := (⟨"java/lang/AbstractStringBuilder", "inflateIfNeededFor", "(Ljava/lang/String;)V"⟩ : MethodName)) (a := sb) d13_2 (hw _ (List.mem_of_getElem? (i := 82) rfl)) (hw _ (List.mem_of_getElem? (i := 84) rfl)) (hw _ (List.mem_of_getElem? (i := 85) rfl)) (hw _ (List.mem_of_getElem? (i := 83) rfl)) (hw _ (List.mem_of_getElem? (i := 40) rfl)) (hw _ (List.mem_of_getElem? (i := 86) rfl)) Eb (W := 0) (argsL := [(.ref s1)]) (rest := []) (rm14_11 Z a0 hw zC vF sb s1 h0 n0 Z0 S_C S_F S_AD S_HI S_LO hC hF Eb Bc E1 C1) all0 rfl (pd_25) rfl rfl rfl (by decide) (by decide) (by decide) (by decide) (by decide)
  replace k := (k [] all0).sfx [sb, bv] rfl
  replace k := k.stk [] rfl
  replace k := k.aloadN d13_5 rfl rfl
  replace k := k.aloadN d13_6 rfl rfl
  replace k := k.getF d13_7 (host := "") (Or.inl (hw _ (List.mem_of_getElem? (i := 44) rfl))) Via.refl Bv
  replace k := k.iloadN d13_10 rfl
  replace k := k.aloadN d13_11 rfl rfl
  replace k := k.getF d13_12 (host := "") (Or.inl (hw _ (List.mem_of_getElem? (i := 46) rfl))) Via.refl Bc
  obtain ⟨_, hw101, sp15, ⟨rfl, Kw101, Jw101, Aw101, Dw101, Pw101, Rw101⟩, k⟩ := k.callV (y := (⟨"java/lang/String", "getBytes", "([BIB)V"⟩ : MethodName)) (z := (⟨"java/lang/String", "getBytes", "([BIB)V"⟩ : MethodName)) (a := s1) d13_15 (hw _ (List.mem_of_getElem? (i := 88) rfl)) (hw _ (List.mem_of_getElem? (i := 89) rfl)) (fun s hs => notFace_of_selects (args := #[]) (mvT hs (hw _ (List.mem_of_getElem? (i := 91) rfl)))) (hw _ (List.mem_of_getElem? (i := 91) rfl)) (hw _ (List.mem_of_getElem? (i := 90) rfl)) (hw _ (List.mem_of_getElem? (i := 6) rfl)) (hw _ (List.mem_of_getElem? (i := 92) rfl)) E1 (W := 0) (argsL := [(.ref bv), (.int p), (.int (1 : Int32))]) (rest := []) (rm15_11 Z a0 hw zC vF s1 t1 bv p n1 kq G1 G h0 n0 Z0 S_C S_F S_AD S_HI S_LO hC hF E1 C1 V1 A1 D1 hn1 gv net2 Ab Db hp hkn) (allS (List.mem_of_getElem? (i := 1) rfl) all0) rfl (pd_26) rfl rfl rfl (by decide) (by decide) (by decide) (by decide) (by decide)
  have Kc102 : Keep h0 hw101 [sb, bv] := (Keep.refl h0 ([sb, bv] : List Addr)).trans Kw101 (allS (Or.inl (List.mem_of_getElem? (i := 1) rfl)) all0)
  replace k := (k [] all0).sfx [sb, bv] rfl
  replace k := k.stk [] rfl
  exact k.vret d13_18 rfl (fun sp hsp => ⟨rfl, Kc102, _, (1 : Int32), Jw101, Or.inl rfl, gv, neb, (hsp _ (List.mem_of_getElem? (i := 1) rfl)), Or.inr rfl, (Bc.keep Kw101 (ninS neb nin0)), (Bn.keep Kw101 (ninS neb nin0)), (Bm.keep Kw101 (ninS neb nin0)), (Bv.keep Kw101 (ninS neb nin0)), Aw101, Dw101, Rw101, Pw101⟩) (by decide) (by decide)

theorem d9_0 : decode jdk_68_method_22_code 0 = .ok (.aload_n 1, 1) := by decide +kernel
theorem d9_1 : decode jdk_68_method_22_code 1 = .ok (.ifnonnull 8, 3) := by decide +kernel
theorem d9_9 : decode jdk_68_method_22_code 9 = .ok (.aload_n 1, 1) := by decide +kernel
theorem d9_10 : decode jdk_68_method_22_code 10 = .ok (.invokevirtual 32, 3) := by decide +kernel
theorem d9_13 : decode jdk_68_method_22_code 13 = .ok (.istore_n 2, 1) := by decide +kernel
theorem d9_14 : decode jdk_68_method_22_code 14 = .ok (.aload_n 0, 1) := by decide +kernel
theorem d9_15 : decode jdk_68_method_22_code 15 = .ok (.aload_n 0, 1) := by decide +kernel
theorem d9_16 : decode jdk_68_method_22_code 16 = .ok (.getfield 79, 3) := by decide +kernel
theorem d9_19 : decode jdk_68_method_22_code 19 = .ok (.iload_n 2, 1) := by decide +kernel
theorem d9_20 : decode jdk_68_method_22_code 20 = .ok (.iadd, 1) := by decide +kernel
theorem d9_21 : decode jdk_68_method_22_code 21 = .ok (.invokevirtual 100, 3) := by decide +kernel
theorem d9_24 : decode jdk_68_method_22_code 24 = .ok (.aload_n 0, 1) := by decide +kernel
theorem d9_25 : decode jdk_68_method_22_code 25 = .ok (.aload_n 0, 1) := by decide +kernel
theorem d9_26 : decode jdk_68_method_22_code 26 = .ok (.getfield 79, 3) := by decide +kernel
theorem d9_29 : decode jdk_68_method_22_code 29 = .ok (.aload_n 1, 1) := by decide +kernel
theorem d9_30 : decode jdk_68_method_22_code 30 = .ok (.invokevirtual 208, 3) := by decide +kernel
theorem d9_33 : decode jdk_68_method_22_code 33 = .ok (.aload_n 0, 1) := by decide +kernel
theorem d9_34 : decode jdk_68_method_22_code 34 = .ok (.dup, 1) := by decide +kernel
theorem d9_35 : decode jdk_68_method_22_code 35 = .ok (.getfield 79, 3) := by decide +kernel
theorem d9_38 : decode jdk_68_method_22_code 38 = .ok (.iload_n 2, 1) := by decide +kernel
theorem d9_39 : decode jdk_68_method_22_code 39 = .ok (.iadd, 1) := by decide +kernel
theorem d9_40 : decode jdk_68_method_22_code 40 = .ok (.putfield 79, 3) := by decide +kernel
theorem d9_43 : decode jdk_68_method_22_code 43 = .ok (.aload_n 0, 1) := by decide +kernel
theorem d9_44 : decode jdk_68_method_22_code 44 = .ok (.areturn, 1) := by decide +kernel
set_option maxRecDepth 65536 in
set_option maxHeartbeats 40000000 in
theorem rm9 (Z : State) (a0 : Array Value) (hw : ∀ d ∈ tables_1, d.before a0 Z = true) (zC : Int32) (vF : Value) (sb bv : Addr) (cod : Int32) (kq : Nat) (G : Nat → Int32) (s1 t1 : Addr) (cod1 : Int32) (n1 : Nat) (G1 : Nat → Int32) (h0 : Heap) (n0 : Nat) (Z0 : n0 ≤ h0.size) (S_C : Sta Z h0 "java/lang/String" "COMPACT_STRINGS" "Z" (.int zC)) (S_F : Sta Z h0 "jdk/internal/util/Preconditions" "SIOOBE_FORMATTER" "Ljava/util/function/BiFunction;" vF) (S_AD : Sta Z h0 "java/lang/StringUTF16" "$assertionsDisabled" "Z" (.int (1 : Int32))) (S_HI : Sta Z h0 "java/lang/StringUTF16" "HI_BYTE_SHIFT" "I" (.int (0 : Int32))) (S_LO : Sta Z h0 "java/lang/StringUTF16" "LO_BYTE_SHIFT" "I" (.int (8 : Int32))) (hC : ¬ (zC = (0 : Int32))) (hF : vF = .null ∨ ∃ b, vF = .ref b) (gb : n0 ≤ sb) (gv : n0 ≤ bv) (neb : sb ≠ bv) (Eb : Exa Z h0 sb "java/lang/StringBuilder") (Bc : Fld Z h0 sb "java/lang/AbstractStringBuilder" "coder" "B" (.int cod)) (Bn : Fld Z h0 sb "java/lang/AbstractStringBuilder" "count" "I" (.int (Nat.toInt32 kq))) (Bm : Fld Z h0 sb "java/lang/AbstractStringBuilder" "maybeLatin1" "Z" (.int (0 : Int32))) (Bv : Fld Z h0 sb "java/lang/AbstractStringBuilder" "value" "[B" (.ref bv)) (Ab : Arf Z h0 bv .byte (own_ln cod 16) (own_bf G)) (Db : own_der G) (hk : kq ≤ 16) (hcb : cod = 0 ∨ cod = 1) (E1 : Exa Z h0 s1 "java/lang/String") (C1 : Fld Z h0 s1 "java/lang/String" "coder" "B" (.int cod1)) (V1 : Fld Z h0 s1 "java/lang/String" "value" "[B" (.ref t1)) (A1 : Arf Z h0 t1 .byte (own_ln cod1 n1) (own_bf G1)) (D1 : own_der G1) (hn1 : n1 ≤ 16) (nes : s1 ≠ sb) (nes2 : s1 ≠ bv) (net : t1 ≠ sb) (net2 : t1 ≠ bv) (hkn : kq + n1 ≤ 16) (hc1 : cod1 = 0 ∨ cod1 = 1) :
    Con Z n0 (⟨"java/lang/AbstractStringBuilder", "append", "(Ljava/lang/String;)Ljava/lang/AbstractStringBuilder;"⟩ : MethodName) jdk_68_method_22_code 3 (some (.object "java/lang/AbstractStringBuilder")) [] ({ frames := 8, cells := 1, slots := 32, locals := 116 } : Room) #[(.ref sb), (.ref s1)] h0 [sb, bv] (fun v h sp => v = some (.ref sb) ∧ Keep h0 h [sb, bv] ∧ ∃ b2 c2 G2, (b2 = bv ∨ h0.size ≤ b2) ∧ n0 ≤ b2 ∧ sb ≠ b2 ∧ sp b2 ∧ (c2 = 0 ∨ c2 = 1) ∧ Fld Z h sb "java/lang/AbstractStringBuilder" "coder" "B" (.int c2) ∧ Fld Z h sb "java/lang/AbstractStringBuilder" "count" "I" (.int (Nat.toInt32 (kq + n1))) ∧ Fld Z h sb "java/lang/AbstractStringBuilder" "maybeLatin1" "Z" (.int (0 : Int32)) ∧ Fld Z h sb "java/lang/AbstractStringBuilder" "value" "[B" (.ref b2) ∧ Arf Z h b2 .byte (own_ln c2 16) (own_bf G2) ∧ own_der G2 ∧ (∀ i, i < kq → own_dec c2 G2 i = own_dec cod G i) ∧ ∀ i, i < n1 → own_dec c2 G2 (kq + i) = own_dec cod1 G1 i) := by
  refine Con.intro (L0 := #[.val (.ref sb), .val (.ref s1), .unset]) ⟨_, own_EW hw⟩ (plainFor_of_name (by first | (simp [plainName, overriddenIn]; done) | decide +kernel)) (fun m => by first | (simp [entryFrame, mkF, argsToLocals, Value.category]; done) | rfl) ?_
  intro C k
  rcases hcb with rfl | rfl
  · skip
    replace Ab := own_ln0 Ab
    rcases hc1 with rfl | rfl
    · skip
      replace A1 := own_ln0 A1
      replace k := k.aloadN d9_0 rfl rfl
      replace k := k.ifnonnullYes (pc' := 9) d9_1 (by decide) (by decide)
      replace k := k.aloadN d9_9 rfl rfl
      obtain ⟨_, _, sp10, ⟨rfl, rfl⟩, k⟩ := k.callV (y := (⟨"java/lang/String", "length", "()I"⟩ : MethodName)) (z := (⟨"java/lang/String", "length", "()I"⟩ : MethodName)) (a := s1) d9_10 (hw _ (List.mem_of_getElem? (i := 59) rfl)) (hw _ (List.mem_of_getElem? (i := 60) rfl)) (fun s hs => notFace_of_selects (args := #[]) (mvT hs (hw _ (List.mem_of_getElem? (i := 62) rfl)))) (hw _ (List.mem_of_getElem? (i := 62) rfl)) (hw _ (List.mem_of_getElem? (i := 61) rfl)) (hw _ (List.mem_of_getElem? (i := 6) rfl)) (hw _ (List.mem_of_getElem? (i := 63) rfl)) E1 (W := 0) (argsL := []) (rest := []) (rm10 Z a0 hw zC vF s1 t1 (0 : Int32) n1 G1 h0 n0 Z0 S_C S_F S_AD S_HI S_LO hC hF E1 C1 V1 A1 D1 (Or.inl rfl) hn1) all0 rfl (pd_10) rfl rfl rfl (by decide) (by decide) (by decide) (by decide) (by decide)
      replace k := (k [] all0).sfx [sb, bv] rfl
      replace k := k.stk [(.int (Nat.toInt32 n1))] rfl
      replace k := k.istoreN #[.val (.ref sb), .val (.ref s1), .val (.int (Nat.toInt32 n1))] d9_13 rfl
      replace k := k.aloadN d9_14 rfl rfl
      replace k := k.aloadN d9_15 rfl rfl
      replace k := k.getF d9_16 (host := "") (Or.inl (hw _ (List.mem_of_getElem? (i := 70) rfl))) Via.refl Bn
      replace k := k.iloadN d9_19 rfl
      replace k := k.iadd d9_20
      obtain ⟨_, _, sp21, ⟨rfl, rfl⟩, k⟩ := k.callP (y := (⟨"java/lang/AbstractStringBuilder", "ensureCapacityInternal", "(I)V"⟩ : MethodName)) (a := sb) d9_21 (hw _ (List.mem_of_getElem? (i := 72) rfl)) (hw _ (List.mem_of_getElem? (i := 74) rfl)) (hw _ (List.mem_of_getElem? (i := 75) rfl)) (hw _ (List.mem_of_getElem? (i := 73) rfl)) (hw _ (List.mem_of_getElem? (i := 40) rfl)) (hw _ (List.mem_of_getElem? (i := 76) rfl)) Eb (W := 0) (argsL := [(.int ((Nat.toInt32 kq) + (Nat.toInt32 n1)))]) (rest := []) (rm12_0 Z a0 hw zC vF sb bv ((Nat.toInt32 kq) + (Nat.toInt32 n1)) (kq + n1) G h0 n0 Z0 S_C S_F S_AD S_HI S_LO hC hF Bc Bv Ab (own_ad (own_tn (by omega)) (own_tn (by omega)) (by omega)) hkn) all0 rfl (pd_23) rfl rfl rfl (by decide) (by decide) (by decide) (by decide) (by decide)
      replace k := (k [] all0).sfx [sb, bv] rfl
      replace k := k.stk [] rfl
      replace k := k.aloadN d9_24 rfl rfl
      replace k := k.aloadN d9_25 rfl rfl
      replace k := k.getF d9_26 (host := "") (Or.inl (hw _ (List.mem_of_getElem? (i := 70) rfl))) Via.refl Bn
      replace k := k.aloadN d9_29 rfl rfl
      obtain ⟨_, hq101, sp30, ⟨rfl, Kq101, bq101, cq101, Fq101, zq101, gq101, neq101, sq101, hcq101, Bcq101, Bnq101, Bmq101, Bvq101, Aq101, Dq101, Pq101, Rq101⟩, k⟩ := k.callP (y := (⟨"java/lang/AbstractStringBuilder", "putStringAt", "(ILjava/lang/String;)V"⟩ : MethodName)) (a := sb) d9_30 (hw _ (List.mem_of_getElem? (i := 77) rfl)) (hw _ (List.mem_of_getElem? (i := 79) rfl)) (hw _ (List.mem_of_getElem? (i := 80) rfl)) (hw _ (List.mem_of_getElem? (i := 78) rfl)) (hw _ (List.mem_of_getElem? (i := 40) rfl)) (hw _ (List.mem_of_getElem? (i := 81) rfl)) Eb (W := 0) (argsL := [(.int (Nat.toInt32 kq)), (.ref s1)]) (rest := []) (rm13_00 Z a0 hw zC vF sb bv kq G s1 t1 (Nat.toInt32 kq) n1 G1 h0 n0 Z0 S_C S_F S_AD S_HI S_LO hC hF gb gv neb Eb Bc Bn Bm Bv Ab Db hk E1 C1 V1 A1 D1 hn1 nes nes2 net net2 hkn (own_tn (by omega))) (allS (List.mem_of_getElem? (i := 0) rfl) (allS (List.mem_of_getElem? (i := 1) rfl) all0)) rfl (pd_27) rfl rfl rfl (by decide) (by decide) (by decide) (by decide) (by decide)
      have Kc102 : Keep h0 hq101 [sb, bv] := (Keep.refl h0 ([sb, bv] : List Addr)).trans Kq101 (allS (Or.inl (List.mem_of_getElem? (i := 0) rfl)) (allS (Or.inl (List.mem_of_getElem? (i := 1) rfl)) all0))
      replace k := (k [bq101] (allS ⟨sq101, Aq101.lt⟩ all0)).sfx [bq101, sb, bv] rfl
      replace k := k.stk [] rfl
      have zzq101 : bq101 = bv ∨ h0.size ≤ bq101 := zq101.imp id (Nat.le_trans (Keep.refl h0 ([sb, bv] : List Addr)).1)
      replace k := k.aloadN d9_33 rfl rfl
      replace k := k.dup d9_34 rfl
      replace k := k.getF d9_35 (host := "") (Or.inl (hw _ (List.mem_of_getElem? (i := 70) rfl))) Via.refl Bnq101
      replace k := k.iloadN d9_38 rfl
      replace k := k.iadd d9_39
      replace k := k.stk [(.int (Nat.toInt32 (kq + n1))), (.ref sb)] (by rw [own_addN])
      obtain ⟨h103, W103, k⟩ := k.putF d9_40 (host := "") (Or.inl (hw _ (List.mem_of_getElem? (i := 70) rfl))) Via.refl Bnq101 (Eb.keep Kq101) (Or.inl (hw _ (List.mem_of_getElem? (i := 71) rfl))) (hw _ (List.mem_of_getElem? (i := 31) rfl)) (ty := .int) (by decide) rfl rfl gb (List.mem_of_getElem? (i := 1) rfl)
      have Fw103 := Fld.same W103 Bnq101
      have K103 : Keep h0 h103 [sb, bv] := Kc102.wr W103 (Or.inl (List.mem_of_getElem? (i := 0) rfl))
      replace k := k.aloadN d9_43 rfl rfl
      exact k.aret d9_44 rfl rfl rfl rfl (fun sp hsp => ⟨rfl, K103, _, _, _, zzq101, gq101, neq101, (hsp _ (List.mem_of_getElem? (i := 0) rfl)), hcq101, (Fld.other W103 Bcq101 (Or.inr (slot_ne (Or.inl (hw _ (List.mem_of_getElem? (i := 47) rfl))) (Or.inl (hw _ (List.mem_of_getElem? (i := 71) rfl))) (by decide) (t := .byte) (t' := .int) (by decide) (by decide)))), Fw103, (Fld.other W103 Bmq101 (Or.inr (slot_ne (Or.inl (hw _ (List.mem_of_getElem? (i := 239) rfl))) (Or.inl (hw _ (List.mem_of_getElem? (i := 71) rfl))) (by decide) (t := .boolean) (t' := .int) (by decide) (by decide)))), (Fld.other W103 Bvq101 (Or.inr (slot_ne (Or.inl (hw _ (List.mem_of_getElem? (i := 45) rfl))) (Or.inl (hw _ (List.mem_of_getElem? (i := 71) rfl))) (by decide) (t := (.array .byte)) (t' := .int) (by decide) (by decide)))), (Aq101.other W103 (Ne.symm neq101)), Dq101, Pq101, Rq101⟩) (by decide) (by decide)
    · skip
      replace A1 := own_ln1 A1
      replace k := k.aloadN d9_0 rfl rfl
      replace k := k.ifnonnullYes (pc' := 9) d9_1 (by decide) (by decide)
      replace k := k.aloadN d9_9 rfl rfl
      obtain ⟨_, _, sp10, ⟨rfl, rfl⟩, k⟩ := k.callV (y := (⟨"java/lang/String", "length", "()I"⟩ : MethodName)) (z := (⟨"java/lang/String", "length", "()I"⟩ : MethodName)) (a := s1) d9_10 (hw _ (List.mem_of_getElem? (i := 59) rfl)) (hw _ (List.mem_of_getElem? (i := 60) rfl)) (fun s hs => notFace_of_selects (args := #[]) (mvT hs (hw _ (List.mem_of_getElem? (i := 62) rfl)))) (hw _ (List.mem_of_getElem? (i := 62) rfl)) (hw _ (List.mem_of_getElem? (i := 61) rfl)) (hw _ (List.mem_of_getElem? (i := 6) rfl)) (hw _ (List.mem_of_getElem? (i := 63) rfl)) E1 (W := 0) (argsL := []) (rest := []) (rm10 Z a0 hw zC vF s1 t1 (1 : Int32) n1 G1 h0 n0 Z0 S_C S_F S_AD S_HI S_LO hC hF E1 C1 V1 A1 D1 (Or.inr rfl) hn1) all0 rfl (pd_10) rfl rfl rfl (by decide) (by decide) (by decide) (by decide) (by decide)
      replace k := (k [] all0).sfx [sb, bv] rfl
      replace k := k.stk [(.int (Nat.toInt32 n1))] rfl
      replace k := k.istoreN #[.val (.ref sb), .val (.ref s1), .val (.int (Nat.toInt32 n1))] d9_13 rfl
      replace k := k.aloadN d9_14 rfl rfl
      replace k := k.aloadN d9_15 rfl rfl
      replace k := k.getF d9_16 (host := "") (Or.inl (hw _ (List.mem_of_getElem? (i := 70) rfl))) Via.refl Bn
      replace k := k.iloadN d9_19 rfl
      replace k := k.iadd d9_20
      obtain ⟨_, _, sp21, ⟨rfl, rfl⟩, k⟩ := k.callP (y := (⟨"java/lang/AbstractStringBuilder", "ensureCapacityInternal", "(I)V"⟩ : MethodName)) (a := sb) d9_21 (hw _ (List.mem_of_getElem? (i := 72) rfl)) (hw _ (List.mem_of_getElem? (i := 74) rfl)) (hw _ (List.mem_of_getElem? (i := 75) rfl)) (hw _ (List.mem_of_getElem? (i := 73) rfl)) (hw _ (List.mem_of_getElem? (i := 40) rfl)) (hw _ (List.mem_of_getElem? (i := 76) rfl)) Eb (W := 0) (argsL := [(.int ((Nat.toInt32 kq) + (Nat.toInt32 n1)))]) (rest := []) (rm12_0 Z a0 hw zC vF sb bv ((Nat.toInt32 kq) + (Nat.toInt32 n1)) (kq + n1) G h0 n0 Z0 S_C S_F S_AD S_HI S_LO hC hF Bc Bv Ab (own_ad (own_tn (by omega)) (own_tn (by omega)) (by omega)) hkn) all0 rfl (pd_23) rfl rfl rfl (by decide) (by decide) (by decide) (by decide) (by decide)
      replace k := (k [] all0).sfx [sb, bv] rfl
      replace k := k.stk [] rfl
      replace k := k.aloadN d9_24 rfl rfl
      replace k := k.aloadN d9_25 rfl rfl
      replace k := k.getF d9_26 (host := "") (Or.inl (hw _ (List.mem_of_getElem? (i := 70) rfl))) Via.refl Bn
      replace k := k.aloadN d9_29 rfl rfl
      obtain ⟨_, hq104, sp30, ⟨rfl, Kq104, bq104, cq104, Fq104, zq104, gq104, neq104, sq104, hcq104, Bcq104, Bnq104, Bmq104, Bvq104, Aq104, Dq104, Pq104, Rq104⟩, k⟩ := k.callP (y := (⟨"java/lang/AbstractStringBuilder", "putStringAt", "(ILjava/lang/String;)V"⟩ : MethodName)) (a := sb) d9_30 (hw _ (List.mem_of_getElem? (i := 77) rfl)) (hw _ (List.mem_of_getElem? (i := 79) rfl)) (hw _ (List.mem_of_getElem? (i := 80) rfl)) (hw _ (List.mem_of_getElem? (i := 78) rfl)) (hw _ (List.mem_of_getElem? (i := 40) rfl)) (hw _ (List.mem_of_getElem? (i := 81) rfl)) Eb (W := 0) (argsL := [(.int (Nat.toInt32 kq)), (.ref s1)]) (rest := []) (rm13_01 Z a0 hw zC vF sb bv kq G s1 t1 (Nat.toInt32 kq) n1 G1 h0 n0 Z0 S_C S_F S_AD S_HI S_LO hC hF gb gv neb Eb Bc Bn Bm Bv Ab Db hk E1 C1 V1 A1 D1 hn1 nes nes2 net net2 hkn (own_tn (by omega))) (allS (List.mem_of_getElem? (i := 0) rfl) (allS (List.mem_of_getElem? (i := 1) rfl) all0)) rfl (pd_27) rfl rfl rfl (by decide) (by decide) (by decide) (by decide) (by decide)
      have Kc105 : Keep h0 hq104 [sb, bv] := (Keep.refl h0 ([sb, bv] : List Addr)).trans Kq104 (allS (Or.inl (List.mem_of_getElem? (i := 0) rfl)) (allS (Or.inl (List.mem_of_getElem? (i := 1) rfl)) all0))
      replace k := (k [bq104] (allS ⟨sq104, Aq104.lt⟩ all0)).sfx [bq104, sb, bv] rfl
      replace k := k.stk [] rfl
      have zzq104 : bq104 = bv ∨ h0.size ≤ bq104 := zq104.imp id (Nat.le_trans (Keep.refl h0 ([sb, bv] : List Addr)).1)
      replace k := k.aloadN d9_33 rfl rfl
      replace k := k.dup d9_34 rfl
      replace k := k.getF d9_35 (host := "") (Or.inl (hw _ (List.mem_of_getElem? (i := 70) rfl))) Via.refl Bnq104
      replace k := k.iloadN d9_38 rfl
      replace k := k.iadd d9_39
      replace k := k.stk [(.int (Nat.toInt32 (kq + n1))), (.ref sb)] (by rw [own_addN])
      obtain ⟨h106, W106, k⟩ := k.putF d9_40 (host := "") (Or.inl (hw _ (List.mem_of_getElem? (i := 70) rfl))) Via.refl Bnq104 (Eb.keep Kq104) (Or.inl (hw _ (List.mem_of_getElem? (i := 71) rfl))) (hw _ (List.mem_of_getElem? (i := 31) rfl)) (ty := .int) (by decide) rfl rfl gb (List.mem_of_getElem? (i := 1) rfl)
      have Fw106 := Fld.same W106 Bnq104
      have K106 : Keep h0 h106 [sb, bv] := Kc105.wr W106 (Or.inl (List.mem_of_getElem? (i := 0) rfl))
      replace k := k.aloadN d9_43 rfl rfl
      exact k.aret d9_44 rfl rfl rfl rfl (fun sp hsp => ⟨rfl, K106, _, _, _, zzq104, gq104, neq104, (hsp _ (List.mem_of_getElem? (i := 0) rfl)), hcq104, (Fld.other W106 Bcq104 (Or.inr (slot_ne (Or.inl (hw _ (List.mem_of_getElem? (i := 47) rfl))) (Or.inl (hw _ (List.mem_of_getElem? (i := 71) rfl))) (by decide) (t := .byte) (t' := .int) (by decide) (by decide)))), Fw106, (Fld.other W106 Bmq104 (Or.inr (slot_ne (Or.inl (hw _ (List.mem_of_getElem? (i := 239) rfl))) (Or.inl (hw _ (List.mem_of_getElem? (i := 71) rfl))) (by decide) (t := .boolean) (t' := .int) (by decide) (by decide)))), (Fld.other W106 Bvq104 (Or.inr (slot_ne (Or.inl (hw _ (List.mem_of_getElem? (i := 45) rfl))) (Or.inl (hw _ (List.mem_of_getElem? (i := 71) rfl))) (by decide) (t := (.array .byte)) (t' := .int) (by decide) (by decide)))), (Aq104.other W106 (Ne.symm neq104)), Dq104, Pq104, Rq104⟩) (by decide) (by decide)
  · skip
    replace Ab := own_ln1 Ab
    rcases hc1 with rfl | rfl
    · skip
      replace A1 := own_ln0 A1
      replace k := k.aloadN d9_0 rfl rfl
      replace k := k.ifnonnullYes (pc' := 9) d9_1 (by decide) (by decide)
      replace k := k.aloadN d9_9 rfl rfl
      obtain ⟨_, _, sp10, ⟨rfl, rfl⟩, k⟩ := k.callV (y := (⟨"java/lang/String", "length", "()I"⟩ : MethodName)) (z := (⟨"java/lang/String", "length", "()I"⟩ : MethodName)) (a := s1) d9_10 (hw _ (List.mem_of_getElem? (i := 59) rfl)) (hw _ (List.mem_of_getElem? (i := 60) rfl)) (fun s hs => notFace_of_selects (args := #[]) (mvT hs (hw _ (List.mem_of_getElem? (i := 62) rfl)))) (hw _ (List.mem_of_getElem? (i := 62) rfl)) (hw _ (List.mem_of_getElem? (i := 61) rfl)) (hw _ (List.mem_of_getElem? (i := 6) rfl)) (hw _ (List.mem_of_getElem? (i := 63) rfl)) E1 (W := 0) (argsL := []) (rest := []) (rm10 Z a0 hw zC vF s1 t1 (0 : Int32) n1 G1 h0 n0 Z0 S_C S_F S_AD S_HI S_LO hC hF E1 C1 V1 A1 D1 (Or.inl rfl) hn1) all0 rfl (pd_10) rfl rfl rfl (by decide) (by decide) (by decide) (by decide) (by decide)
      replace k := (k [] all0).sfx [sb, bv] rfl
      replace k := k.stk [(.int (Nat.toInt32 n1))] rfl
      replace k := k.istoreN #[.val (.ref sb), .val (.ref s1), .val (.int (Nat.toInt32 n1))] d9_13 rfl
      replace k := k.aloadN d9_14 rfl rfl
      replace k := k.aloadN d9_15 rfl rfl
      replace k := k.getF d9_16 (host := "") (Or.inl (hw _ (List.mem_of_getElem? (i := 70) rfl))) Via.refl Bn
      replace k := k.iloadN d9_19 rfl
      replace k := k.iadd d9_20
      obtain ⟨_, _, sp21, ⟨rfl, rfl⟩, k⟩ := k.callP (y := (⟨"java/lang/AbstractStringBuilder", "ensureCapacityInternal", "(I)V"⟩ : MethodName)) (a := sb) d9_21 (hw _ (List.mem_of_getElem? (i := 72) rfl)) (hw _ (List.mem_of_getElem? (i := 74) rfl)) (hw _ (List.mem_of_getElem? (i := 75) rfl)) (hw _ (List.mem_of_getElem? (i := 73) rfl)) (hw _ (List.mem_of_getElem? (i := 40) rfl)) (hw _ (List.mem_of_getElem? (i := 76) rfl)) Eb (W := 0) (argsL := [(.int ((Nat.toInt32 kq) + (Nat.toInt32 n1)))]) (rest := []) (rm12_1 Z a0 hw zC vF sb bv ((Nat.toInt32 kq) + (Nat.toInt32 n1)) (kq + n1) G h0 n0 Z0 S_C S_F S_AD S_HI S_LO hC hF Bc Bv Ab (own_ad (own_tn (by omega)) (own_tn (by omega)) (by omega)) hkn) all0 rfl (pd_23) rfl rfl rfl (by decide) (by decide) (by decide) (by decide) (by decide)
      replace k := (k [] all0).sfx [sb, bv] rfl
      replace k := k.stk [] rfl
      replace k := k.aloadN d9_24 rfl rfl
      replace k := k.aloadN d9_25 rfl rfl
      replace k := k.getF d9_26 (host := "") (Or.inl (hw _ (List.mem_of_getElem? (i := 70) rfl))) Via.refl Bn
      replace k := k.aloadN d9_29 rfl rfl
      obtain ⟨_, hq107, sp30, ⟨rfl, Kq107, bq107, cq107, Fq107, zq107, gq107, neq107, sq107, hcq107, Bcq107, Bnq107, Bmq107, Bvq107, Aq107, Dq107, Pq107, Rq107⟩, k⟩ := k.callP (y := (⟨"java/lang/AbstractStringBuilder", "putStringAt", "(ILjava/lang/String;)V"⟩ : MethodName)) (a := sb) d9_30 (hw _ (List.mem_of_getElem? (i := 77) rfl)) (hw _ (List.mem_of_getElem? (i := 79) rfl)) (hw _ (List.mem_of_getElem? (i := 80) rfl)) (hw _ (List.mem_of_getElem? (i := 78) rfl)) (hw _ (List.mem_of_getElem? (i := 40) rfl)) (hw _ (List.mem_of_getElem? (i := 81) rfl)) Eb (W := 0) (argsL := [(.int (Nat.toInt32 kq)), (.ref s1)]) (rest := []) (rm13_10 Z a0 hw zC vF sb bv kq G s1 t1 (Nat.toInt32 kq) n1 G1 h0 n0 Z0 S_C S_F S_AD S_HI S_LO hC hF gb gv neb Eb Bc Bn Bm Bv Ab Db hk E1 C1 V1 A1 D1 hn1 nes nes2 net net2 hkn (own_tn (by omega))) (allS (List.mem_of_getElem? (i := 0) rfl) (allS (List.mem_of_getElem? (i := 1) rfl) all0)) rfl (pd_27) rfl rfl rfl (by decide) (by decide) (by decide) (by decide) (by decide)
      have Kc108 : Keep h0 hq107 [sb, bv] := (Keep.refl h0 ([sb, bv] : List Addr)).trans Kq107 (allS (Or.inl (List.mem_of_getElem? (i := 0) rfl)) (allS (Or.inl (List.mem_of_getElem? (i := 1) rfl)) all0))
      replace k := (k [bq107] (allS ⟨sq107, Aq107.lt⟩ all0)).sfx [bq107, sb, bv] rfl
      replace k := k.stk [] rfl
      have zzq107 : bq107 = bv ∨ h0.size ≤ bq107 := zq107.imp id (Nat.le_trans (Keep.refl h0 ([sb, bv] : List Addr)).1)
      replace k := k.aloadN d9_33 rfl rfl
      replace k := k.dup d9_34 rfl
      replace k := k.getF d9_35 (host := "") (Or.inl (hw _ (List.mem_of_getElem? (i := 70) rfl))) Via.refl Bnq107
      replace k := k.iloadN d9_38 rfl
      replace k := k.iadd d9_39
      replace k := k.stk [(.int (Nat.toInt32 (kq + n1))), (.ref sb)] (by rw [own_addN])
      obtain ⟨h109, W109, k⟩ := k.putF d9_40 (host := "") (Or.inl (hw _ (List.mem_of_getElem? (i := 70) rfl))) Via.refl Bnq107 (Eb.keep Kq107) (Or.inl (hw _ (List.mem_of_getElem? (i := 71) rfl))) (hw _ (List.mem_of_getElem? (i := 31) rfl)) (ty := .int) (by decide) rfl rfl gb (List.mem_of_getElem? (i := 1) rfl)
      have Fw109 := Fld.same W109 Bnq107
      have K109 : Keep h0 h109 [sb, bv] := Kc108.wr W109 (Or.inl (List.mem_of_getElem? (i := 0) rfl))
      replace k := k.aloadN d9_43 rfl rfl
      exact k.aret d9_44 rfl rfl rfl rfl (fun sp hsp => ⟨rfl, K109, _, _, _, zzq107, gq107, neq107, (hsp _ (List.mem_of_getElem? (i := 0) rfl)), hcq107, (Fld.other W109 Bcq107 (Or.inr (slot_ne (Or.inl (hw _ (List.mem_of_getElem? (i := 47) rfl))) (Or.inl (hw _ (List.mem_of_getElem? (i := 71) rfl))) (by decide) (t := .byte) (t' := .int) (by decide) (by decide)))), Fw109, (Fld.other W109 Bmq107 (Or.inr (slot_ne (Or.inl (hw _ (List.mem_of_getElem? (i := 239) rfl))) (Or.inl (hw _ (List.mem_of_getElem? (i := 71) rfl))) (by decide) (t := .boolean) (t' := .int) (by decide) (by decide)))), (Fld.other W109 Bvq107 (Or.inr (slot_ne (Or.inl (hw _ (List.mem_of_getElem? (i := 45) rfl))) (Or.inl (hw _ (List.mem_of_getElem? (i := 71) rfl))) (by decide) (t := (.array .byte)) (t' := .int) (by decide) (by decide)))), (Aq107.other W109 (Ne.symm neq107)), Dq107, Pq107, Rq107⟩) (by decide) (by decide)
    · skip
      replace A1 := own_ln1 A1
      replace k := k.aloadN d9_0 rfl rfl
      replace k := k.ifnonnullYes (pc' := 9) d9_1 (by decide) (by decide)
      replace k := k.aloadN d9_9 rfl rfl
      obtain ⟨_, _, sp10, ⟨rfl, rfl⟩, k⟩ := k.callV (y := (⟨"java/lang/String", "length", "()I"⟩ : MethodName)) (z := (⟨"java/lang/String", "length", "()I"⟩ : MethodName)) (a := s1) d9_10 (hw _ (List.mem_of_getElem? (i := 59) rfl)) (hw _ (List.mem_of_getElem? (i := 60) rfl)) (fun s hs => notFace_of_selects (args := #[]) (mvT hs (hw _ (List.mem_of_getElem? (i := 62) rfl)))) (hw _ (List.mem_of_getElem? (i := 62) rfl)) (hw _ (List.mem_of_getElem? (i := 61) rfl)) (hw _ (List.mem_of_getElem? (i := 6) rfl)) (hw _ (List.mem_of_getElem? (i := 63) rfl)) E1 (W := 0) (argsL := []) (rest := []) (rm10 Z a0 hw zC vF s1 t1 (1 : Int32) n1 G1 h0 n0 Z0 S_C S_F S_AD S_HI S_LO hC hF E1 C1 V1 A1 D1 (Or.inr rfl) hn1) all0 rfl (pd_10) rfl rfl rfl (by decide) (by decide) (by decide) (by decide) (by decide)
      replace k := (k [] all0).sfx [sb, bv] rfl
      replace k := k.stk [(.int (Nat.toInt32 n1))] rfl
      replace k := k.istoreN #[.val (.ref sb), .val (.ref s1), .val (.int (Nat.toInt32 n1))] d9_13 rfl
      replace k := k.aloadN d9_14 rfl rfl
      replace k := k.aloadN d9_15 rfl rfl
      replace k := k.getF d9_16 (host := "") (Or.inl (hw _ (List.mem_of_getElem? (i := 70) rfl))) Via.refl Bn
      replace k := k.iloadN d9_19 rfl
      replace k := k.iadd d9_20
      obtain ⟨_, _, sp21, ⟨rfl, rfl⟩, k⟩ := k.callP (y := (⟨"java/lang/AbstractStringBuilder", "ensureCapacityInternal", "(I)V"⟩ : MethodName)) (a := sb) d9_21 (hw _ (List.mem_of_getElem? (i := 72) rfl)) (hw _ (List.mem_of_getElem? (i := 74) rfl)) (hw _ (List.mem_of_getElem? (i := 75) rfl)) (hw _ (List.mem_of_getElem? (i := 73) rfl)) (hw _ (List.mem_of_getElem? (i := 40) rfl)) (hw _ (List.mem_of_getElem? (i := 76) rfl)) Eb (W := 0) (argsL := [(.int ((Nat.toInt32 kq) + (Nat.toInt32 n1)))]) (rest := []) (rm12_1 Z a0 hw zC vF sb bv ((Nat.toInt32 kq) + (Nat.toInt32 n1)) (kq + n1) G h0 n0 Z0 S_C S_F S_AD S_HI S_LO hC hF Bc Bv Ab (own_ad (own_tn (by omega)) (own_tn (by omega)) (by omega)) hkn) all0 rfl (pd_23) rfl rfl rfl (by decide) (by decide) (by decide) (by decide) (by decide)
      replace k := (k [] all0).sfx [sb, bv] rfl
      replace k := k.stk [] rfl
      replace k := k.aloadN d9_24 rfl rfl
      replace k := k.aloadN d9_25 rfl rfl
      replace k := k.getF d9_26 (host := "") (Or.inl (hw _ (List.mem_of_getElem? (i := 70) rfl))) Via.refl Bn
      replace k := k.aloadN d9_29 rfl rfl
      obtain ⟨_, hq110, sp30, ⟨rfl, Kq110, bq110, cq110, Fq110, zq110, gq110, neq110, sq110, hcq110, Bcq110, Bnq110, Bmq110, Bvq110, Aq110, Dq110, Pq110, Rq110⟩, k⟩ := k.callP (y := (⟨"java/lang/AbstractStringBuilder", "putStringAt", "(ILjava/lang/String;)V"⟩ : MethodName)) (a := sb) d9_30 (hw _ (List.mem_of_getElem? (i := 77) rfl)) (hw _ (List.mem_of_getElem? (i := 79) rfl)) (hw _ (List.mem_of_getElem? (i := 80) rfl)) (hw _ (List.mem_of_getElem? (i := 78) rfl)) (hw _ (List.mem_of_getElem? (i := 40) rfl)) (hw _ (List.mem_of_getElem? (i := 81) rfl)) Eb (W := 0) (argsL := [(.int (Nat.toInt32 kq)), (.ref s1)]) (rest := []) (rm13_11 Z a0 hw zC vF sb bv kq G s1 t1 (Nat.toInt32 kq) n1 G1 h0 n0 Z0 S_C S_F S_AD S_HI S_LO hC hF gb gv neb Eb Bc Bn Bm Bv Ab Db hk E1 C1 V1 A1 D1 hn1 nes nes2 net net2 hkn (own_tn (by omega))) (allS (List.mem_of_getElem? (i := 0) rfl) (allS (List.mem_of_getElem? (i := 1) rfl) all0)) rfl (pd_27) rfl rfl rfl (by decide) (by decide) (by decide) (by decide) (by decide)
      have Kc111 : Keep h0 hq110 [sb, bv] := (Keep.refl h0 ([sb, bv] : List Addr)).trans Kq110 (allS (Or.inl (List.mem_of_getElem? (i := 0) rfl)) (allS (Or.inl (List.mem_of_getElem? (i := 1) rfl)) all0))
      replace k := (k [bq110] (allS ⟨sq110, Aq110.lt⟩ all0)).sfx [bq110, sb, bv] rfl
      replace k := k.stk [] rfl
      have zzq110 : bq110 = bv ∨ h0.size ≤ bq110 := zq110.imp id (Nat.le_trans (Keep.refl h0 ([sb, bv] : List Addr)).1)
      replace k := k.aloadN d9_33 rfl rfl
      replace k := k.dup d9_34 rfl
      replace k := k.getF d9_35 (host := "") (Or.inl (hw _ (List.mem_of_getElem? (i := 70) rfl))) Via.refl Bnq110
      replace k := k.iloadN d9_38 rfl
      replace k := k.iadd d9_39
      replace k := k.stk [(.int (Nat.toInt32 (kq + n1))), (.ref sb)] (by rw [own_addN])
      obtain ⟨h112, W112, k⟩ := k.putF d9_40 (host := "") (Or.inl (hw _ (List.mem_of_getElem? (i := 70) rfl))) Via.refl Bnq110 (Eb.keep Kq110) (Or.inl (hw _ (List.mem_of_getElem? (i := 71) rfl))) (hw _ (List.mem_of_getElem? (i := 31) rfl)) (ty := .int) (by decide) rfl rfl gb (List.mem_of_getElem? (i := 1) rfl)
      have Fw112 := Fld.same W112 Bnq110
      have K112 : Keep h0 h112 [sb, bv] := Kc111.wr W112 (Or.inl (List.mem_of_getElem? (i := 0) rfl))
      replace k := k.aloadN d9_43 rfl rfl
      exact k.aret d9_44 rfl rfl rfl rfl (fun sp hsp => ⟨rfl, K112, _, _, _, zzq110, gq110, neq110, (hsp _ (List.mem_of_getElem? (i := 0) rfl)), hcq110, (Fld.other W112 Bcq110 (Or.inr (slot_ne (Or.inl (hw _ (List.mem_of_getElem? (i := 47) rfl))) (Or.inl (hw _ (List.mem_of_getElem? (i := 71) rfl))) (by decide) (t := .byte) (t' := .int) (by decide) (by decide)))), Fw112, (Fld.other W112 Bmq110 (Or.inr (slot_ne (Or.inl (hw _ (List.mem_of_getElem? (i := 239) rfl))) (Or.inl (hw _ (List.mem_of_getElem? (i := 71) rfl))) (by decide) (t := .boolean) (t' := .int) (by decide) (by decide)))), (Fld.other W112 Bvq110 (Or.inr (slot_ne (Or.inl (hw _ (List.mem_of_getElem? (i := 45) rfl))) (Or.inl (hw _ (List.mem_of_getElem? (i := 71) rfl))) (by decide) (t := (.array .byte)) (t' := .int) (by decide) (by decide)))), (Aq110.other W112 (Ne.symm neq110)), Dq110, Pq110, Rq110⟩) (by decide) (by decide)

theorem d8_0 : decode jdk_67_method_7_code 0 = .ok (.aload_n 0, 1) := by decide +kernel
theorem d8_1 : decode jdk_67_method_7_code 1 = .ok (.aload_n 1, 1) := by decide +kernel
theorem d8_2 : decode jdk_67_method_7_code 2 = .ok (.invokespecial 29, 3) := by decide +kernel
theorem d8_5 : decode jdk_67_method_7_code 5 = .ok (.pop, 1) := by decide +kernel
theorem d8_6 : decode jdk_67_method_7_code 6 = .ok (.aload_n 0, 1) := by decide +kernel
theorem d8_7 : decode jdk_67_method_7_code 7 = .ok (.areturn, 1) := by decide +kernel
set_option maxRecDepth 65536 in
set_option maxHeartbeats 40000000 in
theorem rm8 (Z : State) (a0 : Array Value) (hw : ∀ d ∈ tables_1, d.before a0 Z = true) (zC : Int32) (vF : Value) (sb bv : Addr) (cod : Int32) (kq : Nat) (G : Nat → Int32) (s1 t1 : Addr) (cod1 : Int32) (n1 : Nat) (G1 : Nat → Int32) (h0 : Heap) (n0 : Nat) (Z0 : n0 ≤ h0.size) (S_C : Sta Z h0 "java/lang/String" "COMPACT_STRINGS" "Z" (.int zC)) (S_F : Sta Z h0 "jdk/internal/util/Preconditions" "SIOOBE_FORMATTER" "Ljava/util/function/BiFunction;" vF) (S_AD : Sta Z h0 "java/lang/StringUTF16" "$assertionsDisabled" "Z" (.int (1 : Int32))) (S_HI : Sta Z h0 "java/lang/StringUTF16" "HI_BYTE_SHIFT" "I" (.int (0 : Int32))) (S_LO : Sta Z h0 "java/lang/StringUTF16" "LO_BYTE_SHIFT" "I" (.int (8 : Int32))) (hC : ¬ (zC = (0 : Int32))) (hF : vF = .null ∨ ∃ b, vF = .ref b) (gb : n0 ≤ sb) (gv : n0 ≤ bv) (neb : sb ≠ bv) (Eb : Exa Z h0 sb "java/lang/StringBuilder") (Bc : Fld Z h0 sb "java/lang/AbstractStringBuilder" "coder" "B" (.int cod)) (Bn : Fld Z h0 sb "java/lang/AbstractStringBuilder" "count" "I" (.int (Nat.toInt32 kq))) (Bm : Fld Z h0 sb "java/lang/AbstractStringBuilder" "maybeLatin1" "Z" (.int (0 : Int32))) (Bv : Fld Z h0 sb "java/lang/AbstractStringBuilder" "value" "[B" (.ref bv)) (Ab : Arf Z h0 bv .byte (own_ln cod 16) (own_bf G)) (Db : own_der G) (hk : kq ≤ 16) (hcb : cod = 0 ∨ cod = 1) (E1 : Exa Z h0 s1 "java/lang/String") (C1 : Fld Z h0 s1 "java/lang/String" "coder" "B" (.int cod1)) (V1 : Fld Z h0 s1 "java/lang/String" "value" "[B" (.ref t1)) (A1 : Arf Z h0 t1 .byte (own_ln cod1 n1) (own_bf G1)) (D1 : own_der G1) (hn1 : n1 ≤ 16) (nes : s1 ≠ sb) (nes2 : s1 ≠ bv) (net : t1 ≠ sb) (net2 : t1 ≠ bv) (hkn : kq + n1 ≤ 16) (hc1 : cod1 = 0 ∨ cod1 = 1) :
    Con Z n0 (⟨"java/lang/StringBuilder", "append", "(Ljava/lang/String;)Ljava/lang/StringBuilder;"⟩ : MethodName) jdk_67_method_7_code 2 (some (.object "java/lang/StringBuilder")) [] ({ frames := 9, cells := 1, slots := 32, locals := 130 } : Room) #[(.ref sb), (.ref s1)] h0 [sb, bv] (fun v h sp => v = some (.ref sb) ∧ Keep h0 h [sb, bv] ∧ ∃ b2 c2 G2, (b2 = bv ∨ h0.size ≤ b2) ∧ n0 ≤ b2 ∧ sb ≠ b2 ∧ sp b2 ∧ (c2 = 0 ∨ c2 = 1) ∧ Fld Z h sb "java/lang/AbstractStringBuilder" "coder" "B" (.int c2) ∧ Fld Z h sb "java/lang/AbstractStringBuilder" "count" "I" (.int (Nat.toInt32 (kq + n1))) ∧ Fld Z h sb "java/lang/AbstractStringBuilder" "maybeLatin1" "Z" (.int (0 : Int32)) ∧ Fld Z h sb "java/lang/AbstractStringBuilder" "value" "[B" (.ref b2) ∧ Arf Z h b2 .byte (own_ln c2 16) (own_bf G2) ∧ own_der G2 ∧ (∀ i, i < kq → own_dec c2 G2 i = own_dec cod G i) ∧ ∀ i, i < n1 → own_dec c2 G2 (kq + i) = own_dec cod1 G1 i) := by
  refine Con.intro (L0 := #[.val (.ref sb), .val (.ref s1)]) ⟨_, own_EW hw⟩ (plainFor_of_name (by first | (simp [plainName, overriddenIn]; done) | decide +kernel)) (fun m => by first | (simp [entryFrame, mkF, argsToLocals, Value.category]; done) | rfl) ?_
  intro C k
  replace k := k.aloadN d8_0 rfl rfl
  replace k := k.aloadN d8_1 rfl rfl
  obtain ⟨_, ha101, sp2, ⟨rfl, Ka101, ba101, ca101, Fa101, za101, ga101, nea101, sa101, hca101, Bcra101, Bcta101, Bm1a101, Bvea101, Aa101, Da101, Pa101, Ra101⟩, k⟩ := k.callU (y := (⟨"java/lang/AbstractStringBuilder", "append", "(Ljava/lang/String;)Ljava/lang/AbstractStringBuilder;"⟩ : MethodName)) (a := sb) d8_2 (hw _ (List.mem_of_getElem? (i := 54) rfl)) (hw _ (List.mem_of_getElem? (i := 75) rfl)) rfl (hw _ (List.mem_of_getElem? (i := 55) rfl)) (hw _ (List.mem_of_getElem? (i := 56) rfl)) (by decide) (hw _ (List.mem_of_getElem? (i := 40) rfl)) (hw _ (List.mem_of_getElem? (i := 58) rfl)) (Ins.self Eb) (W := 0) (argsL := [(.ref s1)]) (rest := []) (rm9 Z a0 hw zC vF sb bv cod kq G s1 t1 cod1 n1 G1 h0 n0 Z0 S_C S_F S_AD S_HI S_LO hC hF gb gv neb Eb Bc Bn Bm Bv Ab Db (by omega) hcb E1 C1 V1 A1 D1 hn1 nes nes2 net net2 (by omega) hc1) (allS (List.mem_of_getElem? (i := 0) rfl) (allS (List.mem_of_getElem? (i := 1) rfl) all0)) rfl (pd_28) rfl rfl rfl (by decide) (by decide) (by decide) (by decide) (by decide)
  have Kc102 : Keep h0 ha101 [sb, bv] := (Keep.refl h0 ([sb, bv] : List Addr)).trans Ka101 (allS (Or.inl (List.mem_of_getElem? (i := 0) rfl)) (allS (Or.inl (List.mem_of_getElem? (i := 1) rfl)) all0))
  replace k := (k [ba101] (allS ⟨sa101, Aa101.lt⟩ all0)).sfx [ba101, sb, bv] rfl
  replace k := k.stk [(.ref sb)] rfl
  replace k := k.pop d8_5 rfl
  replace k := k.aloadN d8_6 rfl rfl
  exact k.aret d8_7 rfl rfl rfl rfl (fun sp hsp => ⟨rfl, Kc102, _, _, _, za101, ga101, nea101, (hsp _ (List.mem_of_getElem? (i := 0) rfl)), hca101, Bcra101, Bcta101, Bm1a101, Bvea101, Aa101, Da101, Pa101, Ra101⟩) (by decide) (by decide)

theorem d26_0 : decode jdk_65_method_131_code 0 = .ok (.iload_n 1, 1) := by decide +kernel
theorem d26_1 : decode jdk_65_method_131_code 1 = .ok (.iload_n 0, 1) := by decide +kernel
theorem d26_2 : decode jdk_65_method_131_code 2 = .ok (.if_icmp .ge 35, 3) := by decide +kernel
theorem d26_37 : decode jdk_65_method_131_code 37 = .ok (.return_, 1) := by decide +kernel
set_option maxRecDepth 65536 in
set_option maxHeartbeats 40000000 in
theorem rm26 (Z : State) (a0 : Array Value) (hw : ∀ d ∈ tables_1, d.before a0 Z = true) (p1 p2 : Int32) (h0 : Heap) (n0 : Nat) (h1 : ¬ p2 < p1) :
    Con Z n0 (⟨"java/util/Arrays", "checkLength", "(II)V"⟩ : MethodName) jdk_65_method_131_code 2 none [] ({ frames := 0, cells := 0, slots := 0, locals := 0 } : Room) #[(.int p1), (.int p2)] h0 [] (fun v h sp => v = none ∧ h0 = h) := by
  refine Con.intro (L0 := #[.val (.int p1), .val (.int p2)]) ⟨_, own_EW hw⟩ (plainFor_of_name (by first | (simp [plainName, overriddenIn]; done) | decide +kernel)) (fun m => by first | (simp [entryFrame, mkF, argsToLocals, Value.category]; done) | rfl) ?_
  intro C k
  replace k := k.iloadN d26_0 rfl
  replace k := k.iloadN d26_1 rfl
  replace k := k.icmpYes (pc' := 37) d26_2 (flt h1).2.1 (by decide) (by decide)
  exact k.vret d26_37 rfl (fun sp hsp => ⟨rfl, rfl⟩) (by decide) (by decide)

theorem d27_0 : decode jdk_29_method_69_code 0 = .ok (.iload_n 0, 1) := by decide +kernel
theorem d27_1 : decode jdk_29_method_69_code 1 = .ok (.iload_n 1, 1) := by decide +kernel
theorem d27_2 : decode jdk_29_method_69_code 2 = .ok (.if_icmp .gt 7, 3) := by decide +kernel
theorem d27_5 : decode jdk_29_method_69_code 5 = .ok (.iload_n 0, 1) := by decide +kernel
theorem d27_6 : decode jdk_29_method_69_code 6 = .ok (.goto 4, 3) := by decide +kernel
theorem d27_9 : decode jdk_29_method_69_code 9 = .ok (.iload_n 1, 1) := by decide +kernel
theorem d27_10 : decode jdk_29_method_69_code 10 = .ok (.ireturn, 1) := by decide +kernel
set_option maxRecDepth 65536 in
set_option maxHeartbeats 40000000 in
theorem rm27 (Z : State) (a0 : Array Value) (hw : ∀ d ∈ tables_1, d.before a0 Z = true) (p1 p2 : Int32) (h0 : Heap) (n0 : Nat)  :
    Con Z n0 (⟨"java/lang/Math", "min", "(II)I"⟩ : MethodName) jdk_29_method_69_code 2 (some .int) [] ({ frames := 0, cells := 0, slots := 0, locals := 0 } : Room) #[(.int p1), (.int p2)] h0 [] (fun v h sp => v = some (.int (own_mn p1 p2)) ∧ h0 = h) := by
  refine Con.intro (L0 := #[.val (.int p1), .val (.int p2)]) ⟨_, own_EW hw⟩ (Jvm.Free.JP.mathPlain rfl (by decide +kernel)) (fun m => by first | (simp [entryFrame, mkF, argsToLocals, Value.category]; done) | rfl) ?_
  intro C k
  replace k := k.iloadN d27_0 rfl
  replace k := k.iloadN d27_1 rfl
  by_cases hc101 : p2 < p1
  · skip
    replace k := k.icmpYes (pc' := 9) d27_2 (tlt hc101).2.2.1 (by decide) (by decide)
    replace k := k.iloadN d27_9 rfl
    exact k.iret d27_10 rfl (by simp) rfl (fun sp hsp => ⟨by rw [own_mn, if_pos hc101], rfl⟩) (by decide) (by decide)
  · skip
    replace k := k.icmpNo d27_2 (flt hc101).2.2.1
    replace k := k.iloadN d27_5 rfl
    replace k := k.goto (pc' := 10) d27_6 (by decide) (by decide)
    exact k.iret d27_10 rfl (by simp) rfl (fun sp hsp => ⟨by rw [own_mn, if_neg hc101], rfl⟩) (by decide) (by decide)

theorem d25_0 : decode jdk_65_method_133_code 0 = .ok (.iload_n 1, 1) := by decide +kernel
theorem d25_1 : decode jdk_65_method_133_code 1 = .ok (.iload_n 2, 1) := by decide +kernel
theorem d25_2 : decode jdk_65_method_133_code 2 = .ok (.invokestatic 343, 3) := by decide +kernel
theorem d25_5 : decode jdk_65_method_133_code 5 = .ok (.iload_n 2, 1) := by decide +kernel
theorem d25_6 : decode jdk_65_method_133_code 6 = .ok (.iload_n 1, 1) := by decide +kernel
theorem d25_7 : decode jdk_65_method_133_code 7 = .ok (.isub, 1) := by decide +kernel
theorem d25_8 : decode jdk_65_method_133_code 8 = .ok (.istore_n 3, 1) := by decide +kernel
theorem d25_9 : decode jdk_65_method_133_code 9 = .ok (.iload_n 3, 1) := by decide +kernel
theorem d25_10 : decode jdk_65_method_133_code 10 = .ok (.newarray .byte, 2) := by decide +kernel
theorem d25_12 : decode jdk_65_method_133_code 12 = .ok (.astore 4, 2) := by decide +kernel
theorem d25_14 : decode jdk_65_method_133_code 14 = .ok (.aload_n 0, 1) := by decide +kernel
theorem d25_15 : decode jdk_65_method_133_code 15 = .ok (.iload_n 1, 1) := by decide +kernel
theorem d25_16 : decode jdk_65_method_133_code 16 = .ok (.aload 4, 2) := by decide +kernel
theorem d25_18 : decode jdk_65_method_133_code 18 = .ok (.iconst 0, 1) := by decide +kernel
theorem d25_19 : decode jdk_65_method_133_code 19 = .ok (.aload_n 0, 1) := by decide +kernel
theorem d25_20 : decode jdk_65_method_133_code 20 = .ok (.arraylength, 1) := by decide +kernel
theorem d25_21 : decode jdk_65_method_133_code 21 = .ok (.iload_n 1, 1) := by decide +kernel
theorem d25_22 : decode jdk_65_method_133_code 22 = .ok (.isub, 1) := by decide +kernel
theorem d25_23 : decode jdk_65_method_133_code 23 = .ok (.iload_n 3, 1) := by decide +kernel
theorem d25_24 : decode jdk_65_method_133_code 24 = .ok (.invokestatic 304, 3) := by decide +kernel
theorem d25_27 : decode jdk_65_method_133_code 27 = .ok (.invokestatic 150, 3) := by decide +kernel
theorem d25_30 : decode jdk_65_method_133_code 30 = .ok (.aload 4, 2) := by decide +kernel
theorem d25_32 : decode jdk_65_method_133_code 32 = .ok (.areturn, 1) := by decide +kernel
set_option maxRecDepth 65536 in
set_option maxHeartbeats 40000000 in
theorem rm25_16 (Z : State) (a0 : Array Value) (hw : ∀ d ∈ tables_1, d.before a0 Z = true) (zC : Int32) (vF : Value) (a1 : Addr) (t : Int32) (M : Nat) (G : Nat → Int32) (h0 : Heap) (n0 : Nat) (Z0 : n0 ≤ h0.size) (S_C : Sta Z h0 "java/lang/String" "COMPACT_STRINGS" "Z" (.int zC)) (S_F : Sta Z h0 "jdk/internal/util/Preconditions" "SIOOBE_FORMATTER" "Ljava/util/function/BiFunction;" vF) (S_AD : Sta Z h0 "java/lang/StringUTF16" "$assertionsDisabled" "Z" (.int (1 : Int32))) (S_HI : Sta Z h0 "java/lang/StringUTF16" "HI_BYTE_SHIFT" "I" (.int (0 : Int32))) (S_LO : Sta Z h0 "java/lang/StringUTF16" "LO_BYTE_SHIFT" "I" (.int (8 : Int32))) (hC : ¬ (zC = (0 : Int32))) (hF : vF = .null ∨ ∃ b, vF = .ref b) (A1 : Arf Z h0 a1 .byte 16 (own_bf G)) (hD : own_der G) (ht : t.toInt = (M : Int)) (hM : M < 16) :
    Con Z n0 (⟨"java/util/Arrays", "copyOfRangeByte", "([BII)[B"⟩ : MethodName) jdk_65_method_133_code 5 (some (.array .byte)) [] ({ frames := 1, cells := 1, slots := 32, locals := 18 } : Room) #[(.ref a1), (.int (0 : Int32)), (.int t)] h0 [] (fun v h sp => ∃ b, v = some (.ref b) ∧ Keep h0 h [] ∧ h0.size ≤ b ∧ Arf Z h b .byte M (own_bf G)) := by
  refine Con.intro (L0 := #[.val (.ref a1), .val (.int (0 : Int32)), .val (.int t), .unset, .unset]) ⟨_, own_EW hw⟩ (plainFor_of_name (by first | (simp [plainName, overriddenIn]; done) | decide +kernel)) (fun m => by first | (simp [entryFrame, mkF, argsToLocals, Value.category]; done) | rfl) ?_
  intro C k
  replace k := k.iloadN d25_0 rfl
  replace k := k.iloadN d25_1 rfl
  obtain ⟨_, _, sp2, ⟨rfl, rfl⟩, k⟩ := k.callS (y := (⟨"java/util/Arrays", "checkLength", "(II)V"⟩ : MethodName)) d25_2 (hw _ (List.mem_of_getElem? (i := 142) rfl)) (hw _ (List.mem_of_getElem? (i := 143) rfl)) (hw _ (List.mem_of_getElem? (i := 137) rfl)) (hw _ (List.mem_of_getElem? (i := 144) rfl)) (W := 0) (argsL := [(.int (0 : Int32)), (.int t)]) (rest := []) (rm26 Z a0 hw (0 : Int32) t h0 n0 (own_nn ht)) all0 rfl (pd_4) rfl rfl rfl (by decide) (by decide) (by decide) (by decide) (by decide)
  replace k := (k [] all0).sfx [] rfl
  replace k := k.stk [] rfl
  have hN : (t - (0 : Int32)).toInt = ((M : Nat) : Int) := own_sb0 ht
  replace k := k.iloadN d25_5 rfl
  replace k := k.iloadN d25_6 rfl
  replace k := k.isub d25_7
  replace k := k.istoreN #[.val (.ref a1), .val (.int (0 : Int32)), .val (.int t), .val (.int (t - (0 : Int32))), .unset] d25_8 rfl
  replace k := k.iloadN d25_9 rfl
  obtain ⟨h101, b101, g101, E101, A101, X101, k⟩ := k.newarr (ad := "[B") d25_10 (hw _ (List.mem_of_getElem? (i := 19) rfl)) (own_nn hN) M (own_at hN) 32 (by omega) (by decide) (by decide) (by decide) (by decide)
  have ge_b101 : n0 ≤ b101 := Nat.le_trans Z0 (Nat.le_of_eq g101.symm)
  have sz_b101 : h0.size ≤ b101 := Nat.le_trans (Keep.refl h0 ([] : List Addr)).1 (Nat.le_of_eq g101.symm)
  have K101 : Keep h0 h101 [] := (Keep.refl h0 ([] : List Addr)).ext E101
  replace k := k.astore #[.val (.ref a1), .val (.int (0 : Int32)), .val (.int t), .val (.int (t - (0 : Int32))), .val (.ref b101)] d25_12 rfl rfl
  replace k := k.aloadN d25_14 rfl rfl
  replace k := k.iloadN d25_15 rfl
  replace k := k.aload d25_16 rfl rfl
  replace k := k.iconst (0 : Int32) d25_18 rfl
  replace k := k.aloadN d25_19 rfl rfl
  replace k := k.arrlen d25_20 (A1.ext E101) (16 : Int32) (by decide)
  replace k := k.iloadN d25_21 rfl
  replace k := k.isub d25_22
  replace k := k.foldI (16 : Int32) (by decide)
  replace k := k.iloadN d25_23 rfl
  obtain ⟨_, _, sp24, ⟨rfl, rfl⟩, k⟩ := k.callS (y := (⟨"java/lang/Math", "min", "(II)I"⟩ : MethodName)) d25_24 (hw _ (List.mem_of_getElem? (i := 145) rfl)) (hw _ (List.mem_of_getElem? (i := 146) rfl)) (hw _ (List.mem_of_getElem? (i := 147) rfl)) (hw _ (List.mem_of_getElem? (i := 148) rfl)) (W := 4) (argsL := [(.int (16 : Int32)), (.int (t - (0 : Int32)))]) (rest := [(.int (0 : Int32)), (.ref b101), (.int (0 : Int32)), (.ref a1)]) (rm27 Z a0 hw (16 : Int32) (t - (0 : Int32)) h101 n0) all0 rfl (pd_29) rfl rfl rfl (by decide) (by decide) (by decide) (by decide) (by decide)
  replace k := (k [] all0).sfx [b101] rfl
  replace k := k.stk [(.int (own_mn (16 : Int32) (t - (0 : Int32)))), (.int (0 : Int32)), (.ref b101), (.int (0 : Int32)), (.ref a1)] rfl
  replace k := k.stk [(.int (t - (0 : Int32))), (.int (0 : Int32)), (.ref b101), (.int (0 : Int32)), (.ref a1)] (by rw [own_mnl hN (m := 16) (by decide) (by omega)])
  obtain ⟨h102, K102, A102, k⟩ := k.bcopy (W := 0) d25_27 (hw _ (List.mem_of_getElem? (i := 149) rfl)) (hw _ (List.mem_of_getElem? (i := 96) rfl)) (hw _ (List.mem_of_getElem? (i := 94) rfl)) (hw _ (List.mem_of_getElem? (i := 95) rfl)) (A1.ext E101) A101 (by decide) (by omega) (fun i _ => own_derF hD i) (fun i _ => by decide) 0 0 M (by decide) (by decide) (by decide) (by decide) (own_at hN) (own_nn hN) (by omega) (by omega) ge_b101 (List.mem_of_getElem? (i := 0) rfl) rfl rfl (by decide) (by decide)
  have Kc103 : Keep h0 h102 [] := K101.trans K102 (allS (Or.inr sz_b101) all0)
  replace k := k.aload d25_30 rfl rfl
  exact k.aret d25_32 rfl rfl rfl rfl (fun sp hsp => ⟨_, rfl, Kc103, sz_b101, (own_cpW A102)⟩) (by decide) (by decide)

theorem d24_0 : decode jdk_65_method_132_code 0 = .ok (.iload_n 1, 1) := by decide +kernel
theorem d24_1 : decode jdk_65_method_132_code 1 = .ok (.ifCond .ne 9, 3) := by decide +kernel
theorem d24_4 : decode jdk_65_method_132_code 4 = .ok (.iload_n 2, 1) := by decide +kernel
theorem d24_5 : decode jdk_65_method_132_code 5 = .ok (.aload_n 0, 1) := by decide +kernel
theorem d24_6 : decode jdk_65_method_132_code 6 = .ok (.arraylength, 1) := by decide +kernel
theorem d24_7 : decode jdk_65_method_132_code 7 = .ok (.if_icmp .eq 10, 3) := by decide +kernel
theorem d24_10 : decode jdk_65_method_132_code 10 = .ok (.aload_n 0, 1) := by decide +kernel
theorem d24_11 : decode jdk_65_method_132_code 11 = .ok (.iload_n 1, 1) := by decide +kernel
theorem d24_12 : decode jdk_65_method_132_code 12 = .ok (.iload_n 2, 1) := by decide +kernel
theorem d24_13 : decode jdk_65_method_132_code 13 = .ok (.invokestatic 339, 3) := by decide +kernel
theorem d24_16 : decode jdk_65_method_132_code 16 = .ok (.areturn, 1) := by decide +kernel
set_option maxRecDepth 65536 in
set_option maxHeartbeats 40000000 in
theorem rm24_16 (Z : State) (a0 : Array Value) (hw : ∀ d ∈ tables_1, d.before a0 Z = true) (zC : Int32) (vF : Value) (a1 : Addr) (t : Int32) (M : Nat) (G : Nat → Int32) (h0 : Heap) (n0 : Nat) (Z0 : n0 ≤ h0.size) (S_C : Sta Z h0 "java/lang/String" "COMPACT_STRINGS" "Z" (.int zC)) (S_F : Sta Z h0 "jdk/internal/util/Preconditions" "SIOOBE_FORMATTER" "Ljava/util/function/BiFunction;" vF) (S_AD : Sta Z h0 "java/lang/StringUTF16" "$assertionsDisabled" "Z" (.int (1 : Int32))) (S_HI : Sta Z h0 "java/lang/StringUTF16" "HI_BYTE_SHIFT" "I" (.int (0 : Int32))) (S_LO : Sta Z h0 "java/lang/StringUTF16" "LO_BYTE_SHIFT" "I" (.int (8 : Int32))) (hC : ¬ (zC = (0 : Int32))) (hF : vF = .null ∨ ∃ b, vF = .ref b) (A1 : Arf Z h0 a1 .byte 16 (own_bf G)) (hD : own_der G) (ht : t.toInt = (M : Int)) (hM : M < 16) :
    Con Z n0 (⟨"java/util/Arrays", "copyOfRange", "([BII)[B"⟩ : MethodName) jdk_65_method_132_code 3 (some (.array .byte)) [] ({ frames := 2, cells := 1, slots := 32, locals := 34 } : Room) #[(.ref a1), (.int (0 : Int32)), (.int t)] h0 [] (fun v h sp => ∃ b, v = some (.ref b) ∧ Keep h0 h [] ∧ h0.size ≤ b ∧ Arf Z h b .byte M (own_bf G)) := by
  refine Con.intro (L0 := #[.val (.ref a1), .val (.int (0 : Int32)), .val (.int t)]) ⟨_, own_EW hw⟩ (plainFor_of_name (by first | (simp [plainName, overriddenIn]; done) | decide +kernel)) (fun m => by first | (simp [entryFrame, mkF, argsToLocals, Value.category]; done) | rfl) ?_
  intro C k
  replace k := k.iloadN d24_0 rfl
  replace k := k.ifNo d24_1 (by decide)
  replace k := k.iloadN d24_4 rfl
  replace k := k.aloadN d24_5 rfl rfl
  replace k := k.arrlen d24_6 A1 (16 : Int32) (by decide)
  replace k := k.icmpNo d24_7 (feq (own_neN (B := 16) ht (by decide) (by omega))).1
  replace k := k.aloadN d24_10 rfl rfl
  replace k := k.iloadN d24_11 rfl
  replace k := k.iloadN d24_12 rfl
  obtain ⟨_, hk101, sp13, ⟨bk101, rfl, Kk101, zk101, Ak101⟩, k⟩ := k.callS (y := (⟨"java/util/Arrays", "copyOfRangeByte", "([BII)[B"⟩ : MethodName)) d24_13 (hw _ (List.mem_of_getElem? (i := 139) rfl)) (hw _ (List.mem_of_getElem? (i := 140) rfl)) (hw _ (List.mem_of_getElem? (i := 137) rfl)) (hw _ (List.mem_of_getElem? (i := 141) rfl)) (W := 0) (argsL := [(.ref a1), (.int (0 : Int32)), (.int t)]) (rest := []) (rm25_16 Z a0 hw zC vF a1 t M G h0 n0 Z0 S_C S_F S_AD S_HI S_LO hC hF A1 hD ht hM) all0 rfl (pd_30) rfl rfl rfl (by decide) (by decide) (by decide) (by decide) (by decide)
  have Kc102 : Keep h0 hk101 [] := (Keep.refl h0 ([] : List Addr)).trans Kk101 all0
  replace k := (k [] all0).sfx [] rfl
  replace k := k.stk [(.ref bk101)] rfl
  exact k.aret d24_16 rfl rfl rfl rfl (fun sp hsp => ⟨_, rfl, Kk101, zk101, Ak101⟩) (by decide) (by decide)

set_option maxRecDepth 65536 in
set_option maxHeartbeats 40000000 in
theorem rm25_32 (Z : State) (a0 : Array Value) (hw : ∀ d ∈ tables_1, d.before a0 Z = true) (zC : Int32) (vF : Value) (a1 : Addr) (t : Int32) (M : Nat) (G : Nat → Int32) (h0 : Heap) (n0 : Nat) (Z0 : n0 ≤ h0.size) (S_C : Sta Z h0 "java/lang/String" "COMPACT_STRINGS" "Z" (.int zC)) (S_F : Sta Z h0 "jdk/internal/util/Preconditions" "SIOOBE_FORMATTER" "Ljava/util/function/BiFunction;" vF) (S_AD : Sta Z h0 "java/lang/StringUTF16" "$assertionsDisabled" "Z" (.int (1 : Int32))) (S_HI : Sta Z h0 "java/lang/StringUTF16" "HI_BYTE_SHIFT" "I" (.int (0 : Int32))) (S_LO : Sta Z h0 "java/lang/StringUTF16" "LO_BYTE_SHIFT" "I" (.int (8 : Int32))) (hC : ¬ (zC = (0 : Int32))) (hF : vF = .null ∨ ∃ b, vF = .ref b) (A1 : Arf Z h0 a1 .byte 32 (own_bf G)) (hD : own_der G) (ht : t.toInt = (M : Int)) (hM : M < 32) :
    Con Z n0 (⟨"java/util/Arrays", "copyOfRangeByte", "([BII)[B"⟩ : MethodName) jdk_65_method_133_code 5 (some (.array .byte)) [] ({ frames := 1, cells := 1, slots := 32, locals := 18 } : Room) #[(.ref a1), (.int (0 : Int32)), (.int t)] h0 [] (fun v h sp => ∃ b, v = some (.ref b) ∧ Keep h0 h [] ∧ h0.size ≤ b ∧ Arf Z h b .byte M (own_bf G)) := by
  refine Con.intro (L0 := #[.val (.ref a1), .val (.int (0 : Int32)), .val (.int t), .unset, .unset]) ⟨_, own_EW hw⟩ (plainFor_of_name (by first | (simp [plainName, overriddenIn]; done) | decide +kernel)) (fun m => by first | (simp [entryFrame, mkF, argsToLocals, Value.category]; done) | rfl) ?_
  intro C k
  replace k := k.iloadN d25_0 rfl
  replace k := k.iloadN d25_1 rfl
  obtain ⟨_, _, sp2, ⟨rfl, rfl⟩, k⟩ := k.callS (y := (⟨"java/util/Arrays", "checkLength", "(II)V"⟩ : MethodName)) d25_2 (hw _ (List.mem_of_getElem? (i := 142) rfl)) (hw _ (List.mem_of_getElem? (i := 143) rfl)) (hw _ (List.mem_of_getElem? (i := 137) rfl)) (hw _ (List.mem_of_getElem? (i := 144) rfl)) (W := 0) (argsL := [(.int (0 : Int32)), (.int t)]) (rest := []) (rm26 Z a0 hw (0 : Int32) t h0 n0 (own_nn ht)) all0 rfl (pd_4) rfl rfl rfl (by decide) (by decide) (by decide) (by decide) (by decide)
  replace k := (k [] all0).sfx [] rfl
  replace k := k.stk [] rfl
  have hN : (t - (0 : Int32)).toInt = ((M : Nat) : Int) := own_sb0 ht
  replace k := k.iloadN d25_5 rfl
  replace k := k.iloadN d25_6 rfl
  replace k := k.isub d25_7
  replace k := k.istoreN #[.val (.ref a1), .val (.int (0 : Int32)), .val (.int t), .val (.int (t - (0 : Int32))), .unset] d25_8 rfl
  replace k := k.iloadN d25_9 rfl
  obtain ⟨h101, b101, g101, E101, A101, X101, k⟩ := k.newarr (ad := "[B") d25_10 (hw _ (List.mem_of_getElem? (i := 19) rfl)) (own_nn hN) M (own_at hN) 32 (by omega) (by decide) (by decide) (by decide) (by decide)
  have ge_b101 : n0 ≤ b101 := Nat.le_trans Z0 (Nat.le_of_eq g101.symm)
  have sz_b101 : h0.size ≤ b101 := Nat.le_trans (Keep.refl h0 ([] : List Addr)).1 (Nat.le_of_eq g101.symm)
  have K101 : Keep h0 h101 [] := (Keep.refl h0 ([] : List Addr)).ext E101
  replace k := k.astore #[.val (.ref a1), .val (.int (0 : Int32)), .val (.int t), .val (.int (t - (0 : Int32))), .val (.ref b101)] d25_12 rfl rfl
  replace k := k.aloadN d25_14 rfl rfl
  replace k := k.iloadN d25_15 rfl
  replace k := k.aload d25_16 rfl rfl
  replace k := k.iconst (0 : Int32) d25_18 rfl
  replace k := k.aloadN d25_19 rfl rfl
  replace k := k.arrlen d25_20 (A1.ext E101) (32 : Int32) (by decide)
  replace k := k.iloadN d25_21 rfl
  replace k := k.isub d25_22
  replace k := k.foldI (32 : Int32) (by decide)
  replace k := k.iloadN d25_23 rfl
  obtain ⟨_, _, sp24, ⟨rfl, rfl⟩, k⟩ := k.callS (y := (⟨"java/lang/Math", "min", "(II)I"⟩ : MethodName)) d25_24 (hw _ (List.mem_of_getElem? (i := 145) rfl)) (hw _ (List.mem_of_getElem? (i := 146) rfl)) (hw _ (List.mem_of_getElem? (i := 147) rfl)) (hw _ (List.mem_of_getElem? (i := 148) rfl)) (W := 4) (argsL := [(.int (32 : Int32)), (.int (t - (0 : Int32)))]) (rest := [(.int (0 : Int32)), (.ref b101), (.int (0 : Int32)), (.ref a1)]) (rm27 Z a0 hw (32 : Int32) (t - (0 : Int32)) h101 n0) all0 rfl (pd_29) rfl rfl rfl (by decide) (by decide) (by decide) (by decide) (by decide)
  replace k := (k [] all0).sfx [b101] rfl
  replace k := k.stk [(.int (own_mn (32 : Int32) (t - (0 : Int32)))), (.int (0 : Int32)), (.ref b101), (.int (0 : Int32)), (.ref a1)] rfl
  replace k := k.stk [(.int (t - (0 : Int32))), (.int (0 : Int32)), (.ref b101), (.int (0 : Int32)), (.ref a1)] (by rw [own_mnl hN (m := 32) (by decide) (by omega)])
  obtain ⟨h102, K102, A102, k⟩ := k.bcopy (W := 0) d25_27 (hw _ (List.mem_of_getElem? (i := 149) rfl)) (hw _ (List.mem_of_getElem? (i := 96) rfl)) (hw _ (List.mem_of_getElem? (i := 94) rfl)) (hw _ (List.mem_of_getElem? (i := 95) rfl)) (A1.ext E101) A101 (by decide) (by omega) (fun i _ => own_derF hD i) (fun i _ => by decide) 0 0 M (by decide) (by decide) (by decide) (by decide) (own_at hN) (own_nn hN) (by omega) (by omega) ge_b101 (List.mem_of_getElem? (i := 0) rfl) rfl rfl (by decide) (by decide)
  have Kc103 : Keep h0 h102 [] := K101.trans K102 (allS (Or.inr sz_b101) all0)
  replace k := k.aload d25_30 rfl rfl
  exact k.aret d25_32 rfl rfl rfl rfl (fun sp hsp => ⟨_, rfl, Kc103, sz_b101, (own_cpW A102)⟩) (by decide) (by decide)

set_option maxRecDepth 65536 in
set_option maxHeartbeats 40000000 in
theorem rm24_32 (Z : State) (a0 : Array Value) (hw : ∀ d ∈ tables_1, d.before a0 Z = true) (zC : Int32) (vF : Value) (a1 : Addr) (t : Int32) (M : Nat) (G : Nat → Int32) (h0 : Heap) (n0 : Nat) (Z0 : n0 ≤ h0.size) (S_C : Sta Z h0 "java/lang/String" "COMPACT_STRINGS" "Z" (.int zC)) (S_F : Sta Z h0 "jdk/internal/util/Preconditions" "SIOOBE_FORMATTER" "Ljava/util/function/BiFunction;" vF) (S_AD : Sta Z h0 "java/lang/StringUTF16" "$assertionsDisabled" "Z" (.int (1 : Int32))) (S_HI : Sta Z h0 "java/lang/StringUTF16" "HI_BYTE_SHIFT" "I" (.int (0 : Int32))) (S_LO : Sta Z h0 "java/lang/StringUTF16" "LO_BYTE_SHIFT" "I" (.int (8 : Int32))) (hC : ¬ (zC = (0 : Int32))) (hF : vF = .null ∨ ∃ b, vF = .ref b) (A1 : Arf Z h0 a1 .byte 32 (own_bf G)) (hD : own_der G) (ht : t.toInt = (M : Int)) (hM : M < 32) :
    Con Z n0 (⟨"java/util/Arrays", "copyOfRange", "([BII)[B"⟩ : MethodName) jdk_65_method_132_code 3 (some (.array .byte)) [] ({ frames := 2, cells := 1, slots := 32, locals := 34 } : Room) #[(.ref a1), (.int (0 : Int32)), (.int t)] h0 [] (fun v h sp => ∃ b, v = some (.ref b) ∧ Keep h0 h [] ∧ h0.size ≤ b ∧ Arf Z h b .byte M (own_bf G)) := by
  refine Con.intro (L0 := #[.val (.ref a1), .val (.int (0 : Int32)), .val (.int t)]) ⟨_, own_EW hw⟩ (plainFor_of_name (by first | (simp [plainName, overriddenIn]; done) | decide +kernel)) (fun m => by first | (simp [entryFrame, mkF, argsToLocals, Value.category]; done) | rfl) ?_
  intro C k
  replace k := k.iloadN d24_0 rfl
  replace k := k.ifNo d24_1 (by decide)
  replace k := k.iloadN d24_4 rfl
  replace k := k.aloadN d24_5 rfl rfl
  replace k := k.arrlen d24_6 A1 (32 : Int32) (by decide)
  replace k := k.icmpNo d24_7 (feq (own_neN (B := 32) ht (by decide) (by omega))).1
  replace k := k.aloadN d24_10 rfl rfl
  replace k := k.iloadN d24_11 rfl
  replace k := k.iloadN d24_12 rfl
  obtain ⟨_, hk101, sp13, ⟨bk101, rfl, Kk101, zk101, Ak101⟩, k⟩ := k.callS (y := (⟨"java/util/Arrays", "copyOfRangeByte", "([BII)[B"⟩ : MethodName)) d24_13 (hw _ (List.mem_of_getElem? (i := 139) rfl)) (hw _ (List.mem_of_getElem? (i := 140) rfl)) (hw _ (List.mem_of_getElem? (i := 137) rfl)) (hw _ (List.mem_of_getElem? (i := 141) rfl)) (W := 0) (argsL := [(.ref a1), (.int (0 : Int32)), (.int t)]) (rest := []) (rm25_32 Z a0 hw zC vF a1 t M G h0 n0 Z0 S_C S_F S_AD S_HI S_LO hC hF A1 hD ht hM) all0 rfl (pd_30) rfl rfl rfl (by decide) (by decide) (by decide) (by decide) (by decide)
  have Kc102 : Keep h0 hk101 [] := (Keep.refl h0 ([] : List Addr)).trans Kk101 all0
  replace k := (k [] all0).sfx [] rfl
  replace k := k.stk [(.ref bk101)] rfl
  exact k.aret d24_16 rfl rfl rfl rfl (fun sp hsp => ⟨_, rfl, Kk101, zk101, Ak101⟩) (by decide) (by decide)

theorem d19_0 : decode jdk_42_method_150_code 0 = .ok (.aload_n 0, 1) := by decide +kernel
theorem d19_1 : decode jdk_42_method_150_code 1 = .ok (.invokespecial 1, 3) := by decide +kernel
theorem d19_4 : decode jdk_42_method_150_code 4 = .ok (.aload_n 1, 1) := by decide +kernel
theorem d19_5 : decode jdk_42_method_150_code 5 = .ok (.invokevirtual 552, 3) := by decide +kernel
theorem d19_8 : decode jdk_42_method_150_code 8 = .ok (.astore_n 3, 1) := by decide +kernel
theorem d19_9 : decode jdk_42_method_150_code 9 = .ok (.aload_n 1, 1) := by decide +kernel
theorem d19_10 : decode jdk_42_method_150_code 10 = .ok (.invokevirtual 549, 3) := by decide +kernel
theorem d19_13 : decode jdk_42_method_150_code 13 = .ok (.istore 4, 2) := by decide +kernel
theorem d19_15 : decode jdk_42_method_150_code 15 = .ok (.aload_n 1, 1) := by decide +kernel
theorem d19_16 : decode jdk_42_method_150_code 16 = .ok (.invokevirtual 1047, 3) := by decide +kernel
theorem d19_19 : decode jdk_42_method_150_code 19 = .ok (.ifCond .eq 22, 3) := by decide +kernel
theorem d19_22 : decode jdk_42_method_150_code 22 = .ok (.aload_n 0, 1) := by decide +kernel
theorem d19_23 : decode jdk_42_method_150_code 23 = .ok (.iconst 0, 1) := by decide +kernel
theorem d19_24 : decode jdk_42_method_150_code 24 = .ok (.putfield 15, 3) := by decide +kernel
theorem d19_27 : decode jdk_42_method_150_code 27 = .ok (.aload_n 0, 1) := by decide +kernel
theorem d19_28 : decode jdk_42_method_150_code 28 = .ok (.aload_n 3, 1) := by decide +kernel
theorem d19_29 : decode jdk_42_method_150_code 29 = .ok (.iconst 0, 1) := by decide +kernel
theorem d19_30 : decode jdk_42_method_150_code 30 = .ok (.iload 4, 2) := by decide +kernel
theorem d19_32 : decode jdk_42_method_150_code 32 = .ok (.invokestatic 54, 3) := by decide +kernel
theorem d19_35 : decode jdk_42_method_150_code 35 = .ok (.putfield 9, 3) := by decide +kernel
theorem d19_38 : decode jdk_42_method_150_code 38 = .ok (.goto 59, 3) := by decide +kernel
theorem d19_41 : decode jdk_42_method_150_code 41 = .ok (.getstatic 38, 3) := by decide +kernel
theorem d19_44 : decode jdk_42_method_150_code 44 = .ok (.ifCond .eq 35, 3) := by decide +kernel
theorem d19_47 : decode jdk_42_method_150_code 47 = .ok (.aload_n 1, 1) := by decide +kernel
theorem d19_48 : decode jdk_42_method_150_code 48 = .ok (.getfield 1048, 3) := by decide +kernel
theorem d19_51 : decode jdk_42_method_150_code 51 = .ok (.ifCond .eq 28, 3) := by decide +kernel
theorem d19_79 : decode jdk_42_method_150_code 79 = .ok (.aload_n 0, 1) := by decide +kernel
theorem d19_80 : decode jdk_42_method_150_code 80 = .ok (.iconst 1, 1) := by decide +kernel
theorem d19_81 : decode jdk_42_method_150_code 81 = .ok (.putfield 15, 3) := by decide +kernel
theorem d19_84 : decode jdk_42_method_150_code 84 = .ok (.aload_n 0, 1) := by decide +kernel
theorem d19_85 : decode jdk_42_method_150_code 85 = .ok (.aload_n 3, 1) := by decide +kernel
theorem d19_86 : decode jdk_42_method_150_code 86 = .ok (.iconst 0, 1) := by decide +kernel
theorem d19_87 : decode jdk_42_method_150_code 87 = .ok (.iload 4, 2) := by decide +kernel
theorem d19_89 : decode jdk_42_method_150_code 89 = .ok (.iconst 1, 1) := by decide +kernel
theorem d19_90 : decode jdk_42_method_150_code 90 = .ok (.ishl, 1) := by decide +kernel
theorem d19_91 : decode jdk_42_method_150_code 91 = .ok (.invokestatic 54, 3) := by decide +kernel
theorem d19_94 : decode jdk_42_method_150_code 94 = .ok (.putfield 9, 3) := by decide +kernel
theorem d19_97 : decode jdk_42_method_150_code 97 = .ok (.return_, 1) := by decide +kernel
set_option maxRecDepth 65536 in
set_option maxHeartbeats 40000000 in
theorem rm19 (Z : State) (a0 : Array Value) (hw : ∀ d ∈ tables_1, d.before a0 Z = true) (zC : Int32) (vF : Value) (a1 : Addr) (sb bv : Addr) (cod : Int32) (kq : Nat) (G : Nat → Int32) (h0 : Heap) (n0 : Nat) (Z0 : n0 ≤ h0.size) (S_C : Sta Z h0 "java/lang/String" "COMPACT_STRINGS" "Z" (.int zC)) (S_F : Sta Z h0 "jdk/internal/util/Preconditions" "SIOOBE_FORMATTER" "Ljava/util/function/BiFunction;" vF) (S_AD : Sta Z h0 "java/lang/StringUTF16" "$assertionsDisabled" "Z" (.int (1 : Int32))) (S_HI : Sta Z h0 "java/lang/StringUTF16" "HI_BYTE_SHIFT" "I" (.int (0 : Int32))) (S_LO : Sta Z h0 "java/lang/StringUTF16" "LO_BYTE_SHIFT" "I" (.int (8 : Int32))) (hC : ¬ (zC = (0 : Int32))) (hF : vF = .null ∨ ∃ b, vF = .ref b) (g1 : n0 ≤ a1) (E1 : Exa Z h0 a1 "java/lang/String") (F1 : Fld Z h0 a1 "java/lang/String" "value" "[B" .null) (F2 : Fld Z h0 a1 "java/lang/String" "coder" "B" (.int (0 : Int32))) (neb1 : a1 ≠ sb) (neb2 : a1 ≠ bv) (gb : n0 ≤ sb) (gv : n0 ≤ bv) (neb : sb ≠ bv) (Eb : Exa Z h0 sb "java/lang/StringBuilder") (Bc : Fld Z h0 sb "java/lang/AbstractStringBuilder" "coder" "B" (.int cod)) (Bn : Fld Z h0 sb "java/lang/AbstractStringBuilder" "count" "I" (.int (Nat.toInt32 kq))) (Bm : Fld Z h0 sb "java/lang/AbstractStringBuilder" "maybeLatin1" "Z" (.int (0 : Int32))) (Bv : Fld Z h0 sb "java/lang/AbstractStringBuilder" "value" "[B" (.ref bv)) (Ab : Arf Z h0 bv .byte (own_ln cod 16) (own_bf G)) (Db : own_der G) (hk : kq ≤ 16) (hcb : cod = 0 ∨ cod = 1) (hk15 : kq < 16) :
    Con Z n0 (⟨"java/lang/String", "<init>", "(Ljava/lang/AbstractStringBuilder;Ljava/lang/Void;)V"⟩ : MethodName) jdk_42_method_150_code 5 none [] ({ frames := 3, cells := 1, slots := 32, locals := 49 } : Room) #[(.ref a1), (.ref sb), .null] h0 [a1] (fun v h sp => v = none ∧ Keep h0 h [a1] ∧ Fld Z h a1 "java/lang/String" "coder" "B" (.int cod) ∧ ∃ t, Fld Z h a1 "java/lang/String" "value" "[B" (.ref t) ∧ Arf Z h t .byte (own_ln cod kq) (own_bf G)) := by
  refine Con.intro (L0 := #[.val (.ref a1), .val (.ref sb), .val .null, .unset, .unset]) ⟨_, own_EW hw⟩ (plainFor_of_name (by first | (simp [plainName, overriddenIn]; done) | decide +kernel)) (fun m => by first | (simp [entryFrame, mkF, argsToLocals, Value.category]; done) | rfl) ?_
  intro C k
  rcases hcb with rfl | rfl
  · skip
    replace Ab := own_ln0 Ab
    replace k := k.aloadN d19_0 rfl rfl
    replace k := k.initO (W := 0) d19_1 (hw _ (List.mem_of_getElem? (i := 15) rfl)) (hw _ (List.mem_of_getElem? (i := 16) rfl)) (hw _ (List.mem_of_getElem? (i := 17) rfl)) rfl rfl (by decide) (by decide)
    replace k := k.aloadN d19_4 rfl rfl
    obtain ⟨_, _, sp5, ⟨rfl, rfl⟩, k⟩ := k.callV (y := (⟨"java/lang/AbstractStringBuilder", "getValue", "()[B"⟩ : MethodName)) (z := (⟨"java/lang/AbstractStringBuilder", "getValue", "()[B"⟩ : MethodName)) (a := sb) d19_5 (hw _ (List.mem_of_getElem? (i := 117) rfl)) (hw _ (List.mem_of_getElem? (i := 118) rfl)) (fun s hs => notFace_of_selects (args := #[]) (mvT hs (hw _ (List.mem_of_getElem? (i := 120) rfl)))) (hw _ (List.mem_of_getElem? (i := 120) rfl)) (hw _ (List.mem_of_getElem? (i := 119) rfl)) (hw _ (List.mem_of_getElem? (i := 40) rfl)) (hw _ (List.mem_of_getElem? (i := 121) rfl)) Eb (W := 0) (argsL := []) (rest := []) (rm20 Z a0 hw sb bv h0 n0 Bv) all0 rfl (pd_31) rfl rfl rfl (by decide) (by decide) (by decide) (by decide) (by decide)
    replace k := (k [] all0).sfx [a1] rfl
    replace k := k.stk [(.ref bv)] rfl
    replace k := k.astoreN #[.val (.ref a1), .val (.ref sb), .val .null, .val (.ref bv), .unset] d19_8 rfl rfl
    replace k := k.aloadN d19_9 rfl rfl
    obtain ⟨_, _, sp10, ⟨rfl, rfl⟩, k⟩ := k.callV (y := (⟨"java/lang/AbstractStringBuilder", "length", "()I"⟩ : MethodName)) (z := (⟨"java/lang/StringBuilder", "length", "()I"⟩ : MethodName)) (a := sb) d19_10 (hw _ (List.mem_of_getElem? (i := 122) rfl)) (hw _ (List.mem_of_getElem? (i := 123) rfl)) (fun s hs => own_nface (args := #[]) (mvT hs (hw _ (List.mem_of_getElem? (i := 120) rfl))) rfl) (hw _ (List.mem_of_getElem? (i := 125) rfl)) (hw _ (List.mem_of_getElem? (i := 126) rfl)) (hw _ (List.mem_of_getElem? (i := 32) rfl)) (hw _ (List.mem_of_getElem? (i := 127) rfl)) Eb (W := 0) (argsL := []) (rest := []) (rm21 Z a0 hw sb (Nat.toInt32 kq) h0 n0 Eb Bn) all0 rfl (pd_10) rfl rfl rfl (by decide) (by decide) (by decide) (by decide) (by decide)
    replace k := (k [] all0).sfx [a1] rfl
    replace k := k.stk [(.int (Nat.toInt32 kq))] rfl
    replace k := k.istore #[.val (.ref a1), .val (.ref sb), .val .null, .val (.ref bv), .val (.int (Nat.toInt32 kq))] d19_13 rfl
    replace k := k.aloadN d19_15 rfl rfl
    obtain ⟨_, _, sp16, ⟨rfl, rfl⟩, k⟩ := k.callV (y := (⟨"java/lang/AbstractStringBuilder", "isLatin1", "()Z"⟩ : MethodName)) (z := (⟨"java/lang/AbstractStringBuilder", "isLatin1", "()Z"⟩ : MethodName)) (a := sb) d19_16 (hw _ (List.mem_of_getElem? (i := 130) rfl)) (hw _ (List.mem_of_getElem? (i := 131) rfl)) (fun s hs => notFace_of_selects (args := #[]) (mvT hs (hw _ (List.mem_of_getElem? (i := 133) rfl)))) (hw _ (List.mem_of_getElem? (i := 133) rfl)) (hw _ (List.mem_of_getElem? (i := 132) rfl)) (hw _ (List.mem_of_getElem? (i := 40) rfl)) (hw _ (List.mem_of_getElem? (i := 134) rfl)) Eb (W := 0) (argsL := []) (rest := []) (rm23_0 Z a0 hw zC vF sb h0 n0 Z0 S_C S_F S_AD S_HI S_LO hC hF Bc) all0 rfl (pd_8) rfl rfl rfl (by decide) (by decide) (by decide) (by decide) (by decide)
    replace k := (k [] all0).sfx [a1] rfl
    replace k := k.stk [(.int (1 : Int32))] rfl
    replace k := k.ifNo d19_19 (by decide)
    replace k := k.aloadN d19_22 rfl rfl
    replace k := k.iconst (0 : Int32) d19_23 rfl
    obtain ⟨h101, W101, k⟩ := k.putF d19_24 (host := "") (Or.inl (hw _ (List.mem_of_getElem? (i := 25) rfl))) Via.refl F2 E1 (Or.inr ⟨(hw _ (List.mem_of_getElem? (i := 21) rfl)), rfl, rfl⟩) (hw _ (List.mem_of_getElem? (i := 5) rfl)) (ty := .byte) (by decide) rfl rfl g1 (List.mem_of_getElem? (i := 0) rfl)
    have Fw101 := Fld.same W101 F2
    have K101 : Keep h0 h101 [a1] := (Keep.refl h0 ([a1] : List Addr)).wr W101 (Or.inl (List.mem_of_getElem? (i := 0) rfl))
    replace k := k.aloadN d19_27 rfl rfl
    replace k := k.aloadN d19_28 rfl rfl
    replace k := k.iconst (0 : Int32) d19_29 rfl
    replace k := k.iload d19_30 rfl
    obtain ⟨_, hk102, sp32, ⟨bk102, rfl, Kk102, zk102, Ak102⟩, k⟩ := k.callS (y := (⟨"java/util/Arrays", "copyOfRange", "([BII)[B"⟩ : MethodName)) d19_32 (hw _ (List.mem_of_getElem? (i := 135) rfl)) (hw _ (List.mem_of_getElem? (i := 136) rfl)) (hw _ (List.mem_of_getElem? (i := 137) rfl)) (hw _ (List.mem_of_getElem? (i := 138) rfl)) (W := 1) (argsL := [(.ref bv), (.int (0 : Int32)), (.int (Nat.toInt32 kq))]) (rest := [(.ref a1)]) (rm24_16 Z a0 hw zC vF bv (Nat.toInt32 kq) kq G h101 n0 (Nat.le_trans Z0 (Nat.le_of_eq (Wr.size W101).symm)) (Sta.wr W101 S_C) (Sta.wr W101 S_F) (Sta.wr W101 S_AD) (Sta.wr W101 S_HI) (Sta.wr W101 S_LO) hC hF (Ab.other W101 (Ne.symm neb2)) Db (own_tn (by omega)) (by omega)) all0 rfl (pd_30) rfl rfl rfl (by decide) (by decide) (by decide) (by decide) (by decide)
    have Kc103 : Keep h0 hk102 [a1] := K101.trans Kk102 all0
    replace k := (k [] all0).sfx [a1] rfl
    replace k := k.stk [(.ref bk102), (.ref a1)] rfl
    obtain ⟨h104, W104, k⟩ := k.putF d19_35 (host := "") (Or.inl (hw _ (List.mem_of_getElem? (i := 24) rfl))) Via.refl ((Fld.other W101 F1 (Or.inr (slot_ne (Or.inr (hw _ (List.mem_of_getElem? (i := 20) rfl))) (Or.inr (hw _ (List.mem_of_getElem? (i := 21) rfl))) (by decide) (t := (.array .byte)) (t' := .byte) (by decide) (by decide)))).keep Kk102 nin0) ((Exa.wr W101 E1).keep Kk102) (Or.inr ⟨(hw _ (List.mem_of_getElem? (i := 20) rfl)), rfl, rfl⟩) (hw _ (List.mem_of_getElem? (i := 5) rfl)) (ty := (.array .byte)) (by decide) rfl rfl g1 (List.mem_of_getElem? (i := 0) rfl)
    have Fw104 := Fld.same W104 ((Fld.other W101 F1 (Or.inr (slot_ne (Or.inr (hw _ (List.mem_of_getElem? (i := 20) rfl))) (Or.inr (hw _ (List.mem_of_getElem? (i := 21) rfl))) (by decide) (t := (.array .byte)) (t' := .byte) (by decide) (by decide)))).keep Kk102 nin0)
    have K104 : Keep h0 h104 [a1] := Kc103.wr W104 (Or.inl (List.mem_of_getElem? (i := 0) rfl))
    replace k := k.goto (pc' := 97) d19_38 (by decide) (by decide)
    exact k.vret d19_97 rfl (fun sp hsp => ⟨rfl, K104, (Fld.other W104 (Fw101.keep Kk102 nin0) (Or.inr (slot_ne (Or.inr (hw _ (List.mem_of_getElem? (i := 21) rfl))) (Or.inr (hw _ (List.mem_of_getElem? (i := 20) rfl))) (by decide) (t := .byte) (t' := (.array .byte)) (by decide) (by decide)))), _, Fw104, (Ak102.other W104 (Ne.symm (Nat.ne_of_lt (Nat.lt_of_lt_of_le (Exa.wr W101 E1).lt zk102))))⟩) (by decide) (by decide)
  · skip
    replace Ab := own_ln1 Ab
    replace k := k.aloadN d19_0 rfl rfl
    replace k := k.initO (W := 0) d19_1 (hw _ (List.mem_of_getElem? (i := 15) rfl)) (hw _ (List.mem_of_getElem? (i := 16) rfl)) (hw _ (List.mem_of_getElem? (i := 17) rfl)) rfl rfl (by decide) (by decide)
    replace k := k.aloadN d19_4 rfl rfl
    obtain ⟨_, _, sp5, ⟨rfl, rfl⟩, k⟩ := k.callV (y := (⟨"java/lang/AbstractStringBuilder", "getValue", "()[B"⟩ : MethodName)) (z := (⟨"java/lang/AbstractStringBuilder", "getValue", "()[B"⟩ : MethodName)) (a := sb) d19_5 (hw _ (List.mem_of_getElem? (i := 117) rfl)) (hw _ (List.mem_of_getElem? (i := 118) rfl)) (fun s hs => notFace_of_selects (args := #[]) (mvT hs (hw _ (List.mem_of_getElem? (i := 120) rfl)))) (hw _ (List.mem_of_getElem? (i := 120) rfl)) (hw _ (List.mem_of_getElem? (i := 119) rfl)) (hw _ (List.mem_of_getElem? (i := 40) rfl)) (hw _ (List.mem_of_getElem? (i := 121) rfl)) Eb (W := 0) (argsL := []) (rest := []) (rm20 Z a0 hw sb bv h0 n0 Bv) all0 rfl (pd_31) rfl rfl rfl (by decide) (by decide) (by decide) (by decide) (by decide)
    replace k := (k [] all0).sfx [a1] rfl
    replace k := k.stk [(.ref bv)] rfl
    replace k := k.astoreN #[.val (.ref a1), .val (.ref sb), .val .null, .val (.ref bv), .unset] d19_8 rfl rfl
    replace k := k.aloadN d19_9 rfl rfl
    obtain ⟨_, _, sp10, ⟨rfl, rfl⟩, k⟩ := k.callV (y := (⟨"java/lang/AbstractStringBuilder", "length", "()I"⟩ : MethodName)) (z := (⟨"java/lang/StringBuilder", "length", "()I"⟩ : MethodName)) (a := sb) d19_10 (hw _ (List.mem_of_getElem? (i := 122) rfl)) (hw _ (List.mem_of_getElem? (i := 123) rfl)) (fun s hs => own_nface (args := #[]) (mvT hs (hw _ (List.mem_of_getElem? (i := 120) rfl))) rfl) (hw _ (List.mem_of_getElem? (i := 125) rfl)) (hw _ (List.mem_of_getElem? (i := 126) rfl)) (hw _ (List.mem_of_getElem? (i := 32) rfl)) (hw _ (List.mem_of_getElem? (i := 127) rfl)) Eb (W := 0) (argsL := []) (rest := []) (rm21 Z a0 hw sb (Nat.toInt32 kq) h0 n0 Eb Bn) all0 rfl (pd_10) rfl rfl rfl (by decide) (by decide) (by decide) (by decide) (by decide)
    replace k := (k [] all0).sfx [a1] rfl
    replace k := k.stk [(.int (Nat.toInt32 kq))] rfl
    replace k := k.istore #[.val (.ref a1), .val (.ref sb), .val .null, .val (.ref bv), .val (.int (Nat.toInt32 kq))] d19_13 rfl
    replace k := k.aloadN d19_15 rfl rfl
    obtain ⟨_, _, sp16, ⟨rfl, rfl⟩, k⟩ := k.callV (y := (⟨"java/lang/AbstractStringBuilder", "isLatin1", "()Z"⟩ : MethodName)) (z := (⟨"java/lang/AbstractStringBuilder", "isLatin1", "()Z"⟩ : MethodName)) (a := sb) d19_16 (hw _ (List.mem_of_getElem? (i := 130) rfl)) (hw _ (List.mem_of_getElem? (i := 131) rfl)) (fun s hs => notFace_of_selects (args := #[]) (mvT hs (hw _ (List.mem_of_getElem? (i := 133) rfl)))) (hw _ (List.mem_of_getElem? (i := 133) rfl)) (hw _ (List.mem_of_getElem? (i := 132) rfl)) (hw _ (List.mem_of_getElem? (i := 40) rfl)) (hw _ (List.mem_of_getElem? (i := 134) rfl)) Eb (W := 0) (argsL := []) (rest := []) (rm23_1 Z a0 hw zC vF sb h0 n0 Z0 S_C S_F S_AD S_HI S_LO hC hF Bc) all0 rfl (pd_8) rfl rfl rfl (by decide) (by decide) (by decide) (by decide) (by decide)
    replace k := (k [] all0).sfx [a1] rfl
    replace k := k.stk [(.int (0 : Int32))] rfl
    replace k := k.ifYes (pc' := 41) d19_19 (by decide) (by decide) (by decide)
    replace k := k.getS d19_41 (host := "") (Or.inl (hw _ (List.mem_of_getElem? (i := 69) rfl))) Via.refl S_C
    replace k := k.ifNo d19_44 (feq hC).1
    replace k := k.aloadN d19_47 rfl rfl
    replace k := k.getF d19_48 (host := "") (Or.inl (hw _ (List.mem_of_getElem? (i := 238) rfl))) Via.refl Bm
    replace k := k.ifYes (pc' := 79) d19_51 (by decide) (by decide) (by decide)
    replace k := k.aloadN d19_79 rfl rfl
    replace k := k.iconst (1 : Int32) d19_80 rfl
    obtain ⟨h105, W105, k⟩ := k.putF d19_81 (host := "") (Or.inl (hw _ (List.mem_of_getElem? (i := 25) rfl))) Via.refl F2 E1 (Or.inr ⟨(hw _ (List.mem_of_getElem? (i := 21) rfl)), rfl, rfl⟩) (hw _ (List.mem_of_getElem? (i := 5) rfl)) (ty := .byte) (by decide) rfl rfl g1 (List.mem_of_getElem? (i := 0) rfl)
    have Fw105 := Fld.same W105 F2
    have K105 : Keep h0 h105 [a1] := (Keep.refl h0 ([a1] : List Addr)).wr W105 (Or.inl (List.mem_of_getElem? (i := 0) rfl))
    replace k := k.aloadN d19_84 rfl rfl
    replace k := k.aloadN d19_85 rfl rfl
    replace k := k.iconst (0 : Int32) d19_86 rfl
    replace k := k.iload d19_87 rfl
    replace k := k.iconst (1 : Int32) d19_89 rfl
    replace k := k.ishl d19_90
    obtain ⟨_, hk106, sp91, ⟨bk106, rfl, Kk106, zk106, Ak106⟩, k⟩ := k.callS (y := (⟨"java/util/Arrays", "copyOfRange", "([BII)[B"⟩ : MethodName)) d19_91 (hw _ (List.mem_of_getElem? (i := 135) rfl)) (hw _ (List.mem_of_getElem? (i := 136) rfl)) (hw _ (List.mem_of_getElem? (i := 137) rfl)) (hw _ (List.mem_of_getElem? (i := 138) rfl)) (W := 1) (argsL := [(.ref bv), (.int (0 : Int32)), (.int ((Nat.toInt32 kq) <<< ((1 : Int32) &&& 31)))]) (rest := [(.ref a1)]) (rm24_32 Z a0 hw zC vF bv ((Nat.toInt32 kq) <<< ((1 : Int32) &&& 31)) (2 * kq) G h105 n0 (Nat.le_trans Z0 (Nat.le_of_eq (Wr.size W105).symm)) (Sta.wr W105 S_C) (Sta.wr W105 S_F) (Sta.wr W105 S_AD) (Sta.wr W105 S_HI) (Sta.wr W105 S_LO) hC hF (Ab.other W105 (Ne.symm neb2)) Db (own_sl1 (own_tn (by omega)) (by omega)) (by omega)) all0 rfl (pd_30) rfl rfl rfl (by decide) (by decide) (by decide) (by decide) (by decide)
    have Kc107 : Keep h0 hk106 [a1] := K105.trans Kk106 all0
    replace k := (k [] all0).sfx [a1] rfl
    replace k := k.stk [(.ref bk106), (.ref a1)] rfl
    obtain ⟨h108, W108, k⟩ := k.putF d19_94 (host := "") (Or.inl (hw _ (List.mem_of_getElem? (i := 24) rfl))) Via.refl ((Fld.other W105 F1 (Or.inr (slot_ne (Or.inr (hw _ (List.mem_of_getElem? (i := 20) rfl))) (Or.inr (hw _ (List.mem_of_getElem? (i := 21) rfl))) (by decide) (t := (.array .byte)) (t' := .byte) (by decide) (by decide)))).keep Kk106 nin0) ((Exa.wr W105 E1).keep Kk106) (Or.inr ⟨(hw _ (List.mem_of_getElem? (i := 20) rfl)), rfl, rfl⟩) (hw _ (List.mem_of_getElem? (i := 5) rfl)) (ty := (.array .byte)) (by decide) rfl rfl g1 (List.mem_of_getElem? (i := 0) rfl)
    have Fw108 := Fld.same W108 ((Fld.other W105 F1 (Or.inr (slot_ne (Or.inr (hw _ (List.mem_of_getElem? (i := 20) rfl))) (Or.inr (hw _ (List.mem_of_getElem? (i := 21) rfl))) (by decide) (t := (.array .byte)) (t' := .byte) (by decide) (by decide)))).keep Kk106 nin0)
    have K108 : Keep h0 h108 [a1] := Kc107.wr W108 (Or.inl (List.mem_of_getElem? (i := 0) rfl))
    exact k.vret d19_97 rfl (fun sp hsp => ⟨rfl, K108, (Fld.other W108 (Fw105.keep Kk106 nin0) (Or.inr (slot_ne (Or.inr (hw _ (List.mem_of_getElem? (i := 21) rfl))) (Or.inr (hw _ (List.mem_of_getElem? (i := 20) rfl))) (by decide) (t := .byte) (t' := (.array .byte)) (by decide) (by decide)))), _, Fw108, (Ak106.other W108 (Ne.symm (Nat.ne_of_lt (Nat.lt_of_lt_of_le (Exa.wr W105 E1).lt zk106))))⟩) (by decide) (by decide)

theorem d18_0 : decode jdk_42_method_53_code 0 = .ok (.aload_n 0, 1) := by decide +kernel
theorem d18_1 : decode jdk_42_method_53_code 1 = .ok (.aload_n 1, 1) := by decide +kernel
theorem d18_2 : decode jdk_42_method_53_code 2 = .ok (.aconst_null, 1) := by decide +kernel
theorem d18_3 : decode jdk_42_method_53_code 3 = .ok (.invokespecial 489, 3) := by decide +kernel
theorem d18_6 : decode jdk_42_method_53_code 6 = .ok (.return_, 1) := by decide +kernel
set_option maxRecDepth 65536 in
set_option maxHeartbeats 40000000 in
theorem rm18 (Z : State) (a0 : Array Value) (hw : ∀ d ∈ tables_1, d.before a0 Z = true) (zC : Int32) (vF : Value) (a1 : Addr) (sb bv : Addr) (cod : Int32) (kq : Nat) (G : Nat → Int32) (h0 : Heap) (n0 : Nat) (Z0 : n0 ≤ h0.size) (S_C : Sta Z h0 "java/lang/String" "COMPACT_STRINGS" "Z" (.int zC)) (S_F : Sta Z h0 "jdk/internal/util/Preconditions" "SIOOBE_FORMATTER" "Ljava/util/function/BiFunction;" vF) (S_AD : Sta Z h0 "java/lang/StringUTF16" "$assertionsDisabled" "Z" (.int (1 : Int32))) (S_HI : Sta Z h0 "java/lang/StringUTF16" "HI_BYTE_SHIFT" "I" (.int (0 : Int32))) (S_LO : Sta Z h0 "java/lang/StringUTF16" "LO_BYTE_SHIFT" "I" (.int (8 : Int32))) (hC : ¬ (zC = (0 : Int32))) (hF : vF = .null ∨ ∃ b, vF = .ref b) (g1 : n0 ≤ a1) (E1 : Exa Z h0 a1 "java/lang/String") (F1 : Fld Z h0 a1 "java/lang/String" "value" "[B" .null) (F2 : Fld Z h0 a1 "java/lang/String" "coder" "B" (.int (0 : Int32))) (neb1 : a1 ≠ sb) (neb2 : a1 ≠ bv) (gb : n0 ≤ sb) (gv : n0 ≤ bv) (neb : sb ≠ bv) (Eb : Exa Z h0 sb "java/lang/StringBuilder") (Bc : Fld Z h0 sb "java/lang/AbstractStringBuilder" "coder" "B" (.int cod)) (Bn : Fld Z h0 sb "java/lang/AbstractStringBuilder" "count" "I" (.int (Nat.toInt32 kq))) (Bm : Fld Z h0 sb "java/lang/AbstractStringBuilder" "maybeLatin1" "Z" (.int (0 : Int32))) (Bv : Fld Z h0 sb "java/lang/AbstractStringBuilder" "value" "[B" (.ref bv)) (Ab : Arf Z h0 bv .byte (own_ln cod 16) (own_bf G)) (Db : own_der G) (hk : kq ≤ 16) (hcb : cod = 0 ∨ cod = 1) (hk15 : kq < 16) :
    Con Z n0 (⟨"java/lang/String", "<init>", "(Ljava/lang/StringBuilder;)V"⟩ : MethodName) jdk_42_method_53_code 2 none [] ({ frames := 4, cells := 1, slots := 32, locals := 65 } : Room) #[(.ref a1), (.ref sb)] h0 [a1] (fun v h sp => v = none ∧ Keep h0 h [a1] ∧ Fld Z h a1 "java/lang/String" "coder" "B" (.int cod) ∧ ∃ t, Fld Z h a1 "java/lang/String" "value" "[B" (.ref t) ∧ Arf Z h t .byte (own_ln cod kq) (own_bf G)) := by
  refine Con.intro (L0 := #[.val (.ref a1), .val (.ref sb)]) ⟨_, own_EW hw⟩ (plainFor_of_name (by first | (simp [plainName, overriddenIn]; done) | decide +kernel)) (fun m => by first | (simp [entryFrame, mkF, argsToLocals, Value.category]; done) | rfl) ?_
  intro C k
  replace k := k.aloadN d18_0 rfl rfl
  replace k := k.aloadN d18_1 rfl rfl
  replace k := k.aconstNull d18_2
  obtain ⟨_, hx101, sp3, ⟨rfl, Kx101, Px101⟩, k⟩ := k.callI (y := (⟨"java/lang/String", "<init>", "(Ljava/lang/AbstractStringBuilder;Ljava/lang/Void;)V"⟩ : MethodName)) (a := a1) d18_3 rfl (hw _ (List.mem_of_getElem? (i := 114) rfl)) (hw _ (List.mem_of_getElem? (i := 115) rfl)) (hw _ (List.mem_of_getElem? (i := 6) rfl)) (hw _ (List.mem_of_getElem? (i := 116) rfl)) (W := 0) (argsL := [(.ref sb), .null]) (rest := []) (rm19 Z a0 hw zC vF a1 sb bv cod kq G h0 n0 Z0 S_C S_F S_AD S_HI S_LO hC hF g1 E1 F1 F2 neb1 neb2 gb gv neb Eb Bc Bn Bm Bv Ab Db hk hcb hk15) (allS (List.mem_of_getElem? (i := 0) rfl) all0) rfl (pd_32) rfl rfl rfl (by decide) (by decide) (by decide) (by decide) (by decide)
  have Kc102 : Keep h0 hx101 [a1] := (Keep.refl h0 ([a1] : List Addr)).trans Kx101 (allS (Or.inl (List.mem_of_getElem? (i := 0) rfl)) all0)
  replace k := (k [] all0).sfx [a1] rfl
  replace k := k.stk [] rfl
  exact k.vret d18_6 rfl (fun sp hsp => ⟨rfl, Kx101, Px101⟩) (by decide) (by decide)

theorem d17_0 : decode jdk_67_method_42_code 0 = .ok (.new 18, 3) := by decide +kernel
theorem d17_3 : decode jdk_67_method_42_code 3 = .ok (.dup, 1) := by decide +kernel
theorem d17_4 : decode jdk_67_method_42_code 4 = .ok (.aload_n 0, 1) := by decide +kernel
theorem d17_5 : decode jdk_67_method_42_code 5 = .ok (.invokespecial 137, 3) := by decide +kernel
theorem d17_8 : decode jdk_67_method_42_code 8 = .ok (.areturn, 1) := by decide +kernel
set_option maxRecDepth 65536 in
set_option maxHeartbeats 40000000 in
theorem rm17 (Z : State) (a0 : Array Value) (hw : ∀ d ∈ tables_1, d.before a0 Z = true) (zC : Int32) (vF : Value) (sb bv : Addr) (cod : Int32) (kq : Nat) (G : Nat → Int32) (h0 : Heap) (n0 : Nat) (Z0 : n0 ≤ h0.size) (S_C : Sta Z h0 "java/lang/String" "COMPACT_STRINGS" "Z" (.int zC)) (S_F : Sta Z h0 "jdk/internal/util/Preconditions" "SIOOBE_FORMATTER" "Ljava/util/function/BiFunction;" vF) (S_AD : Sta Z h0 "java/lang/StringUTF16" "$assertionsDisabled" "Z" (.int (1 : Int32))) (S_HI : Sta Z h0 "java/lang/StringUTF16" "HI_BYTE_SHIFT" "I" (.int (0 : Int32))) (S_LO : Sta Z h0 "java/lang/StringUTF16" "LO_BYTE_SHIFT" "I" (.int (8 : Int32))) (hC : ¬ (zC = (0 : Int32))) (hF : vF = .null ∨ ∃ b, vF = .ref b) (gb : n0 ≤ sb) (gv : n0 ≤ bv) (neb : sb ≠ bv) (Eb : Exa Z h0 sb "java/lang/StringBuilder") (Bc : Fld Z h0 sb "java/lang/AbstractStringBuilder" "coder" "B" (.int cod)) (Bn : Fld Z h0 sb "java/lang/AbstractStringBuilder" "count" "I" (.int (Nat.toInt32 kq))) (Bm : Fld Z h0 sb "java/lang/AbstractStringBuilder" "maybeLatin1" "Z" (.int (0 : Int32))) (Bv : Fld Z h0 sb "java/lang/AbstractStringBuilder" "value" "[B" (.ref bv)) (Ab : Arf Z h0 bv .byte (own_ln cod 16) (own_bf G)) (Db : own_der G) (hk : kq ≤ 16) (hcb : cod = 0 ∨ cod = 1) (hk15 : kq < 16) :
    Con Z n0 (⟨"java/lang/StringBuilder", "toString", "()Ljava/lang/String;"⟩ : MethodName) jdk_67_method_42_code 1 (some (.object "java/lang/String")) [] ({ frames := 5, cells := 2, slots := 36, locals := 79 } : Room) #[(.ref sb)] h0 [] (fun v h sp => ∃ s t, v = some (.ref s) ∧ Keep h0 h [] ∧ Exa Z h s "java/lang/String" ∧ Fld Z h s "java/lang/String" "coder" "B" (.int cod) ∧ Fld Z h s "java/lang/String" "value" "[B" (.ref t) ∧ Arf Z h t .byte (own_ln cod kq) (own_bf G)) := by
  refine Con.intro (L0 := #[.val (.ref sb)]) ⟨_, own_EW hw⟩ (plainFor_of_name (by first | (simp [plainName, overriddenIn]; done) | decide +kernel)) (fun m => by first | (simp [entryFrame, mkF, argsToLocals, Value.category]; done) | rfl) ?_
  intro C k
  obtain ⟨h101, b101, g101, E101, A101, D101, k⟩ := k.newO d17_0 (hw _ (List.mem_of_getElem? (i := 110) rfl)) (hw _ (List.mem_of_getElem? (i := 5) rfl)) (hw _ (List.mem_of_getElem? (i := 6) rfl)) (by decide) (by decide)
  have ge_b101 : n0 ≤ b101 := Nat.le_trans Z0 (Nat.le_of_eq g101.symm)
  have sz_b101 : h0.size ≤ b101 := Nat.le_trans (Keep.refl h0 ([] : List Addr)).1 (Nat.le_of_eq g101.symm)
  have K101 : Keep h0 h101 [] := (Keep.refl h0 ([] : List Addr)).ext E101
  have F_value_b101 : Fld Z h101 b101 "java/lang/String" "value" "[B" .null := D101 (Or.inr (hw _ (List.mem_of_getElem? (i := 20) rfl))) (ty := (.array .byte)) (by decide)
  have F_coder_b101 : Fld Z h101 b101 "java/lang/String" "coder" "B" (.int (0 : Int32)) := D101 (Or.inr (hw _ (List.mem_of_getElem? (i := 21) rfl))) (ty := .byte) (by decide)
  replace k := k.dup d17_3 rfl
  replace k := k.aloadN d17_4 rfl rfl
  obtain ⟨_, hx102, sp5, ⟨rfl, Kx102, Fcx102, tx102, Fvx102, Atx102⟩, k⟩ := k.callI (y := (⟨"java/lang/String", "<init>", "(Ljava/lang/StringBuilder;)V"⟩ : MethodName)) (a := b101) d17_5 rfl (hw _ (List.mem_of_getElem? (i := 111) rfl)) (hw _ (List.mem_of_getElem? (i := 112) rfl)) (hw _ (List.mem_of_getElem? (i := 6) rfl)) (hw _ (List.mem_of_getElem? (i := 113) rfl)) (W := 1) (argsL := [(.ref sb)]) (rest := [(.ref b101)]) (rm18 Z a0 hw zC vF b101 sb bv cod kq G h101 n0 (Nat.le_trans Z0 E101.1) (Sta.ext E101 S_C) (Sta.ext E101 S_F) (Sta.ext E101 S_AD) (Sta.ext E101 S_HI) (Sta.ext E101 S_LO) hC hF ge_b101 A101 F_value_b101 F_coder_b101 (Ne.symm (Nat.ne_of_lt (Nat.lt_of_lt_of_le Eb.lt (Nat.le_of_eq g101.symm)))) (Ne.symm (Nat.ne_of_lt (Nat.lt_of_lt_of_le Ab.lt (Nat.le_of_eq g101.symm)))) gb gv neb (Exa.ext E101 Eb) (Fld.ext E101 Bc) (Fld.ext E101 Bn) (Fld.ext E101 Bm) (Fld.ext E101 Bv) (Ab.ext E101) Db hk hcb hk15) (allS (List.mem_of_getElem? (i := 0) rfl) all0) rfl (pd_33) rfl rfl rfl (by decide) (by decide) (by decide) (by decide) (by decide)
  have Kc103 : Keep h0 hx102 [] := K101.trans Kx102 (allS (Or.inr sz_b101) all0)
  replace k := (k [] all0).sfx [b101] rfl
  replace k := k.stk [(.ref b101)] rfl
  exact k.aret d17_8 rfl rfl rfl rfl (fun sp hsp => ⟨_, _, rfl, Kc103, (A101.keep Kx102), Fcx102, Fvx102, Atx102⟩) (by decide) (by decide)

theorem d16_0 : decode jdk_31_method_11_code 0 = .ok (.aload_n 0, 1) := by decide +kernel
theorem d16_1 : decode jdk_31_method_11_code 1 = .ok (.ifnonnull 12, 3) := by decide +kernel
theorem d16_13 : decode jdk_31_method_11_code 13 = .ok (.aload_n 0, 1) := by decide +kernel
theorem d16_14 : decode jdk_31_method_11_code 14 = .ok (.areturn, 1) := by decide +kernel
set_option maxRecDepth 65536 in
set_option maxHeartbeats 40000000 in
theorem rm16 (Z : State) (a0 : Array Value) (hw : ∀ d ∈ tables_1, d.before a0 Z = true) (a1 a2 : Addr) (h0 : Heap) (n0 : Nat)  :
    Con Z n0 (⟨"java/util/Objects", "requireNonNull", "(Ljava/lang/Object;Ljava/lang/String;)Ljava/lang/Object;"⟩ : MethodName) jdk_31_method_11_code 2 (some (.object "java/lang/Object")) [] ({ frames := 0, cells := 0, slots := 0, locals := 0 } : Room) #[(.ref a1), (.ref a2)] h0 [] (fun v h sp => v = some (.ref a1) ∧ h0 = h) := by
  refine Con.intro (L0 := #[.val (.ref a1), .val (.ref a2)]) ⟨_, own_EW hw⟩ (plainFor_of_name (by first | (simp [plainName, overriddenIn]; done) | decide +kernel)) (fun m => by first | (simp [entryFrame, mkF, argsToLocals, Value.category]; done) | rfl) ?_
  intro C k
  replace k := k.aloadN d16_0 rfl rfl
  replace k := k.ifnonnullYes (pc' := 13) d16_1 (by decide) (by decide)
  replace k := k.aloadN d16_13 rfl rfl
  exact k.aret d16_14 rfl rfl rfl rfl (fun sp hsp => ⟨rfl, rfl⟩) (by decide) (by decide)

theorem d5_0 : decode prog_11_method_2_code 0 = .ok (.new 7, 3) := by decide +kernel
theorem d5_3 : decode prog_11_method_2_code 3 = .ok (.dup, 1) := by decide +kernel
theorem d5_4 : decode prog_11_method_2_code 4 = .ok (.invokespecial 9, 3) := by decide +kernel
theorem d5_7 : decode prog_11_method_2_code 7 = .ok (.ldc 10, 2) := by decide +kernel
theorem d5_9 : decode prog_11_method_2_code 9 = .ok (.invokevirtual 12, 3) := by decide +kernel
theorem d5_12 : decode prog_11_method_2_code 12 = .ok (.aload_n 0, 1) := by decide +kernel
theorem d5_13 : decode prog_11_method_2_code 13 = .ok (.ldc 16, 2) := by decide +kernel
theorem d5_15 : decode prog_11_method_2_code 15 = .ok (.invokestatic 18, 3) := by decide +kernel
theorem d5_18 : decode prog_11_method_2_code 18 = .ok (.checkcast 24, 3) := by decide +kernel
theorem d5_21 : decode prog_11_method_2_code 21 = .ok (.invokevirtual 12, 3) := by decide +kernel
theorem d5_24 : decode prog_11_method_2_code 24 = .ok (.ldc 26, 2) := by decide +kernel
theorem d5_26 : decode prog_11_method_2_code 26 = .ok (.invokevirtual 12, 3) := by decide +kernel
theorem d5_29 : decode prog_11_method_2_code 29 = .ok (.aload_n 1, 1) := by decide +kernel
theorem d5_30 : decode prog_11_method_2_code 30 = .ok (.ldc 28, 2) := by decide +kernel
theorem d5_32 : decode prog_11_method_2_code 32 = .ok (.invokestatic 18, 3) := by decide +kernel
theorem d5_35 : decode prog_11_method_2_code 35 = .ok (.checkcast 24, 3) := by decide +kernel
theorem d5_38 : decode prog_11_method_2_code 38 = .ok (.invokevirtual 12, 3) := by decide +kernel
theorem d5_41 : decode prog_11_method_2_code 41 = .ok (.invokevirtual 30, 3) := by decide +kernel
theorem d5_44 : decode prog_11_method_2_code 44 = .ok (.areturn, 1) := by decide +kernel
set_option maxRecDepth 65536 in
set_option maxHeartbeats 40000000 in
theorem rm5 (Z : State) (a0 : Array Value) (hw : ∀ d ∈ tables_1, d.before a0 Z = true) (zC : Int32) (vF : Value) (s1 t1 : Addr) (cod1 : Int32) (n1 : Nat) (G1 : Nat → Int32) (s2 t2 : Addr) (cod2 : Int32) (n2 : Nat) (G2 : Nat → Int32) (h0 : Heap) (n0 : Nat) (Z0 : n0 ≤ h0.size) (S_C : Sta Z h0 "java/lang/String" "COMPACT_STRINGS" "Z" (.int zC)) (S_F : Sta Z h0 "jdk/internal/util/Preconditions" "SIOOBE_FORMATTER" "Ljava/util/function/BiFunction;" vF) (S_AD : Sta Z h0 "java/lang/StringUTF16" "$assertionsDisabled" "Z" (.int (1 : Int32))) (S_HI : Sta Z h0 "java/lang/StringUTF16" "HI_BYTE_SHIFT" "I" (.int (0 : Int32))) (S_LO : Sta Z h0 "java/lang/StringUTF16" "LO_BYTE_SHIFT" "I" (.int (8 : Int32))) (hC : ¬ (zC = (0 : Int32))) (hF : vF = .null ∨ ∃ b, vF = .ref b) (E1 : Exa Z h0 s1 "java/lang/String") (C1 : Fld Z h0 s1 "java/lang/String" "coder" "B" (.int cod1)) (V1 : Fld Z h0 s1 "java/lang/String" "value" "[B" (.ref t1)) (A1 : Arf Z h0 t1 .byte (own_ln cod1 n1) (own_bf G1)) (D1 : own_der G1) (hc1 : cod1 = 0 ∨ cod1 = 1) (hn1 : n1 ≤ 16) (hm1 : n1 ≤ 3) (E2 : Exa Z h0 s2 "java/lang/String") (C2 : Fld Z h0 s2 "java/lang/String" "coder" "B" (.int cod2)) (V2 : Fld Z h0 s2 "java/lang/String" "value" "[B" (.ref t2)) (A2 : Arf Z h0 t2 .byte (own_ln cod2 n2) (own_bf G2)) (D2 : own_der G2) (hc2 : cod2 = 0 ∨ cod2 = 1) (hn2 : n2 ≤ 16) (hm2 : n2 ≤ 3) :
    Con Z n0 (⟨"com/example/vidare/vidare/core/Gate", "pauseReason", "(Ljava/lang/String;Ljava/lang/String;)Ljava/lang/String;"⟩ : MethodName) prog_11_method_2_code 2 (some (.object "java/lang/String")) [] ({ frames := 10, cells := 16, slots := 268, locals := 143 } : Room) #[(.ref s1), (.ref s2)] h0 [] (fun v h sp => ∃ s t cod G, v = some (.ref s) ∧ Keep h0 h [] ∧ Exa Z h s "java/lang/String" ∧ Fld Z h s "java/lang/String" "coder" "B" (.int cod) ∧ Fld Z h s "java/lang/String" "value" "[B" (.ref t) ∧ (cod = 0 ∨ cod = 1) ∧ Arf Z h t .byte (own_ln cod ((((0 + 5) + n1) + 2) + n2)) (own_bf G) ∧ own_der G ∧ ∀ i, i < ((((0 + 5) + n1) + 2) + n2) → own_dec cod G i = own_msg n1 (own_dec cod1 G1) (own_dec cod2 G2) i) := by
  refine Con.intro (L0 := #[.val (.ref s1), .val (.ref s2)]) ⟨_, own_EW hw⟩ (plainFor_of_name (by first | (simp [plainName, overriddenIn]; done) | decide +kernel)) (fun m => by first | (simp [entryFrame, mkF, argsToLocals, Value.category]; done) | rfl) ?_
  intro C k
  obtain ⟨h101, b101, g101, E101, A101, D101, k⟩ := k.newO d5_0 (hw _ (List.mem_of_getElem? (i := 30) rfl)) (hw _ (List.mem_of_getElem? (i := 31) rfl)) (hw _ (List.mem_of_getElem? (i := 32) rfl)) (by decide) (by decide)
  have ge_b101 : n0 ≤ b101 := Nat.le_trans Z0 (Nat.le_of_eq g101.symm)
  have sz_b101 : h0.size ≤ b101 := Nat.le_trans (Keep.refl h0 ([] : List Addr)).1 (Nat.le_of_eq g101.symm)
  have K101 : Keep h0 h101 [] := (Keep.refl h0 ([] : List Addr)).ext E101
  have F_value_b101 : Fld Z h101 b101 "java/lang/AbstractStringBuilder" "value" "[B" .null := D101 (Or.inl (hw _ (List.mem_of_getElem? (i := 45) rfl))) (ty := (.array .byte)) (by decide)
  have F_coder_b101 : Fld Z h101 b101 "java/lang/AbstractStringBuilder" "coder" "B" (.int (0 : Int32)) := D101 (Or.inl (hw _ (List.mem_of_getElem? (i := 47) rfl))) (ty := .byte) (by decide)
  have F_count_b101 : Fld Z h101 b101 "java/lang/AbstractStringBuilder" "count" "I" (.int (0 : Int32)) := D101 (Or.inl (hw _ (List.mem_of_getElem? (i := 71) rfl))) (ty := .int) (by decide)
  have F_maybeLatin1_b101 : Fld Z h101 b101 "java/lang/AbstractStringBuilder" "maybeLatin1" "Z" (.int (0 : Int32)) := D101 (Or.inl (hw _ (List.mem_of_getElem? (i := 239) rfl))) (ty := .boolean) (by decide)
  replace k := k.dup d5_3 rfl
  obtain ⟨_, hi102, sp4, ⟨rfl, Ki102, vi102, zi102, gi102, si102, Bcri102, Bcti102, Bm1i102, Bvei102, Ai102⟩, k⟩ := k.callI (y := (⟨"java/lang/StringBuilder", "<init>", "()V"⟩ : MethodName)) (a := b101) d5_4 rfl (hw _ (List.mem_of_getElem? (i := 33) rfl)) (hw _ (List.mem_of_getElem? (i := 34) rfl)) (hw _ (List.mem_of_getElem? (i := 32) rfl)) (hw _ (List.mem_of_getElem? (i := 35) rfl)) (W := 1) (argsL := []) (rest := [(.ref b101)]) (rm6 Z a0 hw zC vF b101 h101 n0 (Nat.le_trans Z0 E101.1) (Sta.ext E101 S_C) (Sta.ext E101 S_F) (Sta.ext E101 S_AD) (Sta.ext E101 S_HI) (Sta.ext E101 S_LO) hC hF ge_b101 A101 F_coder_b101 F_count_b101 F_maybeLatin1_b101 F_value_b101) (allS (List.mem_of_getElem? (i := 0) rfl) all0) rfl (pd_24) rfl rfl rfl (by decide) (by decide) (by decide) (by decide) (by decide)
  have Kc103 : Keep h0 hi102 [] := K101.trans Ki102 (allS (Or.inr sz_b101) all0)
  replace k := (k [vi102] (allS ⟨si102, Ai102.lt⟩ all0)).sfx [vi102, b101] rfl
  replace k := k.stk [(.ref b101)] rfl
  have zz104 : h0.size ≤ vi102 := Nat.le_trans K101.1 zi102
  obtain ⟨h105, b105, t105, E105, Ex105, Fc105, Fv105, Ab105, ne105, k⟩ := k.ldcLit d5_7 (hw _ (List.mem_of_getElem? (i := 48) rfl)) (fun a ha => hw a (own_sa a ha)) (own_EW hw) (by decide) [(103 : Int32), (97 : Int32), (116 : Int32), (101 : Int32), (32 : Int32)] ⟨by decide, by rfl⟩ (5 : Int32) (by decide) (by decide) 20 (by decide) (by decide) (by decide) (by decide)
  have K105 : Keep h0 h105 [] := Kc103.ext E105
  obtain ⟨_, ha106, sp9, ⟨rfl, Ka106, ba106, ca106, Fa106, za106, ga106, nea106, sa106, hca106, Bcra106, Bcta106, Bm1a106, Bvea106, Aa106, Da106, Pa106, Ra106⟩, k⟩ := k.callV (y := (⟨"java/lang/StringBuilder", "append", "(Ljava/lang/String;)Ljava/lang/StringBuilder;"⟩ : MethodName)) (z := (⟨"java/lang/StringBuilder", "append", "(Ljava/lang/String;)Ljava/lang/StringBuilder;"⟩ : MethodName)) (a := b101) d5_9 (hw _ (List.mem_of_getElem? (i := 49) rfl)) (hw _ (List.mem_of_getElem? (i := 50) rfl)) (fun s hs => notFace_of_selects (args := #[]) (mvT hs (hw _ (List.mem_of_getElem? (i := 52) rfl)))) (hw _ (List.mem_of_getElem? (i := 52) rfl)) (hw _ (List.mem_of_getElem? (i := 51) rfl)) (hw _ (List.mem_of_getElem? (i := 32) rfl)) (hw _ (List.mem_of_getElem? (i := 53) rfl)) (Exa.ext E105 (A101.keep Ki102)) (W := 0) (argsL := [(.ref b105)]) (rest := []) (rm8 Z a0 hw zC vF b101 vi102 (0 : Int32) 0 (fun _ => 0) b105 t105 (0 : Int32) 5 (fun i => ([(103 : Int32), (97 : Int32), (116 : Int32), (101 : Int32), (32 : Int32)] : List Int32).getD i 0) h105 n0 (Nat.le_trans (Nat.le_trans (Nat.le_trans Z0 E101.1) Ki102.1) E105.1) (Sta.ext E105 (Sta.keepN (Sta.ext E101 S_C) Ki102 (allS (Exa.nost A101) all0))) (Sta.ext E105 (Sta.keepN (Sta.ext E101 S_F) Ki102 (allS (Exa.nost A101) all0))) (Sta.ext E105 (Sta.keepN (Sta.ext E101 S_AD) Ki102 (allS (Exa.nost A101) all0))) (Sta.ext E105 (Sta.keepN (Sta.ext E101 S_HI) Ki102 (allS (Exa.nost A101) all0))) (Sta.ext E105 (Sta.keepN (Sta.ext E101 S_LO) Ki102 (allS (Exa.nost A101) all0))) hC hF ge_b101 gi102 (Nat.ne_of_lt (Nat.lt_of_lt_of_le A101.lt zi102)) (Exa.ext E105 (A101.keep Ki102)) (Fld.ext E105 Bcri102) (Fld.ext E105 Bcti102) (Fld.ext E105 Bm1i102) (Fld.ext E105 Bvei102) (Ai102.ext E105) own_der0 (by omega) (Or.inl rfl) Ex105 Fc105 Fv105 Ab105 (own_derL [(103 : Int32), (97 : Int32), (116 : Int32), (101 : Int32), (32 : Int32)] (by decide)) (by decide) (Ne.symm (ne105 b101 (List.mem_of_getElem? (i := 1) rfl)).1) (Ne.symm (ne105 vi102 (List.mem_of_getElem? (i := 0) rfl)).1) (Ne.symm (ne105 b101 (List.mem_of_getElem? (i := 1) rfl)).2) (Ne.symm (ne105 vi102 (List.mem_of_getElem? (i := 0) rfl)).2) (by omega) (Or.inl rfl)) (allS (List.mem_of_getElem? (i := 1) rfl) (allS (List.mem_of_getElem? (i := 0) rfl) all0)) rfl (pd_34) rfl rfl rfl (by decide) (by decide) (by decide) (by decide) (by decide)
  have Kc107 : Keep h0 ha106 [] := K105.trans Ka106 (allS (Or.inr sz_b101) (allS (Or.inr zz104) all0))
  replace k := (k [ba106] (allS ⟨sa106, Aa106.lt⟩ all0)).sfx [ba106, vi102, b101] rfl
  replace k := k.stk [(.ref b101)] rfl
  have zza106 : h0.size ≤ ba106 := za106.elim (fun q => by rw [q]; exact zz104) (Nat.le_trans K105.1)
  replace k := k.aloadN d5_12 rfl rfl
  obtain ⟨h108, b108, t108, E108, Ex108, Fc108, Fv108, Ab108, ne108, k⟩ := k.ldcLit d5_13 (hw _ (List.mem_of_getElem? (i := 97) rfl)) (fun a ha => hw a (own_sa a ha)) (own_EW hw) (by decide) [(110 : Int32), (97 : Int32), (109 : Int32), (101 : Int32)] ⟨by decide, by rfl⟩ (4 : Int32) (by decide) (by decide) 16 (by decide) (by decide) (by decide) (by decide)
  have K108 : Keep h0 h108 [] := Kc107.ext E108
  obtain ⟨_, _, sp15, ⟨rfl, rfl⟩, k⟩ := k.callS (y := (⟨"java/util/Objects", "requireNonNull", "(Ljava/lang/Object;Ljava/lang/String;)Ljava/lang/Object;"⟩ : MethodName)) d5_15 (hw _ (List.mem_of_getElem? (i := 98) rfl)) (hw _ (List.mem_of_getElem? (i := 99) rfl)) (hw _ (List.mem_of_getElem? (i := 100) rfl)) (hw _ (List.mem_of_getElem? (i := 101) rfl)) (W := 1) (argsL := [(.ref s1), (.ref b108)]) (rest := [(.ref b101)]) (rm16 Z a0 hw s1 b108 h108 n0) all0 rfl (pd_35) rfl rfl rfl (by decide) (by decide) (by decide) (by decide) (by decide)
  replace k := (k [] all0).sfx [ba106, vi102, b101] rfl
  replace k := k.stk [(.ref s1), (.ref b101)] rfl
  replace k := k.castY d5_18 (hw _ (List.mem_of_getElem? (i := 102) rfl)) (Ins.self (Exa.ext E108 ((Exa.ext E105 ((Exa.ext E101 E1).keep Ki102)).keep Ka106)))
  obtain ⟨_, ha109, sp21, ⟨rfl, Ka109, ba109, ca109, Fa109, za109, ga109, nea109, sa109, hca109, Bcra109, Bcta109, Bm1a109, Bvea109, Aa109, Da109, Pa109, Ra109⟩, k⟩ := k.callV (y := (⟨"java/lang/StringBuilder", "append", "(Ljava/lang/String;)Ljava/lang/StringBuilder;"⟩ : MethodName)) (z := (⟨"java/lang/StringBuilder", "append", "(Ljava/lang/String;)Ljava/lang/StringBuilder;"⟩ : MethodName)) (a := b101) d5_21 (hw _ (List.mem_of_getElem? (i := 49) rfl)) (hw _ (List.mem_of_getElem? (i := 50) rfl)) (fun s hs => notFace_of_selects (args := #[]) (mvT hs (hw _ (List.mem_of_getElem? (i := 52) rfl)))) (hw _ (List.mem_of_getElem? (i := 52) rfl)) (hw _ (List.mem_of_getElem? (i := 51) rfl)) (hw _ (List.mem_of_getElem? (i := 32) rfl)) (hw _ (List.mem_of_getElem? (i := 53) rfl)) (Exa.ext E108 ((Exa.ext E105 (A101.keep Ki102)).keep Ka106)) (W := 0) (argsL := [(.ref s1)]) (rest := []) (rm8 Z a0 hw zC vF b101 ba106 ca106 (0 + 5) Fa106 s1 t1 cod1 n1 G1 h108 n0 (Nat.le_trans (Nat.le_trans (Nat.le_trans (Nat.le_trans (Nat.le_trans Z0 E101.1) Ki102.1) E105.1) Ka106.1) E108.1) (Sta.ext E108 (Sta.keepN (Sta.ext E105 (Sta.keepN (Sta.ext E101 S_C) Ki102 (allS (Exa.nost A101) all0))) Ka106 (allS (Exa.nost (Exa.ext E105 (A101.keep Ki102))) (allS (Arf.nost (Ai102.ext E105)) all0)))) (Sta.ext E108 (Sta.keepN (Sta.ext E105 (Sta.keepN (Sta.ext E101 S_F) Ki102 (allS (Exa.nost A101) all0))) Ka106 (allS (Exa.nost (Exa.ext E105 (A101.keep Ki102))) (allS (Arf.nost (Ai102.ext E105)) all0)))) (Sta.ext E108 (Sta.keepN (Sta.ext E105 (Sta.keepN (Sta.ext E101 S_AD) Ki102 (allS (Exa.nost A101) all0))) Ka106 (allS (Exa.nost (Exa.ext E105 (A101.keep Ki102))) (allS (Arf.nost (Ai102.ext E105)) all0)))) (Sta.ext E108 (Sta.keepN (Sta.ext E105 (Sta.keepN (Sta.ext E101 S_HI) Ki102 (allS (Exa.nost A101) all0))) Ka106 (allS (Exa.nost (Exa.ext E105 (A101.keep Ki102))) (allS (Arf.nost (Ai102.ext E105)) all0)))) (Sta.ext E108 (Sta.keepN (Sta.ext E105 (Sta.keepN (Sta.ext E101 S_LO) Ki102 (allS (Exa.nost A101) all0))) Ka106 (allS (Exa.nost (Exa.ext E105 (A101.keep Ki102))) (allS (Arf.nost (Ai102.ext E105)) all0)))) hC hF ge_b101 ga106 nea106 (Exa.ext E108 ((Exa.ext E105 (A101.keep Ki102)).keep Ka106)) (Fld.ext E108 Bcra106) (Fld.ext E108 Bcta106) (Fld.ext E108 Bm1a106) (Fld.ext E108 Bvea106) (Aa106.ext E108) Da106 (by omega) hca106 (Exa.ext E108 ((Exa.ext E105 ((Exa.ext E101 E1).keep Ki102)).keep Ka106)) (Fld.ext E108 ((Fld.ext E105 ((Fld.ext E101 C1).keep Ki102 (ninS (Nat.ne_of_lt (Nat.lt_of_lt_of_le E1.lt (Nat.le_of_eq g101.symm))) nin0))).keep Ka106 (ninS (Nat.ne_of_lt (Nat.lt_of_lt_of_le E1.lt (Nat.le_of_eq g101.symm))) (ninS (Nat.ne_of_lt (Nat.lt_of_lt_of_le (Exa.ext E101 E1).lt zi102)) nin0)))) (Fld.ext E108 ((Fld.ext E105 ((Fld.ext E101 V1).keep Ki102 (ninS (Nat.ne_of_lt (Nat.lt_of_lt_of_le E1.lt (Nat.le_of_eq g101.symm))) nin0))).keep Ka106 (ninS (Nat.ne_of_lt (Nat.lt_of_lt_of_le E1.lt (Nat.le_of_eq g101.symm))) (ninS (Nat.ne_of_lt (Nat.lt_of_lt_of_le (Exa.ext E101 E1).lt zi102)) nin0)))) (((((A1.ext E101).keep Ki102 (ninS (Nat.ne_of_lt (Nat.lt_of_lt_of_le A1.lt (Nat.le_of_eq g101.symm))) nin0)).ext E105).keep Ka106 (ninS (Nat.ne_of_lt (Nat.lt_of_lt_of_le A1.lt (Nat.le_of_eq g101.symm))) (ninS (Nat.ne_of_lt (Nat.lt_of_lt_of_le (A1.ext E101).lt zi102)) nin0))).ext E108) D1 hn1 (Nat.ne_of_lt (Nat.lt_of_lt_of_le E1.lt (Nat.le_of_eq g101.symm))) (za106.elim (fun q => by rw [q]; exact (Nat.ne_of_lt (Nat.lt_of_lt_of_le (Exa.ext E101 E1).lt zi102))) (fun q => Nat.ne_of_lt (Nat.lt_of_lt_of_le (Exa.ext E105 ((Exa.ext E101 E1).keep Ki102)).lt q))) (Nat.ne_of_lt (Nat.lt_of_lt_of_le A1.lt (Nat.le_of_eq g101.symm))) (za106.elim (fun q => by rw [q]; exact (Nat.ne_of_lt (Nat.lt_of_lt_of_le (A1.ext E101).lt zi102))) (fun q => Nat.ne_of_lt (Nat.lt_of_lt_of_le (((A1.ext E101).keep Ki102 (ninS (Nat.ne_of_lt (Nat.lt_of_lt_of_le A1.lt (Nat.le_of_eq g101.symm))) nin0)).ext E105).lt q))) (by omega) hc1) (allS (List.mem_of_getElem? (i := 2) rfl) (allS (List.mem_of_getElem? (i := 0) rfl) all0)) rfl (pd_34) rfl rfl rfl (by decide) (by decide) (by decide) (by decide) (by decide)
  have Kc110 : Keep h0 ha109 [] := K108.trans Ka109 (allS (Or.inr sz_b101) (allS (Or.inr zza106) all0))
  replace k := (k [ba109] (allS ⟨sa109, Aa109.lt⟩ all0)).sfx [ba109, ba106, vi102, b101] rfl
  replace k := k.stk [(.ref b101)] rfl
  have zza109 : h0.size ≤ ba109 := za109.elim (fun q => by rw [q]; exact zza106) (Nat.le_trans K108.1)
  obtain ⟨h111, b111, t111, E111, Ex111, Fc111, Fv111, Ab111, ne111, k⟩ := k.ldcLit d5_24 (hw _ (List.mem_of_getElem? (i := 103) rfl)) (fun a ha => hw a (own_sa a ha)) (own_EW hw) (by decide) [(58 : Int32), (32 : Int32)] ⟨by decide, by rfl⟩ (2 : Int32) (by decide) (by decide) 8 (by decide) (by decide) (by decide) (by decide)
  have K111 : Keep h0 h111 [] := Kc110.ext E111
  obtain ⟨_, ha112, sp26, ⟨rfl, Ka112, ba112, ca112, Fa112, za112, ga112, nea112, sa112, hca112, Bcra112, Bcta112, Bm1a112, Bvea112, Aa112, Da112, Pa112, Ra112⟩, k⟩ := k.callV (y := (⟨"java/lang/StringBuilder", "append", "(Ljava/lang/String;)Ljava/lang/StringBuilder;"⟩ : MethodName)) (z := (⟨"java/lang/StringBuilder", "append", "(Ljava/lang/String;)Ljava/lang/StringBuilder;"⟩ : MethodName)) (a := b101) d5_26 (hw _ (List.mem_of_getElem? (i := 49) rfl)) (hw _ (List.mem_of_getElem? (i := 50) rfl)) (fun s hs => notFace_of_selects (args := #[]) (mvT hs (hw _ (List.mem_of_getElem? (i := 52) rfl)))) (hw _ (List.mem_of_getElem? (i := 52) rfl)) (hw _ (List.mem_of_getElem? (i := 51) rfl)) (hw _ (List.mem_of_getElem? (i := 32) rfl)) (hw _ (List.mem_of_getElem? (i := 53) rfl)) (Exa.ext E111 ((Exa.ext E108 ((Exa.ext E105 (A101.keep Ki102)).keep Ka106)).keep Ka109)) (W := 0) (argsL := [(.ref b111)]) (rest := []) (rm8 Z a0 hw zC vF b101 ba109 ca109 ((0 + 5) + n1) Fa109 b111 t111 (0 : Int32) 2 (fun i => ([(58 : Int32), (32 : Int32)] : List Int32).getD i 0) h111 n0 (Nat.le_trans (Nat.le_trans (Nat.le_trans (Nat.le_trans (Nat.le_trans (Nat.le_trans (Nat.le_trans Z0 E101.1) Ki102.1) E105.1) Ka106.1) E108.1) Ka109.1) E111.1) (Sta.ext E111 (Sta.keepN (Sta.ext E108 (Sta.keepN (Sta.ext E105 (Sta.keepN (Sta.ext E101 S_C) Ki102 (allS (Exa.nost A101) all0))) Ka106 (allS (Exa.nost (Exa.ext E105 (A101.keep Ki102))) (allS (Arf.nost (Ai102.ext E105)) all0)))) Ka109 (allS (Exa.nost (Exa.ext E108 ((Exa.ext E105 (A101.keep Ki102)).keep Ka106))) (allS (Arf.nost (Aa106.ext E108)) all0)))) (Sta.ext E111 (Sta.keepN (Sta.ext E108 (Sta.keepN (Sta.ext E105 (Sta.keepN (Sta.ext E101 S_F) Ki102 (allS (Exa.nost A101) all0))) Ka106 (allS (Exa.nost (Exa.ext E105 (A101.keep Ki102))) (allS (Arf.nost (Ai102.ext E105)) all0)))) Ka109 (allS (Exa.nost (Exa.ext E108 ((Exa.ext E105 (A101.keep Ki102)).keep Ka106))) (allS (Arf.nost (Aa106.ext E108)) all0)))) (Sta.ext E111 (Sta.keepN (Sta.ext E108 (Sta.keepN (Sta.ext E105 (Sta.keepN (Sta.ext E101 S_AD) Ki102 (allS (Exa.nost A101) all0))) Ka106 (allS (Exa.nost (Exa.ext E105 (A101.keep Ki102))) (allS (Arf.nost (Ai102.ext E105)) all0)))) Ka109 (allS (Exa.nost (Exa.ext E108 ((Exa.ext E105 (A101.keep Ki102)).keep Ka106))) (allS (Arf.nost (Aa106.ext E108)) all0)))) (Sta.ext E111 (Sta.keepN (Sta.ext E108 (Sta.keepN (Sta.ext E105 (Sta.keepN (Sta.ext E101 S_HI) Ki102 (allS (Exa.nost A101) all0))) Ka106 (allS (Exa.nost (Exa.ext E105 (A101.keep Ki102))) (allS (Arf.nost (Ai102.ext E105)) all0)))) Ka109 (allS (Exa.nost (Exa.ext E108 ((Exa.ext E105 (A101.keep Ki102)).keep Ka106))) (allS (Arf.nost (Aa106.ext E108)) all0)))) (Sta.ext E111 (Sta.keepN (Sta.ext E108 (Sta.keepN (Sta.ext E105 (Sta.keepN (Sta.ext E101 S_LO) Ki102 (allS (Exa.nost A101) all0))) Ka106 (allS (Exa.nost (Exa.ext E105 (A101.keep Ki102))) (allS (Arf.nost (Ai102.ext E105)) all0)))) Ka109 (allS (Exa.nost (Exa.ext E108 ((Exa.ext E105 (A101.keep Ki102)).keep Ka106))) (allS (Arf.nost (Aa106.ext E108)) all0)))) hC hF ge_b101 ga109 nea109 (Exa.ext E111 ((Exa.ext E108 ((Exa.ext E105 (A101.keep Ki102)).keep Ka106)).keep Ka109)) (Fld.ext E111 Bcra109) (Fld.ext E111 Bcta109) (Fld.ext E111 Bm1a109) (Fld.ext E111 Bvea109) (Aa109.ext E111) Da109 (by omega) hca109 Ex111 Fc111 Fv111 Ab111 (own_derL [(58 : Int32), (32 : Int32)] (by decide)) (by decide) (Ne.symm (ne111 b101 (List.mem_of_getElem? (i := 3) rfl)).1) (Ne.symm (ne111 ba109 (List.mem_of_getElem? (i := 0) rfl)).1) (Ne.symm (ne111 b101 (List.mem_of_getElem? (i := 3) rfl)).2) (Ne.symm (ne111 ba109 (List.mem_of_getElem? (i := 0) rfl)).2) (by omega) (Or.inl rfl)) (allS (List.mem_of_getElem? (i := 3) rfl) (allS (List.mem_of_getElem? (i := 0) rfl) all0)) rfl (pd_34) rfl rfl rfl (by decide) (by decide) (by decide) (by decide) (by decide)
  have Kc113 : Keep h0 ha112 [] := K111.trans Ka112 (allS (Or.inr sz_b101) (allS (Or.inr zza109) all0))
  replace k := (k [ba112] (allS ⟨sa112, Aa112.lt⟩ all0)).sfx [ba112, ba109, ba106, vi102, b101] rfl
  replace k := k.stk [(.ref b101)] rfl
  have zza112 : h0.size ≤ ba112 := za112.elim (fun q => by rw [q]; exact zza109) (Nat.le_trans K111.1)
  replace k := k.aloadN d5_29 rfl rfl
  obtain ⟨h114, b114, t114, E114, Ex114, Fc114, Fv114, Ab114, ne114, k⟩ := k.ldcLit d5_30 (hw _ (List.mem_of_getElem? (i := 104) rfl)) (fun a ha => hw a (own_sa a ha)) (own_EW hw) (by decide) [(114 : Int32), (101 : Int32), (97 : Int32), (115 : Int32), (111 : Int32), (110 : Int32)] ⟨by decide, by rfl⟩ (6 : Int32) (by decide) (by decide) 24 (by decide) (by decide) (by decide) (by decide)
  have K114 : Keep h0 h114 [] := Kc113.ext E114
  obtain ⟨_, _, sp32, ⟨rfl, rfl⟩, k⟩ := k.callS (y := (⟨"java/util/Objects", "requireNonNull", "(Ljava/lang/Object;Ljava/lang/String;)Ljava/lang/Object;"⟩ : MethodName)) d5_32 (hw _ (List.mem_of_getElem? (i := 98) rfl)) (hw _ (List.mem_of_getElem? (i := 99) rfl)) (hw _ (List.mem_of_getElem? (i := 100) rfl)) (hw _ (List.mem_of_getElem? (i := 101) rfl)) (W := 1) (argsL := [(.ref s2), (.ref b114)]) (rest := [(.ref b101)]) (rm16 Z a0 hw s2 b114 h114 n0) all0 rfl (pd_35) rfl rfl rfl (by decide) (by decide) (by decide) (by decide) (by decide)
  replace k := (k [] all0).sfx [ba112, ba109, ba106, vi102, b101] rfl
  replace k := k.stk [(.ref s2), (.ref b101)] rfl
  replace k := k.castY d5_35 (hw _ (List.mem_of_getElem? (i := 102) rfl)) (Ins.self (Exa.ext E114 ((Exa.ext E111 ((Exa.ext E108 ((Exa.ext E105 ((Exa.ext E101 E2).keep Ki102)).keep Ka106)).keep Ka109)).keep Ka112)))
  obtain ⟨_, ha115, sp38, ⟨rfl, Ka115, ba115, ca115, Fa115, za115, ga115, nea115, sa115, hca115, Bcra115, Bcta115, Bm1a115, Bvea115, Aa115, Da115, Pa115, Ra115⟩, k⟩ := k.callV (y := (⟨"java/lang/StringBuilder", "append", "(Ljava/lang/String;)Ljava/lang/StringBuilder;"⟩ : MethodName)) (z := (⟨"java/lang/StringBuilder", "append", "(Ljava/lang/String;)Ljava/lang/StringBuilder;"⟩ : MethodName)) (a := b101) d5_38 (hw _ (List.mem_of_getElem? (i := 49) rfl)) (hw _ (List.mem_of_getElem? (i := 50) rfl)) (fun s hs => notFace_of_selects (args := #[]) (mvT hs (hw _ (List.mem_of_getElem? (i := 52) rfl)))) (hw _ (List.mem_of_getElem? (i := 52) rfl)) (hw _ (List.mem_of_getElem? (i := 51) rfl)) (hw _ (List.mem_of_getElem? (i := 32) rfl)) (hw _ (List.mem_of_getElem? (i := 53) rfl)) (Exa.ext E114 ((Exa.ext E111 ((Exa.ext E108 ((Exa.ext E105 (A101.keep Ki102)).keep Ka106)).keep Ka109)).keep Ka112)) (W := 0) (argsL := [(.ref s2)]) (rest := []) (rm8 Z a0 hw zC vF b101 ba112 ca112 (((0 + 5) + n1) + 2) Fa112 s2 t2 cod2 n2 G2 h114 n0 (Nat.le_trans (Nat.le_trans (Nat.le_trans (Nat.le_trans (Nat.le_trans (Nat.le_trans (Nat.le_trans (Nat.le_trans (Nat.le_trans Z0 E101.1) Ki102.1) E105.1) Ka106.1) E108.1) Ka109.1) E111.1) Ka112.1) E114.1) (Sta.ext E114 (Sta.keepN (Sta.ext E111 (Sta.keepN (Sta.ext E108 (Sta.keepN (Sta.ext E105 (Sta.keepN (Sta.ext E101 S_C) Ki102 (allS (Exa.nost A101) all0))) Ka106 (allS (Exa.nost (Exa.ext E105 (A101.keep Ki102))) (allS (Arf.nost (Ai102.ext E105)) all0)))) Ka109 (allS (Exa.nost (Exa.ext E108 ((Exa.ext E105 (A101.keep Ki102)).keep Ka106))) (allS (Arf.nost (Aa106.ext E108)) all0)))) Ka112 (allS (Exa.nost (Exa.ext E111 ((Exa.ext E108 ((Exa.ext E105 (A101.keep Ki102)).keep Ka106)).keep Ka109))) (allS (Arf.nost (Aa109.ext E111)) all0)))) (Sta.ext E114 (Sta.keepN (Sta.ext E111 (Sta.keepN (Sta.ext E108 (Sta.keepN (Sta.ext E105 (Sta.keepN (Sta.ext E101 S_F) Ki102 (allS (Exa.nost A101) all0))) Ka106 (allS (Exa.nost (Exa.ext E105 (A101.keep Ki102))) (allS (Arf.nost (Ai102.ext E105)) all0)))) Ka109 (allS (Exa.nost (Exa.ext E108 ((Exa.ext E105 (A101.keep Ki102)).keep Ka106))) (allS (Arf.nost (Aa106.ext E108)) all0)))) Ka112 (allS (Exa.nost (Exa.ext E111 ((Exa.ext E108 ((Exa.ext E105 (A101.keep Ki102)).keep Ka106)).keep Ka109))) (allS (Arf.nost (Aa109.ext E111)) all0)))) (Sta.ext E114 (Sta.keepN (Sta.ext E111 (Sta.keepN (Sta.ext E108 (Sta.keepN (Sta.ext E105 (Sta.keepN (Sta.ext E101 S_AD) Ki102 (allS (Exa.nost A101) all0))) Ka106 (allS (Exa.nost (Exa.ext E105 (A101.keep Ki102))) (allS (Arf.nost (Ai102.ext E105)) all0)))) Ka109 (allS (Exa.nost (Exa.ext E108 ((Exa.ext E105 (A101.keep Ki102)).keep Ka106))) (allS (Arf.nost (Aa106.ext E108)) all0)))) Ka112 (allS (Exa.nost (Exa.ext E111 ((Exa.ext E108 ((Exa.ext E105 (A101.keep Ki102)).keep Ka106)).keep Ka109))) (allS (Arf.nost (Aa109.ext E111)) all0)))) (Sta.ext E114 (Sta.keepN (Sta.ext E111 (Sta.keepN (Sta.ext E108 (Sta.keepN (Sta.ext E105 (Sta.keepN (Sta.ext E101 S_HI) Ki102 (allS (Exa.nost A101) all0))) Ka106 (allS (Exa.nost (Exa.ext E105 (A101.keep Ki102))) (allS (Arf.nost (Ai102.ext E105)) all0)))) Ka109 (allS (Exa.nost (Exa.ext E108 ((Exa.ext E105 (A101.keep Ki102)).keep Ka106))) (allS (Arf.nost (Aa106.ext E108)) all0)))) Ka112 (allS (Exa.nost (Exa.ext E111 ((Exa.ext E108 ((Exa.ext E105 (A101.keep Ki102)).keep Ka106)).keep Ka109))) (allS (Arf.nost (Aa109.ext E111)) all0)))) (Sta.ext E114 (Sta.keepN (Sta.ext E111 (Sta.keepN (Sta.ext E108 (Sta.keepN (Sta.ext E105 (Sta.keepN (Sta.ext E101 S_LO) Ki102 (allS (Exa.nost A101) all0))) Ka106 (allS (Exa.nost (Exa.ext E105 (A101.keep Ki102))) (allS (Arf.nost (Ai102.ext E105)) all0)))) Ka109 (allS (Exa.nost (Exa.ext E108 ((Exa.ext E105 (A101.keep Ki102)).keep Ka106))) (allS (Arf.nost (Aa106.ext E108)) all0)))) Ka112 (allS (Exa.nost (Exa.ext E111 ((Exa.ext E108 ((Exa.ext E105 (A101.keep Ki102)).keep Ka106)).keep Ka109))) (allS (Arf.nost (Aa109.ext E111)) all0)))) hC hF ge_b101 ga112 nea112 (Exa.ext E114 ((Exa.ext E111 ((Exa.ext E108 ((Exa.ext E105 (A101.keep Ki102)).keep Ka106)).keep Ka109)).keep Ka112)) (Fld.ext E114 Bcra112) (Fld.ext E114 Bcta112) (Fld.ext E114 Bm1a112) (Fld.ext E114 Bvea112) (Aa112.ext E114) Da112 (by omega) hca112 (Exa.ext E114 ((Exa.ext E111 ((Exa.ext E108 ((Exa.ext E105 ((Exa.ext E101 E2).keep Ki102)).keep Ka106)).keep Ka109)).keep Ka112)) (Fld.ext E114 ((Fld.ext E111 ((Fld.ext E108 ((Fld.ext E105 ((Fld.ext E101 C2).keep Ki102 (ninS (Nat.ne_of_lt (Nat.lt_of_lt_of_le E2.lt (Nat.le_of_eq g101.symm))) nin0))).keep Ka106 (ninS (Nat.ne_of_lt (Nat.lt_of_lt_of_le E2.lt (Nat.le_of_eq g101.symm))) (ninS (Nat.ne_of_lt (Nat.lt_of_lt_of_le (Exa.ext E101 E2).lt zi102)) nin0)))).keep Ka109 (ninS (Nat.ne_of_lt (Nat.lt_of_lt_of_le E2.lt (Nat.le_of_eq g101.symm))) (ninS (za106.elim (fun q => by rw [q]; exact (Nat.ne_of_lt (Nat.lt_of_lt_of_le (Exa.ext E101 E2).lt zi102))) (fun q => Nat.ne_of_lt (Nat.lt_of_lt_of_le (Exa.ext E105 ((Exa.ext E101 E2).keep Ki102)).lt q))) nin0)))).keep Ka112 (ninS (Nat.ne_of_lt (Nat.lt_of_lt_of_le E2.lt (Nat.le_of_eq g101.symm))) (ninS (za109.elim (fun q => by rw [q]; exact (za106.elim (fun q => by rw [q]; exact (Nat.ne_of_lt (Nat.lt_of_lt_of_le (Exa.ext E101 E2).lt zi102))) (fun q => Nat.ne_of_lt (Nat.lt_of_lt_of_le (Exa.ext E105 ((Exa.ext E101 E2).keep Ki102)).lt q)))) (fun q => Nat.ne_of_lt (Nat.lt_of_lt_of_le (Exa.ext E108 ((Exa.ext E105 ((Exa.ext E101 E2).keep Ki102)).keep Ka106)).lt q))) nin0)))) (Fld.ext E114 ((Fld.ext E111 ((Fld.ext E108 ((Fld.ext E105 ((Fld.ext E101 V2).keep Ki102 (ninS (Nat.ne_of_lt (Nat.lt_of_lt_of_le E2.lt (Nat.le_of_eq g101.symm))) nin0))).keep Ka106 (ninS (Nat.ne_of_lt (Nat.lt_of_lt_of_le E2.lt (Nat.le_of_eq g101.symm))) (ninS (Nat.ne_of_lt (Nat.lt_of_lt_of_le (Exa.ext E101 E2).lt zi102)) nin0)))).keep Ka109 (ninS (Nat.ne_of_lt (Nat.lt_of_lt_of_le E2.lt (Nat.le_of_eq g101.symm))) (ninS (za106.elim (fun q => by rw [q]; exact (Nat.ne_of_lt (Nat.lt_of_lt_of_le (Exa.ext E101 E2).lt zi102))) (fun q => Nat.ne_of_lt (Nat.lt_of_lt_of_le (Exa.ext E105 ((Exa.ext E101 E2).keep Ki102)).lt q))) nin0)))).keep Ka112 (ninS (Nat.ne_of_lt (Nat.lt_of_lt_of_le E2.lt (Nat.le_of_eq g101.symm))) (ninS (za109.elim (fun q => by rw [q]; exact (za106.elim (fun q => by rw [q]; exact (Nat.ne_of_lt (Nat.lt_of_lt_of_le (Exa.ext E101 E2).lt zi102))) (fun q => Nat.ne_of_lt (Nat.lt_of_lt_of_le (Exa.ext E105 ((Exa.ext E101 E2).keep Ki102)).lt q)))) (fun q => Nat.ne_of_lt (Nat.lt_of_lt_of_le (Exa.ext E108 ((Exa.ext E105 ((Exa.ext E101 E2).keep Ki102)).keep Ka106)).lt q))) nin0)))) (((((((((A2.ext E101).keep Ki102 (ninS (Nat.ne_of_lt (Nat.lt_of_lt_of_le A2.lt (Nat.le_of_eq g101.symm))) nin0)).ext E105).keep Ka106 (ninS (Nat.ne_of_lt (Nat.lt_of_lt_of_le A2.lt (Nat.le_of_eq g101.symm))) (ninS (Nat.ne_of_lt (Nat.lt_of_lt_of_le (A2.ext E101).lt zi102)) nin0))).ext E108).keep Ka109 (ninS (Nat.ne_of_lt (Nat.lt_of_lt_of_le A2.lt (Nat.le_of_eq g101.symm))) (ninS (za106.elim (fun q => by rw [q]; exact (Nat.ne_of_lt (Nat.lt_of_lt_of_le (A2.ext E101).lt zi102))) (fun q => Nat.ne_of_lt (Nat.lt_of_lt_of_le (((A2.ext E101).keep Ki102 (ninS (Nat.ne_of_lt (Nat.lt_of_lt_of_le A2.lt (Nat.le_of_eq g101.symm))) nin0)).ext E105).lt q))) nin0))).ext E111).keep Ka112 (ninS (Nat.ne_of_lt (Nat.lt_of_lt_of_le A2.lt (Nat.le_of_eq g101.symm))) (ninS (za109.elim (fun q => by rw [q]; exact (za106.elim (fun q => by rw [q]; exact (Nat.ne_of_lt (Nat.lt_of_lt_of_le (A2.ext E101).lt zi102))) (fun q => Nat.ne_of_lt (Nat.lt_of_lt_of_le (((A2.ext E101).keep Ki102 (ninS (Nat.ne_of_lt (Nat.lt_of_lt_of_le A2.lt (Nat.le_of_eq g101.symm))) nin0)).ext E105).lt q)))) (fun q => Nat.ne_of_lt (Nat.lt_of_lt_of_le (((((A2.ext E101).keep Ki102 (ninS (Nat.ne_of_lt (Nat.lt_of_lt_of_le A2.lt (Nat.le_of_eq g101.symm))) nin0)).ext E105).keep Ka106 (ninS (Nat.ne_of_lt (Nat.lt_of_lt_of_le A2.lt (Nat.le_of_eq g101.symm))) (ninS (Nat.ne_of_lt (Nat.lt_of_lt_of_le (A2.ext E101).lt zi102)) nin0))).ext E108).lt q))) nin0))).ext E114) D2 hn2 (Nat.ne_of_lt (Nat.lt_of_lt_of_le E2.lt (Nat.le_of_eq g101.symm))) (za112.elim (fun q => by rw [q]; exact (za109.elim (fun q => by rw [q]; exact (za106.elim (fun q => by rw [q]; exact (Nat.ne_of_lt (Nat.lt_of_lt_of_le (Exa.ext E101 E2).lt zi102))) (fun q => Nat.ne_of_lt (Nat.lt_of_lt_of_le (Exa.ext E105 ((Exa.ext E101 E2).keep Ki102)).lt q)))) (fun q => Nat.ne_of_lt (Nat.lt_of_lt_of_le (Exa.ext E108 ((Exa.ext E105 ((Exa.ext E101 E2).keep Ki102)).keep Ka106)).lt q)))) (fun q => Nat.ne_of_lt (Nat.lt_of_lt_of_le (Exa.ext E111 ((Exa.ext E108 ((Exa.ext E105 ((Exa.ext E101 E2).keep Ki102)).keep Ka106)).keep Ka109)).lt q))) (Nat.ne_of_lt (Nat.lt_of_lt_of_le A2.lt (Nat.le_of_eq g101.symm))) (za112.elim (fun q => by rw [q]; exact (za109.elim (fun q => by rw [q]; exact (za106.elim (fun q => by rw [q]; exact (Nat.ne_of_lt (Nat.lt_of_lt_of_le (A2.ext E101).lt zi102))) (fun q => Nat.ne_of_lt (Nat.lt_of_lt_of_le (((A2.ext E101).keep Ki102 (ninS (Nat.ne_of_lt (Nat.lt_of_lt_of_le A2.lt (Nat.le_of_eq g101.symm))) nin0)).ext E105).lt q)))) (fun q => Nat.ne_of_lt (Nat.lt_of_lt_of_le (((((A2.ext E101).keep Ki102 (ninS (Nat.ne_of_lt (Nat.lt_of_lt_of_le A2.lt (Nat.le_of_eq g101.symm))) nin0)).ext E105).keep Ka106 (ninS (Nat.ne_of_lt (Nat.lt_of_lt_of_le A2.lt (Nat.le_of_eq g101.symm))) (ninS (Nat.ne_of_lt (Nat.lt_of_lt_of_le (A2.ext E101).lt zi102)) nin0))).ext E108).lt q)))) (fun q => Nat.ne_of_lt (Nat.lt_of_lt_of_le (((((((A2.ext E101).keep Ki102 (ninS (Nat.ne_of_lt (Nat.lt_of_lt_of_le A2.lt (Nat.le_of_eq g101.symm))) nin0)).ext E105).keep Ka106 (ninS (Nat.ne_of_lt (Nat.lt_of_lt_of_le A2.lt (Nat.le_of_eq g101.symm))) (ninS (Nat.ne_of_lt (Nat.lt_of_lt_of_le (A2.ext E101).lt zi102)) nin0))).ext E108).keep Ka109 (ninS (Nat.ne_of_lt (Nat.lt_of_lt_of_le A2.lt (Nat.le_of_eq g101.symm))) (ninS (za106.elim (fun q => by rw [q]; exact (Nat.ne_of_lt (Nat.lt_of_lt_of_le (A2.ext E101).lt zi102))) (fun q => Nat.ne_of_lt (Nat.lt_of_lt_of_le (((A2.ext E101).keep Ki102 (ninS (Nat.ne_of_lt (Nat.lt_of_lt_of_le A2.lt (Nat.le_of_eq g101.symm))) nin0)).ext E105).lt q))) nin0))).ext E111).lt q))) (by omega) hc2) (allS (List.mem_of_getElem? (i := 4) rfl) (allS (List.mem_of_getElem? (i := 0) rfl) all0)) rfl (pd_34) rfl rfl rfl (by decide) (by decide) (by decide) (by decide) (by decide)
  have Kc116 : Keep h0 ha115 [] := K114.trans Ka115 (allS (Or.inr sz_b101) (allS (Or.inr zza112) all0))
  replace k := (k [ba115] (allS ⟨sa115, Aa115.lt⟩ all0)).sfx [ba115, ba112, ba109, ba106, vi102, b101] rfl
  replace k := k.stk [(.ref b101)] rfl
  have zza115 : h0.size ≤ ba115 := za115.elim (fun q => by rw [q]; exact zza112) (Nat.le_trans K114.1)
  obtain ⟨_, hr117, sp41, ⟨sr117, tr117, rfl, Kr117, Er117, Fcr117, Fvr117, Ar117⟩, k⟩ := k.callV (y := (⟨"java/lang/StringBuilder", "toString", "()Ljava/lang/String;"⟩ : MethodName)) (z := (⟨"java/lang/StringBuilder", "toString", "()Ljava/lang/String;"⟩ : MethodName)) (a := b101) d5_41 (hw _ (List.mem_of_getElem? (i := 105) rfl)) (hw _ (List.mem_of_getElem? (i := 106) rfl)) (fun s hs => notFace_of_selects (args := #[]) (mvT hs (hw _ (List.mem_of_getElem? (i := 108) rfl)))) (hw _ (List.mem_of_getElem? (i := 108) rfl)) (hw _ (List.mem_of_getElem? (i := 107) rfl)) (hw _ (List.mem_of_getElem? (i := 32) rfl)) (hw _ (List.mem_of_getElem? (i := 109) rfl)) ((Exa.ext E114 ((Exa.ext E111 ((Exa.ext E108 ((Exa.ext E105 (A101.keep Ki102)).keep Ka106)).keep Ka109)).keep Ka112)).keep Ka115) (W := 0) (argsL := []) (rest := []) (rm17 Z a0 hw zC vF b101 ba115 ca115 ((((0 + 5) + n1) + 2) + n2) Fa115 ha115 n0 (Nat.le_trans (Nat.le_trans (Nat.le_trans (Nat.le_trans (Nat.le_trans (Nat.le_trans (Nat.le_trans (Nat.le_trans (Nat.le_trans (Nat.le_trans Z0 E101.1) Ki102.1) E105.1) Ka106.1) E108.1) Ka109.1) E111.1) Ka112.1) E114.1) Ka115.1) (Sta.keepN (Sta.ext E114 (Sta.keepN (Sta.ext E111 (Sta.keepN (Sta.ext E108 (Sta.keepN (Sta.ext E105 (Sta.keepN (Sta.ext E101 S_C) Ki102 (allS (Exa.nost A101) all0))) Ka106 (allS (Exa.nost (Exa.ext E105 (A101.keep Ki102))) (allS (Arf.nost (Ai102.ext E105)) all0)))) Ka109 (allS (Exa.nost (Exa.ext E108 ((Exa.ext E105 (A101.keep Ki102)).keep Ka106))) (allS (Arf.nost (Aa106.ext E108)) all0)))) Ka112 (allS (Exa.nost (Exa.ext E111 ((Exa.ext E108 ((Exa.ext E105 (A101.keep Ki102)).keep Ka106)).keep Ka109))) (allS (Arf.nost (Aa109.ext E111)) all0)))) Ka115 (allS (Exa.nost (Exa.ext E114 ((Exa.ext E111 ((Exa.ext E108 ((Exa.ext E105 (A101.keep Ki102)).keep Ka106)).keep Ka109)).keep Ka112))) (allS (Arf.nost (Aa112.ext E114)) all0))) (Sta.keepN (Sta.ext E114 (Sta.keepN (Sta.ext E111 (Sta.keepN (Sta.ext E108 (Sta.keepN (Sta.ext E105 (Sta.keepN (Sta.ext E101 S_F) Ki102 (allS (Exa.nost A101) all0))) Ka106 (allS (Exa.nost (Exa.ext E105 (A101.keep Ki102))) (allS (Arf.nost (Ai102.ext E105)) all0)))) Ka109 (allS (Exa.nost (Exa.ext E108 ((Exa.ext E105 (A101.keep Ki102)).keep Ka106))) (allS (Arf.nost (Aa106.ext E108)) all0)))) Ka112 (allS (Exa.nost (Exa.ext E111 ((Exa.ext E108 ((Exa.ext E105 (A101.keep Ki102)).keep Ka106)).keep Ka109))) (allS (Arf.nost (Aa109.ext E111)) all0)))) Ka115 (allS (Exa.nost (Exa.ext E114 ((Exa.ext E111 ((Exa.ext E108 ((Exa.ext E105 (A101.keep Ki102)).keep Ka106)).keep Ka109)).keep Ka112))) (allS (Arf.nost (Aa112.ext E114)) all0))) (Sta.keepN (Sta.ext E114 (Sta.keepN (Sta.ext E111 (Sta.keepN (Sta.ext E108 (Sta.keepN (Sta.ext E105 (Sta.keepN (Sta.ext E101 S_AD) Ki102 (allS (Exa.nost A101) all0))) Ka106 (allS (Exa.nost (Exa.ext E105 (A101.keep Ki102))) (allS (Arf.nost (Ai102.ext E105)) all0)))) Ka109 (allS (Exa.nost (Exa.ext E108 ((Exa.ext E105 (A101.keep Ki102)).keep Ka106))) (allS (Arf.nost (Aa106.ext E108)) all0)))) Ka112 (allS (Exa.nost (Exa.ext E111 ((Exa.ext E108 ((Exa.ext E105 (A101.keep Ki102)).keep Ka106)).keep Ka109))) (allS (Arf.nost (Aa109.ext E111)) all0)))) Ka115 (allS (Exa.nost (Exa.ext E114 ((Exa.ext E111 ((Exa.ext E108 ((Exa.ext E105 (A101.keep Ki102)).keep Ka106)).keep Ka109)).keep Ka112))) (allS (Arf.nost (Aa112.ext E114)) all0))) (Sta.keepN (Sta.ext E114 (Sta.keepN (Sta.ext E111 (Sta.keepN (Sta.ext E108 (Sta.keepN (Sta.ext E105 (Sta.keepN (Sta.ext E101 S_HI) Ki102 (allS (Exa.nost A101) all0))) Ka106 (allS (Exa.nost (Exa.ext E105 (A101.keep Ki102))) (allS (Arf.nost (Ai102.ext E105)) all0)))) Ka109 (allS (Exa.nost (Exa.ext E108 ((Exa.ext E105 (A101.keep Ki102)).keep Ka106))) (allS (Arf.nost (Aa106.ext E108)) all0)))) Ka112 (allS (Exa.nost (Exa.ext E111 ((Exa.ext E108 ((Exa.ext E105 (A101.keep Ki102)).keep Ka106)).keep Ka109))) (allS (Arf.nost (Aa109.ext E111)) all0)))) Ka115 (allS (Exa.nost (Exa.ext E114 ((Exa.ext E111 ((Exa.ext E108 ((Exa.ext E105 (A101.keep Ki102)).keep Ka106)).keep Ka109)).keep Ka112))) (allS (Arf.nost (Aa112.ext E114)) all0))) (Sta.keepN (Sta.ext E114 (Sta.keepN (Sta.ext E111 (Sta.keepN (Sta.ext E108 (Sta.keepN (Sta.ext E105 (Sta.keepN (Sta.ext E101 S_LO) Ki102 (allS (Exa.nost A101) all0))) Ka106 (allS (Exa.nost (Exa.ext E105 (A101.keep Ki102))) (allS (Arf.nost (Ai102.ext E105)) all0)))) Ka109 (allS (Exa.nost (Exa.ext E108 ((Exa.ext E105 (A101.keep Ki102)).keep Ka106))) (allS (Arf.nost (Aa106.ext E108)) all0)))) Ka112 (allS (Exa.nost (Exa.ext E111 ((Exa.ext E108 ((Exa.ext E105 (A101.keep Ki102)).keep Ka106)).keep Ka109))) (allS (Arf.nost (Aa109.ext E111)) all0)))) Ka115 (allS (Exa.nost (Exa.ext E114 ((Exa.ext E111 ((Exa.ext E108 ((Exa.ext E105 (A101.keep Ki102)).keep Ka106)).keep Ka109)).keep Ka112))) (allS (Arf.nost (Aa112.ext E114)) all0))) hC hF ge_b101 ga115 nea115 ((Exa.ext E114 ((Exa.ext E111 ((Exa.ext E108 ((Exa.ext E105 (A101.keep Ki102)).keep Ka106)).keep Ka109)).keep Ka112)).keep Ka115) Bcra115 Bcta115 Bm1a115 Bvea115 Aa115 Da115 (by omega) hca115 (by omega)) all0 rfl (pd_36) rfl rfl rfl (by decide) (by decide) (by decide) (by decide) (by decide)
  have Kc118 : Keep h0 hr117 [] := Kc116.trans Kr117 all0
  replace k := (k [] all0).sfx [ba115, ba112, ba109, ba106, vi102, b101] rfl
  replace k := k.stk [(.ref sr117)] rfl
  exact k.aret d5_44 rfl rfl rfl rfl (fun sp hsp => ⟨_, _, _, _, rfl, Kc118, Er117, Fcr117, Fvr117, hca115, Ar117, Da115, own_msgL Pa106 Ra106 Pa109 Ra109 Pa112 Ra112 Pa115 Ra115⟩) (by decide) (by decide)

set_option maxRecDepth 65536 in
set_option maxHeartbeats 40000000 in
theorem rm0 (Z : State) (a0 : Array Value) (hw : ∀ d ∈ tables_1, d.before a0 Z = true) (p1 p2 : Int64) (p3 : Int32) (zC : Int32) (vF : Value) (h0 : Heap) (n0 : Nat) (Z0 : n0 ≤ h0.size) (S_C : Sta Z h0 "java/lang/String" "COMPACT_STRINGS" "Z" (.int zC)) (S_F : Sta Z h0 "jdk/internal/util/Preconditions" "SIOOBE_FORMATTER" "Ljava/util/function/BiFunction;" vF) (S_AD : Sta Z h0 "java/lang/StringUTF16" "$assertionsDisabled" "Z" (.int (1 : Int32))) (S_HI : Sta Z h0 "java/lang/StringUTF16" "HI_BYTE_SHIFT" "I" (.int (0 : Int32))) (S_LO : Sta Z h0 "java/lang/StringUTF16" "LO_BYTE_SHIFT" "I" (.int (8 : Int32))) (hC : ¬ (zC = (0 : Int32))) (hF : vF = .null ∨ ∃ b, vF = .ref b) :
    Con Z n0 x code maxLocals ret tables_1 room_1 #[(.long p1), (.long p2), (.int p3)] h0 [] (fun v h sp => v = some (.int (1 : Int32))) := by
  refine Con.intro (L0 := #[.val (.long p1), .second, .val (.long p2), .second, .val (.int p3), .unset, .unset, .unset, .unset, .unset]) ⟨_, own_EW hw⟩ (plainFor_of_name (by first | (simp [plainName, overriddenIn]; done) | decide +kernel)) (fun m => by first | (simp [entryFrame, mkF, argsToLocals, Value.category, maxLocals]; done) | rfl) ?_
  intro C k
  replace k := k.iload at_0 rfl
  replace k := k.iconst (3 : Int32) at_2 rfl
  replace k := k.iand at_3
  obtain ⟨x5, hx5⟩ : ∃ z, z = (p3 &&& (3 : Int32)) := ⟨_, rfl⟩
  replace k := k.stk [(.int x5)] (by rw [hx5])
  have hl5 := own_and3 _ _ hx5
  replace k := k.istore #[.val (.long p1), .second, .val (.long p2), .second, .val (.int p3), .val (.int x5), .unset, .unset, .unset, .unset] at_4 rfl
  replace k := k.iload at_6 rfl
  replace k := k.iconst (2 : Int32) at_8 rfl
  replace k := k.iushr at_9
  replace k := k.iconst (3 : Int32) at_10 rfl
  replace k := k.iand at_11
  obtain ⟨x6, hx6⟩ : ∃ z, z = (((p3.toUInt32 >>> ((2 : Int32) &&& 31).toUInt32).toInt32) &&& (3 : Int32)) := ⟨_, rfl⟩
  replace k := k.stk [(.int x6)] (by rw [hx6])
  have hl6 := own_and3 _ _ hx6
  replace k := k.istore #[.val (.long p1), .second, .val (.long p2), .second, .val (.int p3), .val (.int x5), .val (.int x6), .unset, .unset, .unset] at_12 rfl
  replace k := k.lloadN at_14 rfl
  replace k := k.iload at_15 rfl
  obtain ⟨_, hh1, sp17, ⟨s1, t1, cod1, G1, n1, rfl, K1, E1, C1, V1, hc1, A1, D1, sm1, T1⟩, k⟩ := k.callS (y := (⟨"com/example/vidare/vidare/core/GatePauseReasonPinLaw", "mk", "(JI)Ljava/lang/String;"⟩ : MethodName)) at_17 (hw _ (List.mem_of_getElem? (i := 0) rfl)) (hw _ (List.mem_of_getElem? (i := 1) rfl)) (hw _ (List.mem_of_getElem? (i := 2) rfl)) (hw _ (List.mem_of_getElem? (i := 3) rfl)) (W := 0) (argsL := [(.long p1), (.int x5)]) (rest := []) (rm1 Z a0 hw zC vF p1 x5 h0 n0 Z0 S_C S_F S_AD S_HI S_LO hC hF hl5) all0 rfl (pd_37) rfl rfl rfl (by decide) (by decide) (by decide) (by decide) (by decide)
  replace k := (k [] all0).sfx [] rfl
  replace k := k.stk [(.ref s1)] rfl
  have hm1 := own_sm3 sm1
  replace k := k.astore #[.val (.long p1), .second, .val (.long p2), .second, .val (.int p3), .val (.int x5), .val (.int x6), .val (.ref s1), .unset, .unset] at_20 rfl rfl
  replace k := k.lloadN at_22 rfl
  replace k := k.iload at_23 rfl
  obtain ⟨_, hh2, sp25, ⟨s2, t2, cod2, G2, n2, rfl, K2, E2, C2, V2, hc2, A2, D2, sm2, T2⟩, k⟩ := k.callS (y := (⟨"com/example/vidare/vidare/core/GatePauseReasonPinLaw", "mk", "(JI)Ljava/lang/String;"⟩ : MethodName)) at_25 (hw _ (List.mem_of_getElem? (i := 0) rfl)) (hw _ (List.mem_of_getElem? (i := 1) rfl)) (hw _ (List.mem_of_getElem? (i := 2) rfl)) (hw _ (List.mem_of_getElem? (i := 3) rfl)) (W := 0) (argsL := [(.long p2), (.int x6)]) (rest := []) (rm1 Z a0 hw zC vF p2 x6 hh1 n0 (Nat.le_trans Z0 K1.1) (Sta.keepN S_C K1 all0) (Sta.keepN S_F K1 all0) (Sta.keepN S_AD K1 all0) (Sta.keepN S_HI K1 all0) (Sta.keepN S_LO K1 all0) hC hF hl6) all0 rfl (pd_37) rfl rfl rfl (by decide) (by decide) (by decide) (by decide) (by decide)
  replace k := (k [] all0).sfx [] rfl
  replace k := k.stk [(.ref s2)] rfl
  have hm2 := own_sm3 sm2
  replace k := k.astore #[.val (.long p1), .second, .val (.long p2), .second, .val (.int p3), .val (.int x5), .val (.int x6), .val (.ref s1), .val (.ref s2), .unset] at_28 rfl rfl
  replace k := k.aload at_30 rfl rfl
  replace k := k.aload at_32 rfl rfl
  obtain ⟨_, hs, sp34, ⟨s, ts, cods, Gs, rfl, Ks, Es, Cs, Vs, hcs, As, Ds, Ts⟩, k⟩ := k.callS (y := (⟨"com/example/vidare/vidare/core/Gate", "pauseReason", "(Ljava/lang/String;Ljava/lang/String;)Ljava/lang/String;"⟩ : MethodName)) at_34 (hw _ (List.mem_of_getElem? (i := 26) rfl)) (hw _ (List.mem_of_getElem? (i := 27) rfl)) (hw _ (List.mem_of_getElem? (i := 28) rfl)) (hw _ (List.mem_of_getElem? (i := 29) rfl)) (W := 0) (argsL := [(.ref s1), (.ref s2)]) (rest := []) (rm5 Z a0 hw zC vF s1 t1 cod1 n1 G1 s2 t2 cod2 n2 G2 hh2 n0 (Nat.le_trans (Nat.le_trans Z0 K1.1) K2.1) (Sta.keepN (Sta.keepN S_C K1 all0) K2 all0) (Sta.keepN (Sta.keepN S_F K1 all0) K2 all0) (Sta.keepN (Sta.keepN S_AD K1 all0) K2 all0) (Sta.keepN (Sta.keepN S_HI K1 all0) K2 all0) (Sta.keepN (Sta.keepN S_LO K1 all0) K2 all0) hC hF (E1.keep K2) (C1.keep K2 nin0) (V1.keep K2 nin0) (A1.keep K2 nin0) D1 hc1 (by omega) hm1 E2 C2 V2 A2 D2 hc2 (by omega) hm2) all0 rfl (pd_38) rfl rfl rfl (by decide) (by decide) (by decide) (by decide) (by decide)
  replace k := (k [] all0).sfx [] rfl
  replace k := k.stk [(.ref s)] rfl
  have hcon : ∀ (I : Nat) (i : Int32), i.toInt = (I : Int) → I < ((((0 + 5) + n1) + 2) + n2) → own_dec cods Gs I = own_exp i p1 p2 x5 := fun I i hi hI => (Ts I hI).trans (own_fin sm1 T1 T2 hi hI)
  replace k := k.astore #[.val (.long p1), .second, .val (.long p2), .second, .val (.int p3), .val (.int x5), .val (.int x6), .val (.ref s1), .val (.ref s2), .val (.ref s)] at_37 rfl rfl
  replace k := k.aload at_39 rfl rfl
  replace k := k.ifnonnullYes (pc' := 46) at_41 (by decide) (by decide)
  replace k := k.aload at_46 rfl rfl
  obtain ⟨_, _, sp48, ⟨rfl, rfl⟩, k⟩ := k.callV (y := (⟨"java/lang/String", "length", "()I"⟩ : MethodName)) (z := (⟨"java/lang/String", "length", "()I"⟩ : MethodName)) (a := s) at_48 (hw _ (List.mem_of_getElem? (i := 150) rfl)) (hw _ (List.mem_of_getElem? (i := 60) rfl)) (fun s hs => notFace_of_selects (args := #[]) (mvT hs (hw _ (List.mem_of_getElem? (i := 62) rfl)))) (hw _ (List.mem_of_getElem? (i := 62) rfl)) (hw _ (List.mem_of_getElem? (i := 61) rfl)) (hw _ (List.mem_of_getElem? (i := 6) rfl)) (hw _ (List.mem_of_getElem? (i := 63) rfl)) Es (W := 0) (argsL := []) (rest := []) (rm10 Z a0 hw zC vF s ts cods ((((0 + 5) + n1) + 2) + n2) Gs hs n0 (Nat.le_trans (Nat.le_trans (Nat.le_trans Z0 K1.1) K2.1) Ks.1) (Sta.keepN (Sta.keepN (Sta.keepN S_C K1 all0) K2 all0) Ks all0) (Sta.keepN (Sta.keepN (Sta.keepN S_F K1 all0) K2 all0) Ks all0) (Sta.keepN (Sta.keepN (Sta.keepN S_AD K1 all0) K2 all0) Ks all0) (Sta.keepN (Sta.keepN (Sta.keepN S_HI K1 all0) K2 all0) Ks all0) (Sta.keepN (Sta.keepN (Sta.keepN S_LO K1 all0) K2 all0) Ks all0) hC hF Es Cs Vs As Ds hcs (by omega)) all0 rfl (pd_10) rfl rfl rfl (by decide) (by decide) (by decide) (by decide) (by decide)
  replace k := (k [] all0).sfx [] rfl
  replace k := k.stk [(.int (Nat.toInt32 ((((0 + 5) + n1) + 2) + n2)))] rfl
  replace k := k.bipush (7 : Int32) at_51 rfl
  replace k := k.iload at_53 rfl
  replace k := k.iadd at_55
  replace k := k.iload at_56 rfl
  replace k := k.iadd at_58
  replace k := k.icmpYes (pc' := 64) at_59 (teq (own_len7 sm1 sm2)).1 (by decide) (by decide)
  replace k := k.aload at_64 rfl rfl
  replace k := k.iconst (0 : Int32) at_66 rfl
  replace k := k.lloadN at_67 rfl
  replace k := k.lloadN at_68 rfl
  replace k := k.iload at_69 rfl
  obtain ⟨_, _, sp71, ⟨rfl, rfl⟩, k⟩ := k.callS (y := (⟨"com/example/vidare/vidare/core/GatePauseReasonPinLaw", "ok", "(Ljava/lang/String;IJJI)Z"⟩ : MethodName)) at_71 (hw _ (List.mem_of_getElem? (i := 151) rfl)) (hw _ (List.mem_of_getElem? (i := 152) rfl)) (hw _ (List.mem_of_getElem? (i := 2) rfl)) (hw _ (List.mem_of_getElem? (i := 153) rfl)) (W := 0) (argsL := [(.ref s), (.int (0 : Int32)), (.long p1), (.long p2), (.int x5)]) (rest := []) (rm28 Z a0 hw zC vF s ts cods ((((0 + 5) + n1) + 2) + n2) Gs 0 (0 : Int32) p1 p2 x5 hs n0 (Nat.le_trans (Nat.le_trans (Nat.le_trans Z0 K1.1) K2.1) Ks.1) (Sta.keepN (Sta.keepN (Sta.keepN S_C K1 all0) K2 all0) Ks all0) (Sta.keepN (Sta.keepN (Sta.keepN S_F K1 all0) K2 all0) Ks all0) (Sta.keepN (Sta.keepN (Sta.keepN S_AD K1 all0) K2 all0) Ks all0) (Sta.keepN (Sta.keepN (Sta.keepN S_HI K1 all0) K2 all0) Ks all0) (Sta.keepN (Sta.keepN (Sta.keepN S_LO K1 all0) K2 all0) Ks all0) hC hF Es Cs Vs As Ds hcs (by omega) (by decide) (hcon 0 (0 : Int32) (by decide))) all0 rfl (pd_39) rfl rfl rfl (by decide) (by decide) (by decide) (by decide) (by decide)
  replace k := (k [] all0).sfx [] rfl
  replace k := k.stk [(.int (1 : Int32))] rfl
  replace k := k.ifNo at_74 (by decide)
  replace k := k.aload at_77 rfl rfl
  replace k := k.iconst (1 : Int32) at_79 rfl
  replace k := k.lloadN at_80 rfl
  replace k := k.lloadN at_81 rfl
  replace k := k.iload at_82 rfl
  obtain ⟨_, _, sp84, ⟨rfl, rfl⟩, k⟩ := k.callS (y := (⟨"com/example/vidare/vidare/core/GatePauseReasonPinLaw", "ok", "(Ljava/lang/String;IJJI)Z"⟩ : MethodName)) at_84 (hw _ (List.mem_of_getElem? (i := 151) rfl)) (hw _ (List.mem_of_getElem? (i := 152) rfl)) (hw _ (List.mem_of_getElem? (i := 2) rfl)) (hw _ (List.mem_of_getElem? (i := 153) rfl)) (W := 0) (argsL := [(.ref s), (.int (1 : Int32)), (.long p1), (.long p2), (.int x5)]) (rest := []) (rm28 Z a0 hw zC vF s ts cods ((((0 + 5) + n1) + 2) + n2) Gs 1 (1 : Int32) p1 p2 x5 hs n0 (Nat.le_trans (Nat.le_trans (Nat.le_trans Z0 K1.1) K2.1) Ks.1) (Sta.keepN (Sta.keepN (Sta.keepN S_C K1 all0) K2 all0) Ks all0) (Sta.keepN (Sta.keepN (Sta.keepN S_F K1 all0) K2 all0) Ks all0) (Sta.keepN (Sta.keepN (Sta.keepN S_AD K1 all0) K2 all0) Ks all0) (Sta.keepN (Sta.keepN (Sta.keepN S_HI K1 all0) K2 all0) Ks all0) (Sta.keepN (Sta.keepN (Sta.keepN S_LO K1 all0) K2 all0) Ks all0) hC hF Es Cs Vs As Ds hcs (by omega) (by decide) (hcon 1 (1 : Int32) (by decide))) all0 rfl (pd_39) rfl rfl rfl (by decide) (by decide) (by decide) (by decide) (by decide)
  replace k := (k [] all0).sfx [] rfl
  replace k := k.stk [(.int (1 : Int32))] rfl
  replace k := k.ifNo at_87 (by decide)
  replace k := k.aload at_90 rfl rfl
  replace k := k.iconst (2 : Int32) at_92 rfl
  replace k := k.lloadN at_93 rfl
  replace k := k.lloadN at_94 rfl
  replace k := k.iload at_95 rfl
  obtain ⟨_, _, sp97, ⟨rfl, rfl⟩, k⟩ := k.callS (y := (⟨"com/example/vidare/vidare/core/GatePauseReasonPinLaw", "ok", "(Ljava/lang/String;IJJI)Z"⟩ : MethodName)) at_97 (hw _ (List.mem_of_getElem? (i := 151) rfl)) (hw _ (List.mem_of_getElem? (i := 152) rfl)) (hw _ (List.mem_of_getElem? (i := 2) rfl)) (hw _ (List.mem_of_getElem? (i := 153) rfl)) (W := 0) (argsL := [(.ref s), (.int (2 : Int32)), (.long p1), (.long p2), (.int x5)]) (rest := []) (rm28 Z a0 hw zC vF s ts cods ((((0 + 5) + n1) + 2) + n2) Gs 2 (2 : Int32) p1 p2 x5 hs n0 (Nat.le_trans (Nat.le_trans (Nat.le_trans Z0 K1.1) K2.1) Ks.1) (Sta.keepN (Sta.keepN (Sta.keepN S_C K1 all0) K2 all0) Ks all0) (Sta.keepN (Sta.keepN (Sta.keepN S_F K1 all0) K2 all0) Ks all0) (Sta.keepN (Sta.keepN (Sta.keepN S_AD K1 all0) K2 all0) Ks all0) (Sta.keepN (Sta.keepN (Sta.keepN S_HI K1 all0) K2 all0) Ks all0) (Sta.keepN (Sta.keepN (Sta.keepN S_LO K1 all0) K2 all0) Ks all0) hC hF Es Cs Vs As Ds hcs (by omega) (by decide) (hcon 2 (2 : Int32) (by decide))) all0 rfl (pd_39) rfl rfl rfl (by decide) (by decide) (by decide) (by decide) (by decide)
  replace k := (k [] all0).sfx [] rfl
  replace k := k.stk [(.int (1 : Int32))] rfl
  replace k := k.ifNo at_100 (by decide)
  replace k := k.aload at_103 rfl rfl
  replace k := k.iconst (3 : Int32) at_105 rfl
  replace k := k.lloadN at_106 rfl
  replace k := k.lloadN at_107 rfl
  replace k := k.iload at_108 rfl
  obtain ⟨_, _, sp110, ⟨rfl, rfl⟩, k⟩ := k.callS (y := (⟨"com/example/vidare/vidare/core/GatePauseReasonPinLaw", "ok", "(Ljava/lang/String;IJJI)Z"⟩ : MethodName)) at_110 (hw _ (List.mem_of_getElem? (i := 151) rfl)) (hw _ (List.mem_of_getElem? (i := 152) rfl)) (hw _ (List.mem_of_getElem? (i := 2) rfl)) (hw _ (List.mem_of_getElem? (i := 153) rfl)) (W := 0) (argsL := [(.ref s), (.int (3 : Int32)), (.long p1), (.long p2), (.int x5)]) (rest := []) (rm28 Z a0 hw zC vF s ts cods ((((0 + 5) + n1) + 2) + n2) Gs 3 (3 : Int32) p1 p2 x5 hs n0 (Nat.le_trans (Nat.le_trans (Nat.le_trans Z0 K1.1) K2.1) Ks.1) (Sta.keepN (Sta.keepN (Sta.keepN S_C K1 all0) K2 all0) Ks all0) (Sta.keepN (Sta.keepN (Sta.keepN S_F K1 all0) K2 all0) Ks all0) (Sta.keepN (Sta.keepN (Sta.keepN S_AD K1 all0) K2 all0) Ks all0) (Sta.keepN (Sta.keepN (Sta.keepN S_HI K1 all0) K2 all0) Ks all0) (Sta.keepN (Sta.keepN (Sta.keepN S_LO K1 all0) K2 all0) Ks all0) hC hF Es Cs Vs As Ds hcs (by omega) (by decide) (hcon 3 (3 : Int32) (by decide))) all0 rfl (pd_39) rfl rfl rfl (by decide) (by decide) (by decide) (by decide) (by decide)
  replace k := (k [] all0).sfx [] rfl
  replace k := k.stk [(.int (1 : Int32))] rfl
  replace k := k.ifNo at_113 (by decide)
  replace k := k.aload at_116 rfl rfl
  replace k := k.iconst (4 : Int32) at_118 rfl
  replace k := k.lloadN at_119 rfl
  replace k := k.lloadN at_120 rfl
  replace k := k.iload at_121 rfl
  obtain ⟨_, _, sp123, ⟨rfl, rfl⟩, k⟩ := k.callS (y := (⟨"com/example/vidare/vidare/core/GatePauseReasonPinLaw", "ok", "(Ljava/lang/String;IJJI)Z"⟩ : MethodName)) at_123 (hw _ (List.mem_of_getElem? (i := 151) rfl)) (hw _ (List.mem_of_getElem? (i := 152) rfl)) (hw _ (List.mem_of_getElem? (i := 2) rfl)) (hw _ (List.mem_of_getElem? (i := 153) rfl)) (W := 0) (argsL := [(.ref s), (.int (4 : Int32)), (.long p1), (.long p2), (.int x5)]) (rest := []) (rm28 Z a0 hw zC vF s ts cods ((((0 + 5) + n1) + 2) + n2) Gs 4 (4 : Int32) p1 p2 x5 hs n0 (Nat.le_trans (Nat.le_trans (Nat.le_trans Z0 K1.1) K2.1) Ks.1) (Sta.keepN (Sta.keepN (Sta.keepN S_C K1 all0) K2 all0) Ks all0) (Sta.keepN (Sta.keepN (Sta.keepN S_F K1 all0) K2 all0) Ks all0) (Sta.keepN (Sta.keepN (Sta.keepN S_AD K1 all0) K2 all0) Ks all0) (Sta.keepN (Sta.keepN (Sta.keepN S_HI K1 all0) K2 all0) Ks all0) (Sta.keepN (Sta.keepN (Sta.keepN S_LO K1 all0) K2 all0) Ks all0) hC hF Es Cs Vs As Ds hcs (by omega) (by decide) (hcon 4 (4 : Int32) (by decide))) all0 rfl (pd_39) rfl rfl rfl (by decide) (by decide) (by decide) (by decide) (by decide)
  replace k := (k [] all0).sfx [] rfl
  replace k := k.stk [(.int (1 : Int32))] rfl
  replace k := k.ifNo at_126 (by decide)
  replace k := k.aload at_129 rfl rfl
  replace k := k.iconst (5 : Int32) at_131 rfl
  replace k := k.lloadN at_132 rfl
  replace k := k.lloadN at_133 rfl
  replace k := k.iload at_134 rfl
  obtain ⟨_, _, sp136, ⟨rfl, rfl⟩, k⟩ := k.callS (y := (⟨"com/example/vidare/vidare/core/GatePauseReasonPinLaw", "ok", "(Ljava/lang/String;IJJI)Z"⟩ : MethodName)) at_136 (hw _ (List.mem_of_getElem? (i := 151) rfl)) (hw _ (List.mem_of_getElem? (i := 152) rfl)) (hw _ (List.mem_of_getElem? (i := 2) rfl)) (hw _ (List.mem_of_getElem? (i := 153) rfl)) (W := 0) (argsL := [(.ref s), (.int (5 : Int32)), (.long p1), (.long p2), (.int x5)]) (rest := []) (rm28 Z a0 hw zC vF s ts cods ((((0 + 5) + n1) + 2) + n2) Gs 5 (5 : Int32) p1 p2 x5 hs n0 (Nat.le_trans (Nat.le_trans (Nat.le_trans Z0 K1.1) K2.1) Ks.1) (Sta.keepN (Sta.keepN (Sta.keepN S_C K1 all0) K2 all0) Ks all0) (Sta.keepN (Sta.keepN (Sta.keepN S_F K1 all0) K2 all0) Ks all0) (Sta.keepN (Sta.keepN (Sta.keepN S_AD K1 all0) K2 all0) Ks all0) (Sta.keepN (Sta.keepN (Sta.keepN S_HI K1 all0) K2 all0) Ks all0) (Sta.keepN (Sta.keepN (Sta.keepN S_LO K1 all0) K2 all0) Ks all0) hC hF Es Cs Vs As Ds hcs (by omega) (by decide) (hcon 5 (5 : Int32) (by decide))) all0 rfl (pd_39) rfl rfl rfl (by decide) (by decide) (by decide) (by decide) (by decide)
  replace k := (k [] all0).sfx [] rfl
  replace k := k.stk [(.int (1 : Int32))] rfl
  replace k := k.ifNo at_139 (by decide)
  replace k := k.aload at_142 rfl rfl
  replace k := k.bipush (6 : Int32) at_144 rfl
  replace k := k.lloadN at_146 rfl
  replace k := k.lloadN at_147 rfl
  replace k := k.iload at_148 rfl
  obtain ⟨_, _, sp150, ⟨rfl, rfl⟩, k⟩ := k.callS (y := (⟨"com/example/vidare/vidare/core/GatePauseReasonPinLaw", "ok", "(Ljava/lang/String;IJJI)Z"⟩ : MethodName)) at_150 (hw _ (List.mem_of_getElem? (i := 151) rfl)) (hw _ (List.mem_of_getElem? (i := 152) rfl)) (hw _ (List.mem_of_getElem? (i := 2) rfl)) (hw _ (List.mem_of_getElem? (i := 153) rfl)) (W := 0) (argsL := [(.ref s), (.int (6 : Int32)), (.long p1), (.long p2), (.int x5)]) (rest := []) (rm28 Z a0 hw zC vF s ts cods ((((0 + 5) + n1) + 2) + n2) Gs 6 (6 : Int32) p1 p2 x5 hs n0 (Nat.le_trans (Nat.le_trans (Nat.le_trans Z0 K1.1) K2.1) Ks.1) (Sta.keepN (Sta.keepN (Sta.keepN S_C K1 all0) K2 all0) Ks all0) (Sta.keepN (Sta.keepN (Sta.keepN S_F K1 all0) K2 all0) Ks all0) (Sta.keepN (Sta.keepN (Sta.keepN S_AD K1 all0) K2 all0) Ks all0) (Sta.keepN (Sta.keepN (Sta.keepN S_HI K1 all0) K2 all0) Ks all0) (Sta.keepN (Sta.keepN (Sta.keepN S_LO K1 all0) K2 all0) Ks all0) hC hF Es Cs Vs As Ds hcs (by omega) (by decide) (hcon 6 (6 : Int32) (by decide))) all0 rfl (pd_39) rfl rfl rfl (by decide) (by decide) (by decide) (by decide) (by decide)
  replace k := (k [] all0).sfx [] rfl
  replace k := k.stk [(.int (1 : Int32))] rfl
  replace k := k.ifNo at_153 (by decide)
  replace k := k.aload at_156 rfl rfl
  replace k := k.bipush (7 : Int32) at_158 rfl
  replace k := k.lloadN at_160 rfl
  replace k := k.lloadN at_161 rfl
  replace k := k.iload at_162 rfl
  obtain ⟨_, _, sp164, ⟨rfl, rfl⟩, k⟩ := k.callS (y := (⟨"com/example/vidare/vidare/core/GatePauseReasonPinLaw", "ok", "(Ljava/lang/String;IJJI)Z"⟩ : MethodName)) at_164 (hw _ (List.mem_of_getElem? (i := 151) rfl)) (hw _ (List.mem_of_getElem? (i := 152) rfl)) (hw _ (List.mem_of_getElem? (i := 2) rfl)) (hw _ (List.mem_of_getElem? (i := 153) rfl)) (W := 0) (argsL := [(.ref s), (.int (7 : Int32)), (.long p1), (.long p2), (.int x5)]) (rest := []) (rm28 Z a0 hw zC vF s ts cods ((((0 + 5) + n1) + 2) + n2) Gs 7 (7 : Int32) p1 p2 x5 hs n0 (Nat.le_trans (Nat.le_trans (Nat.le_trans Z0 K1.1) K2.1) Ks.1) (Sta.keepN (Sta.keepN (Sta.keepN S_C K1 all0) K2 all0) Ks all0) (Sta.keepN (Sta.keepN (Sta.keepN S_F K1 all0) K2 all0) Ks all0) (Sta.keepN (Sta.keepN (Sta.keepN S_AD K1 all0) K2 all0) Ks all0) (Sta.keepN (Sta.keepN (Sta.keepN S_HI K1 all0) K2 all0) Ks all0) (Sta.keepN (Sta.keepN (Sta.keepN S_LO K1 all0) K2 all0) Ks all0) hC hF Es Cs Vs As Ds hcs (by omega) (by decide) (hcon 7 (7 : Int32) (by decide))) all0 rfl (pd_39) rfl rfl rfl (by decide) (by decide) (by decide) (by decide) (by decide)
  replace k := (k [] all0).sfx [] rfl
  replace k := k.stk [(.int (1 : Int32))] rfl
  replace k := k.ifNo at_167 (by decide)
  replace k := k.aload at_170 rfl rfl
  replace k := k.bipush (8 : Int32) at_172 rfl
  replace k := k.lloadN at_174 rfl
  replace k := k.lloadN at_175 rfl
  replace k := k.iload at_176 rfl
  obtain ⟨_, _, sp178, ⟨rfl, rfl⟩, k⟩ := k.callS (y := (⟨"com/example/vidare/vidare/core/GatePauseReasonPinLaw", "ok", "(Ljava/lang/String;IJJI)Z"⟩ : MethodName)) at_178 (hw _ (List.mem_of_getElem? (i := 151) rfl)) (hw _ (List.mem_of_getElem? (i := 152) rfl)) (hw _ (List.mem_of_getElem? (i := 2) rfl)) (hw _ (List.mem_of_getElem? (i := 153) rfl)) (W := 0) (argsL := [(.ref s), (.int (8 : Int32)), (.long p1), (.long p2), (.int x5)]) (rest := []) (rm28 Z a0 hw zC vF s ts cods ((((0 + 5) + n1) + 2) + n2) Gs 8 (8 : Int32) p1 p2 x5 hs n0 (Nat.le_trans (Nat.le_trans (Nat.le_trans Z0 K1.1) K2.1) Ks.1) (Sta.keepN (Sta.keepN (Sta.keepN S_C K1 all0) K2 all0) Ks all0) (Sta.keepN (Sta.keepN (Sta.keepN S_F K1 all0) K2 all0) Ks all0) (Sta.keepN (Sta.keepN (Sta.keepN S_AD K1 all0) K2 all0) Ks all0) (Sta.keepN (Sta.keepN (Sta.keepN S_HI K1 all0) K2 all0) Ks all0) (Sta.keepN (Sta.keepN (Sta.keepN S_LO K1 all0) K2 all0) Ks all0) hC hF Es Cs Vs As Ds hcs (by omega) (by decide) (hcon 8 (8 : Int32) (by decide))) all0 rfl (pd_39) rfl rfl rfl (by decide) (by decide) (by decide) (by decide) (by decide)
  replace k := (k [] all0).sfx [] rfl
  replace k := k.stk [(.int (1 : Int32))] rfl
  replace k := k.ifNo at_181 (by decide)
  replace k := k.aload at_184 rfl rfl
  replace k := k.bipush (9 : Int32) at_186 rfl
  replace k := k.lloadN at_188 rfl
  replace k := k.lloadN at_189 rfl
  replace k := k.iload at_190 rfl
  obtain ⟨_, _, sp192, ⟨rfl, rfl⟩, k⟩ := k.callS (y := (⟨"com/example/vidare/vidare/core/GatePauseReasonPinLaw", "ok", "(Ljava/lang/String;IJJI)Z"⟩ : MethodName)) at_192 (hw _ (List.mem_of_getElem? (i := 151) rfl)) (hw _ (List.mem_of_getElem? (i := 152) rfl)) (hw _ (List.mem_of_getElem? (i := 2) rfl)) (hw _ (List.mem_of_getElem? (i := 153) rfl)) (W := 0) (argsL := [(.ref s), (.int (9 : Int32)), (.long p1), (.long p2), (.int x5)]) (rest := []) (rm28 Z a0 hw zC vF s ts cods ((((0 + 5) + n1) + 2) + n2) Gs 9 (9 : Int32) p1 p2 x5 hs n0 (Nat.le_trans (Nat.le_trans (Nat.le_trans Z0 K1.1) K2.1) Ks.1) (Sta.keepN (Sta.keepN (Sta.keepN S_C K1 all0) K2 all0) Ks all0) (Sta.keepN (Sta.keepN (Sta.keepN S_F K1 all0) K2 all0) Ks all0) (Sta.keepN (Sta.keepN (Sta.keepN S_AD K1 all0) K2 all0) Ks all0) (Sta.keepN (Sta.keepN (Sta.keepN S_HI K1 all0) K2 all0) Ks all0) (Sta.keepN (Sta.keepN (Sta.keepN S_LO K1 all0) K2 all0) Ks all0) hC hF Es Cs Vs As Ds hcs (by omega) (by decide) (hcon 9 (9 : Int32) (by decide))) all0 rfl (pd_39) rfl rfl rfl (by decide) (by decide) (by decide) (by decide) (by decide)
  replace k := (k [] all0).sfx [] rfl
  replace k := k.stk [(.int (1 : Int32))] rfl
  replace k := k.ifNo at_195 (by decide)
  replace k := k.aload at_198 rfl rfl
  replace k := k.bipush (10 : Int32) at_200 rfl
  replace k := k.lloadN at_202 rfl
  replace k := k.lloadN at_203 rfl
  replace k := k.iload at_204 rfl
  obtain ⟨_, _, sp206, ⟨rfl, rfl⟩, k⟩ := k.callS (y := (⟨"com/example/vidare/vidare/core/GatePauseReasonPinLaw", "ok", "(Ljava/lang/String;IJJI)Z"⟩ : MethodName)) at_206 (hw _ (List.mem_of_getElem? (i := 151) rfl)) (hw _ (List.mem_of_getElem? (i := 152) rfl)) (hw _ (List.mem_of_getElem? (i := 2) rfl)) (hw _ (List.mem_of_getElem? (i := 153) rfl)) (W := 0) (argsL := [(.ref s), (.int (10 : Int32)), (.long p1), (.long p2), (.int x5)]) (rest := []) (rm28 Z a0 hw zC vF s ts cods ((((0 + 5) + n1) + 2) + n2) Gs 10 (10 : Int32) p1 p2 x5 hs n0 (Nat.le_trans (Nat.le_trans (Nat.le_trans Z0 K1.1) K2.1) Ks.1) (Sta.keepN (Sta.keepN (Sta.keepN S_C K1 all0) K2 all0) Ks all0) (Sta.keepN (Sta.keepN (Sta.keepN S_F K1 all0) K2 all0) Ks all0) (Sta.keepN (Sta.keepN (Sta.keepN S_AD K1 all0) K2 all0) Ks all0) (Sta.keepN (Sta.keepN (Sta.keepN S_HI K1 all0) K2 all0) Ks all0) (Sta.keepN (Sta.keepN (Sta.keepN S_LO K1 all0) K2 all0) Ks all0) hC hF Es Cs Vs As Ds hcs (by omega) (by decide) (hcon 10 (10 : Int32) (by decide))) all0 rfl (pd_39) rfl rfl rfl (by decide) (by decide) (by decide) (by decide) (by decide)
  replace k := (k [] all0).sfx [] rfl
  replace k := k.stk [(.int (1 : Int32))] rfl
  replace k := k.ifNo at_209 (by decide)
  replace k := k.aload at_212 rfl rfl
  replace k := k.bipush (11 : Int32) at_214 rfl
  replace k := k.lloadN at_216 rfl
  replace k := k.lloadN at_217 rfl
  replace k := k.iload at_218 rfl
  obtain ⟨_, _, sp220, ⟨rfl, rfl⟩, k⟩ := k.callS (y := (⟨"com/example/vidare/vidare/core/GatePauseReasonPinLaw", "ok", "(Ljava/lang/String;IJJI)Z"⟩ : MethodName)) at_220 (hw _ (List.mem_of_getElem? (i := 151) rfl)) (hw _ (List.mem_of_getElem? (i := 152) rfl)) (hw _ (List.mem_of_getElem? (i := 2) rfl)) (hw _ (List.mem_of_getElem? (i := 153) rfl)) (W := 0) (argsL := [(.ref s), (.int (11 : Int32)), (.long p1), (.long p2), (.int x5)]) (rest := []) (rm28 Z a0 hw zC vF s ts cods ((((0 + 5) + n1) + 2) + n2) Gs 11 (11 : Int32) p1 p2 x5 hs n0 (Nat.le_trans (Nat.le_trans (Nat.le_trans Z0 K1.1) K2.1) Ks.1) (Sta.keepN (Sta.keepN (Sta.keepN S_C K1 all0) K2 all0) Ks all0) (Sta.keepN (Sta.keepN (Sta.keepN S_F K1 all0) K2 all0) Ks all0) (Sta.keepN (Sta.keepN (Sta.keepN S_AD K1 all0) K2 all0) Ks all0) (Sta.keepN (Sta.keepN (Sta.keepN S_HI K1 all0) K2 all0) Ks all0) (Sta.keepN (Sta.keepN (Sta.keepN S_LO K1 all0) K2 all0) Ks all0) hC hF Es Cs Vs As Ds hcs (by omega) (by decide) (hcon 11 (11 : Int32) (by decide))) all0 rfl (pd_39) rfl rfl rfl (by decide) (by decide) (by decide) (by decide) (by decide)
  replace k := (k [] all0).sfx [] rfl
  replace k := k.stk [(.int (1 : Int32))] rfl
  replace k := k.ifNo at_223 (by decide)
  replace k := k.aload at_226 rfl rfl
  replace k := k.bipush (12 : Int32) at_228 rfl
  replace k := k.lloadN at_230 rfl
  replace k := k.lloadN at_231 rfl
  replace k := k.iload at_232 rfl
  obtain ⟨_, _, sp234, ⟨rfl, rfl⟩, k⟩ := k.callS (y := (⟨"com/example/vidare/vidare/core/GatePauseReasonPinLaw", "ok", "(Ljava/lang/String;IJJI)Z"⟩ : MethodName)) at_234 (hw _ (List.mem_of_getElem? (i := 151) rfl)) (hw _ (List.mem_of_getElem? (i := 152) rfl)) (hw _ (List.mem_of_getElem? (i := 2) rfl)) (hw _ (List.mem_of_getElem? (i := 153) rfl)) (W := 0) (argsL := [(.ref s), (.int (12 : Int32)), (.long p1), (.long p2), (.int x5)]) (rest := []) (rm28 Z a0 hw zC vF s ts cods ((((0 + 5) + n1) + 2) + n2) Gs 12 (12 : Int32) p1 p2 x5 hs n0 (Nat.le_trans (Nat.le_trans (Nat.le_trans Z0 K1.1) K2.1) Ks.1) (Sta.keepN (Sta.keepN (Sta.keepN S_C K1 all0) K2 all0) Ks all0) (Sta.keepN (Sta.keepN (Sta.keepN S_F K1 all0) K2 all0) Ks all0) (Sta.keepN (Sta.keepN (Sta.keepN S_AD K1 all0) K2 all0) Ks all0) (Sta.keepN (Sta.keepN (Sta.keepN S_HI K1 all0) K2 all0) Ks all0) (Sta.keepN (Sta.keepN (Sta.keepN S_LO K1 all0) K2 all0) Ks all0) hC hF Es Cs Vs As Ds hcs (by omega) (by decide) (hcon 12 (12 : Int32) (by decide))) all0 rfl (pd_39) rfl rfl rfl (by decide) (by decide) (by decide) (by decide) (by decide)
  replace k := (k [] all0).sfx [] rfl
  replace k := k.stk [(.int (1 : Int32))] rfl
  replace k := k.ifNo at_237 (by decide)
  replace k := k.iconst (1 : Int32) at_240 rfl
  replace k := k.goto (pc' := 245) at_241 (by decide) (by decide)
  exact k.iret at_245 rfl (by simp) rfl (fun sp hsp => rfl) (by decide) (by decide)
set_option maxRecDepth 65536 in
set_option maxHeartbeats 40000000 in
theorem comes_1 {Post : Tables → Env → Array Value → State → Outcome → State → Prop} (hpost : ∀ tb e args s v u, (limb_1_1.after args s (.returned v) u = true ∧ limb_1_2.after args s (.returned v) u = true ∧ True) → ReturnedEndW s (.returned v) u (Jvm.fieldLocs frame_1_writes args s ++ Jvm.arrayLocs frame_1_arrays args s ++ Jvm.staticLocs frame_1_statics s) 48 5440 → Post tb e args s (.returned v) u) :
    ArmFor flags0 classFile x code maxLocals ret World_1 tables_1 room_1 Calls_1 rest_1 Pre_1 Post := by
  intro l hfl _ _ p e ha hc hk s m args below hf hA hF happ hP
  obtain ⟨hcalls, hrest, hpre⟩ := hP
  obtain ⟨-, -, -, hnamed, -, -, -, hat⟩ := (Spec.applies_iff hf).mp happ
  obtain ⟨hg, hn⟩ := and_e (Cond.before_iff.mp (show (Jvm.Cond.and given_1 narrow_1).before args s = true from hpre))
  obtain ⟨gg0, gr0⟩ := and_e hg
  obtain ⟨gg1, gr1⟩ := and_e gr0
  obtain ⟨gg2, gr2⟩ := and_e gr1
  obtain ⟨w0, w1, w2, rfl⟩ : ∃ w0 w1 w2 : Value, args = #[w0, w1, w2] := by
    have hs : args.size = 3 := by simpa [Cond.value, given_1] using gg0
    obtain ⟨L⟩ := args
    match L, hs with
    | [w0, w1, w2], _ => exact ⟨w0, w1, w2, rfl⟩
  have hw := fun d (hd : d ∈ tables_1) => atoms_spec (ws := Jvm.Cond.code x code maxLocals ret :: tables_1) hat d (List.mem_cons_of_mem _ hd)
  have hfit : Fit s := fun {y c} hc i hi => by
    obtain ⟨ha, rfl⟩ := Array.getElem?_eq_some_iff.mp hc
    have q := List.all_eq_true.mp ((Array.all_eq_true_iff_forall_mem.mp hF) _ (Array.getElem_mem ha)) i (List.mem_range.mpr hi)
    simpa [Array.getElem?_eq_getElem hi] using q
  obtain ⟨hsets, hown0⟩ := atoms_of _ (rest_1_c_eq ▸ (show rest_1_c.before _ s = true from hrest))
  have hr0 := Cond.before_iff.mp hown0
  obtain ⟨i0, ei0⟩ := isL_v gg1
  obtain rfl : w0 = (.long i0) := Option.some.inj ei0
  obtain ⟨i1, ei1⟩ := isL_v gg2
  obtain rfl : w1 = (.long i1) := Option.some.inj ei1
  obtain ⟨i2, ei2⟩ := is_v gr2
  obtain rfl : w2 = (.int i2) := Option.some.inj ei2
  obtain ⟨zC, evC⟩ := is_v (Cond.before_iff.mp (hsets _ (List.mem_of_getElem? (i := 1) rfl)))
  have S_C : Sta s s.heap "java/lang/String" "COMPACT_STRINGS" "Z" (.int zC) := Sta.start evC (Or.inl (hsets _ (List.mem_of_getElem? (i := 0) rfl)))
  have hC : ¬ (zC = (0 : Int32)) := own_ne0 evC (not_v (Cond.before_iff.mp (hsets _ (List.mem_of_getElem? (i := 2) rfl))))
  obtain ⟨vF, evF, irF⟩ := isR_v (Cond.before_iff.mp (hsets _ (List.mem_of_getElem? (i := 8) rfl)))
  have hF := ref_cases irF
  have S_F : Sta s s.heap "jdk/internal/util/Preconditions" "SIOOBE_FORMATTER" "Ljava/util/function/BiFunction;" vF := Sta.start evF (Or.inl (hsets _ (List.mem_of_getElem? (i := 7) rfl)))
  have S_AD : Sta s s.heap "java/lang/StringUTF16" "$assertionsDisabled" "Z" (.int (1 : Int32)) := Sta.start (own_eqv (Cond.before_iff.mp (hsets _ (List.mem_of_getElem? (i := 12) rfl)))) (Or.inl (hsets _ (List.mem_of_getElem? (i := 11) rfl)))
  have S_HI : Sta s s.heap "java/lang/StringUTF16" "HI_BYTE_SHIFT" "I" (.int (0 : Int32)) := Sta.start (own_eqv (Cond.before_iff.mp (hsets _ (List.mem_of_getElem? (i := 15) rfl)))) (Or.inl (hsets _ (List.mem_of_getElem? (i := 14) rfl)))
  have S_LO : Sta s s.heap "java/lang/StringUTF16" "LO_BYTE_SHIFT" "I" (.int (8 : Int32)) := Sta.start (own_eqv (Cond.before_iff.mp (hsets _ (List.mem_of_getElem? (i := 18) rfl)))) (Or.inl (hsets _ (List.mem_of_getElem? (i := 17) rfl)))
  have hCH : CHv s EL s.vm s.heap := CHv.start (own_EW hw) hcalls.1 (hsets _ (List.mem_of_getElem? (i := 2) rfl)) (hw _ (own_sa _ (by decide))) (hw _ (own_sa _ (by decide)))
  obtain ⟨n, o, h1, h2, h3, _, L, rfl, ⟨rfl, N⟩, -, hq⟩ := rm0 s _ hw i0 i1 i2 zC vF s.heap s.heap.size (Nat.le_refl _) S_C S_F S_AD S_HI S_LO hC hF l p e ha hc hk s m _ below hf ((Spec.applies_iff_loose hf).mp happ).1 ⟨rfl, State.Warmed39.refl s, rfl, hCH, fun _ q => nomatch q⟩ trivial
  refine ⟨n, _, h1, h2, h3, hpost _ _ _ _ _ _ ⟨Cond.after_iff.mpr rfl, Cond.after_iff.mpr (eq_i res_at (Term.int_eval (1)) rfl), trivial⟩ ⟨hq.1, hq.2.1, hq.2.2.1, (hq.2.2.2.sift fun y hy => Or.inr (N y hy)).mono (by decide) (by decide)⟩⟩
theorem main_1_1 : Claimed_1_1 := comes_1 fun _ _ _ _ _ _ h hF => ⟨h.1, hF⟩
theorem main_1_2 : Claimed_1_2 := comes_1 fun _ _ _ _ _ _ h hF => ⟨h.2.1, hF⟩
end Jvm.Pilot.@@N@@
namespace Jvm.Pilot.@@N@@
open Jvm Jvm.ClassFile Sem Op Lib Jvm.Free Jvm.Stand Jvm.Pilot.@@N@@.Jvm.D
/-! MADE BY PROGRAM (witnessworld.py) out of the Statement's table words and the real class files: 27 classes; the members and pool entries that the words name. The judged class is class 1, her method 1. -/
namespace start1
open Jvm.ClassFile
def u (s : String) : CpInfo := .utf8 (stringToUtf16 s)
/-- a pool by its gaps: so many unusable entries, then the entry; so many at the end -/
def gap : Nat → List CpInfo → List CpInfo
  | 0, r => r
  | n + 1, r => .unusable :: gap n r
def poolList (es : List (Nat × CpInfo)) (last : Nat) : List CpInfo := es.foldr (fun e r => gap e.1 (e.2 :: r)) (gap last [])
def pool (es : List (Nat × CpInfo)) (last : Nat) : Array CpInfo := ⟨poolList es last⟩
def fileOf (pool : Array CpInfo) (this : Nat) (attrs : Array Attribute := #[]) (ms : Array MethodInfo := #[]) (fl : Nat := 33) (sup : Nat := 0) (ifs : Array Nat := #[]) (fds : Array FieldInfo := #[]) : ClassFile where
  minorVersion := 0
  majorVersion := 65
  constantPool := pool
  accessFlags := fl
  thisClass := this
  superClass := sup
  interfaces := ifs
  fields := fds
  methods := ms
  attributes := attrs
def plain (name : String) (sup : Option ClassId) : Class where
  name := name
  kind := .ordinary
  loader := none
  accessFlags := 33
  super := sup
  interfaces := #[]
  cf := none
  fields := #[]
  methods := #[]
  instanceTypes := #[]
  staticTypes := #[]
  resolved := #[]
  callSites := []
  init := .initialized
  statics := none
  mirror := none

def pool0 : Array CpInfo := pool [(5, u "<init>"), (0, u "()V"), (1, .class_ 10), (1, u "java/lang/Object")] 113

def k0c0 : Code := { maxStack := 0, maxLocals := 1, code := object_method_1_code, exceptionTable := #[], attributes := #[] }
def k0m0 : Method := { name := "<init>", desc := "()V", sig := { parameters := [], returnType := none }, accessFlags := 1, code := some k0c0 }
/-- java/lang/Object -/
def k0 : Class := { plain "java/lang/Object" none with
  accessFlags := 33
  interfaces := #[]
  cf := some (fileOf pool0 8 #[] #[{ accessFlags := 1, nameIndex := 5, descriptorIndex := 6, attributes := #[] }] 33 0 #[] #[])
  fields := #[]
  methods := #[k0m0]
  instanceTypes := #[]
  staticTypes := #[]
  resolved := Array.replicate 124 none
  statics := none }

def pool1 : Array CpInfo := pool [(2, .class_ 4), (1, u "java/lang/Object"), (0, u "<init>"), (0, u "()V"), (0, .methodref 8 9), (0, .class_ 10), (0, .nameAndType 11 12), (0, u "com/example/vidare/vidare/core/GatePauseReasonPinLaw"), (0, u "mk"), (0, u "(JI)Ljava/lang/String;"), (0, .methodref 14 15), (0, .class_ 16), (0, .nameAndType 17 18), (0, u "com/example/vidare/vidare/core/Gate"), (0, u "pauseReason"), (0, u "(Ljava/lang/String;Ljava/lang/String;)Ljava/lang/String;"), (0, .methodref 20 21), (0, .class_ 22), (0, .nameAndType 23 24), (0, u "java/lang/String"), (0, u "length"), (0, u "()I"), (0, .methodref 8 26), (0, .nameAndType 27 28), (0, u "ok"), (0, u "(Ljava/lang/String;IJJI)Z"), (0, .long 65535), (1, .methodref 20 32), (0, .nameAndType 5 33), (0, u "([C)V"), (0, .methodref 8 35), (0, .nameAndType 36 37), (0, u "ch"), (0, u "(JI)C"), (0, .methodref 20 39), (0, .nameAndType 40 41), (0, u "charAt"), (0, u "(I)C"), (0, .methodref 8 43), (0, .nameAndType 44 45), (0, u "expected"), (0, u "(IJJI)C"), (2, u "law"), (0, u "(JJI)Z")] 3

def k1m0 : Method := { name := "<init>", desc := "()V", sig := { parameters := [], returnType := none }, accessFlags := 1, code := none }
def k1c1 : Code := { maxStack := 7, maxLocals := 10, code := code, exceptionTable := #[], attributes := #[] }
def k1m1 : Method := { name := "law", desc := "(JJI)Z", sig := { parameters := [.long, .long, .int], returnType := some .boolean }, accessFlags := 9, code := some k1c1 }
def k1c2 : Code := { maxStack := 4, maxLocals := 3, code := method_3_code, exceptionTable := #[], attributes := #[] }
def k1m2 : Method := { name := "ch", desc := "(JI)C", sig := { parameters := [.long, .int], returnType := some .char }, accessFlags := 10, code := some k1c2 }
def k1c3 : Code := { maxStack := 5, maxLocals := 4, code := method_4_code, exceptionTable := #[], attributes := #[] }
def k1m3 : Method := { name := "mk", desc := "(JI)Ljava/lang/String;", sig := { parameters := [.long, .int], returnType := some (.object "java/lang/String") }, accessFlags := 10, code := some k1c3 }
def k1c4 : Code := { maxStack := 7, maxLocals := 7, code := method_5_code, exceptionTable := #[], attributes := #[] }
def k1m4 : Method := { name := "ok", desc := "(Ljava/lang/String;IJJI)Z", sig := { parameters := [(.object "java/lang/String"), .int, .long, .long, .int], returnType := some .boolean }, accessFlags := 10, code := some k1c4 }
def k1c5 : Code := { maxStack := 4, maxLocals := 6, code := method_6_code, exceptionTable := #[], attributes := #[] }
def k1m5 : Method := { name := "expected", desc := "(IJJI)C", sig := { parameters := [.int, .long, .long, .int], returnType := some .char }, accessFlags := 10, code := some k1c5 }
/-- com/example/vidare/vidare/core/GatePauseReasonPinLaw -/
def k1 : Class := { plain "com/example/vidare/vidare/core/GatePauseReasonPinLaw" (some 0) with
  accessFlags := 49
  interfaces := #[]
  cf := some (fileOf pool1 8 #[] #[{ accessFlags := 1, nameIndex := 5, descriptorIndex := 6, attributes := #[] }, { accessFlags := 9, nameIndex := 48, descriptorIndex := 49, attributes := #[] }, { accessFlags := 10, nameIndex := 36, descriptorIndex := 37, attributes := #[] }, { accessFlags := 10, nameIndex := 11, descriptorIndex := 12, attributes := #[] }, { accessFlags := 10, nameIndex := 27, descriptorIndex := 28, attributes := #[] }, { accessFlags := 10, nameIndex := 44, descriptorIndex := 45, attributes := #[] }] 49 2 #[] #[])
  fields := #[]
  methods := #[k1m0, k1m1, k1m2, k1m3, k1m4, k1m5]
  instanceTypes := #[]
  staticTypes := #[]
  resolved := Array.replicate 53 none
  statics := none }

def pool2 : Array CpInfo := pool [(1, .class_ 2), (0, u "java/io/Serializable"), (0, .class_ 4), (0, u "java/lang/Object")] 2

/-- java/io/Serializable -/
def k2 : Class := { plain "java/io/Serializable" (some 0) with
  accessFlags := 1537
  interfaces := #[]
  cf := some (fileOf pool2 1 #[] #[] 1537 3 #[] #[])
  fields := #[]
  methods := #[]
  instanceTypes := #[]
  staticTypes := #[]
  resolved := Array.replicate 7 none
  statics := none }

def pool3 : Array CpInfo := pool [(1, .class_ 2), (0, u "java/lang/Comparable"), (0, .class_ 4), (0, u "java/lang/Object")] 7

/-- java/lang/Comparable -/
def k3 : Class := { plain "java/lang/Comparable" (some 0) with
  accessFlags := 1537
  interfaces := #[]
  cf := some (fileOf pool3 1 #[] #[] 1537 3 #[] #[])
  fields := #[]
  methods := #[]
  instanceTypes := #[]
  staticTypes := #[]
  resolved := Array.replicate 12 none
  statics := none }

def pool4 : Array CpInfo := pool [(2, .class_ 4), (1, u "java/lang/CharSequence"), (42, .class_ 48), (0, u "java/lang/CharSequence$1CodePointIterator"), (10, .class_ 60), (0, u "java/lang/CharSequence$1CharIterator"), (5, .class_ 67), (0, u "java/lang/Object")] 63

/-- java/lang/CharSequence -/
def k4 : Class := { plain "java/lang/CharSequence" (some 0) with
  accessFlags := 1537
  interfaces := #[]
  cf := some (fileOf pool4 2 #[.nestMembers #[47, 59]] #[] 1537 66 #[] #[])
  fields := #[]
  methods := #[]
  instanceTypes := #[]
  staticTypes := #[]
  resolved := Array.replicate 131 none
  statics := none }

def pool5 : Array CpInfo := pool [(1, .class_ 2), (0, u "java/lang/constant/Constable"), (0, .class_ 4), (0, u "java/lang/Object")] 6

/-- java/lang/constant/Constable -/
def k5 : Class := { plain "java/lang/constant/Constable" (some 0) with
  accessFlags := 1537
  interfaces := #[]
  cf := some (fileOf pool5 1 #[] #[] 1537 3 #[] #[])
  fields := #[]
  methods := #[]
  instanceTypes := #[]
  staticTypes := #[]
  resolved := Array.replicate 11 none
  statics := none }

def pool6 : Array CpInfo := pool [(1, .class_ 2), (0, u "java/lang/constant/ConstantDesc"), (0, .class_ 4), (0, u "java/lang/Object")] 32

/-- java/lang/constant/ConstantDesc -/
def k6 : Class := { plain "java/lang/constant/ConstantDesc" (some 0) with
  accessFlags := 1537
  interfaces := #[]
  cf := some (fileOf pool6 1 #[] #[] 1537 3 #[] #[])
  fields := #[]
  methods := #[]
  instanceTypes := #[]
  staticTypes := #[]
  resolved := Array.replicate 37 none
  statics := none }

def pool7 : Array CpInfo := pool [(1, .methodref 2 3), (0, .class_ 4), (0, .nameAndType 5 6), (0, u "java/lang/Object"), (0, u "<init>"), (0, u "()V"), (0, .string 8), (0, u ""), (0, .fieldref 10 11), (0, .class_ 12), (0, .nameAndType 13 14), (0, u "java/lang/String"), (0, u "value"), (0, u "[B"), (0, .fieldref 10 16), (0, .nameAndType 17 18), (0, u "coder"), (0, u "B"), (2, u "hash"), (0, u "I"), (2, u "hashIsZero"), (0, u "Z"), (0, .methodref 10 28), (0, .nameAndType 5 29), (0, u "([CIILjava/lang/Void;)V"), (6, u "checkBoundsOffCount"), (0, u "(III)I"), (0, .fieldref 10 39), (0, .nameAndType 40 26), (0, u "COMPACT_STRINGS"), (1, .class_ 44), (1, u "java/lang/StringUTF16"), (0, u "compress"), (1, .methodref 42 48), (0, .nameAndType 49 50), (0, u "coderFromArrayLen"), (0, u "([BI)B"), (3, .methodref 55 56), (0, .class_ 57), (0, .nameAndType 58 59), (0, u "java/util/Arrays"), (0, u "copyOfRange"), (0, u "([BII)[B"), (46, .methodref 107 108), (0, .class_ 109), (0, .nameAndType 110 111), (0, u "java/lang/StringLatin1"), (0, u "inflate"), (0, u "([BI[BII)V"), (30, u "()Z"), (34, .methodref 42 178), (0, .nameAndType 45 179), (0, u "([CII)[B"), (13, .class_ 195), (1, u "java/lang/System"), (16, .methodref 193 213), (0, .nameAndType 214 215), (0, u "arraycopy"), (0, u "(Ljava/lang/Object;ILjava/lang/Object;II)V"), (118, u "()I"), (0, .methodref 10 336), (0, .nameAndType 17 337), (0, u "()B"), (2, u "()[B"), (22, u "([BI)C"), (27, u "(II)V"), (35, u "(I)C"), (61, .methodref 10 490), (0, .nameAndType 5 491), (0, u "(Ljava/lang/AbstractStringBuilder;Ljava/lang/Void;)V"), (0, .methodref 10 493), (0, .nameAndType 494 142), (0, u "isLatin1"), (0, .methodref 107 496), (0, .nameAndType 497 363), (0, u "charAt"), (0, .methodref 42 496), (2, u "checkIndex"), (4, .nameAndType 507 334), (0, u "length"), (24, u "getBytes"), (16, .methodref 550 506), (0, .class_ 551), (0, u "java/lang/AbstractStringBuilder"), (0, .methodref 550 553), (0, .nameAndType 554 340), (0, u "getValue"), (20, .class_ 576), (0, u "java/lang/CharSequence"), (22, u "CASE_INSENSITIVE_ORDER"), (0, u "Ljava/util/Comparator;"), (220, u "([BIB)V"), (188, u "([C)V"), (36, .methodref 550 493), (0, .fieldref 550 1049), (0, .nameAndType 1050 26), (0, u "maybeLatin1"), (2, .fieldref 1054 1055), (0, .class_ 1056), (0, .nameAndType 1057 1058), (0, u "jdk/internal/util/Preconditions"), (0, u "SIOOBE_FORMATTER"), (0, u "Ljava/util/function/BiFunction;"), (0, .methodref 1054 1060), (0, .nameAndType 501 1061), (0, u "(IILjava/util/function/BiFunction;)I"), (2, u "(IIILjava/util/function/BiFunction;)I"), (0, .methodref 1054 1066), (0, .nameAndType 1067 1064), (0, u "checkFromIndexSize"), (33, u "serialPersistentFields"), (0, u "[Ljava/io/ObjectStreamField;"), (0, .class_ 1104), (0, u "java/lang/String$CaseInsensitiveComparator"), (1, .class_ 1107), (0, u "java/io/Serializable"), (0, .class_ 1109), (0, u "java/lang/Comparable"), (0, .class_ 1111), (0, u "java/lang/constant/Constable"), (0, .class_ 1113), (0, u "java/lang/constant/ConstantDesc"), (2, u "serialVersionUID"), (0, u "J"), (3, u "REPL"), (0, u "C"), (2, u "LATIN1"), (1, u "UTF16"), (105, u "(Ljava/lang/StringBuilder;)V")] 217

def k7m0 : Method := { name := "<init>", desc := "()V", sig := { parameters := [], returnType := none }, accessFlags := 1, code := none }
def k7c1 : Code := { maxStack := 5, maxLocals := 2, code := jdk_42_method_3_code, exceptionTable := #[], attributes := #[] }
def k7m1 : Method := { name := "<init>", desc := "([C)V", sig := { parameters := [(.array .char)], returnType := none }, accessFlags := 1, code := some k7c1 }
def k7c2 : Code := { maxStack := 3, maxLocals := 2, code := jdk_42_method_53_code, exceptionTable := #[], attributes := #[] }
def k7m2 : Method := { name := "<init>", desc := "(Ljava/lang/StringBuilder;)V", sig := { parameters := [(.object "java/lang/StringBuilder")], returnType := none }, accessFlags := 1, code := some k7c2 }
def k7c3 : Code := { maxStack := 2, maxLocals := 1, code := jdk_42_method_54_code, exceptionTable := #[], attributes := #[] }
def k7m3 : Method := { name := "length", desc := "()I", sig := { parameters := [], returnType := some .int }, accessFlags := 1, code := some k7c3 }
def k7c4 : Code := { maxStack := 2, maxLocals := 2, code := jdk_42_method_56_code, exceptionTable := #[], attributes := #[] }
def k7m4 : Method := { name := "charAt", desc := "(I)C", sig := { parameters := [.int], returnType := some .char }, accessFlags := 1, code := some k7c4 }
def k7c5 : Code := { maxStack := 5, maxLocals := 4, code := jdk_42_method_147_code, exceptionTable := #[], attributes := #[] }
def k7m5 : Method := { name := "getBytes", desc := "([BIB)V", sig := { parameters := [(.array .byte), .int, .byte], returnType := none }, accessFlags := 0, code := some k7c5 }
def k7c6 : Code := { maxStack := 4, maxLocals := 6, code := jdk_42_method_149_code, exceptionTable := #[], attributes := #[] }
def k7m6 : Method := { name := "<init>", desc := "([CIILjava/lang/Void;)V", sig := { parameters := [(.array .char), .int, .int, (.object "java/lang/Void")], returnType := none }, accessFlags := 2, code := some k7c6 }
def k7c7 : Code := { maxStack := 5, maxLocals := 5, code := jdk_42_method_150_code, exceptionTable := #[], attributes := #[] }
def k7m7 : Method := { name := "<init>", desc := "(Ljava/lang/AbstractStringBuilder;Ljava/lang/Void;)V", sig := { parameters := [(.object "java/lang/AbstractStringBuilder"), (.object "java/lang/Void")], returnType := none }, accessFlags := 0, code := some k7c7 }
def k7c8 : Code := { maxStack := 1, maxLocals := 1, code := jdk_42_method_152_code, exceptionTable := #[], attributes := #[] }
def k7m8 : Method := { name := "coder", desc := "()B", sig := { parameters := [], returnType := some .byte }, accessFlags := 0, code := some k7c8 }
def k7c9 : Code := { maxStack := 1, maxLocals := 1, code := jdk_42_method_154_code, exceptionTable := #[], attributes := #[] }
def k7m9 : Method := { name := "isLatin1", desc := "()Z", sig := { parameters := [], returnType := some .boolean }, accessFlags := 0, code := some k7c9 }
def k7c10 : Code := { maxStack := 3, maxLocals := 2, code := jdk_42_method_155_code, exceptionTable := #[], attributes := #[] }
def k7m10 : Method := { name := "checkIndex", desc := "(II)V", sig := { parameters := [.int, .int], returnType := none }, accessFlags := 8, code := some k7c10 }
def k7c11 : Code := { maxStack := 4, maxLocals := 3, code := jdk_42_method_157_code, exceptionTable := #[], attributes := #[] }
def k7m11 : Method := { name := "checkBoundsOffCount", desc := "(III)I", sig := { parameters := [.int, .int, .int], returnType := some .int }, accessFlags := 8, code := some k7c11 }
/-- java/lang/String -/
def k7 : Class := { plain "java/lang/String" (some 0) with
  accessFlags := 49
  interfaces := #[2, 3, 4, 5, 6]
  cf := some (fileOf pool7 10 #[.nestMembers #[1103]] #[{ accessFlags := 1, nameIndex := 5, descriptorIndex := 6, attributes := #[] }, { accessFlags := 1, nameIndex := 5, descriptorIndex := 1010, attributes := #[] }, { accessFlags := 1, nameIndex := 5, descriptorIndex := 1233, attributes := #[] }, { accessFlags := 1, nameIndex := 507, descriptorIndex := 334, attributes := #[] }, { accessFlags := 1, nameIndex := 497, descriptorIndex := 427, attributes := #[] }, { accessFlags := 0, nameIndex := 532, descriptorIndex := 821, attributes := #[] }, { accessFlags := 2, nameIndex := 5, descriptorIndex := 29, attributes := #[] }, { accessFlags := 0, nameIndex := 5, descriptorIndex := 491, attributes := #[] }, { accessFlags := 0, nameIndex := 17, descriptorIndex := 337, attributes := #[] }, { accessFlags := 0, nameIndex := 494, descriptorIndex := 142, attributes := #[] }, { accessFlags := 8, nameIndex := 501, descriptorIndex := 391, attributes := #[] }, { accessFlags := 8, nameIndex := 36, descriptorIndex := 37, attributes := #[] }] 49 2 #[1106, 1108, 575, 1110, 1112] #[{ accessFlags := 18, nameIndex := 13, descriptorIndex := 14, attributes := #[] }, { accessFlags := 18, nameIndex := 17, descriptorIndex := 18, attributes := #[] }, { accessFlags := 2, nameIndex := 21, descriptorIndex := 22, attributes := #[] }, { accessFlags := 2, nameIndex := 25, descriptorIndex := 26, attributes := #[] }, { accessFlags := 26, nameIndex := 1116, descriptorIndex := 1117, attributes := #[] }, { accessFlags := 24, nameIndex := 40, descriptorIndex := 26, attributes := #[] }, { accessFlags := 26, nameIndex := 1101, descriptorIndex := 1102, attributes := #[] }, { accessFlags := 26, nameIndex := 1121, descriptorIndex := 1122, attributes := #[] }, { accessFlags := 25, nameIndex := 599, descriptorIndex := 600, attributes := #[] }, { accessFlags := 24, nameIndex := 1125, descriptorIndex := 18, attributes := #[] }, { accessFlags := 24, nameIndex := 1127, descriptorIndex := 18, attributes := #[] }])
  fields := #[{ name := "value", type := (.array .byte), accessFlags := 18, slot := 0, constantValue := 0 }, { name := "coder", type := .byte, accessFlags := 18, slot := 1, constantValue := 0 }, { name := "hash", type := .int, accessFlags := 2, slot := 2, constantValue := 0 }, { name := "hashIsZero", type := .boolean, accessFlags := 2, slot := 3, constantValue := 0 }, { name := "serialVersionUID", type := .long, accessFlags := 26, slot := 0, constantValue := 0 }, { name := "COMPACT_STRINGS", type := .boolean, accessFlags := 24, slot := 1, constantValue := 0 }, { name := "serialPersistentFields", type := (.array (.object "java/io/ObjectStreamField")), accessFlags := 26, slot := 2, constantValue := 0 }, { name := "REPL", type := .char, accessFlags := 26, slot := 3, constantValue := 0 }, { name := "CASE_INSENSITIVE_ORDER", type := (.object "java/util/Comparator"), accessFlags := 25, slot := 4, constantValue := 0 }, { name := "LATIN1", type := .byte, accessFlags := 24, slot := 5, constantValue := 0 }, { name := "UTF16", type := .byte, accessFlags := 24, slot := 6, constantValue := 0 }]
  methods := #[k7m0, k7m1, k7m2, k7m3, k7m4, k7m5, k7m6, k7m7, k7m8, k7m9, k7m10, k7m11]
  instanceTypes := #[(.array .byte), .byte, .int, .boolean]
  staticTypes := #[.long, .boolean, (.array (.object "java/io/ObjectStreamField")), .char, (.object "java/util/Comparator"), .byte, .byte]
  resolved := Array.replicate 1451 none
  statics := some 0 }

def pool8 : Array CpInfo := pool [(2, .class_ 4), (0, .nameAndType 5 6), (0, u "java/lang/Object"), (0, u "<init>"), (0, u "()V"), (0, .class_ 8), (0, u "java/lang/StringBuilder"), (0, .methodref 7 3), (0, .string 11), (0, u "gate "), (0, .methodref 7 13), (0, .nameAndType 14 15), (0, u "append"), (0, u "(Ljava/lang/String;)Ljava/lang/StringBuilder;"), (0, .string 17), (0, u "name"), (0, .methodref 19 20), (0, .class_ 21), (0, .nameAndType 22 23), (0, u "java/util/Objects"), (0, u "requireNonNull"), (0, u "(Ljava/lang/Object;Ljava/lang/String;)Ljava/lang/Object;"), (0, .class_ 25), (0, u "java/lang/String"), (0, .string 27), (0, u ": "), (0, .string 29), (0, u "reason"), (0, .methodref 7 31), (0, .nameAndType 32 33), (0, u "toString"), (0, u "()Ljava/lang/String;"), (0, .class_ 35), (0, u "com/example/vidare/vidare/core/Gate"), (0, u "TIMED_OUT"), (0, u "Ljava/lang/String;"), (5, u "pauseReason"), (0, u "(Ljava/lang/String;Ljava/lang/String;)Ljava/lang/String;")] 2

def k8m0 : Method := { name := "<init>", desc := "()V", sig := { parameters := [], returnType := none }, accessFlags := 2, code := none }
def k8c1 : Code := { maxStack := 3, maxLocals := 2, code := prog_11_method_2_code, exceptionTable := #[], attributes := #[] }
def k8m1 : Method := { name := "pauseReason", desc := "(Ljava/lang/String;Ljava/lang/String;)Ljava/lang/String;", sig := { parameters := [(.object "java/lang/String"), (.object "java/lang/String")], returnType := some (.object "java/lang/String") }, accessFlags := 9, code := some k8c1 }
/-- com/example/vidare/vidare/core/Gate -/
def k8 : Class := { plain "com/example/vidare/vidare/core/Gate" (some 0) with
  accessFlags := 49
  interfaces := #[]
  cf := some (fileOf pool8 34 #[] #[{ accessFlags := 2, nameIndex := 5, descriptorIndex := 6, attributes := #[] }, { accessFlags := 9, nameIndex := 43, descriptorIndex := 44, attributes := #[] }] 49 2 #[] #[{ accessFlags := 25, nameIndex := 36, descriptorIndex := 37, attributes := #[] }])
  fields := #[{ name := "TIMED_OUT", type := (.object "java/lang/String"), accessFlags := 25, slot := 0, constantValue := 0 }]
  methods := #[k8m0, k8m1]
  instanceTypes := #[]
  staticTypes := #[(.object "java/lang/String")]
  resolved := Array.replicate 47 none
  statics := none }

def pool9 : Array CpInfo := pool [(1, .class_ 2), (0, u "java/lang/Appendable"), (0, .class_ 4), (0, u "java/lang/Object")] 9

/-- java/lang/Appendable -/
def k9 : Class := { plain "java/lang/Appendable" (some 0) with
  accessFlags := 1537
  interfaces := #[]
  cf := some (fileOf pool9 1 #[] #[] 1537 3 #[] #[])
  fields := #[]
  methods := #[]
  instanceTypes := #[]
  staticTypes := #[]
  resolved := Array.replicate 14 none
  statics := none }

def pool10 : Array CpInfo := pool [(1, .class_ 2), (0, u "java/lang/String"), (0, .methodref 4 5), (0, .class_ 6), (0, .nameAndType 7 8), (0, u "java/lang/Object"), (0, u "<init>"), (0, u "()V"), (1, .class_ 12), (1, u "java/lang/AbstractStringBuilder"), (0, u "EMPTYVALUE"), (0, u "[B"), (0, .fieldref 10 16), (0, .nameAndType 17 14), (0, u "value"), (0, .fieldref 1 19), (0, .nameAndType 20 21), (0, u "COMPACT_STRINGS"), (0, u "Z"), (0, .fieldref 10 23), (0, .nameAndType 24 25), (0, u "coder"), (0, u "B"), (0, .methodref 27 28), (0, .class_ 29), (0, .nameAndType 30 31), (0, u "java/lang/StringUTF16"), (0, u "newBytesFor"), (0, u "(I)[B"), (0, .methodref 1 33), (0, .nameAndType 34 35), (0, u "length"), (0, u "()I"), (4, .methodref 1 41), (0, .nameAndType 24 42), (0, u "()B"), (2, u "append"), (0, u "(Ljava/lang/String;)Ljava/lang/AbstractStringBuilder;"), (1, .class_ 49), (0, u "java/lang/CharSequence"), (19, u "(Ljava/lang/String;)V"), (5, u "maybeLatin1"), (3, .fieldref 10 80), (0, .nameAndType 81 82), (0, u "count"), (0, u "I"), (0, .methodref 10 84), (0, .nameAndType 85 86), (0, u "isLatin1"), (0, u "()Z"), (1, .class_ 90), (1, u "java/lang/StringLatin1"), (9, .methodref 10 101), (0, .nameAndType 102 103), (0, u "ensureCapacityInternal"), (0, u "(I)V"), (21, .methodref 88 126), (0, .nameAndType 127 128), (0, u "inflate"), (0, u "([BI[BII)V"), (66, .methodref 10 196), (0, .nameAndType 127 8), (11, .methodref 10 209), (0, .nameAndType 210 211), (0, u "putStringAt"), (0, u "(ILjava/lang/String;)V"), (5, u "inflateIfNeededFor"), (2, .nameAndType 221 222), (0, u "getBytes"), (0, u "([BIB)V"), (174, .methodref 10 398), (0, .nameAndType 217 69), (0, .methodref 1 220), (3, u "()[B"), (40, .class_ 445), (0, u "java/lang/Appendable"), (106, u "getValue")] 56

def k10m0 : Method := { name := "<init>", desc := "()V", sig := { parameters := [], returnType := none }, accessFlags := 0, code := none }
def k10c1 : Code := { maxStack := 2, maxLocals := 2, code := jdk_68_method_2_code, exceptionTable := #[], attributes := #[] }
def k10m1 : Method := { name := "<init>", desc := "(I)V", sig := { parameters := [.int], returnType := none }, accessFlags := 0, code := some k10c1 }
def k10c2 : Code := { maxStack := 1, maxLocals := 1, code := jdk_68_method_6_code, exceptionTable := #[], attributes := #[] }
def k10m2 : Method := { name := "length", desc := "()I", sig := { parameters := [], returnType := some .int }, accessFlags := 1, code := some k10c2 }
def k10c3 : Code := { maxStack := 4, maxLocals := 3, code := jdk_68_method_9_code, exceptionTable := #[], attributes := #[] }
def k10m3 : Method := { name := "ensureCapacityInternal", desc := "(I)V", sig := { parameters := [.int], returnType := none }, accessFlags := 2, code := some k10c3 }
def k10c4 : Code := { maxStack := 5, maxLocals := 2, code := jdk_68_method_11_code, exceptionTable := #[], attributes := #[] }
def k10m4 : Method := { name := "inflate", desc := "()V", sig := { parameters := [], returnType := none }, accessFlags := 2, code := some k10c4 }
def k10c5 : Code := { maxStack := 3, maxLocals := 3, code := jdk_68_method_22_code, exceptionTable := #[], attributes := #[] }
def k10m5 : Method := { name := "append", desc := "(Ljava/lang/String;)Ljava/lang/AbstractStringBuilder;", sig := { parameters := [(.object "java/lang/String")], returnType := some (.object "java/lang/AbstractStringBuilder") }, accessFlags := 1, code := some k10c5 }
def k10c6 : Code := { maxStack := 1, maxLocals := 1, code := jdk_68_method_64_code, exceptionTable := #[], attributes := #[] }
def k10m6 : Method := { name := "getValue", desc := "()[B", sig := { parameters := [], returnType := some (.array .byte) }, accessFlags := 16, code := some k10c6 }
def k10c7 : Code := { maxStack := 1, maxLocals := 1, code := jdk_68_method_68_code, exceptionTable := #[], attributes := #[] }
def k10m7 : Method := { name := "isLatin1", desc := "()Z", sig := { parameters := [], returnType := some .boolean }, accessFlags := 16, code := some k10c7 }
def k10c8 : Code := { maxStack := 2, maxLocals := 2, code := jdk_68_method_71_code, exceptionTable := #[], attributes := #[] }
def k10m8 : Method := { name := "inflateIfNeededFor", desc := "(Ljava/lang/String;)V", sig := { parameters := [(.object "java/lang/String")], returnType := none }, accessFlags := 2, code := some k10c8 }
def k10c9 : Code := { maxStack := 4, maxLocals := 3, code := jdk_68_method_73_code, exceptionTable := #[], attributes := #[] }
def k10m9 : Method := { name := "putStringAt", desc := "(ILjava/lang/String;)V", sig := { parameters := [.int, (.object "java/lang/String")], returnType := none }, accessFlags := 2, code := some k10c9 }
/-- java/lang/AbstractStringBuilder -/
def k10 : Class := { plain "java/lang/AbstractStringBuilder" (some 0) with
  accessFlags := 1056
  interfaces := #[9, 4]
  cf := some (fileOf pool10 10 #[] #[{ accessFlags := 0, nameIndex := 7, descriptorIndex := 8, attributes := #[] }, { accessFlags := 0, nameIndex := 7, descriptorIndex := 103, attributes := #[] }, { accessFlags := 1, nameIndex := 34, descriptorIndex := 35, attributes := #[] }, { accessFlags := 2, nameIndex := 102, descriptorIndex := 103, attributes := #[] }, { accessFlags := 2, nameIndex := 127, descriptorIndex := 8, attributes := #[] }, { accessFlags := 1, nameIndex := 45, descriptorIndex := 46, attributes := #[] }, { accessFlags := 16, nameIndex := 552, descriptorIndex := 403, attributes := #[] }, { accessFlags := 16, nameIndex := 85, descriptorIndex := 86, attributes := #[] }, { accessFlags := 2, nameIndex := 217, descriptorIndex := 69, attributes := #[] }, { accessFlags := 2, nameIndex := 210, descriptorIndex := 211, attributes := #[] }] 1056 4 #[444, 48] #[{ accessFlags := 0, nameIndex := 17, descriptorIndex := 14, attributes := #[] }, { accessFlags := 0, nameIndex := 24, descriptorIndex := 25, attributes := #[] }, { accessFlags := 0, nameIndex := 75, descriptorIndex := 21, attributes := #[] }, { accessFlags := 0, nameIndex := 81, descriptorIndex := 82, attributes := #[] }, { accessFlags := 26, nameIndex := 13, descriptorIndex := 14, attributes := #[] }])
  fields := #[{ name := "value", type := (.array .byte), accessFlags := 0, slot := 0, constantValue := 0 }, { name := "coder", type := .byte, accessFlags := 0, slot := 1, constantValue := 0 }, { name := "maybeLatin1", type := .boolean, accessFlags := 0, slot := 2, constantValue := 0 }, { name := "count", type := .int, accessFlags := 0, slot := 3, constantValue := 0 }, { name := "EMPTYVALUE", type := (.array .byte), accessFlags := 26, slot := 0, constantValue := 0 }]
  methods := #[k10m0, k10m1, k10m2, k10m3, k10m4, k10m5, k10m6, k10m7, k10m8, k10m9]
  instanceTypes := #[(.array .byte), .byte, .boolean, .int]
  staticTypes := #[(.array .byte)]
  resolved := Array.replicate 609 none
  statics := none }

def pool11 : Array CpInfo := pool [(1, .methodref 2 3), (0, .class_ 4), (0, .nameAndType 5 6), (0, u "java/lang/AbstractStringBuilder"), (0, u "<init>"), (0, u "(I)V"), (11, .class_ 20), (1, u "java/lang/String"), (3, .class_ 26), (1, u "java/lang/StringBuilder"), (0, u "append"), (0, u "(Ljava/lang/String;)Ljava/lang/StringBuilder;"), (0, .methodref 2 30), (0, .nameAndType 27 31), (0, u "(Ljava/lang/String;)Ljava/lang/AbstractStringBuilder;"), (105, .methodref 18 138), (0, .nameAndType 5 139), (0, u "(Ljava/lang/StringBuilder;)V"), (5, u "()V"), (10, u "()I"), (186, .methodref 2 344), (0, .nameAndType 345 156), (0, u "length"), (3, .class_ 350), (0, u "java/lang/Appendable"), (0, .class_ 352), (0, u "java/io/Serializable"), (0, .class_ 354), (0, u "java/lang/Comparable"), (0, .class_ 356), (0, u "java/lang/CharSequence"), (0, u "serialVersionUID"), (0, u "J"), (40, u "toString"), (0, u "()Ljava/lang/String;")] 21

def k11c0 : Code := { maxStack := 2, maxLocals := 1, code := jdk_67_method_1_code, exceptionTable := #[], attributes := #[] }
def k11m0 : Method := { name := "<init>", desc := "()V", sig := { parameters := [], returnType := none }, accessFlags := 1, code := some k11c0 }
def k11c1 : Code := { maxStack := 2, maxLocals := 2, code := jdk_67_method_7_code, exceptionTable := #[], attributes := #[] }
def k11m1 : Method := { name := "append", desc := "(Ljava/lang/String;)Ljava/lang/StringBuilder;", sig := { parameters := [(.object "java/lang/String")], returnType := some (.object "java/lang/StringBuilder") }, accessFlags := 1, code := some k11c1 }
def k11c2 : Code := { maxStack := 3, maxLocals := 1, code := jdk_67_method_42_code, exceptionTable := #[], attributes := #[] }
def k11m2 : Method := { name := "toString", desc := "()Ljava/lang/String;", sig := { parameters := [], returnType := some (.object "java/lang/String") }, accessFlags := 1, code := some k11c2 }
def k11c3 : Code := { maxStack := 1, maxLocals := 1, code := jdk_67_method_93_code, exceptionTable := #[], attributes := #[] }
def k11m3 : Method := { name := "length", desc := "()I", sig := { parameters := [], returnType := some .int }, accessFlags := 4161, code := some k11c3 }
/-- java/lang/StringBuilder -/
def k11 : Class := { plain "java/lang/StringBuilder" (some 10) with
  accessFlags := 49
  interfaces := #[9, 2, 3, 4]
  cf := some (fileOf pool11 24 #[] #[{ accessFlags := 1, nameIndex := 5, descriptorIndex := 145, attributes := #[] }, { accessFlags := 1, nameIndex := 27, descriptorIndex := 28, attributes := #[] }, { accessFlags := 1, nameIndex := 399, descriptorIndex := 400, attributes := #[] }, { accessFlags := 4161, nameIndex := 345, descriptorIndex := 156, attributes := #[] }] 49 2 #[349, 351, 353, 355] #[{ accessFlags := 24, nameIndex := 357, descriptorIndex := 358, attributes := #[] }])
  fields := #[{ name := "serialVersionUID", type := .long, accessFlags := 24, slot := 0, constantValue := 0 }]
  methods := #[k11m0, k11m1, k11m2, k11m3]
  instanceTypes := #[(.array .byte), .byte, .boolean, .int]
  staticTypes := #[.long]
  resolved := Array.replicate 422 none
  statics := none }

def pool12 : Array CpInfo := pool [(2, .class_ 4), (1, u "java/lang/Object"), (0, u "<init>"), (0, u "()V"), (1, .class_ 10), (1, u "java/lang/System"), (0, u "allowSecurityManager"), (0, u "I"), (16, u "cons"), (0, u "Ljava/io/Console;"), (77, .class_ 110), (1, u "java/lang/System$CallersHolder"), (43, u "initialErrStream"), (0, u "Ljava/io/PrintStream;"), (19, u "security"), (0, u "Ljava/lang/SecurityManager;"), (31, .class_ 209), (0, u "java/lang/System$1"), (7, u "props"), (0, u "Ljava/util/Properties;"), (2, u "lineSeparator"), (0, u "Ljava/lang/String;"), (96, .class_ 321), (1, u "java/lang/System$LoggerFinder"), (5, .class_ 328), (0, u "java/lang/System$Logger"), (67, u "err"), (2, u "out"), (91, u "notSupportedJnuEncoding"), (15, u "in"), (17, u "initialIn"), (0, u "Ljava/io/InputStream;"), (35, u "bootLayer"), (0, u "Ljava/lang/ModuleLayer;"), (99, .class_ 664), (0, u "java/lang/System$2"), (9, u "NEVER"), (2, u "MAYBE"), (49, u "arraycopy"), (0, u "(Ljava/lang/Object;ILjava/lang/Object;II)V"), (72, .class_ 802), (0, u "java/lang/System$Logger$Level")] 31

def k12m0 : Method := { name := "<init>", desc := "()V", sig := { parameters := [], returnType := none }, accessFlags := 2, code := none }
def k12m1 : Method := { name := "arraycopy", desc := "(Ljava/lang/Object;ILjava/lang/Object;II)V", sig := { parameters := [(.object "java/lang/Object"), .int, (.object "java/lang/Object"), .int, .int], returnType := none }, accessFlags := 265, code := none }
/-- java/lang/System -/
def k12 : Class := { plain "java/lang/System" (some 0) with
  accessFlags := 49
  interfaces := #[]
  cf := some (fileOf pool12 8 #[.nestMembers #[319, 327, 801, 108, 663, 208]] #[{ accessFlags := 2, nameIndex := 5, descriptorIndex := 6, attributes := #[] }, { accessFlags := 265, nameIndex := 727, descriptorIndex := 728, attributes := #[] }] 49 2 #[] #[{ accessFlags := 25, nameIndex := 507, descriptorIndex := 526, attributes := #[] }, { accessFlags := 25, nameIndex := 399, descriptorIndex := 155, attributes := #[] }, { accessFlags := 25, nameIndex := 396, descriptorIndex := 155, attributes := #[] }, { accessFlags := 10, nameIndex := 525, descriptorIndex := 526, attributes := #[] }, { accessFlags := 26, nameIndex := 674, descriptorIndex := 12, attributes := #[] }, { accessFlags := 26, nameIndex := 677, descriptorIndex := 12, attributes := #[] }, { accessFlags := 10, nameIndex := 11, descriptorIndex := 12, attributes := #[] }, { accessFlags := 74, nameIndex := 175, descriptorIndex := 176, attributes := #[] }, { accessFlags := 10, nameIndex := 491, descriptorIndex := 222, attributes := #[] }, { accessFlags := 74, nameIndex := 29, descriptorIndex := 30, attributes := #[] }, { accessFlags := 74, nameIndex := 154, descriptorIndex := 155, attributes := #[] }, { accessFlags := 10, nameIndex := 217, descriptorIndex := 218, attributes := #[] }, { accessFlags := 10, nameIndex := 221, descriptorIndex := 222, attributes := #[] }, { accessFlags := 8, nameIndex := 562, descriptorIndex := 563, attributes := #[] }])
  fields := #[{ name := "in", type := (.object "java/io/InputStream"), accessFlags := 25, slot := 0, constantValue := 0 }, { name := "out", type := (.object "java/io/PrintStream"), accessFlags := 25, slot := 1, constantValue := 0 }, { name := "err", type := (.object "java/io/PrintStream"), accessFlags := 25, slot := 2, constantValue := 0 }, { name := "initialIn", type := (.object "java/io/InputStream"), accessFlags := 10, slot := 3, constantValue := 0 }, { name := "NEVER", type := .int, accessFlags := 26, slot := 4, constantValue := 0 }, { name := "MAYBE", type := .int, accessFlags := 26, slot := 5, constantValue := 0 }, { name := "allowSecurityManager", type := .int, accessFlags := 10, slot := 6, constantValue := 0 }, { name := "security", type := (.object "java/lang/SecurityManager"), accessFlags := 74, slot := 7, constantValue := 0 }, { name := "notSupportedJnuEncoding", type := (.object "java/lang/String"), accessFlags := 10, slot := 8, constantValue := 0 }, { name := "cons", type := (.object "java/io/Console"), accessFlags := 74, slot := 9, constantValue := 0 }, { name := "initialErrStream", type := (.object "java/io/PrintStream"), accessFlags := 74, slot := 10, constantValue := 0 }, { name := "props", type := (.object "java/util/Properties"), accessFlags := 10, slot := 11, constantValue := 0 }, { name := "lineSeparator", type := (.object "java/lang/String"), accessFlags := 10, slot := 12, constantValue := 0 }, { name := "bootLayer", type := (.object "java/lang/ModuleLayer"), accessFlags := 8, slot := 13, constantValue := 0 }]
  methods := #[k12m0, k12m1]
  instanceTypes := #[]
  staticTypes := #[(.object "java/io/InputStream"), (.object "java/io/PrintStream"), (.object "java/io/PrintStream"), (.object "java/io/InputStream"), .int, .int, .int, (.object "java/lang/SecurityManager"), (.object "java/lang/String"), (.object "java/io/Console"), (.object "java/io/PrintStream"), (.object "java/util/Properties"), (.object "java/lang/String"), (.object "java/lang/ModuleLayer")]
  resolved := Array.replicate 834 none
  statics := none }

def pool13 : Array CpInfo := pool [(2, .class_ 4), (1, u "java/lang/Object"), (0, u "<init>"), (0, u "()V"), (35, .class_ 44), (1, u "java/util/Objects"), (0, u "requireNonNull"), (48, u "(Ljava/lang/Object;Ljava/lang/String;)Ljava/lang/Object;")] 89

def k13m0 : Method := { name := "<init>", desc := "()V", sig := { parameters := [], returnType := none }, accessFlags := 2, code := none }
def k13c1 : Code := { maxStack := 3, maxLocals := 2, code := jdk_31_method_11_code, exceptionTable := #[], attributes := #[] }
def k13m1 : Method := { name := "requireNonNull", desc := "(Ljava/lang/Object;Ljava/lang/String;)Ljava/lang/Object;", sig := { parameters := [(.object "java/lang/Object"), (.object "java/lang/String")], returnType := some (.object "java/lang/Object") }, accessFlags := 9, code := some k13c1 }
/-- java/util/Objects -/
def k13 : Class := { plain "java/util/Objects" (some 0) with
  accessFlags := 49
  interfaces := #[]
  cf := some (fileOf pool13 42 #[] #[{ accessFlags := 2, nameIndex := 5, descriptorIndex := 6, attributes := #[] }, { accessFlags := 9, nameIndex := 45, descriptorIndex := 94, attributes := #[] }] 49 2 #[] #[])
  fields := #[]
  methods := #[k13m0, k13m1]
  instanceTypes := #[]
  staticTypes := #[]
  resolved := Array.replicate 184 none
  statics := none }

def pool14 : Array CpInfo := pool [(2, .class_ 4), (1, u "java/lang/Object"), (0, u "<init>"), (0, u "()V"), (7, .class_ 16), (1, u "java/util/Arrays"), (57, .class_ 76), (1, u "java/util/Arrays$NaturalOrder"), (36, .class_ 115), (1, u "java/util/Arrays$LegacyMergeSort"), (1, u "Z"), (21, u "copyOfRange"), (10, .methodref 151 152), (0, .class_ 153), (0, .nameAndType 154 155), (0, u "java/lang/System"), (0, u "arraycopy"), (0, u "(Ljava/lang/Object;ILjava/lang/Object;II)V"), (148, .methodref 305 306), (0, .class_ 307), (0, .nameAndType 308 309), (0, u "java/lang/Math"), (0, u "min"), (0, u "(II)I"), (29, .methodref 14 340), (0, .nameAndType 341 342), (0, u "copyOfRangeByte"), (0, u "([BII)[B"), (0, .methodref 14 344), (0, .nameAndType 345 346), (0, u "checkLength"), (0, u "(II)V"), (28, .class_ 376), (0, u "java/util/Arrays$ArrayList"), (68, u "$assertionsDisabled"), (269, u "MIN_ARRAY_SORT_GRAN"), (0, u "I"), (2, u "INSERTIONSORT_THRESHOLD"), (255, .class_ 976), (0, u "java/util/Arrays$ArrayItr")] 52

def k14m0 : Method := { name := "<init>", desc := "()V", sig := { parameters := [], returnType := none }, accessFlags := 2, code := none }
def k14c1 : Code := { maxStack := 4, maxLocals := 2, code := jdk_65_method_131_code, exceptionTable := #[], attributes := #[] }
def k14m1 : Method := { name := "checkLength", desc := "(II)V", sig := { parameters := [.int, .int], returnType := none }, accessFlags := 10, code := some k14c1 }
def k14c2 : Code := { maxStack := 3, maxLocals := 3, code := jdk_65_method_132_code, exceptionTable := #[], attributes := #[] }
def k14m2 : Method := { name := "copyOfRange", desc := "([BII)[B", sig := { parameters := [(.array .byte), .int, .int], returnType := some (.array .byte) }, accessFlags := 9, code := some k14c2 }
def k14c3 : Code := { maxStack := 6, maxLocals := 5, code := jdk_65_method_133_code, exceptionTable := #[], attributes := #[] }
def k14m3 : Method := { name := "copyOfRangeByte", desc := "([BII)[B", sig := { parameters := [(.array .byte), .int, .int], returnType := some (.array .byte) }, accessFlags := 10, code := some k14c3 }
/-- java/util/Arrays -/
def k14 : Class := { plain "java/util/Arrays" (some 0) with
  accessFlags := 49
  interfaces := #[]
  cf := some (fileOf pool14 14 #[.nestMembers #[975, 375, 113, 74]] #[{ accessFlags := 2, nameIndex := 5, descriptorIndex := 6, attributes := #[] }, { accessFlags := 10, nameIndex := 345, descriptorIndex := 346, attributes := #[] }, { accessFlags := 9, nameIndex := 139, descriptorIndex := 342, attributes := #[] }, { accessFlags := 10, nameIndex := 341, descriptorIndex := 342, attributes := #[] }] 49 2 #[] #[{ accessFlags := 26, nameIndex := 715, descriptorIndex := 716, attributes := #[] }, { accessFlags := 26, nameIndex := 719, descriptorIndex := 716, attributes := #[] }, { accessFlags := 4120, nameIndex := 445, descriptorIndex := 117, attributes := #[] }])
  fields := #[{ name := "MIN_ARRAY_SORT_GRAN", type := .int, accessFlags := 26, slot := 0, constantValue := 0 }, { name := "INSERTIONSORT_THRESHOLD", type := .int, accessFlags := 26, slot := 1, constantValue := 0 }, { name := "$assertionsDisabled", type := .boolean, accessFlags := 4120, slot := 2, constantValue := 0 }]
  methods := #[k14m0, k14m1, k14m2, k14m3]
  instanceTypes := #[]
  staticTypes := #[.int, .int, .boolean]
  resolved := Array.replicate 1029 none
  statics := none }

def pool15 : Array CpInfo := pool [(1, .class_ 2), (0, u "java/lang/Math"), (1, .class_ 6), (1, u "java/lang/Object"), (0, u "<init>"), (0, u "()V"), (89, .class_ 100), (1, u "java/lang/Math$RandomNumberGeneratorHolder"), (71, u "negativeZeroFloatBits"), (0, u "J"), (2, u "negativeZeroDoubleBits"), (24, u "min"), (43, u "$assertionsDisabled"), (0, u "Z"), (88, u "(II)I"), (2, u "twoToTheDoubleScaleDown"), (0, u "D"), (4, u "twoToTheDoubleScaleUp"), (9, u "E"), (3, u "PI"), (2, u "TAU"), (2, u "DEGREES_TO_RADIANS"), (0, u "RADIANS_TO_DEGREES")] 94

def k15m0 : Method := { name := "<init>", desc := "()V", sig := { parameters := [], returnType := none }, accessFlags := 2, code := none }
def k15c1 : Code := { maxStack := 2, maxLocals := 2, code := jdk_29_method_69_code, exceptionTable := #[], attributes := #[] }
def k15m1 : Method := { name := "min", desc := "(II)I", sig := { parameters := [.int, .int], returnType := some .int }, accessFlags := 9, code := some k15c1 }
/-- java/lang/Math -/
def k15 : Class := { plain "java/lang/Math" (some 0) with
  accessFlags := 49
  interfaces := #[]
  cf := some (fileOf pool15 1 #[.nestMembers #[98]] #[{ accessFlags := 2, nameIndex := 7, descriptorIndex := 8, attributes := #[] }, { accessFlags := 9, nameIndex := 201, descriptorIndex := 335, attributes := #[] }] 49 4 #[] #[{ accessFlags := 25, nameIndex := 354, descriptorIndex := 339, attributes := #[] }, { accessFlags := 25, nameIndex := 358, descriptorIndex := 339, attributes := #[] }, { accessFlags := 25, nameIndex := 361, descriptorIndex := 339, attributes := #[] }, { accessFlags := 26, nameIndex := 364, descriptorIndex := 339, attributes := #[] }, { accessFlags := 26, nameIndex := 365, descriptorIndex := 339, attributes := #[] }, { accessFlags := 26, nameIndex := 172, descriptorIndex := 173, attributes := #[] }, { accessFlags := 26, nameIndex := 176, descriptorIndex := 173, attributes := #[] }, { accessFlags := 8, nameIndex := 344, descriptorIndex := 339, attributes := #[] }, { accessFlags := 8, nameIndex := 338, descriptorIndex := 339, attributes := #[] }, { accessFlags := 4120, nameIndex := 245, descriptorIndex := 246, attributes := #[] }])
  fields := #[{ name := "E", type := .double, accessFlags := 25, slot := 0, constantValue := 0 }, { name := "PI", type := .double, accessFlags := 25, slot := 1, constantValue := 0 }, { name := "TAU", type := .double, accessFlags := 25, slot := 2, constantValue := 0 }, { name := "DEGREES_TO_RADIANS", type := .double, accessFlags := 26, slot := 3, constantValue := 0 }, { name := "RADIANS_TO_DEGREES", type := .double, accessFlags := 26, slot := 4, constantValue := 0 }, { name := "negativeZeroFloatBits", type := .long, accessFlags := 26, slot := 5, constantValue := 0 }, { name := "negativeZeroDoubleBits", type := .long, accessFlags := 26, slot := 6, constantValue := 0 }, { name := "twoToTheDoubleScaleUp", type := .double, accessFlags := 8, slot := 7, constantValue := 0 }, { name := "twoToTheDoubleScaleDown", type := .double, accessFlags := 8, slot := 8, constantValue := 0 }, { name := "$assertionsDisabled", type := .boolean, accessFlags := 4120, slot := 9, constantValue := 0 }]
  methods := #[k15m0, k15m1]
  instanceTypes := #[]
  staticTypes := #[.double, .double, .double, .double, .double, .long, .long, .double, .double, .boolean]
  resolved := Array.replicate 460 none
  statics := none }

def pool16 : Array CpInfo := pool [(1, .class_ 2), (0, u "java/lang/String"), (1, .class_ 6), (1, u "java/lang/Object"), (0, u "<init>"), (0, u "()V"), (0, .methodref 1 10), (0, .nameAndType 11 12), (0, u "checkIndex"), (0, u "(II)V"), (1, .class_ 16), (1, u "java/lang/StringLatin1"), (0, u "inflate"), (2, .class_ 22), (1, u "java/lang/StringUTF16"), (3, .nameAndType 17 27), (0, u "([BI[BII)V"), (25, u "([BI)C"), (67, u "$assertionsDisabled"), (0, u "Z"), (98, .class_ 223), (1, u "java/lang/StringLatin1$LinesSpliterator"), (16, .methodref 20 26), (11, u "charAt"), (137, .class_ 391), (0, u "java/lang/StringLatin1$CharsSpliterator")] 3

def k16m0 : Method := { name := "<init>", desc := "()V", sig := { parameters := [], returnType := none }, accessFlags := 0, code := none }
def k16c1 : Code := { maxStack := 2, maxLocals := 2, code := jdk_43_method_2_code, exceptionTable := #[], attributes := #[] }
def k16m1 : Method := { name := "charAt", desc := "([BI)C", sig := { parameters := [(.array .byte), .int], returnType := some .char }, accessFlags := 9, code := some k16c1 }
def k16c2 : Code := { maxStack := 5, maxLocals := 5, code := jdk_43_method_50_code, exceptionTable := #[], attributes := #[] }
def k16m2 : Method := { name := "inflate", desc := "([BI[BII)V", sig := { parameters := [(.array .byte), .int, (.array .byte), .int, .int], returnType := none }, accessFlags := 9, code := some k16c2 }
/-- java/lang/StringLatin1 -/
def k16 : Class := { plain "java/lang/StringLatin1" (some 0) with
  accessFlags := 48
  interfaces := #[]
  cf := some (fileOf pool16 14 #[.nestMembers #[390, 221]] #[{ accessFlags := 0, nameIndex := 7, descriptorIndex := 8, attributes := #[] }, { accessFlags := 9, nameIndex := 252, descriptorIndex := 53, attributes := #[] }, { accessFlags := 9, nameIndex := 17, descriptorIndex := 27, attributes := #[] }] 48 4 #[] #[{ accessFlags := 4120, nameIndex := 121, descriptorIndex := 122, attributes := #[] }])
  fields := #[{ name := "$assertionsDisabled", type := .boolean, accessFlags := 4120, slot := 0, constantValue := 0 }]
  methods := #[k16m0, k16m1, k16m2]
  instanceTypes := #[]
  staticTypes := #[.boolean]
  resolved := Array.replicate 395 none
  statics := none }

def pool17 : Array CpInfo := pool [(2, .class_ 4), (1, u "java/lang/Object"), (0, u "<init>"), (0, u "()V"), (17, .class_ 26), (1, u "jdk/internal/util/Preconditions"), (6, u "checkIndex"), (15, u "checkFromIndexSize"), (5, .class_ 56), (0, u "jdk/internal/util/Preconditions$4"), (57, .class_ 115), (0, u "jdk/internal/util/Preconditions$1"), (7, u "SIOOBE_FORMATTER"), (0, u "Ljava/util/function/BiFunction;"), (0, .class_ 126), (0, u "jdk/internal/util/Preconditions$2"), (3, u "AIOOBE_FORMATTER"), (0, .class_ 132), (0, u "jdk/internal/util/Preconditions$3"), (3, u "IOOBE_FORMATTER"), (41, u "(IILjava/util/function/BiFunction;)I"), (4, u "(IIILjava/util/function/BiFunction;)I")] 10

def k17m0 : Method := { name := "<init>", desc := "()V", sig := { parameters := [], returnType := none }, accessFlags := 1, code := none }
def k17c1 : Code := { maxStack := 3, maxLocals := 3, code := jdk_41_method_11_code, exceptionTable := #[], attributes := #[] }
def k17m1 : Method := { name := "checkIndex", desc := "(IILjava/util/function/BiFunction;)I", sig := { parameters := [.int, .int, (.object "java/util/function/BiFunction")], returnType := some .int }, accessFlags := 9, code := some k17c1 }
def k17c2 : Code := { maxStack := 4, maxLocals := 4, code := jdk_41_method_13_code, exceptionTable := #[], attributes := #[] }
def k17m2 : Method := { name := "checkFromIndexSize", desc := "(IIILjava/util/function/BiFunction;)I", sig := { parameters := [.int, .int, .int, (.object "java/util/function/BiFunction")], returnType := some .int }, accessFlags := 9, code := some k17c2 }
/-- jdk/internal/util/Preconditions -/
def k17 : Class := { plain "jdk/internal/util/Preconditions" (some 0) with
  accessFlags := 33
  interfaces := #[]
  cf := some (fileOf pool17 24 #[.nestMembers #[55, 131, 125, 114]] #[{ accessFlags := 1, nameIndex := 5, descriptorIndex := 6, attributes := #[] }, { accessFlags := 9, nameIndex := 33, descriptorIndex := 178, attributes := #[] }, { accessFlags := 9, nameIndex := 49, descriptorIndex := 183, attributes := #[] }] 33 2 #[] #[{ accessFlags := 25, nameIndex := 123, descriptorIndex := 124, attributes := #[] }, { accessFlags := 25, nameIndex := 130, descriptorIndex := 124, attributes := #[] }, { accessFlags := 25, nameIndex := 136, descriptorIndex := 124, attributes := #[] }])
  fields := #[{ name := "SIOOBE_FORMATTER", type := (.object "java/util/function/BiFunction"), accessFlags := 25, slot := 0, constantValue := 0 }, { name := "AIOOBE_FORMATTER", type := (.object "java/util/function/BiFunction"), accessFlags := 25, slot := 1, constantValue := 0 }, { name := "IOOBE_FORMATTER", type := (.object "java/util/function/BiFunction"), accessFlags := 25, slot := 2, constantValue := 0 }]
  methods := #[k17m0, k17m1, k17m2]
  instanceTypes := #[]
  staticTypes := #[(.object "java/util/function/BiFunction"), (.object "java/util/function/BiFunction"), (.object "java/util/function/BiFunction")]
  resolved := Array.replicate 194 none
  statics := some 1 }

def pool18 : Array CpInfo := pool [(3, .class_ 4), (0, u "java/lang/String"), (1, .class_ 8), (1, u "java/lang/Object"), (0, u "<init>"), (0, u "()V"), (0, .methodref 12 13), (0, .class_ 14), (0, .nameAndType 15 16), (0, u "java/lang/StringUTF16"), (0, u "newBytesLength"), (0, u "(I)I"), (3, .integer 1073741823), (23, .fieldref 12 45), (0, .nameAndType 46 47), (0, u "$assertionsDisabled"), (0, u "Z"), (0, .methodref 12 49), (0, .nameAndType 50 51), (0, u "length"), (0, u "([B)I"), (7, .fieldref 12 60), (0, .nameAndType 61 62), (0, u "HI_BYTE_SHIFT"), (0, u "I"), (0, .fieldref 12 64), (0, .nameAndType 65 62), (0, u "LO_BYTE_SHIFT"), (1, .methodref 12 68), (0, .nameAndType 69 70), (0, u "checkIndex"), (0, u "(I[B)V"), (0, .methodref 12 72), (0, .nameAndType 73 74), (0, u "getChar"), (0, u "([BI)C"), (24, u "(II[B)V"), (7, .methodref 12 108), (0, .nameAndType 109 110), (0, u "newBytesFor"), (0, u "(I)[B"), (0, .methodref 12 112), (0, .nameAndType 113 114), (0, u "putChar"), (0, u "([BII)V"), (0, .methodref 12 116), (0, .nameAndType 117 118), (0, u "compress"), (0, u "([CI[BII)I"), (0, .methodref 12 120), (0, .nameAndType 121 122), (0, u "toBytes"), (0, u "([CII)[B"), (17, u "inflate"), (0, u "([BI[BII)V"), (31, .methodref 12 174), (0, .nameAndType 175 99), (0, u "checkBoundsOffCount"), (85, u "coderFromArrayLen"), (0, u "([BI)B"), (18, u "(III)I"), (87, .class_ 371), (1, u "java/lang/StringUTF16$LinesSpliterator"), (20, u "charAt"), (21, .methodref 3 415), (0, .nameAndType 69 416), (0, u "(II)V"), (2, .methodref 3 420), (0, .nameAndType 175 281), (9, u "MAX_LENGTH"), (196, .class_ 628), (0, u "java/lang/StringUTF16$CodePointsSpliterator"), (0, .class_ 630), (0, u "java/lang/StringUTF16$CharsSpliterator")] 4

def k18m0 : Method := { name := "<init>", desc := "()V", sig := { parameters := [], returnType := none }, accessFlags := 0, code := none }
def k18c1 : Code := { maxStack := 1, maxLocals := 1, code := jdk_52_method_2_code, exceptionTable := #[], attributes := #[] }
def k18m1 : Method := { name := "newBytesFor", desc := "(I)[B", sig := { parameters := [.int], returnType := some (.array .byte) }, accessFlags := 9, code := some k18c1 }
def k18c2 : Code := { maxStack := 4, maxLocals := 1, code := jdk_52_method_3_code, exceptionTable := #[], attributes := #[] }
def k18m2 : Method := { name := "newBytesLength", desc := "(I)I", sig := { parameters := [.int], returnType := some .int }, accessFlags := 9, code := some k18c2 }
def k18c3 : Code := { maxStack := 4, maxLocals := 3, code := jdk_52_method_4_code, exceptionTable := #[], attributes := #[] }
def k18m3 : Method := { name := "putChar", desc := "([BII)V", sig := { parameters := [(.array .byte), .int, .int], returnType := none }, accessFlags := 8, code := some k18c3 }
def k18c4 : Code := { maxStack := 3, maxLocals := 2, code := jdk_52_method_5_code, exceptionTable := #[], attributes := #[] }
def k18m4 : Method := { name := "getChar", desc := "([BI)C", sig := { parameters := [(.array .byte), .int], returnType := some .char }, accessFlags := 8, code := some k18c4 }
def k18c5 : Code := { maxStack := 2, maxLocals := 1, code := jdk_52_method_6_code, exceptionTable := #[], attributes := #[] }
def k18m5 : Method := { name := "length", desc := "([B)I", sig := { parameters := [(.array .byte)], returnType := some .int }, accessFlags := 9, code := some k18c5 }
def k18c6 : Code := { maxStack := 4, maxLocals := 5, code := jdk_52_method_14_code, exceptionTable := #[], attributes := #[] }
def k18m6 : Method := { name := "toBytes", desc := "([CII)[B", sig := { parameters := [(.array .char), .int, .int], returnType := some (.array .byte) }, accessFlags := 9, code := some k18c6 }
def k18c7 : Code := { maxStack := 2, maxLocals := 2, code := jdk_52_method_15_code, exceptionTable := #[], attributes := #[] }
def k18m7 : Method := { name := "coderFromArrayLen", desc := "([BI)B", sig := { parameters := [(.array .byte), .int], returnType := some .byte }, accessFlags := 8, code := some k18c7 }
def k18c8 : Code := { maxStack := 5, maxLocals := 6, code := jdk_52_method_16_code, exceptionTable := #[], attributes := #[] }
def k18m8 : Method := { name := "compress", desc := "([CII)[B", sig := { parameters := [(.array .char), .int, .int], returnType := some (.array .byte) }, accessFlags := 9, code := some k18c8 }
def k18c9 : Code := { maxStack := 3, maxLocals := 7, code := jdk_52_method_21_code, exceptionTable := #[], attributes := #[] }
def k18m9 : Method := { name := "compress", desc := "([CI[BII)I", sig := { parameters := [(.array .char), .int, (.array .byte), .int, .int], returnType := some .int }, accessFlags := 9, code := some k18c9 }
def k18c10 : Code := { maxStack := 2, maxLocals := 2, code := jdk_52_method_83_code, exceptionTable := #[], attributes := #[] }
def k18m10 : Method := { name := "charAt", desc := "([BI)C", sig := { parameters := [(.array .byte), .int], returnType := some .char }, accessFlags := 9, code := some k18c10 }
def k18c11 : Code := { maxStack := 4, maxLocals := 6, code := jdk_52_method_86_code, exceptionTable := #[], attributes := #[] }
def k18m11 : Method := { name := "inflate", desc := "([BI[BII)V", sig := { parameters := [(.array .byte), .int, (.array .byte), .int, .int], returnType := none }, accessFlags := 9, code := some k18c11 }
def k18c12 : Code := { maxStack := 2, maxLocals := 2, code := jdk_52_method_91_code, exceptionTable := #[], attributes := #[] }
def k18m12 : Method := { name := "checkIndex", desc := "(I[B)V", sig := { parameters := [.int, (.array .byte)], returnType := none }, accessFlags := 9, code := some k18c12 }
def k18c13 : Code := { maxStack := 3, maxLocals := 3, code := jdk_52_method_94_code, exceptionTable := #[], attributes := #[] }
def k18m13 : Method := { name := "checkBoundsOffCount", desc := "(II[B)V", sig := { parameters := [.int, .int, (.array .byte)], returnType := none }, accessFlags := 9, code := some k18c13 }
/-- java/lang/StringUTF16 -/
def k18 : Class := { plain "java/lang/StringUTF16" (some 0) with
  accessFlags := 48
  interfaces := #[]
  cf := some (fileOf pool18 12 #[.nestMembers #[627, 629, 369]] #[{ accessFlags := 0, nameIndex := 9, descriptorIndex := 10, attributes := #[] }, { accessFlags := 9, nameIndex := 109, descriptorIndex := 110, attributes := #[] }, { accessFlags := 9, nameIndex := 15, descriptorIndex := 16, attributes := #[] }, { accessFlags := 8, nameIndex := 113, descriptorIndex := 114, attributes := #[] }, { accessFlags := 8, nameIndex := 73, descriptorIndex := 74, attributes := #[] }, { accessFlags := 9, nameIndex := 50, descriptorIndex := 51, attributes := #[] }, { accessFlags := 9, nameIndex := 121, descriptorIndex := 122, attributes := #[] }, { accessFlags := 8, nameIndex := 261, descriptorIndex := 262, attributes := #[] }, { accessFlags := 9, nameIndex := 117, descriptorIndex := 122, attributes := #[] }, { accessFlags := 9, nameIndex := 117, descriptorIndex := 118, attributes := #[] }, { accessFlags := 9, nameIndex := 392, descriptorIndex := 74, attributes := #[] }, { accessFlags := 9, nameIndex := 140, descriptorIndex := 141, attributes := #[] }, { accessFlags := 9, nameIndex := 69, descriptorIndex := 70, attributes := #[] }, { accessFlags := 9, nameIndex := 175, descriptorIndex := 99, attributes := #[] }] 48 6 #[] #[{ accessFlags := 26, nameIndex := 61, descriptorIndex := 62, attributes := #[] }, { accessFlags := 26, nameIndex := 65, descriptorIndex := 62, attributes := #[] }, { accessFlags := 24, nameIndex := 430, descriptorIndex := 62, attributes := #[] }, { accessFlags := 4120, nameIndex := 46, descriptorIndex := 47, attributes := #[] }])
  fields := #[{ name := "HI_BYTE_SHIFT", type := .int, accessFlags := 26, slot := 0, constantValue := 0 }, { name := "LO_BYTE_SHIFT", type := .int, accessFlags := 26, slot := 1, constantValue := 0 }, { name := "MAX_LENGTH", type := .int, accessFlags := 24, slot := 2, constantValue := 0 }, { name := "$assertionsDisabled", type := .boolean, accessFlags := 4120, slot := 3, constantValue := 0 }]
  methods := #[k18m0, k18m1, k18m2, k18m3, k18m4, k18m5, k18m6, k18m7, k18m8, k18m9, k18m10, k18m11, k18m12, k18m13]
  instanceTypes := #[]
  staticTypes := #[.int, .int, .int, .boolean]
  resolved := Array.replicate 635 none
  statics := some 2 }

def pool19 : Array CpInfo := pool [(9, u "<init>"), (6, .class_ 18), (1, u "java/lang/Object"), (0, u "()V"), (1, .class_ 23), (1, u "jdk/internal/util/ArraysSupport"), (0, u "LOG2_ARRAY_LONG_INDEX_SCALE"), (0, u "I"), (2, u "U"), (0, u "Ljdk/internal/misc/Unsafe;"), (8, u "BIG_ENDIAN"), (0, u "Z"), (8, u "LOG2_BYTE_BIT_SIZE"), (4, u "LOG2_ARRAY_INT_INDEX_SCALE"), (54, u "JLA"), (0, u "Ljdk/internal/access/JavaLangAccess;"), (11, u "LOG2_ARRAY_BOOLEAN_INDEX_SCALE"), (9, u "LOG2_ARRAY_BYTE_INDEX_SCALE"), (5, u "LOG2_ARRAY_CHAR_INDEX_SCALE"), (5, u "LOG2_ARRAY_SHORT_INDEX_SCALE"), (18, u "LOG2_ARRAY_FLOAT_INDEX_SCALE"), (24, u "LOG2_ARRAY_DOUBLE_INDEX_SCALE"), (89, u "T_BOOLEAN"), (2, u "T_CHAR"), (1, u "T_FLOAT"), (1, u "T_DOUBLE"), (1, u "T_BYTE"), (1, u "T_SHORT"), (1, u "T_INT"), (1, u "T_LONG"), (1, u "SOFT_MAX_ARRAY_LENGTH")] 83

def k19m0 : Method := { name := "<init>", desc := "()V", sig := { parameters := [], returnType := none }, accessFlags := 2, code := none }
/-- jdk/internal/util/ArraysSupport -/
def k19 : Class := { plain "jdk/internal/util/ArraysSupport" (some 0) with
  accessFlags := 33
  interfaces := #[]
  cf := some (fileOf pool19 21 #[] #[{ accessFlags := 2, nameIndex := 9, descriptorIndex := 19, attributes := #[] }] 33 16 #[] #[{ accessFlags := 24, nameIndex := 28, descriptorIndex := 29, attributes := #[] }, { accessFlags := 26, nameIndex := 38, descriptorIndex := 39, attributes := #[] }, { accessFlags := 25, nameIndex := 121, descriptorIndex := 25, attributes := #[] }, { accessFlags := 25, nameIndex := 131, descriptorIndex := 25, attributes := #[] }, { accessFlags := 25, nameIndex := 137, descriptorIndex := 25, attributes := #[] }, { accessFlags := 25, nameIndex := 143, descriptorIndex := 25, attributes := #[] }, { accessFlags := 25, nameIndex := 53, descriptorIndex := 25, attributes := #[] }, { accessFlags := 25, nameIndex := 24, descriptorIndex := 25, attributes := #[] }, { accessFlags := 25, nameIndex := 162, descriptorIndex := 25, attributes := #[] }, { accessFlags := 25, nameIndex := 187, descriptorIndex := 25, attributes := #[] }, { accessFlags := 26, nameIndex := 48, descriptorIndex := 25, attributes := #[] }, { accessFlags := 25, nameIndex := 277, descriptorIndex := 25, attributes := #[] }, { accessFlags := 25, nameIndex := 280, descriptorIndex := 25, attributes := #[] }, { accessFlags := 25, nameIndex := 282, descriptorIndex := 25, attributes := #[] }, { accessFlags := 25, nameIndex := 284, descriptorIndex := 25, attributes := #[] }, { accessFlags := 25, nameIndex := 286, descriptorIndex := 25, attributes := #[] }, { accessFlags := 25, nameIndex := 288, descriptorIndex := 25, attributes := #[] }, { accessFlags := 25, nameIndex := 290, descriptorIndex := 25, attributes := #[] }, { accessFlags := 25, nameIndex := 292, descriptorIndex := 25, attributes := #[] }, { accessFlags := 26, nameIndex := 108, descriptorIndex := 109, attributes := #[] }, { accessFlags := 25, nameIndex := 294, descriptorIndex := 25, attributes := #[] }])
  fields := #[{ name := "U", type := (.object "jdk/internal/misc/Unsafe"), accessFlags := 24, slot := 0, constantValue := 0 }, { name := "BIG_ENDIAN", type := .boolean, accessFlags := 26, slot := 1, constantValue := 0 }, { name := "LOG2_ARRAY_BOOLEAN_INDEX_SCALE", type := .int, accessFlags := 25, slot := 2, constantValue := 0 }, { name := "LOG2_ARRAY_BYTE_INDEX_SCALE", type := .int, accessFlags := 25, slot := 3, constantValue := 0 }, { name := "LOG2_ARRAY_CHAR_INDEX_SCALE", type := .int, accessFlags := 25, slot := 4, constantValue := 0 }, { name := "LOG2_ARRAY_SHORT_INDEX_SCALE", type := .int, accessFlags := 25, slot := 5, constantValue := 0 }, { name := "LOG2_ARRAY_INT_INDEX_SCALE", type := .int, accessFlags := 25, slot := 6, constantValue := 0 }, { name := "LOG2_ARRAY_LONG_INDEX_SCALE", type := .int, accessFlags := 25, slot := 7, constantValue := 0 }, { name := "LOG2_ARRAY_FLOAT_INDEX_SCALE", type := .int, accessFlags := 25, slot := 8, constantValue := 0 }, { name := "LOG2_ARRAY_DOUBLE_INDEX_SCALE", type := .int, accessFlags := 25, slot := 9, constantValue := 0 }, { name := "LOG2_BYTE_BIT_SIZE", type := .int, accessFlags := 26, slot := 10, constantValue := 0 }, { name := "T_BOOLEAN", type := .int, accessFlags := 25, slot := 11, constantValue := 0 }, { name := "T_CHAR", type := .int, accessFlags := 25, slot := 12, constantValue := 0 }, { name := "T_FLOAT", type := .int, accessFlags := 25, slot := 13, constantValue := 0 }, { name := "T_DOUBLE", type := .int, accessFlags := 25, slot := 14, constantValue := 0 }, { name := "T_BYTE", type := .int, accessFlags := 25, slot := 15, constantValue := 0 }, { name := "T_SHORT", type := .int, accessFlags := 25, slot := 16, constantValue := 0 }, { name := "T_INT", type := .int, accessFlags := 25, slot := 17, constantValue := 0 }, { name := "T_LONG", type := .int, accessFlags := 25, slot := 18, constantValue := 0 }, { name := "JLA", type := (.object "jdk/internal/access/JavaLangAccess"), accessFlags := 26, slot := 19, constantValue := 0 }, { name := "SOFT_MAX_ARRAY_LENGTH", type := .int, accessFlags := 25, slot := 20, constantValue := 0 }]
  methods := #[k19m0]
  instanceTypes := #[]
  staticTypes := #[(.object "jdk/internal/misc/Unsafe"), .boolean, .int, .int, .int, .int, .int, .int, .int, .int, .int, .int, .int, .int, .int, .int, .int, .int, .int, (.object "jdk/internal/access/JavaLangAccess"), .int]
  resolved := Array.replicate 378 none
  statics := none }

def pool20 : Array CpInfo := pool [(1, u "java/lang/Cloneable"), (0, .class_ 1), (0, u "java/lang/Object"), (0, .class_ 3)] 3

/-- java/lang/Cloneable -/
def k20 : Class := { plain "java/lang/Cloneable" (some 0) with
  accessFlags := 1537
  interfaces := #[]
  cf := some (fileOf pool20 2 #[] #[] 1537 4 #[] #[])
  fields := #[]
  methods := #[]
  instanceTypes := #[]
  staticTypes := #[]
  resolved := Array.replicate 8 none
  statics := none }

/-- the primitive byte -/
def k21 : Class := { plain "byte" none with kind := .primitive 'B', accessFlags := 0x411 }
/-- [B -/
def k22 : Class := { plain "[B" (some 0) with kind := .array 21 .byte, interfaces := #[20, 2], accessFlags := 1041 }

/-- the primitive char -/
def k23 : Class := { plain "char" none with kind := .primitive 'C', accessFlags := 0x411 }
/-- [C -/
def k24 : Class := { plain "[C" (some 0) with kind := .array 23 .char, interfaces := #[20, 2], accessFlags := 1041 }

/-- the primitive int -/
def k25 : Class := { plain "int" none with kind := .primitive 'I', accessFlags := 0x411 }
/-- [I -/
def k26 : Class := { plain "[I" (some 0) with kind := .array 25 .int, interfaces := #[20, 2], accessFlags := 1041 }

def heap : Heap := #[{ cls := 7, slots := #[.long 0, .int 1, .null, .int 0, .null, .int 0, .int 0], vm := .statics 7 },
  { cls := 17, slots := #[.null, .null, .null], vm := .statics 17 },
  { cls := 18, slots := #[.int 0, .int 8, .int 0, .int 1], vm := .statics 18 }]
def classes : Array Class := #[k0, k1, k2, k3, k4, k5, k6, k7, k8, k9, k10, k11, k12, k13, k14, k15, k16, k17, k18, k19, k20, k21, k22, k23, k24, k25, k26]
def interned : List (Array UInt16 × Addr) := []
def slotsUsed : Nat := 14
def theMethod : MethodId := ⟨1, 1⟩
def args0 : Array Value := #[.long 5, .long 7, .int 6]
def aboutOver (below : List Frame) : State where
  vm := { classes := classes, interned := interned.toArray }
  heap := heap
  slotsUsed := slotsUsed
  threads := #[{ frames := .invoking theMethod args0 :: below }]
def below0 : List Frame := [.native { method := ⟨0, 0⟩, args := #[] }]
def about1 : State := aboutOver below0
def p0 : Program := .bare "" "" ""
def e0 : Env := launch0.env 0 0 0
theorem w_frames : about1.frames = Frame.invoking theMethod args0 :: below0 := rfl
set_option maxRecDepth 65536 in
theorem w_args : argsFit about1.vm theMethod args0 = true := by decide +kernel
set_option maxRecDepth 65536 in
theorem w_heap : heapFits about1 = true := by decide +kernel
set_option maxRecDepth 65536 in
theorem w_runnable : about1.curStatus? = some .runnable := by decide +kernel
set_option maxRecDepth 65536 in
theorem w_alone : about1.alone = true := by decide +kernel
set_option maxRecDepth 65536 in
theorem w_named : about1.methodNamed? x = some theMethod := by decide +kernel
set_option maxRecDepth 65536 in
theorem w_hears : about1.hears theMethod below0 = true := by decide +kernel
set_option maxRecDepth 65536 in
theorem w_ripe : about1.ripe theMethod args0 below0 = true := by decide +kernel
theorem w_running : about1.status = .running := rfl
set_option maxRecDepth 65536 in
theorem w_room : about1.hasRoom e0.platform room_1 = true :=
  launch0.hasRoom_least _ room_1 (by decide +kernel) (by decide +kernel) (by decide +kernel) (by decide +kernel) (by decide +kernel) (by decide +kernel)
theorem allAtoms_all (ts : List Jvm.Cond) (a : Array Jvm.Value) (st : Jvm.State) : (allAtoms ts).before a st = ts.all (fun c => c.before a st) := by
  induction ts with
  | nil => rfl
  | cons c t ih =>
    show (Jvm.Cond.and c (allAtoms t)).before a st = _
    rw [Jvm.Cond.before_and, ih, List.all_cons]
def words1 : List Jvm.Cond := Jvm.Cond.code x code maxLocals ret :: tables_1
/-- a 'code' word, met by the world's own term for the bytes: nothing is compared byte by byte -/
theorem code_word {y : MethodName} {bytes : ByteArray} {mx : Nat} {rt : Option FieldType} {a : Array Value} {s : State} {m : MethodId} {meth : Method} {c : Code} (h1 : s.methodNamed? y = some m) (h2 : s.vm.method? m = some meth) (h3 : meth.code = some c) (h4 : c.code = bytes)
    (h5 : (c.maxLocals == mx && c.exceptionTable.isEmpty && decide (c.maxStack ≤ mostOperands) && decide (meth.sig.returnType = rt) && !meth.locks && decide (parseMethodDescriptor y.desc = some meth.sig)) = true) : (Jvm.Cond.code y bytes mx rt).before a s = true := by
  simp only [Bool.and_eq_true, beq_iff_eq, Bool.not_eq_true', decide_eq_true_eq] at h5
  obtain ⟨⟨⟨⟨⟨g1, g2⟩, g3⟩, g4⟩, g5⟩, g6⟩ := h5
  simp [Cond.before, Cond.holds, Cond.value, h1, h2, h3, h4, g1, g2, g3, g4, g5, g6]
def isCode : Jvm.Cond → Bool
  | .code _ _ _ _ => true
  | _ => false
theorem all_split {L : List Jvm.Cond} {P : Jvm.Cond → Bool} (h1 : L.all (fun c => isCode c || P c) = true) (h2 : ∀ c ∈ L.filter isCode, P c = true) : L.all P = true := by
  refine List.all_eq_true.mpr fun c hc => ?_
  have h := List.all_eq_true.mp h1 c hc
  rcases Bool.eq_false_or_eq_true (isCode c) with hi | hi
  · exact h2 c (List.mem_filter.mpr ⟨hc, hi⟩)
  · simpa [hi] using h
set_option maxRecDepth 65536 in
theorem w_c0 : (Jvm.Cond.code x code maxLocals ret).before args0 about1 = true := code_word (m := ⟨1, 1⟩) (meth := k1m1) (c := k1c1) (by decide +kernel) rfl rfl rfl (by decide +kernel)
set_option maxRecDepth 65536 in
theorem w_c1 : (Jvm.Cond.code ({ cls := "com/example/vidare/vidare/core/GatePauseReasonPinLaw", name := "mk", desc := "(JI)Ljava/lang/String;" } : Jvm.MethodName) method_4_code (4 : Nat) (Option.some (Jvm.ClassFile.FieldType.object "java/lang/String"))).before args0 about1 = true := code_word (m := ⟨1, 3⟩) (meth := k1m3) (c := k1c3) (by decide +kernel) rfl rfl rfl (by decide +kernel)
set_option maxRecDepth 65536 in
theorem w_c2 : (Jvm.Cond.code ({ cls := "java/lang/String", name := "<init>", desc := "([C)V" } : Jvm.MethodName) jdk_42_method_3_code (2 : Nat) (Option.none : Option Jvm.ClassFile.FieldType)).before args0 about1 = true := code_word (m := ⟨7, 1⟩) (meth := k7m1) (c := k7c1) (by decide +kernel) rfl rfl rfl (by decide +kernel)
set_option maxRecDepth 65536 in
theorem w_c3 : (Jvm.Cond.code ({ cls := "java/lang/String", name := "<init>", desc := "([CIILjava/lang/Void;)V" } : Jvm.MethodName) jdk_42_method_149_code (6 : Nat) (Option.none : Option Jvm.ClassFile.FieldType)).before args0 about1 = true := code_word (m := ⟨7, 6⟩) (meth := k7m6) (c := k7c6) (by decide +kernel) rfl rfl rfl (by decide +kernel)
set_option maxRecDepth 65536 in
theorem w_c4 : (Jvm.Cond.code ({ cls := "java/lang/Object", name := "<init>", desc := "()V" } : Jvm.MethodName) object_method_1_code (1 : Nat) (Option.none : Option Jvm.ClassFile.FieldType)).before args0 about1 = true := code_word (m := ⟨0, 0⟩) (meth := k0m0) (c := k0c0) (by decide +kernel) rfl rfl rfl (by decide +kernel)
set_option maxRecDepth 65536 in
theorem w_c5 : (Jvm.Cond.code ({ cls := "com/example/vidare/vidare/core/Gate", name := "pauseReason", desc := "(Ljava/lang/String;Ljava/lang/String;)Ljava/lang/String;" } : Jvm.MethodName) prog_11_method_2_code (2 : Nat) (Option.some (Jvm.ClassFile.FieldType.object "java/lang/String"))).before args0 about1 = true := code_word (m := ⟨8, 1⟩) (meth := k8m1) (c := k8c1) (by decide +kernel) rfl rfl rfl (by decide +kernel)
set_option maxRecDepth 65536 in
theorem w_c6 : (Jvm.Cond.code ({ cls := "java/lang/StringBuilder", name := "<init>", desc := "()V" } : Jvm.MethodName) jdk_67_method_1_code (1 : Nat) (Option.none : Option Jvm.ClassFile.FieldType)).before args0 about1 = true := code_word (m := ⟨11, 0⟩) (meth := k11m0) (c := k11c0) (by decide +kernel) rfl rfl rfl (by decide +kernel)
set_option maxRecDepth 65536 in
theorem w_c7 : (Jvm.Cond.code ({ cls := "java/lang/AbstractStringBuilder", name := "<init>", desc := "(I)V" } : Jvm.MethodName) jdk_68_method_2_code (2 : Nat) (Option.none : Option Jvm.ClassFile.FieldType)).before args0 about1 = true := code_word (m := ⟨10, 1⟩) (meth := k10m1) (c := k10c1) (by decide +kernel) rfl rfl rfl (by decide +kernel)
set_option maxRecDepth 65536 in
theorem w_c8 : (Jvm.Cond.code ({ cls := "java/lang/StringBuilder", name := "append", desc := "(Ljava/lang/String;)Ljava/lang/StringBuilder;" } : Jvm.MethodName) jdk_67_method_7_code (2 : Nat) (Option.some (Jvm.ClassFile.FieldType.object "java/lang/StringBuilder"))).before args0 about1 = true := code_word (m := ⟨11, 1⟩) (meth := k11m1) (c := k11c1) (by decide +kernel) rfl rfl rfl (by decide +kernel)
set_option maxRecDepth 65536 in
theorem w_c9 : (Jvm.Cond.code ({ cls := "java/lang/AbstractStringBuilder", name := "append", desc := "(Ljava/lang/String;)Ljava/lang/AbstractStringBuilder;" } : Jvm.MethodName) jdk_68_method_22_code (3 : Nat) (Option.some (Jvm.ClassFile.FieldType.object "java/lang/AbstractStringBuilder"))).before args0 about1 = true := code_word (m := ⟨10, 5⟩) (meth := k10m5) (c := k10c5) (by decide +kernel) rfl rfl rfl (by decide +kernel)
set_option maxRecDepth 65536 in
theorem w_c10 : (Jvm.Cond.code ({ cls := "java/lang/String", name := "length", desc := "()I" } : Jvm.MethodName) jdk_42_method_54_code (1 : Nat) (Option.some Jvm.ClassFile.FieldType.int)).before args0 about1 = true := code_word (m := ⟨7, 3⟩) (meth := k7m3) (c := k7c3) (by decide +kernel) rfl rfl rfl (by decide +kernel)
set_option maxRecDepth 65536 in
theorem w_c11 : (Jvm.Cond.code ({ cls := "java/lang/String", name := "coder", desc := "()B" } : Jvm.MethodName) jdk_42_method_152_code (1 : Nat) (Option.some Jvm.ClassFile.FieldType.byte)).before args0 about1 = true := code_word (m := ⟨7, 8⟩) (meth := k7m8) (c := k7c8) (by decide +kernel) rfl rfl rfl (by decide +kernel)
set_option maxRecDepth 65536 in
theorem w_c12 : (Jvm.Cond.code ({ cls := "java/lang/AbstractStringBuilder", name := "ensureCapacityInternal", desc := "(I)V" } : Jvm.MethodName) jdk_68_method_9_code (3 : Nat) (Option.none : Option Jvm.ClassFile.FieldType)).before args0 about1 = true := code_word (m := ⟨10, 3⟩) (meth := k10m3) (c := k10c3) (by decide +kernel) rfl rfl rfl (by decide +kernel)
set_option maxRecDepth 65536 in
theorem w_c13 : (Jvm.Cond.code ({ cls := "java/lang/AbstractStringBuilder", name := "putStringAt", desc := "(ILjava/lang/String;)V" } : Jvm.MethodName) jdk_68_method_73_code (3 : Nat) (Option.none : Option Jvm.ClassFile.FieldType)).before args0 about1 = true := code_word (m := ⟨10, 9⟩) (meth := k10m9) (c := k10c9) (by decide +kernel) rfl rfl rfl (by decide +kernel)
set_option maxRecDepth 65536 in
theorem w_c14 : (Jvm.Cond.code ({ cls := "java/lang/AbstractStringBuilder", name := "inflateIfNeededFor", desc := "(Ljava/lang/String;)V" } : Jvm.MethodName) jdk_68_method_71_code (2 : Nat) (Option.none : Option Jvm.ClassFile.FieldType)).before args0 about1 = true := code_word (m := ⟨10, 8⟩) (meth := k10m8) (c := k10c8) (by decide +kernel) rfl rfl rfl (by decide +kernel)
set_option maxRecDepth 65536 in
theorem w_c15 : (Jvm.Cond.code ({ cls := "java/lang/String", name := "getBytes", desc := "([BIB)V" } : Jvm.MethodName) jdk_42_method_147_code (4 : Nat) (Option.none : Option Jvm.ClassFile.FieldType)).before args0 about1 = true := code_word (m := ⟨7, 5⟩) (meth := k7m5) (c := k7c5) (by decide +kernel) rfl rfl rfl (by decide +kernel)
set_option maxRecDepth 65536 in
theorem w_c16 : (Jvm.Cond.code ({ cls := "java/util/Objects", name := "requireNonNull", desc := "(Ljava/lang/Object;Ljava/lang/String;)Ljava/lang/Object;" } : Jvm.MethodName) jdk_31_method_11_code (2 : Nat) (Option.some (Jvm.ClassFile.FieldType.object "java/lang/Object"))).before args0 about1 = true := code_word (m := ⟨13, 1⟩) (meth := k13m1) (c := k13c1) (by decide +kernel) rfl rfl rfl (by decide +kernel)
set_option maxRecDepth 65536 in
theorem w_c17 : (Jvm.Cond.code ({ cls := "java/lang/StringBuilder", name := "toString", desc := "()Ljava/lang/String;" } : Jvm.MethodName) jdk_67_method_42_code (1 : Nat) (Option.some (Jvm.ClassFile.FieldType.object "java/lang/String"))).before args0 about1 = true := code_word (m := ⟨11, 2⟩) (meth := k11m2) (c := k11c2) (by decide +kernel) rfl rfl rfl (by decide +kernel)
set_option maxRecDepth 65536 in
theorem w_c18 : (Jvm.Cond.code ({ cls := "java/lang/String", name := "<init>", desc := "(Ljava/lang/StringBuilder;)V" } : Jvm.MethodName) jdk_42_method_53_code (2 : Nat) (Option.none : Option Jvm.ClassFile.FieldType)).before args0 about1 = true := code_word (m := ⟨7, 2⟩) (meth := k7m2) (c := k7c2) (by decide +kernel) rfl rfl rfl (by decide +kernel)
set_option maxRecDepth 65536 in
theorem w_c19 : (Jvm.Cond.code ({ cls := "java/lang/String", name := "<init>", desc := "(Ljava/lang/AbstractStringBuilder;Ljava/lang/Void;)V" } : Jvm.MethodName) jdk_42_method_150_code (5 : Nat) (Option.none : Option Jvm.ClassFile.FieldType)).before args0 about1 = true := code_word (m := ⟨7, 7⟩) (meth := k7m7) (c := k7c7) (by decide +kernel) rfl rfl rfl (by decide +kernel)
set_option maxRecDepth 65536 in
theorem w_c20 : (Jvm.Cond.code ({ cls := "java/lang/AbstractStringBuilder", name := "getValue", desc := "()[B" } : Jvm.MethodName) jdk_68_method_64_code (1 : Nat) (Option.some (Jvm.ClassFile.FieldType.array Jvm.ClassFile.FieldType.byte))).before args0 about1 = true := code_word (m := ⟨10, 6⟩) (meth := k10m6) (c := k10c6) (by decide +kernel) rfl rfl rfl (by decide +kernel)
set_option maxRecDepth 65536 in
theorem w_c21 : (Jvm.Cond.code ({ cls := "java/lang/StringBuilder", name := "length", desc := "()I" } : Jvm.MethodName) jdk_67_method_93_code (1 : Nat) (Option.some Jvm.ClassFile.FieldType.int)).before args0 about1 = true := code_word (m := ⟨11, 3⟩) (meth := k11m3) (c := k11c3) (by decide +kernel) rfl rfl rfl (by decide +kernel)
set_option maxRecDepth 65536 in
theorem w_c22 : (Jvm.Cond.code ({ cls := "java/lang/AbstractStringBuilder", name := "length", desc := "()I" } : Jvm.MethodName) jdk_68_method_6_code (1 : Nat) (Option.some Jvm.ClassFile.FieldType.int)).before args0 about1 = true := code_word (m := ⟨10, 2⟩) (meth := k10m2) (c := k10c2) (by decide +kernel) rfl rfl rfl (by decide +kernel)
set_option maxRecDepth 65536 in
theorem w_c23 : (Jvm.Cond.code ({ cls := "java/lang/AbstractStringBuilder", name := "isLatin1", desc := "()Z" } : Jvm.MethodName) jdk_68_method_68_code (1 : Nat) (Option.some Jvm.ClassFile.FieldType.boolean)).before args0 about1 = true := code_word (m := ⟨10, 7⟩) (meth := k10m7) (c := k10c7) (by decide +kernel) rfl rfl rfl (by decide +kernel)
set_option maxRecDepth 65536 in
theorem w_c24 : (Jvm.Cond.code ({ cls := "java/util/Arrays", name := "copyOfRange", desc := "([BII)[B" } : Jvm.MethodName) jdk_65_method_132_code (3 : Nat) (Option.some (Jvm.ClassFile.FieldType.array Jvm.ClassFile.FieldType.byte))).before args0 about1 = true := code_word (m := ⟨14, 2⟩) (meth := k14m2) (c := k14c2) (by decide +kernel) rfl rfl rfl (by decide +kernel)
set_option maxRecDepth 65536 in
theorem w_c25 : (Jvm.Cond.code ({ cls := "java/util/Arrays", name := "copyOfRangeByte", desc := "([BII)[B" } : Jvm.MethodName) jdk_65_method_133_code (5 : Nat) (Option.some (Jvm.ClassFile.FieldType.array Jvm.ClassFile.FieldType.byte))).before args0 about1 = true := code_word (m := ⟨14, 3⟩) (meth := k14m3) (c := k14c3) (by decide +kernel) rfl rfl rfl (by decide +kernel)
set_option maxRecDepth 65536 in
theorem w_c26 : (Jvm.Cond.code ({ cls := "java/util/Arrays", name := "checkLength", desc := "(II)V" } : Jvm.MethodName) jdk_65_method_131_code (2 : Nat) (Option.none : Option Jvm.ClassFile.FieldType)).before args0 about1 = true := code_word (m := ⟨14, 1⟩) (meth := k14m1) (c := k14c1) (by decide +kernel) rfl rfl rfl (by decide +kernel)
set_option maxRecDepth 65536 in
theorem w_c27 : (Jvm.Cond.code ({ cls := "java/lang/Math", name := "min", desc := "(II)I" } : Jvm.MethodName) jdk_29_method_69_code (2 : Nat) (Option.some Jvm.ClassFile.FieldType.int)).before args0 about1 = true := code_word (m := ⟨15, 1⟩) (meth := k15m1) (c := k15c1) (by decide +kernel) rfl rfl rfl (by decide +kernel)
set_option maxRecDepth 65536 in
theorem w_c28 : (Jvm.Cond.code ({ cls := "com/example/vidare/vidare/core/GatePauseReasonPinLaw", name := "ok", desc := "(Ljava/lang/String;IJJI)Z" } : Jvm.MethodName) method_5_code (7 : Nat) (Option.some Jvm.ClassFile.FieldType.boolean)).before args0 about1 = true := code_word (m := ⟨1, 4⟩) (meth := k1m4) (c := k1c4) (by decide +kernel) rfl rfl rfl (by decide +kernel)
set_option maxRecDepth 65536 in
theorem w_c29 : (Jvm.Cond.code ({ cls := "java/lang/String", name := "charAt", desc := "(I)C" } : Jvm.MethodName) jdk_42_method_56_code (2 : Nat) (Option.some Jvm.ClassFile.FieldType.char)).before args0 about1 = true := code_word (m := ⟨7, 4⟩) (meth := k7m4) (c := k7c4) (by decide +kernel) rfl rfl rfl (by decide +kernel)
set_option maxRecDepth 65536 in
theorem w_c30 : (Jvm.Cond.code ({ cls := "java/lang/String", name := "isLatin1", desc := "()Z" } : Jvm.MethodName) jdk_42_method_154_code (1 : Nat) (Option.some Jvm.ClassFile.FieldType.boolean)).before args0 about1 = true := code_word (m := ⟨7, 9⟩) (meth := k7m9) (c := k7c9) (by decide +kernel) rfl rfl rfl (by decide +kernel)
set_option maxRecDepth 65536 in
theorem w_c31 : (Jvm.Cond.code ({ cls := "java/lang/StringLatin1", name := "charAt", desc := "([BI)C" } : Jvm.MethodName) jdk_43_method_2_code (2 : Nat) (Option.some Jvm.ClassFile.FieldType.char)).before args0 about1 = true := code_word (m := ⟨16, 1⟩) (meth := k16m1) (c := k16c1) (by decide +kernel) rfl rfl rfl (by decide +kernel)
set_option maxRecDepth 65536 in
theorem w_c32 : (Jvm.Cond.code ({ cls := "java/lang/String", name := "checkIndex", desc := "(II)V" } : Jvm.MethodName) jdk_42_method_155_code (2 : Nat) (Option.none : Option Jvm.ClassFile.FieldType)).before args0 about1 = true := code_word (m := ⟨7, 10⟩) (meth := k7m10) (c := k7c10) (by decide +kernel) rfl rfl rfl (by decide +kernel)
set_option maxRecDepth 65536 in
theorem w_c33 : (Jvm.Cond.code ({ cls := "jdk/internal/util/Preconditions", name := "checkIndex", desc := "(IILjava/util/function/BiFunction;)I" } : Jvm.MethodName) jdk_41_method_11_code (3 : Nat) (Option.some Jvm.ClassFile.FieldType.int)).before args0 about1 = true := code_word (m := ⟨17, 1⟩) (meth := k17m1) (c := k17c1) (by decide +kernel) rfl rfl rfl (by decide +kernel)
set_option maxRecDepth 65536 in
theorem w_c34 : (Jvm.Cond.code ({ cls := "com/example/vidare/vidare/core/GatePauseReasonPinLaw", name := "expected", desc := "(IJJI)C" } : Jvm.MethodName) method_6_code (6 : Nat) (Option.some Jvm.ClassFile.FieldType.char)).before args0 about1 = true := code_word (m := ⟨1, 5⟩) (meth := k1m5) (c := k1c5) (by decide +kernel) rfl rfl rfl (by decide +kernel)
set_option maxRecDepth 65536 in
theorem w_c35 : (Jvm.Cond.code ({ cls := "com/example/vidare/vidare/core/GatePauseReasonPinLaw", name := "ch", desc := "(JI)C" } : Jvm.MethodName) method_3_code (3 : Nat) (Option.some Jvm.ClassFile.FieldType.char)).before args0 about1 = true := code_word (m := ⟨1, 2⟩) (meth := k1m2) (c := k1c2) (by decide +kernel) rfl rfl rfl (by decide +kernel)
set_option maxRecDepth 65536 in
theorem w_c36 : (Jvm.Cond.code ({ cls := "java/lang/StringUTF16", name := "compress", desc := "([CII)[B" } : Jvm.MethodName) jdk_52_method_16_code (6 : Nat) (Option.some (Jvm.ClassFile.FieldType.array Jvm.ClassFile.FieldType.byte))).before args0 about1 = true := code_word (m := ⟨18, 8⟩) (meth := k18m8) (c := k18c8) (by decide +kernel) rfl rfl rfl (by decide +kernel)
set_option maxRecDepth 65536 in
theorem w_c37 : (Jvm.Cond.code ({ cls := "java/lang/StringUTF16", name := "compress", desc := "([CI[BII)I" } : Jvm.MethodName) jdk_52_method_21_code (7 : Nat) (Option.some Jvm.ClassFile.FieldType.int)).before args0 about1 = true := code_word (m := ⟨18, 9⟩) (meth := k18m9) (c := k18c9) (by decide +kernel) rfl rfl rfl (by decide +kernel)
set_option maxRecDepth 65536 in
theorem w_c38 : (Jvm.Cond.code ({ cls := "java/lang/StringUTF16", name := "coderFromArrayLen", desc := "([BI)B" } : Jvm.MethodName) jdk_52_method_15_code (2 : Nat) (Option.some Jvm.ClassFile.FieldType.byte)).before args0 about1 = true := code_word (m := ⟨18, 7⟩) (meth := k18m7) (c := k18c7) (by decide +kernel) rfl rfl rfl (by decide +kernel)
set_option maxRecDepth 65536 in
theorem w_c39 : (Jvm.Cond.code ({ cls := "java/lang/StringUTF16", name := "toBytes", desc := "([CII)[B" } : Jvm.MethodName) jdk_52_method_14_code (5 : Nat) (Option.some (Jvm.ClassFile.FieldType.array Jvm.ClassFile.FieldType.byte))).before args0 about1 = true := code_word (m := ⟨18, 6⟩) (meth := k18m6) (c := k18c6) (by decide +kernel) rfl rfl rfl (by decide +kernel)
set_option maxRecDepth 65536 in
theorem w_c40 : (Jvm.Cond.code ({ cls := "java/lang/StringUTF16", name := "newBytesFor", desc := "(I)[B" } : Jvm.MethodName) jdk_52_method_2_code (1 : Nat) (Option.some (Jvm.ClassFile.FieldType.array Jvm.ClassFile.FieldType.byte))).before args0 about1 = true := code_word (m := ⟨18, 1⟩) (meth := k18m1) (c := k18c1) (by decide +kernel) rfl rfl rfl (by decide +kernel)
set_option maxRecDepth 65536 in
theorem w_c41 : (Jvm.Cond.code ({ cls := "java/lang/StringUTF16", name := "newBytesLength", desc := "(I)I" } : Jvm.MethodName) jdk_52_method_3_code (1 : Nat) (Option.some Jvm.ClassFile.FieldType.int)).before args0 about1 = true := code_word (m := ⟨18, 2⟩) (meth := k18m2) (c := k18c2) (by decide +kernel) rfl rfl rfl (by decide +kernel)
set_option maxRecDepth 65536 in
theorem w_c42 : (Jvm.Cond.code ({ cls := "java/lang/StringUTF16", name := "putChar", desc := "([BII)V" } : Jvm.MethodName) jdk_52_method_4_code (3 : Nat) (Option.none : Option Jvm.ClassFile.FieldType)).before args0 about1 = true := code_word (m := ⟨18, 3⟩) (meth := k18m3) (c := k18c3) (by decide +kernel) rfl rfl rfl (by decide +kernel)
set_option maxRecDepth 65536 in
theorem w_c43 : (Jvm.Cond.code ({ cls := "java/lang/StringUTF16", name := "getChar", desc := "([BI)C" } : Jvm.MethodName) jdk_52_method_5_code (2 : Nat) (Option.some Jvm.ClassFile.FieldType.char)).before args0 about1 = true := code_word (m := ⟨18, 4⟩) (meth := k18m4) (c := k18c4) (by decide +kernel) rfl rfl rfl (by decide +kernel)
set_option maxRecDepth 65536 in
theorem w_c44 : (Jvm.Cond.code ({ cls := "java/lang/AbstractStringBuilder", name := "inflate", desc := "()V" } : Jvm.MethodName) jdk_68_method_11_code (2 : Nat) (Option.none : Option Jvm.ClassFile.FieldType)).before args0 about1 = true := code_word (m := ⟨10, 4⟩) (meth := k10m4) (c := k10c4) (by decide +kernel) rfl rfl rfl (by decide +kernel)
set_option maxRecDepth 65536 in
theorem w_c45 : (Jvm.Cond.code ({ cls := "java/lang/StringLatin1", name := "inflate", desc := "([BI[BII)V" } : Jvm.MethodName) jdk_43_method_50_code (5 : Nat) (Option.none : Option Jvm.ClassFile.FieldType)).before args0 about1 = true := code_word (m := ⟨16, 2⟩) (meth := k16m2) (c := k16c2) (by decide +kernel) rfl rfl rfl (by decide +kernel)
set_option maxRecDepth 65536 in
theorem w_c46 : (Jvm.Cond.code ({ cls := "java/lang/StringUTF16", name := "inflate", desc := "([BI[BII)V" } : Jvm.MethodName) jdk_52_method_86_code (6 : Nat) (Option.none : Option Jvm.ClassFile.FieldType)).before args0 about1 = true := code_word (m := ⟨18, 11⟩) (meth := k18m11) (c := k18c11) (by decide +kernel) rfl rfl rfl (by decide +kernel)
set_option maxRecDepth 65536 in
theorem w_c47 : (Jvm.Cond.code ({ cls := "java/lang/StringUTF16", name := "checkBoundsOffCount", desc := "(II[B)V" } : Jvm.MethodName) jdk_52_method_94_code (3 : Nat) (Option.none : Option Jvm.ClassFile.FieldType)).before args0 about1 = true := code_word (m := ⟨18, 13⟩) (meth := k18m13) (c := k18c13) (by decide +kernel) rfl rfl rfl (by decide +kernel)
set_option maxRecDepth 65536 in
theorem w_c48 : (Jvm.Cond.code ({ cls := "java/lang/StringUTF16", name := "length", desc := "([B)I" } : Jvm.MethodName) jdk_52_method_6_code (1 : Nat) (Option.some Jvm.ClassFile.FieldType.int)).before args0 about1 = true := code_word (m := ⟨18, 5⟩) (meth := k18m5) (c := k18c5) (by decide +kernel) rfl rfl rfl (by decide +kernel)
set_option maxRecDepth 65536 in
theorem w_c49 : (Jvm.Cond.code ({ cls := "java/lang/String", name := "checkBoundsOffCount", desc := "(III)I" } : Jvm.MethodName) jdk_42_method_157_code (3 : Nat) (Option.some Jvm.ClassFile.FieldType.int)).before args0 about1 = true := code_word (m := ⟨7, 11⟩) (meth := k7m11) (c := k7c11) (by decide +kernel) rfl rfl rfl (by decide +kernel)
set_option maxRecDepth 65536 in
theorem w_c50 : (Jvm.Cond.code ({ cls := "jdk/internal/util/Preconditions", name := "checkFromIndexSize", desc := "(IIILjava/util/function/BiFunction;)I" } : Jvm.MethodName) jdk_41_method_13_code (4 : Nat) (Option.some Jvm.ClassFile.FieldType.int)).before args0 about1 = true := code_word (m := ⟨17, 2⟩) (meth := k17m2) (c := k17c2) (by decide +kernel) rfl rfl rfl (by decide +kernel)
set_option maxRecDepth 65536 in
theorem w_c51 : (Jvm.Cond.code ({ cls := "java/lang/StringUTF16", name := "charAt", desc := "([BI)C" } : Jvm.MethodName) jdk_52_method_83_code (2 : Nat) (Option.some Jvm.ClassFile.FieldType.char)).before args0 about1 = true := code_word (m := ⟨18, 10⟩) (meth := k18m10) (c := k18c10) (by decide +kernel) rfl rfl rfl (by decide +kernel)
set_option maxRecDepth 65536 in
theorem w_c52 : (Jvm.Cond.code ({ cls := "java/lang/StringUTF16", name := "checkIndex", desc := "(I[B)V" } : Jvm.MethodName) jdk_52_method_91_code (2 : Nat) (Option.none : Option Jvm.ClassFile.FieldType)).before args0 about1 = true := code_word (m := ⟨18, 12⟩) (meth := k18m12) (c := k18c12) (by decide +kernel) rfl rfl rfl (by decide +kernel)
def codes1 : List Jvm.Cond := [Jvm.Cond.code x code maxLocals ret, Jvm.Cond.code ({ cls := "com/example/vidare/vidare/core/GatePauseReasonPinLaw", name := "mk", desc := "(JI)Ljava/lang/String;" } : Jvm.MethodName) method_4_code (4 : Nat) (Option.some (Jvm.ClassFile.FieldType.object "java/lang/String")), Jvm.Cond.code ({ cls := "java/lang/String", name := "<init>", desc := "([C)V" } : Jvm.MethodName) jdk_42_method_3_code (2 : Nat) (Option.none : Option Jvm.ClassFile.FieldType), Jvm.Cond.code ({ cls := "java/lang/String", name := "<init>", desc := "([CIILjava/lang/Void;)V" } : Jvm.MethodName) jdk_42_method_149_code (6 : Nat) (Option.none : Option Jvm.ClassFile.FieldType), Jvm.Cond.code ({ cls := "java/lang/Object", name := "<init>", desc := "()V" } : Jvm.MethodName) object_method_1_code (1 : Nat) (Option.none : Option Jvm.ClassFile.FieldType), Jvm.Cond.code ({ cls := "com/example/vidare/vidare/core/Gate", name := "pauseReason", desc := "(Ljava/lang/String;Ljava/lang/String;)Ljava/lang/String;" } : Jvm.MethodName) prog_11_method_2_code (2 : Nat) (Option.some (Jvm.ClassFile.FieldType.object "java/lang/String")), Jvm.Cond.code ({ cls := "java/lang/StringBuilder", name := "<init>", desc := "()V" } : Jvm.MethodName) jdk_67_method_1_code (1 : Nat) (Option.none : Option Jvm.ClassFile.FieldType), Jvm.Cond.code ({ cls := "java/lang/AbstractStringBuilder", name := "<init>", desc := "(I)V" } : Jvm.MethodName) jdk_68_method_2_code (2 : Nat) (Option.none : Option Jvm.ClassFile.FieldType), Jvm.Cond.code ({ cls := "java/lang/StringBuilder", name := "append", desc := "(Ljava/lang/String;)Ljava/lang/StringBuilder;" } : Jvm.MethodName) jdk_67_method_7_code (2 : Nat) (Option.some (Jvm.ClassFile.FieldType.object "java/lang/StringBuilder")), Jvm.Cond.code ({ cls := "java/lang/AbstractStringBuilder", name := "append", desc := "(Ljava/lang/String;)Ljava/lang/AbstractStringBuilder;" } : Jvm.MethodName) jdk_68_method_22_code (3 : Nat) (Option.some (Jvm.ClassFile.FieldType.object "java/lang/AbstractStringBuilder")), Jvm.Cond.code ({ cls := "java/lang/String", name := "length", desc := "()I" } : Jvm.MethodName) jdk_42_method_54_code (1 : Nat) (Option.some Jvm.ClassFile.FieldType.int), Jvm.Cond.code ({ cls := "java/lang/String", name := "coder", desc := "()B" } : Jvm.MethodName) jdk_42_method_152_code (1 : Nat) (Option.some Jvm.ClassFile.FieldType.byte), Jvm.Cond.code ({ cls := "java/lang/AbstractStringBuilder", name := "ensureCapacityInternal", desc := "(I)V" } : Jvm.MethodName) jdk_68_method_9_code (3 : Nat) (Option.none : Option Jvm.ClassFile.FieldType), Jvm.Cond.code ({ cls := "java/lang/AbstractStringBuilder", name := "putStringAt", desc := "(ILjava/lang/String;)V" } : Jvm.MethodName) jdk_68_method_73_code (3 : Nat) (Option.none : Option Jvm.ClassFile.FieldType), Jvm.Cond.code ({ cls := "java/lang/AbstractStringBuilder", name := "inflateIfNeededFor", desc := "(Ljava/lang/String;)V" } : Jvm.MethodName) jdk_68_method_71_code (2 : Nat) (Option.none : Option Jvm.ClassFile.FieldType), Jvm.Cond.code ({ cls := "java/lang/String", name := "getBytes", desc := "([BIB)V" } : Jvm.MethodName) jdk_42_method_147_code (4 : Nat) (Option.none : Option Jvm.ClassFile.FieldType), Jvm.Cond.code ({ cls := "java/util/Objects", name := "requireNonNull", desc := "(Ljava/lang/Object;Ljava/lang/String;)Ljava/lang/Object;" } : Jvm.MethodName) jdk_31_method_11_code (2 : Nat) (Option.some (Jvm.ClassFile.FieldType.object "java/lang/Object")), Jvm.Cond.code ({ cls := "java/lang/StringBuilder", name := "toString", desc := "()Ljava/lang/String;" } : Jvm.MethodName) jdk_67_method_42_code (1 : Nat) (Option.some (Jvm.ClassFile.FieldType.object "java/lang/String")), Jvm.Cond.code ({ cls := "java/lang/String", name := "<init>", desc := "(Ljava/lang/StringBuilder;)V" } : Jvm.MethodName) jdk_42_method_53_code (2 : Nat) (Option.none : Option Jvm.ClassFile.FieldType), Jvm.Cond.code ({ cls := "java/lang/String", name := "<init>", desc := "(Ljava/lang/AbstractStringBuilder;Ljava/lang/Void;)V" } : Jvm.MethodName) jdk_42_method_150_code (5 : Nat) (Option.none : Option Jvm.ClassFile.FieldType), Jvm.Cond.code ({ cls := "java/lang/AbstractStringBuilder", name := "getValue", desc := "()[B" } : Jvm.MethodName) jdk_68_method_64_code (1 : Nat) (Option.some (Jvm.ClassFile.FieldType.array Jvm.ClassFile.FieldType.byte)), Jvm.Cond.code ({ cls := "java/lang/StringBuilder", name := "length", desc := "()I" } : Jvm.MethodName) jdk_67_method_93_code (1 : Nat) (Option.some Jvm.ClassFile.FieldType.int), Jvm.Cond.code ({ cls := "java/lang/AbstractStringBuilder", name := "length", desc := "()I" } : Jvm.MethodName) jdk_68_method_6_code (1 : Nat) (Option.some Jvm.ClassFile.FieldType.int), Jvm.Cond.code ({ cls := "java/lang/AbstractStringBuilder", name := "isLatin1", desc := "()Z" } : Jvm.MethodName) jdk_68_method_68_code (1 : Nat) (Option.some Jvm.ClassFile.FieldType.boolean), Jvm.Cond.code ({ cls := "java/util/Arrays", name := "copyOfRange", desc := "([BII)[B" } : Jvm.MethodName) jdk_65_method_132_code (3 : Nat) (Option.some (Jvm.ClassFile.FieldType.array Jvm.ClassFile.FieldType.byte)), Jvm.Cond.code ({ cls := "java/util/Arrays", name := "copyOfRangeByte", desc := "([BII)[B" } : Jvm.MethodName) jdk_65_method_133_code (5 : Nat) (Option.some (Jvm.ClassFile.FieldType.array Jvm.ClassFile.FieldType.byte)), Jvm.Cond.code ({ cls := "java/util/Arrays", name := "checkLength", desc := "(II)V" } : Jvm.MethodName) jdk_65_method_131_code (2 : Nat) (Option.none : Option Jvm.ClassFile.FieldType), Jvm.Cond.code ({ cls := "java/lang/Math", name := "min", desc := "(II)I" } : Jvm.MethodName) jdk_29_method_69_code (2 : Nat) (Option.some Jvm.ClassFile.FieldType.int), Jvm.Cond.code ({ cls := "com/example/vidare/vidare/core/GatePauseReasonPinLaw", name := "ok", desc := "(Ljava/lang/String;IJJI)Z" } : Jvm.MethodName) method_5_code (7 : Nat) (Option.some Jvm.ClassFile.FieldType.boolean), Jvm.Cond.code ({ cls := "java/lang/String", name := "charAt", desc := "(I)C" } : Jvm.MethodName) jdk_42_method_56_code (2 : Nat) (Option.some Jvm.ClassFile.FieldType.char), Jvm.Cond.code ({ cls := "java/lang/String", name := "isLatin1", desc := "()Z" } : Jvm.MethodName) jdk_42_method_154_code (1 : Nat) (Option.some Jvm.ClassFile.FieldType.boolean), Jvm.Cond.code ({ cls := "java/lang/StringLatin1", name := "charAt", desc := "([BI)C" } : Jvm.MethodName) jdk_43_method_2_code (2 : Nat) (Option.some Jvm.ClassFile.FieldType.char), Jvm.Cond.code ({ cls := "java/lang/String", name := "checkIndex", desc := "(II)V" } : Jvm.MethodName) jdk_42_method_155_code (2 : Nat) (Option.none : Option Jvm.ClassFile.FieldType), Jvm.Cond.code ({ cls := "jdk/internal/util/Preconditions", name := "checkIndex", desc := "(IILjava/util/function/BiFunction;)I" } : Jvm.MethodName) jdk_41_method_11_code (3 : Nat) (Option.some Jvm.ClassFile.FieldType.int), Jvm.Cond.code ({ cls := "com/example/vidare/vidare/core/GatePauseReasonPinLaw", name := "expected", desc := "(IJJI)C" } : Jvm.MethodName) method_6_code (6 : Nat) (Option.some Jvm.ClassFile.FieldType.char), Jvm.Cond.code ({ cls := "com/example/vidare/vidare/core/GatePauseReasonPinLaw", name := "ch", desc := "(JI)C" } : Jvm.MethodName) method_3_code (3 : Nat) (Option.some Jvm.ClassFile.FieldType.char), Jvm.Cond.code ({ cls := "java/lang/StringUTF16", name := "compress", desc := "([CII)[B" } : Jvm.MethodName) jdk_52_method_16_code (6 : Nat) (Option.some (Jvm.ClassFile.FieldType.array Jvm.ClassFile.FieldType.byte)), Jvm.Cond.code ({ cls := "java/lang/StringUTF16", name := "compress", desc := "([CI[BII)I" } : Jvm.MethodName) jdk_52_method_21_code (7 : Nat) (Option.some Jvm.ClassFile.FieldType.int), Jvm.Cond.code ({ cls := "java/lang/StringUTF16", name := "coderFromArrayLen", desc := "([BI)B" } : Jvm.MethodName) jdk_52_method_15_code (2 : Nat) (Option.some Jvm.ClassFile.FieldType.byte), Jvm.Cond.code ({ cls := "java/lang/StringUTF16", name := "toBytes", desc := "([CII)[B" } : Jvm.MethodName) jdk_52_method_14_code (5 : Nat) (Option.some (Jvm.ClassFile.FieldType.array Jvm.ClassFile.FieldType.byte)), Jvm.Cond.code ({ cls := "java/lang/StringUTF16", name := "newBytesFor", desc := "(I)[B" } : Jvm.MethodName) jdk_52_method_2_code (1 : Nat) (Option.some (Jvm.ClassFile.FieldType.array Jvm.ClassFile.FieldType.byte)), Jvm.Cond.code ({ cls := "java/lang/StringUTF16", name := "newBytesLength", desc := "(I)I" } : Jvm.MethodName) jdk_52_method_3_code (1 : Nat) (Option.some Jvm.ClassFile.FieldType.int), Jvm.Cond.code ({ cls := "java/lang/StringUTF16", name := "putChar", desc := "([BII)V" } : Jvm.MethodName) jdk_52_method_4_code (3 : Nat) (Option.none : Option Jvm.ClassFile.FieldType), Jvm.Cond.code ({ cls := "java/lang/StringUTF16", name := "getChar", desc := "([BI)C" } : Jvm.MethodName) jdk_52_method_5_code (2 : Nat) (Option.some Jvm.ClassFile.FieldType.char), Jvm.Cond.code ({ cls := "java/lang/AbstractStringBuilder", name := "inflate", desc := "()V" } : Jvm.MethodName) jdk_68_method_11_code (2 : Nat) (Option.none : Option Jvm.ClassFile.FieldType), Jvm.Cond.code ({ cls := "java/lang/StringLatin1", name := "inflate", desc := "([BI[BII)V" } : Jvm.MethodName) jdk_43_method_50_code (5 : Nat) (Option.none : Option Jvm.ClassFile.FieldType), Jvm.Cond.code ({ cls := "java/lang/StringUTF16", name := "inflate", desc := "([BI[BII)V" } : Jvm.MethodName) jdk_52_method_86_code (6 : Nat) (Option.none : Option Jvm.ClassFile.FieldType), Jvm.Cond.code ({ cls := "java/lang/StringUTF16", name := "checkBoundsOffCount", desc := "(II[B)V" } : Jvm.MethodName) jdk_52_method_94_code (3 : Nat) (Option.none : Option Jvm.ClassFile.FieldType), Jvm.Cond.code ({ cls := "java/lang/StringUTF16", name := "length", desc := "([B)I" } : Jvm.MethodName) jdk_52_method_6_code (1 : Nat) (Option.some Jvm.ClassFile.FieldType.int), Jvm.Cond.code ({ cls := "java/lang/String", name := "checkBoundsOffCount", desc := "(III)I" } : Jvm.MethodName) jdk_42_method_157_code (3 : Nat) (Option.some Jvm.ClassFile.FieldType.int), Jvm.Cond.code ({ cls := "jdk/internal/util/Preconditions", name := "checkFromIndexSize", desc := "(IIILjava/util/function/BiFunction;)I" } : Jvm.MethodName) jdk_41_method_13_code (4 : Nat) (Option.some Jvm.ClassFile.FieldType.int), Jvm.Cond.code ({ cls := "java/lang/StringUTF16", name := "charAt", desc := "([BI)C" } : Jvm.MethodName) jdk_52_method_83_code (2 : Nat) (Option.some Jvm.ClassFile.FieldType.char), Jvm.Cond.code ({ cls := "java/lang/StringUTF16", name := "checkIndex", desc := "(I[B)V" } : Jvm.MethodName) jdk_52_method_91_code (2 : Nat) (Option.none : Option Jvm.ClassFile.FieldType)]
set_option maxRecDepth 65536 in
theorem codes_eq : words1.filter isCode = codes1 := rfl
theorem w_codes : ∀ c ∈ words1.filter isCode, c.before args0 about1 = true := by
  rw [codes_eq]
  intro c hc
  simp only [codes1, List.mem_cons, List.not_mem_nil, or_false] at hc
  rcases hc with rfl | rfl | rfl | rfl | rfl | rfl | rfl | rfl | rfl | rfl | rfl | rfl | rfl | rfl | rfl | rfl | rfl | rfl | rfl | rfl | rfl | rfl | rfl | rfl | rfl | rfl | rfl | rfl | rfl | rfl | rfl | rfl | rfl | rfl | rfl | rfl | rfl | rfl | rfl | rfl | rfl | rfl | rfl | rfl | rfl | rfl | rfl | rfl | rfl | rfl | rfl | rfl | rfl
  · exact w_c0
  · exact w_c1
  · exact w_c2
  · exact w_c3
  · exact w_c4
  · exact w_c5
  · exact w_c6
  · exact w_c7
  · exact w_c8
  · exact w_c9
  · exact w_c10
  · exact w_c11
  · exact w_c12
  · exact w_c13
  · exact w_c14
  · exact w_c15
  · exact w_c16
  · exact w_c17
  · exact w_c18
  · exact w_c19
  · exact w_c20
  · exact w_c21
  · exact w_c22
  · exact w_c23
  · exact w_c24
  · exact w_c25
  · exact w_c26
  · exact w_c27
  · exact w_c28
  · exact w_c29
  · exact w_c30
  · exact w_c31
  · exact w_c32
  · exact w_c33
  · exact w_c34
  · exact w_c35
  · exact w_c36
  · exact w_c37
  · exact w_c38
  · exact w_c39
  · exact w_c40
  · exact w_c41
  · exact w_c42
  · exact w_c43
  · exact w_c44
  · exact w_c45
  · exact w_c46
  · exact w_c47
  · exact w_c48
  · exact w_c49
  · exact w_c50
  · exact w_c51
  · exact w_c52
set_option maxRecDepth 65536 in
theorem w_t1 : (words1.take 24).all (fun c => isCode c || c.before args0 about1) = true := by decide +kernel
set_option maxRecDepth 65536 in
theorem w_t2 : ((words1.drop 24).take 24).all (fun c => isCode c || c.before args0 about1) = true := by decide +kernel
set_option maxRecDepth 65536 in
theorem w_t3 : (((words1.drop 24).drop 24).take 24).all (fun c => isCode c || c.before args0 about1) = true := by decide +kernel
set_option maxRecDepth 65536 in
theorem w_t4 : ((((words1.drop 24).drop 24).drop 24).take 24).all (fun c => isCode c || c.before args0 about1) = true := by decide +kernel
set_option maxRecDepth 65536 in
theorem w_t5 : (((((words1.drop 24).drop 24).drop 24).drop 24).take 24).all (fun c => isCode c || c.before args0 about1) = true := by decide +kernel
set_option maxRecDepth 65536 in
theorem w_t6 : ((((((words1.drop 24).drop 24).drop 24).drop 24).drop 24).take 24).all (fun c => isCode c || c.before args0 about1) = true := by decide +kernel
set_option maxRecDepth 65536 in
theorem w_t7 : (((((((words1.drop 24).drop 24).drop 24).drop 24).drop 24).drop 24).take 24).all (fun c => isCode c || c.before args0 about1) = true := by decide +kernel
set_option maxRecDepth 65536 in
theorem w_t8 : ((((((((words1.drop 24).drop 24).drop 24).drop 24).drop 24).drop 24).drop 24).take 24).all (fun c => isCode c || c.before args0 about1) = true := by decide +kernel
set_option maxRecDepth 65536 in
theorem w_t9 : (((((((((words1.drop 24).drop 24).drop 24).drop 24).drop 24).drop 24).drop 24).drop 24).take 24).all (fun c => isCode c || c.before args0 about1) = true := by decide +kernel
set_option maxRecDepth 65536 in
theorem w_t10 : ((((((((((words1.drop 24).drop 24).drop 24).drop 24).drop 24).drop 24).drop 24).drop 24).drop 24).take 24).all (fun c => isCode c || c.before args0 about1) = true := by decide +kernel
set_option maxRecDepth 65536 in
theorem w_t11 : ((((((((((words1.drop 24).drop 24).drop 24).drop 24).drop 24).drop 24).drop 24).drop 24).drop 24).drop 24).all (fun c => isCode c || c.before args0 about1) = true := by decide +kernel
theorem w_tables : (allAtoms (Jvm.Cond.code x code maxLocals ret :: tables_1)).before args0 about1 = true := by
  rw [allAtoms_all]
  show words1.all (fun c => c.before args0 about1) = true
  refine all_split ?_ w_codes
  rw [← List.take_append_drop 24 words1, List.all_append, w_t1, ← List.take_append_drop 24 (words1.drop 24), List.all_append, w_t2, ← List.take_append_drop 24 ((words1.drop 24).drop 24), List.all_append, w_t3, ← List.take_append_drop 24 (((words1.drop 24).drop 24).drop 24), List.all_append, w_t4, ← List.take_append_drop 24 ((((words1.drop 24).drop 24).drop 24).drop 24), List.all_append, w_t5, ← List.take_append_drop 24 (((((words1.drop 24).drop 24).drop 24).drop 24).drop 24), List.all_append, w_t6, ← List.take_append_drop 24 ((((((words1.drop 24).drop 24).drop 24).drop 24).drop 24).drop 24), List.all_append, w_t7, ← List.take_append_drop 24 (((((((words1.drop 24).drop 24).drop 24).drop 24).drop 24).drop 24).drop 24), List.all_append, w_t8, ← List.take_append_drop 24 ((((((((words1.drop 24).drop 24).drop 24).drop 24).drop 24).drop 24).drop 24).drop 24), List.all_append, w_t9, ← List.take_append_drop 24 (((((((((words1.drop 24).drop 24).drop 24).drop 24).drop 24).drop 24).drop 24).drop 24).drop 24), List.all_append, w_t10, w_t11]
  rfl
set_option maxRecDepth 65536 in
theorem w_rest : rest_1_c.before args0 about1 = true := by decide +kernel
set_option maxRecDepth 65536 in
theorem w_case : (Jvm.Cond.and given_1 narrow_1).before args0 about1 = true := by decide +kernel
set_option maxRecDepth 65536 in
theorem w_consts : constsHeld consts_1 about1 := Jvm.Lit.constsHeldB_iff.mp (by decide +kernel)
theorem w_applies : (headSpec (Jvm.Cond.code x code maxLocals ret :: tables_1) room_1).applies x e0.platform about1 = true :=
  (Spec.applies_iff w_frames).mpr ⟨w_running, w_runnable, w_alone, w_named, w_hears, w_ripe, w_room, w_tables⟩
theorem atStart : AtStart classFile x code maxLocals ret World_1 tables_1 room_1 Calls_1 rest_1 Pre_1 launch0 p0 e0 about1 theMethod args0 below0 :=
  ⟨lists_1, trivial, launch0.admits_env _ _ _, launch0.least_env, fairChoices_fair.cas, fairChoices_fair.clock, w_frames, w_args, w_heap, w_applies, ⟨w_consts, trivial⟩, w_rest, w_case⟩
end start1
theorem witness_1 : WitnessClaimed_1 := ⟨start1.p0, start1.e0, start1.about1, start1.theMethod, start1.args0, start1.below0, start1.atStart⟩
end Jvm.Pilot.@@N@@
