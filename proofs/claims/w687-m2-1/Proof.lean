import JvmDerived
import JvmDerived.Pilot.@@N@@Statement
import JvmDerived.Pilot.@@N@@Code
set_option linter.unusedVariables false
set_option linter.unusedSimpArgs false
namespace Jvm.Pilot.@@N@@
open Jvm Jvm.ClassFile Sem Op Lib Jvm.Free Jvm.Stand Jvm.LawKit Jvm.RoadKit Bundle Jvm.Pilot.@@N@@.Jvm.D
section OwnKit
variable {p : Program} {l : Launch} {e : Env} {R : Room} {s : State} {m : MethodId} {args : Array Value} {below : List Frame} {meth : Method} {c : Code} {T : State} {locs : List Loc} {cells slots : Nat} {Z : State} {a0 : Array Value} {h : Heap} {Q : Option Value → Heap → List Loc → Prop} {k n : Nat} {vm : Vm} {k0 : Nat}
/-- from the state a the run comes to its end, and Q holds there; the table of strings may have grown -/
def GoW (p : Program) (e : Env) (below : List Frame) (s : State) (Q : Option Value → Heap → List Loc → Prop) (k n : Nat) (a : State) : Prop :=
  ∃ t o, Steps p.tables e below a t ∧ t.status = .running ∧ Ended t below o ∧ ∃ v L, o = .returned v ∧ Q v t.heap L ∧ ReturnedEndW s o t L k n
theorem GoW.step {a b : State} (st : ∀ t, Steps p.tables e below b t → Steps p.tables e below a t) (g : GoW p e below s Q k n b) : GoW p e below s Q k n a := by
  obtain ⟨t, o, h1, h2⟩ := g
  exact ⟨t, o, st t h1, h2⟩
theorem own_widen {t : State} {o : Outcome} {L : List Loc} {k' n' : Nat} (q : ReturnedEndW s o t L k n) (hk : k ≤ k') (hn : n ≤ n') : ReturnedEndW s o t L k' n' := ⟨q.1, q.2.1, q.2.2.1, q.2.2.2.mono hk hn⟩
theorem own_at {n : Nat} (eT : T.heap = h) (q : n ≤ h.size) : n ≤ T.heap.size := by rw [eT]; exact q
theorem GoW.out (X : Stand p l e R (s.setVm vm) m args below meth c T locs cells slots) (hx : p.tables.exec = Jvm.exec) (hlk : meth.locks = false) (hS : s.Since vm k0) (h0 : k0 ≤ T.heap.size) {pc : Nat} {Ls : Array Slot} {w : Value} {t : FieldType} {i : Instr} {rest : List Value} (hret : meth.sig.returnType = some t) (hn : narrow t w = w)
    (hi : (i = .ireturn ∧ (t = .int ∨ t = .boolean ∨ t = .byte ∨ t = .char ∨ t = .short) ∧ ∃ z, w = .int z) ∨ (i = .lreturn ∧ t = .long ∧ ∃ z, w = .long z) ∨ (i = .dreturn ∧ t = .double ∧ ∃ z, w = .double z) ∨ (i = .freturn ∧ t = .float ∧ ∃ z, w = .float z) ∨ (i = .areturn ∧ t.isReference = true ∧ w.isRef = true))
    (hd : decode c.code pc = .ok (i, 1)) (hq : Q (some w) T.heap locs) (hk : cells ≤ k) (hl : slots ≤ n) : GoW p e below s Q k n (T.setTop (mkF m pc Ls (w :: rest))) := by
  obtain ⟨fs, hr, hrun, hended, hE⟩ := X.leaveW hS h0 (v := some w) (fun h => by rw [hret] at h; cases h) hlk
  exact ⟨_, _, retOut X hx hret hn hi hd hr, hrun, hended, _, _, rfl, hq, own_widen hE hk hl⟩
theorem GoW.retI (X : Stand p l e R (s.setVm vm) m args below meth c T locs cells slots) (hx : p.tables.exec = Jvm.exec) (hlk : meth.locks = false) (hS : s.Since vm k0) (h0 : k0 ≤ T.heap.size) {pc : Nat} {Ls : Array Slot} {z : Int32} {rest : List Value} (hret : meth.sig.returnType = some .int) (hd : decode c.code pc = .ok (.ireturn, 1)) (hq : Q (some (.int z)) T.heap locs) (hk : cells ≤ k) (hl : slots ≤ n) : GoW p e below s Q k n (T.setTop (mkF m pc Ls (.int z :: rest))) :=
  GoW.out X hx hlk hS h0 hret rfl (Or.inl ⟨rfl, Or.inl rfl, z, rfl⟩) hd hq hk hl
theorem GoW.retJ (X : Stand p l e R (s.setVm vm) m args below meth c T locs cells slots) (hx : p.tables.exec = Jvm.exec) (hlk : meth.locks = false) (hS : s.Since vm k0) (h0 : k0 ≤ T.heap.size) {pc : Nat} {Ls : Array Slot} {z : Int64} {rest : List Value} (hret : meth.sig.returnType = some .long) (hd : decode c.code pc = .ok (.lreturn, 1)) (hq : Q (some (.long z)) T.heap locs) (hk : cells ≤ k) (hl : slots ≤ n) : GoW p e below s Q k n (T.setTop (mkF m pc Ls (.long z :: rest))) :=
  GoW.out X hx hlk hS h0 hret rfl (Or.inr (Or.inl ⟨rfl, rfl, z, rfl⟩)) hd hq hk hl
theorem own_narrow_ref {t : FieldType} {w : Value} (ht : t.isReference = true) : narrow t w = w := by cases t <;> first | (cases ht; done) | rfl | (cases w <;> rfl)
theorem GoW.retA (X : Stand p l e R (s.setVm vm) m args below meth c T locs cells slots) (hx : p.tables.exec = Jvm.exec) (hlk : meth.locks = false) (hS : s.Since vm k0) (h0 : k0 ≤ T.heap.size) {pc : Nat} {Ls : Array Slot} {w : Value} {t : FieldType} {rest : List Value} (hret : meth.sig.returnType = some t) (ht : t.isReference = true) (hw : w.isRef = true) (hd : decode c.code pc = .ok (.areturn, 1)) (hq : Q (some w) T.heap locs) (hk : cells ≤ k) (hl : slots ≤ n) : GoW p e below s Q k n (T.setTop (mkF m pc Ls (w :: rest))) :=
  GoW.out X hx hlk hS h0 hret (own_narrow_ref ht) (Or.inr (Or.inr (Or.inr (Or.inr ⟨rfl, ht, hw⟩)))) hd hq hk hl
theorem GoW.retN (X : Stand p l e R (s.setVm vm) m args below meth c T locs cells slots) (hx : p.tables.exec = Jvm.exec) (hlk : meth.locks = false) (hS : s.Since vm k0) (h0 : k0 ≤ T.heap.size) {pc : Nat} {Ls : Array Slot} {z : Int32} {t : FieldType} {rest : List Value} (hret : meth.sig.returnType = some t) (ht : t = .boolean ∨ t = .byte ∨ t = .char ∨ t = .short) (hd : decode c.code pc = .ok (.ireturn, 1)) (hq : Q (some (.int (nar t z))) T.heap locs) (hk : cells ≤ k) (hl : slots ≤ n) : GoW p e below s Q k n (T.setTop (mkF m pc Ls (.int z :: rest))) := by
  obtain ⟨fs, hr, hrun, hended, hE⟩ := X.leaveW hS h0 (v := some (.int (nar t z))) (fun h => by rw [hret] at h; cases h) hlk
  exact ⟨_, _, Jvm.RoadKit.retN X hx hret ht hd hr, hrun, hended, _, _, rfl, hq, own_widen hE hk hl⟩
theorem GoW.retV (X : Stand p l e R (s.setVm vm) m args below meth c T locs cells slots) (hx : p.tables.exec = Jvm.exec) (hlk : meth.locks = false) (hS : s.Since vm k0) (h0 : k0 ≤ T.heap.size) {pc : Nat} {Ls : Array Slot} (hret : meth.sig.returnType = none) (hd : decode c.code pc = .ok (.return_, 1)) (hq : Q none T.heap locs) (hk : cells ≤ k) (hl : slots ≤ n) : GoW p e below s Q k n (T.setTop (mkF m pc Ls [])) := by
  obtain ⟨fs, hr, hrun, hended, hE⟩ := X.leaveW hS h0 (v := none) (fun _ => rfl) hlk
  exact ⟨_, _, X.returnOut hx hret hd hr, hrun, hended, _, _, rfl, hq, own_widen hE hk hl⟩
theorem own_decT {x y : Value} (q : x = y) : decide (x = y) = true := decide_eq_true q
theorem own_decF {x y : Value} (q : ¬ x = y) : decide (x = y) = false := decide_eq_false q
/-- a body's contract: called with as' over the heap h it returns, and Q holds at the end -/
def ConW (l : Launch) (Z : State) (y : MethodName) (bytes : ByteArray) (maxL : Nat) (ret : Option FieldType) (rm : Room) (as' : Array Value) (h : Heap) (Q : Option Value → Heap → List Loc → Prop) : Prop :=
  ∀ ws : List Jvm.Cond, MetFree l y (head1 (Jvm.Cond.code y bytes maxL ret :: ws) rm) (fun a U => a = as' ∧ Z.Warmed39 U.vm ∧ U.heap = h) (fun _ _ _ _ _ => True) (fun _ U o U' => ∃ v L, o = .returned v ∧ Q v U'.heap L ∧ ReturnedEndW U o U' L rm.cells rm.slots)
theorem ConW.of {y : MethodName} {bytes : ByteArray} {maxL : Nat} {ret : Option FieldType} {rm : Room} {as' : Array Value} (hy : plainFor y = true)
    (body : ∀ (p : Program) (e : Env) (s : State) (m : MethodId) (below : List Frame) (meth : Method) (c : Code) (T : State),
      Stand p l e rm (s.setVm s.vm) m as' below meth c T [] 0 0 → p.tables.exec = Jvm.exec → c.code = bytes → c.maxLocals = maxL → meth.sig.returnType = ret → meth.locks = false →
      s.vm.findClass y.cls = some m.cls → meth.name = y.name → Z.Warmed39 s.vm → T.heap = h → s.Since s.vm h.size → GoW p e below s Q rm.cells rm.slots (T.setTop (entryFrame m as' maxL))) : ConW l Z y bytes maxL ret rm as' h Q := by
  intro ws
  refine MetFree.of_bodySF hy hisR ?_
  intro p e s m args below meth c s₁ Bd hml hP hK
  obtain ⟨rfl, hZ, hh⟩ := hP
  exact body p e s m below meth c s₁ (Stand.of_body Bd) Bd.exec Bd.bytes hml Bd.returns Bd.notSynchronized (findClass_of_methodNamed Bd.named) (name_of_methodNamed Bd.named Bd.method).1 hZ (by rw [← hh, Bd.state]; rfl) ((State.WarmedH.refl s).since _)
theorem GoW.callS (X : Stand p l e R (s.setVm vm) m args below meth c T locs cells slots) (hx : p.tables.exec = Jvm.exec) (hS : s.Since vm k0) (h0 : k0 ≤ h.size) (hZ : Z.Warmed39 vm) {own : String} {index : Nat} {y : MethodName} {bytes : ByteArray} {maxL : Nat} {ret : Option FieldType} {rm : Room} {Qc : Option Value → Heap → List Loc → Prop}
    (hown : vm.findClass own = some m.cls) (w1 : (Jvm.Cond.methodLink own index y).before a0 Z = true) (w2 : (Jvm.Cond.static y).before a0 Z = true) (w3 : (Jvm.Cond.initialized y.cls).before a0 Z = true) (w4 : (Jvm.Cond.code y bytes maxL ret).before a0 Z = true) (hy : y.cls ≠ "java/lang/invoke/MethodHandle" ∧ y.cls ≠ "java/lang/invoke/VarHandle")
    (eT : T.heap = h) (argsL rest : List Value) (W : Nat) (con : ConW l Z y bytes maxL ret rm argsL.toArray h Qc)
    (hf : rm.frames + 1 ≤ R.frames) (hl : W + (maxL + 11) + rm.locals ≤ R.locals) (hc : cells + rm.cells ≤ R.cells) (hs : slots + rm.slots ≤ R.slots)
    {pc : Nat} {Ls : Array Slot} {stk : List Value} (hsize : Ls.size = c.maxLocals) (hlen : ∀ sig, parseMethodDescriptor y.desc = some sig → argsL.length = sig.parameters.length) (hstk : stk = argsL.reverse ++ rest) (hW : (rest.map fun v => v.category).sum ≤ W)
    (hd : decode c.code pc = .ok (.invokestatic index, 3))
    (k1 : ∀ (T' : State) (v : Option Value) (Lc : List Loc), Stand p l e R (s.setVm T'.vm) m args below meth c T' (locs ++ Lc) (cells + rm.cells) (slots + rm.slots) → s.Since T'.vm T'.heap.size → Z.Warmed39 T'.vm → T'.vm.findClass own = some m.cls → Qc v T'.heap Lc → GoW p e below s Q k n (T'.setTop (mkF m (pc + 3) Ls (v.toList ++ rest)))) :
    GoW p e below s Q k n (T.setTop (mkF m pc Ls stk)) := by
  subst hstk eT
  obtain ⟨v, _, ⟨T', L', c', n'⟩, -, X', hS', hgr, ⟨Lc, hQ, l', y', z'⟩, st⟩ := callSS X hx (y := y) hown (mvT hZ w1) (mvT hZ w2) (mvT hZ w3) (mvT hZ w4) hy (backOfS (W := W) (con []) hZ w4 w3 hf hl) (g := mkF m pc Ls (argsL.reverse ++ rest)) rfl hsize (argsL := argsL) (rest := rest) hlen rfl (by show 2 * 0 + _ ≤ _; rw [Nat.mul_zero, Nat.zero_add]; exact hW) hd (fun _ _ => ⟨rfl, rfl, hc, hs⟩)
  dsimp only [Pt.U, Pt.locs, Pt.cells, Pt.slots] at X' hS' hgr l' y' z' st hQ
  subst l' y' z'
  obtain ⟨X2, hS2⟩ := X'.againW hS hS' (Nat.le_trans h0 hgr)
  exact GoW.step (fun t kk => st.trans kk) (k1 T' v Lc X2 hS2 (State.Warmed39.trans (t := s.setVm vm) hZ hS'.1) (by rw [hS'.1.alike.findClass]; exact hown) hQ)
theorem GoW.callV (X : Stand p l e R (s.setVm vm) m args below meth c T locs cells slots) (hx : p.tables.exec = Jvm.exec) (hS : s.Since vm k0) (h0 : k0 ≤ h.size) (hZ : Z.Warmed39 vm) {own C : String} {index : Nat} {y : MethodName} {bytes : ByteArray} {maxL : Nat} {ret : Option FieldType} {rm : Room} {Qc : Option Value → Heap → List Loc → Prop}
    (hown : vm.findClass own = some m.cls) (w1 : (Jvm.Cond.methodLink own index y).before a0 Z = true) (w2 : (Jvm.Cond.declares y).before a0 Z = true) (w3 : (Jvm.Cond.selects C y y).before a0 Z = true) (w4 : (Jvm.Cond.instanceMethod y).before a0 Z = true) (w5 : (Jvm.Cond.initialized y.cls).before a0 Z = true) (w6 : (Jvm.Cond.code y bytes maxL ret).before a0 Z = true) (hy : y.cls ≠ "java/lang/invoke/MethodHandle" ∧ y.cls ≠ "java/lang/invoke/VarHandle")
    (eT : T.heap = h) {b : Addr} (E : Exa Z h b C) (argsL rest : List Value) (W : Nat) (con : ConW l Z y bytes maxL ret rm (.ref b :: argsL).toArray h Qc)
    (hf : rm.frames + 1 ≤ R.frames) (hl : W + (maxL + 11) + rm.locals ≤ R.locals) (hc : cells + rm.cells ≤ R.cells) (hs : slots + rm.slots ≤ R.slots)
    {pc : Nat} {Ls : Array Slot} {stk : List Value} (hsize : Ls.size = c.maxLocals) (hlen : ∀ sig, parseMethodDescriptor y.desc = some sig → argsL.length = sig.parameters.length) (hstk : stk = argsL.reverse ++ .ref b :: rest) (hW : (rest.map fun v => v.category).sum ≤ W)
    (hd : decode c.code pc = .ok (.invokevirtual index, 3))
    (k1 : ∀ (T' : State) (v : Option Value) (Lc : List Loc), Stand p l e R (s.setVm T'.vm) m args below meth c T' (locs ++ Lc) (cells + rm.cells) (slots + rm.slots) → s.Since T'.vm T'.heap.size → Z.Warmed39 T'.vm → T'.vm.findClass own = some m.cls → Qc v T'.heap Lc → GoW p e below s Q k n (T'.setTop (mkF m (pc + 3) Ls (v.toList ++ rest)))) :
    GoW p e below s Q k n (T.setTop (mkF m pc Ls stk)) := by
  subst hstk eT
  obtain ⟨cq, kq, qa, qb, qc⟩ := isOf (s := s.setVm vm) hZ rfl E
  obtain ⟨v, _, ⟨T', L', c', n'⟩, -, X', hS', hgr, ⟨Lc, hQ, l', y', z'⟩, st⟩ := X.virtualBackS hx (y := y) (z := y) hown (mvT hZ w1) (mvT hZ w2) (notFace_of_selects (args := #[]) (mvT hZ w3)) (mvT hZ w3) (mvT hZ w4) hy (backOfS (W := W) (con []) hZ w6 w5 hf hl) qa qc (g := mkF m pc Ls (argsL.reverse ++ .ref b :: rest)) rfl hsize (Steps.refl _) (argsL := argsL) (rest := rest) hlen rfl (by show 2 * 0 + _ ≤ _; rw [Nat.mul_zero, Nat.zero_add]; exact hW) hd (fun _ _ => ⟨rfl, rfl, hc, hs⟩)
  dsimp only [Pt.U, Pt.locs, Pt.cells, Pt.slots] at X' hS' hgr l' y' z' st hQ
  subst l' y' z'
  obtain ⟨X2, hS2⟩ := X'.againW hS hS' (Nat.le_trans h0 hgr)
  exact GoW.step (fun t kk => st.trans kk) (k1 T' v Lc X2 hS2 (State.Warmed39.trans (t := s.setVm vm) hZ hS'.1) (by rw [hS'.1.alike.findClass]; exact hown) hQ)
theorem GoW.callI (X : Stand p l e R (s.setVm vm) m args below meth c T locs cells slots) (hx : p.tables.exec = Jvm.exec) (hS : s.Since vm k0) (h0 : k0 ≤ h.size) (hZ : Z.Warmed39 vm) {own : String} {index : Nat} {y : MethodName} {bytes : ByteArray} {maxL : Nat} {rm : Room} {Qc : Option Value → Heap → List Loc → Prop} (hy1 : y.name = "<init>")
    (hown : vm.findClass own = some m.cls) (w1 : (Jvm.Cond.methodLink own index y).before a0 Z = true) (w2 : (Jvm.Cond.instanceMethod y).before a0 Z = true) (w3 : (Jvm.Cond.initialized y.cls).before a0 Z = true) (w4 : (Jvm.Cond.code y bytes maxL none).before a0 Z = true) (hy : y.cls ≠ "java/lang/invoke/MethodHandle" ∧ y.cls ≠ "java/lang/invoke/VarHandle")
    (eT : T.heap = h) {b : Addr} (argsL rest : List Value) (W : Nat) (con : ConW l Z y bytes maxL none rm (.ref b :: argsL).toArray h Qc)
    (hf : rm.frames + 1 ≤ R.frames) (hl : W + (maxL + 11) + rm.locals ≤ R.locals) (hc : cells + rm.cells ≤ R.cells) (hs : slots + rm.slots ≤ R.slots)
    {pc : Nat} {Ls : Array Slot} {stk : List Value} (hsize : Ls.size = c.maxLocals) (hlen : ∀ sig, parseMethodDescriptor y.desc = some sig → argsL.length = sig.parameters.length) (hstk : stk = argsL.reverse ++ .ref b :: rest) (hW : (rest.map fun v => v.category).sum ≤ W)
    (hd : decode c.code pc = .ok (.invokespecial index, 3))
    (k1 : ∀ (T' : State) (v : Option Value) (Lc : List Loc), Stand p l e R (s.setVm T'.vm) m args below meth c T' (locs ++ Lc) (cells + rm.cells) (slots + rm.slots) → s.Since T'.vm T'.heap.size → Z.Warmed39 T'.vm → T'.vm.findClass own = some m.cls → Qc v T'.heap Lc → GoW p e below s Q k n (T'.setTop (mkF m (pc + 3) Ls (v.toList ++ rest)))) :
    GoW p e below s Q k n (T.setTop (mkF m pc Ls stk)) := by
  subst hstk eT
  obtain ⟨v, _, ⟨T', L', c', n'⟩, -, X', hS', hgr, ⟨Lc, hQ, l', y', z'⟩, st⟩ := X.specialBackS hx (y := y) hy1 hown (mvT hZ w1) (mvT hZ w2) (mvT hZ w4) hy (backOfS (W := W) (con []) hZ w4 w3 hf hl) (g := mkF m pc Ls (argsL.reverse ++ .ref b :: rest)) rfl hsize (Steps.refl _) (a := b) (argsL := argsL) (rest := rest) hlen rfl (by show 2 * 0 + _ ≤ _; rw [Nat.mul_zero, Nat.zero_add]; exact hW) hd (fun _ _ => ⟨rfl, rfl, hc, hs⟩)
  dsimp only [Pt.U, Pt.locs, Pt.cells, Pt.slots] at X' hS' hgr l' y' z' st hQ
  subst l' y' z'
  obtain ⟨X2, hS2⟩ := X'.againW hS hS' (Nat.le_trans h0 hgr)
  exact GoW.step (fun t kk => st.trans kk) (k1 T' v Lc X2 hS2 (State.Warmed39.trans (t := s.setVm vm) hZ hS'.1) (by rw [hS'.1.alike.findClass]; exact hown) hQ)
end OwnKit
theorem own_ext_trans {h0 h1 h2 : Heap} (E : Ext h0 h1) (F : Ext h1 h2) : Ext h0 h2 := ⟨Nat.le_trans E.1 F.1, fun a c q => F.2 a c (E.2 a c q)⟩
theorem own_ext_refl (h0 : Heap) : Ext h0 h0 := ⟨Nat.le_refl _, fun _ _ q => q⟩
theorem own_ext_keep {h0 h1 h2 : Heap} {ws : List Addr} (E : Ext h0 h1) (K : Keep h1 h2 ws) (hw : ∀ x ∈ ws, h0.size ≤ x) : Ext h0 h2 := ⟨Nat.le_trans E.1 K.1, fun a c q => K.2.1 a c (E.2 a c q) fun hm => absurd (Array.getElem?_eq_some_iff.mp q).1 (Nat.not_lt.mpr (hw a hm))⟩
theorem own_ext_wr {h0 h1 h2 : Heap} {a : Addr} {sl : Nat} {v : Value} (E : Ext h0 h1) (W : Wr h1 h2 a sl v) (q : h0.size ≤ a) : Ext h0 h2 := own_ext_keep E (Keep.of_wr W) (allS q all0)
theorem own_ne_lt {a b : Addr} {n : Nat} (p : a < n) (q : n ≤ b) : a ≠ b := Nat.ne_of_lt (Nat.lt_of_lt_of_le p q)
theorem own_len {args : Array Value} {s : State} {t : Term} {a : Addr} {c : Cell} {ty : FieldType} {z : Int32} (ev : t.eval args s none [] s = some (.ref a)) (A : Arr s s.heap a c ty) (hq : (Jvm.Cond.eq (.length t) (.int z)).value args s none s [] = some true) : c.slots.size < 2 ^ 31 ∧ c.slots.size.toInt32 = z := by
  obtain ⟨x, y, hx, hy, -, hk⟩ := cmp_v (Or.inl hq)
  obtain rfl : y = .int z := (Option.some.inj hy).symm
  obtain ⟨q, rfl⟩ := hk
  have e := gotT (Cond.eq_ints hx (Term.int_eval z)) hq
  subst e
  have h1 := Arr.fin (Vm.Alike.refl _) A
  simp only [Term.eval, ev, h1, Option.bind_eq_bind, Option.bind_some] at hx
  split at hx
  · rename_i hl
    exact ⟨hl, by injection hx with hx; injection hx⟩
  · cases hx
theorem own_elem {args : Array Value} {s : State} {t u : Term} {a b : Addr} {c : Cell} {ty : FieldType} {i : Int32} (ev : t.eval args s none [] s = some (.ref a)) (A : Arr s s.heap a c ty) (eu : u.eval args s none [] s = some (.ref b)) (hq : (Jvm.Cond.eq (.elem t (.int i)) u).value args s none s [] = some true) : c.slots[i.toNatClampNeg]? = some (.ref b) := by
  obtain ⟨x, y, hx, hy, hk, hk2⟩ := cmp_v (Or.inl hq)
  cases eu.symm.trans hy
  obtain ⟨c', h1, h2, h3⟩ := elem_at hx ev (Term.int_eval i)
  cases A.1.symm.trans h1
  have hr : x.isRef = true := hk2.2
  have e := gotT (eq_R hx eu hr rfl) hq
  rw [e] at h3; exact h3
theorem own_cell {Z T : State} {h : Heap} {a : Addr} {c : Cell} {ty : FieldType} (eT : T.heap = h) (A : Arr Z h a c ty) : T.heap[a]? = some c := by rw [eT]; exact A.1
theorem own_fldI {args : Array Value} {s : State} {t : Term} {a : Addr} {C n d : String} {z : Int32} (ev : t.eval args s none [] s = some (.ref a)) (hq : (Jvm.Cond.eq (.field t C n d) (.int z)).value args s none s [] = some true) : Fld s s.heap a C n d (.int z) := by
  obtain ⟨x, y, hx, hy, -, hk⟩ := cmp_v (Or.inl hq)
  obtain rfl : y = .int z := (Option.some.inj hy).symm
  obtain ⟨q, rfl⟩ := hk
  have e := gotT (Cond.eq_ints hx (Term.int_eval z)) hq
  subst e
  exact Fld.start (by rw [← fld_at (args := args) (first := s) (o := none) (idx := []) ev]; exact hx)
theorem own_fldJ {args : Array Value} {s : State} {t : Term} {a : Addr} {C n d : String} {z : Int64} (ev : t.eval args s none [] s = some (.ref a)) (hq : (Jvm.Cond.eq (.field t C n d) (.long z)).value args s none s [] = some true) : Fld s s.heap a C n d (.long z) := by
  obtain ⟨x, y, hx, hy, -, hk⟩ := cmp_v (Or.inl hq)
  obtain rfl : y = .long z := (Option.some.inj hy).symm
  obtain ⟨q, rfl⟩ := hk
  have e := gotT (eq_L hx (long_at z)) hq
  subst e
  exact Fld.start (by rw [← fld_at (args := args) (first := s) (o := none) (idx := []) ev]; exact hx)
theorem own_wS {Z : State} {a0 : Array Value} (hw : ∀ d ∈ tables_1, d.before a0 Z = true) : ∀ a ∈ Bundle.stringAtoms, a.before a0 Z = true := by
  intro a ha
  simp only [Bundle.stringAtoms, List.mem_cons, List.not_mem_nil, or_false] at ha
  rcases ha with rfl | rfl | rfl | rfl | rfl | rfl | rfl
  · exact (hw _ (List.mem_of_getElem? (i := 29) rfl))
  · exact (hw _ (List.mem_of_getElem? (i := 30) rfl))
  · exact (hw _ (List.mem_of_getElem? (i := 31) rfl))
  · exact (hw _ (List.mem_of_getElem? (i := 32) rfl))
  · exact (hw _ (List.mem_of_getElem? (i := 33) rfl))
  · exact (hw _ (List.mem_of_getElem? (i := 34) rfl))
  · exact (hw _ (List.mem_of_getElem? (i := 35) rfl))
def own_pick (z : Int32) (a b c : Addr) : Addr := if z = 0 then a else if z = 1 then b else c
def own_min (x y : Int32) : Int32 := if y < x then y else x
theorem own_nnI (x : Int32) : ¬ (x &&& 2147483647) < 0 := by
  have h := (c_and x 2147483647 (by decide)).1
  rw [Int32.lt_iff_toInt_lt]; have e : (0 : Int32).toInt = 0 := by decide
  omega
theorem own_nnL (x : Int64) : ¬ (x &&& 9223372036854775807) < 0 := by
  have h := (c_andSL x 9223372036854775807).2.2 (by decide)
  rw [Int64.lt_iff_toInt_lt]; have e : (0 : Int64).toInt = 0 := by decide
  omega
theorem own_pn0 : plainName "com/example/wary_retry/waryretry/breaker/PhaseTrialSucceededPinLaw" = true := by first | (simp [plainName, overriddenIn]; done) | decide +kernel
theorem own_d_pick_0 : decode method_2_code 0 = .ok (.iload_n 0, 1) := by decide +kernel
theorem own_d_pick_1 : decode method_2_code 1 = .ok (.ldc 7, 2) := by decide +kernel
theorem own_d_pick_3 : decode method_2_code 3 = .ok (.iand, 1) := by decide +kernel
theorem own_d_pick_4 : decode method_2_code 4 = .ok (.iconst 3, 1) := by decide +kernel
theorem own_d_pick_5 : decode method_2_code 5 = .ok (.irem, 1) := by decide +kernel
theorem own_d_pick_6 : decode method_2_code 6 = .ok (.istore_n 1, 1) := by decide +kernel
theorem own_d_pick_7 : decode method_2_code 7 = .ok (.iload_n 1, 1) := by decide +kernel
theorem own_d_pick_8 : decode method_2_code 8 = .ok (.ifCond .ne 7, 3) := by decide +kernel
theorem own_d_pick_11 : decode method_2_code 11 = .ok (.getstatic 8, 3) := by decide +kernel
theorem own_d_pick_14 : decode method_2_code 14 = .ok (.areturn, 1) := by decide +kernel
theorem own_d_pick_15 : decode method_2_code 15 = .ok (.iload_n 1, 1) := by decide +kernel
theorem own_d_pick_16 : decode method_2_code 16 = .ok (.iconst 1, 1) := by decide +kernel
theorem own_d_pick_17 : decode method_2_code 17 = .ok (.if_icmp .ne 7, 3) := by decide +kernel
theorem own_d_pick_20 : decode method_2_code 20 = .ok (.getstatic 14, 3) := by decide +kernel
theorem own_d_pick_23 : decode method_2_code 23 = .ok (.areturn, 1) := by decide +kernel
theorem own_d_pick_24 : decode method_2_code 24 = .ok (.getstatic 17, 3) := by decide +kernel
theorem own_d_pick_27 : decode method_2_code 27 = .ok (.areturn, 1) := by decide +kernel
theorem own_ef_pick (m : MethodId) (p1 : Int32) : entryFrame m #[(.int p1)] 2 = mkF m 0 #[.val (.int p1), .unset] [] := by first | (simp [entryFrame, mkF, argsToLocals, Value.category, maxLocals]; done) | rfl
set_option maxRecDepth 65536 in
set_option maxHeartbeats 40000000 in
theorem rm_pick (l : Launch) (Z : State) (a0 : Array Value) (hw : ∀ d ∈ tables_1, d.before a0 Z = true) (p1 : Int32) (ac : Addr) (ao : Addr) (ah : Addr) (h0 : Heap) (n0 : Nat) (S_ac : Sta Z h0 "com/example/wary_retry/waryretry/breaker/State" "CLOSED" "Lcom/example/wary_retry/waryretry/breaker/State;" (.ref ac)) (S_ao : Sta Z h0 "com/example/wary_retry/waryretry/breaker/State" "OPEN" "Lcom/example/wary_retry/waryretry/breaker/State;" (.ref ao)) (S_ah : Sta Z h0 "com/example/wary_retry/waryretry/breaker/State" "HALF_OPEN" "Lcom/example/wary_retry/waryretry/breaker/State;" (.ref ah)) :
    ConW l Z (⟨"com/example/wary_retry/waryretry/breaker/PhaseTrialSucceededPinLaw", "pick", "(I)Lcom/example/wary_retry/waryretry/breaker/State;"⟩ : MethodName) method_2_code 2 (some (.object "com/example/wary_retry/waryretry/breaker/State")) ({ frames := 0, cells := 0, slots := 0, locals := 0 } : Room) #[(.int p1)] h0 (fun v h L => v = some (.ref (own_pick ((p1 &&& (2147483647 : Int32)) % (3 : Int32)) ac ao ah)) ∧ L = [] ∧ h = h0) := by
  refine ConW.of (plainFor_of_name own_pn0) ?_
  intro p e s m below meth c T0 X0 hx hby hml hret hlk hown0 hnm hZ e0 hS0
  have hown : s.vm.findClass "com/example/wary_retry/waryretry/breaker/PhaseTrialSucceededPinLaw" = some m.cls := hown0
  have N0 := Fr.nil n0
  refine GoW.step (fun t kk => castTop (own_ef_pick m p1) kk) ?_
  show GoW p e below s _ _ _ (T0.setTop (mkF m 0 #[.val (.int p1), .unset] []))
  refine GoW.step (fun t kk => XS.iloadN X0.here hx rfl (hb hby own_d_pick_0) rfl kk) ?_
  show GoW p e below s _ _ _ (T0.setTop (mkF m 1 #[.val (.int p1), .unset] [(.int p1)]))
  refine GoW.step (X0.ldcInt hx hown (mvT hZ (hw _ (List.mem_of_getElem? (i := 4) rfl))) (g := (mkF m 1 #[.val (.int p1), .unset] [(.int p1)])) rfl (hb hby own_d_pick_1)) ?_
  show GoW p e below s _ _ _ (T0.setTop (mkF m 3 #[.val (.int p1), .unset] [(.int (2147483647 : Int32)), (.int p1)]))
  refine GoW.step (fun t kk => XS.iand X0.here hx rfl (hb hby own_d_pick_3) rfl kk) ?_
  show GoW p e below s _ _ _ (T0.setTop (mkF m 4 #[.val (.int p1), .unset] [(.int (p1 &&& (2147483647 : Int32)))]))
  refine GoW.step (fun t kk => XS.iconst X0.here hx rfl (hb hby own_d_pick_4) kk) ?_
  show GoW p e below s _ _ _ (T0.setTop (mkF m 5 #[.val (.int p1), .unset] [(.int (3 : Int32)), (.int (p1 &&& (2147483647 : Int32)))]))
  refine GoW.step (fun t kk => iremM X0 hx rfl (hb hby own_d_pick_5) rfl (by decide) kk) ?_
  show GoW p e below s _ _ _ (T0.setTop (mkF m 6 #[.val (.int p1), .unset] [(.int ((p1 &&& (2147483647 : Int32)) % (3 : Int32)))]))
  refine GoW.step (fun t kk => XS.istoreN X0.here hx rfl (hb hby own_d_pick_6) rfl (l' := #[.val (.int p1), .val (.int ((p1 &&& (2147483647 : Int32)) % (3 : Int32)))]) rfl kk) ?_
  show GoW p e below s _ _ _ (T0.setTop (mkF m 7 #[.val (.int p1), .val (.int ((p1 &&& (2147483647 : Int32)) % (3 : Int32)))] []))
  refine GoW.step (fun t kk => XS.iloadN X0.here hx rfl (hb hby own_d_pick_7) rfl kk) ?_
  show GoW p e below s _ _ _ (T0.setTop (mkF m 8 #[.val (.int p1), .val (.int ((p1 &&& (2147483647 : Int32)) % (3 : Int32)))] [(.int ((p1 &&& (2147483647 : Int32)) % (3 : Int32)))]))
  by_cases hc8_1 : ((p1 &&& (2147483647 : Int32)) % (3 : Int32)) = (0 : Int32)
  · refine GoW.step (fun t kk => XS.ifNo X0.here hx rfl (hb hby own_d_pick_8) rfl ((if0 _ _).trans (teq hc8_1).2) kk) ?_
    show GoW p e below s _ _ _ (T0.setTop (mkF m 11 #[.val (.int p1), .val (.int ((p1 &&& (2147483647 : Int32)) % (3 : Int32)))] []))
    obtain ⟨T2, X2, e2, st2⟩ := getS (host := "") X0 hx hZ hown (hw _ (List.mem_of_getElem? (i := 5) rfl)) Via.refl e0 S_ac (g := (mkF m 11 #[.val (.int p1), .val (.int ((p1 &&& (2147483647 : Int32)) % (3 : Int32)))] [])) rfl (hb hby own_d_pick_11)
    refine GoW.step st2 ?_
    show GoW p e below s _ _ _ (T2.setTop (mkF m 14 #[.val (.int p1), .val (.int ((p1 &&& (2147483647 : Int32)) % (3 : Int32)))] [(.ref ac)]))
    exact GoW.retA X2 hx hlk hS0 (own_at e2 (Nat.le_refl _)) hret rfl rfl (hb hby own_d_pick_14) (show _ ∧ _ ∧ _ from ⟨by simp [own_pick, hc8_1], rfl, e2⟩) (by decide) (by decide)
  · refine GoW.step (fun t kk => XS.ifYes X0.here hx rfl (pc0 := 8) (pc' := 15) rfl (hb hby own_d_pick_8) rfl ((if0 _ _).trans (feq hc8_1).2) (by decide) (by decide) kk) ?_
    show GoW p e below s _ _ _ (T0.setTop (mkF m 15 #[.val (.int p1), .val (.int ((p1 &&& (2147483647 : Int32)) % (3 : Int32)))] []))
    refine GoW.step (fun t kk => XS.iloadN X0.here hx rfl (hb hby own_d_pick_15) rfl kk) ?_
    show GoW p e below s _ _ _ (T0.setTop (mkF m 16 #[.val (.int p1), .val (.int ((p1 &&& (2147483647 : Int32)) % (3 : Int32)))] [(.int ((p1 &&& (2147483647 : Int32)) % (3 : Int32)))]))
    refine GoW.step (fun t kk => XS.iconst X0.here hx rfl (hb hby own_d_pick_16) kk) ?_
    show GoW p e below s _ _ _ (T0.setTop (mkF m 17 #[.val (.int p1), .val (.int ((p1 &&& (2147483647 : Int32)) % (3 : Int32)))] [(.int (1 : Int32)), (.int ((p1 &&& (2147483647 : Int32)) % (3 : Int32)))]))
    by_cases hc17_3 : ((p1 &&& (2147483647 : Int32)) % (3 : Int32)) = (1 : Int32)
    · refine GoW.step (fun t kk => XS.icmpNo X0.here hx rfl (hb hby own_d_pick_17) rfl (teq hc17_3).2 kk) ?_
      show GoW p e below s _ _ _ (T0.setTop (mkF m 20 #[.val (.int p1), .val (.int ((p1 &&& (2147483647 : Int32)) % (3 : Int32)))] []))
      obtain ⟨T4, X4, e4, st4⟩ := getS (host := "") X0 hx hZ hown (hw _ (List.mem_of_getElem? (i := 89) rfl)) Via.refl e0 S_ao (g := (mkF m 20 #[.val (.int p1), .val (.int ((p1 &&& (2147483647 : Int32)) % (3 : Int32)))] [])) rfl (hb hby own_d_pick_20)
      refine GoW.step st4 ?_
      show GoW p e below s _ _ _ (T4.setTop (mkF m 23 #[.val (.int p1), .val (.int ((p1 &&& (2147483647 : Int32)) % (3 : Int32)))] [(.ref ao)]))
      exact GoW.retA X4 hx hlk hS0 (own_at e4 (Nat.le_refl _)) hret rfl rfl (hb hby own_d_pick_23) (show _ ∧ _ ∧ _ from ⟨by simp [own_pick, hc8_1, hc17_3], rfl, e4⟩) (by decide) (by decide)
    · refine GoW.step (fun t kk => XS.icmpYes X0.here hx rfl (pc0 := 17) (pc' := 24) rfl (hb hby own_d_pick_17) rfl (feq hc17_3).2 (by decide) (by decide) kk) ?_
      show GoW p e below s _ _ _ (T0.setTop (mkF m 24 #[.val (.int p1), .val (.int ((p1 &&& (2147483647 : Int32)) % (3 : Int32)))] []))
      obtain ⟨T5, X5, e5, st5⟩ := getS (host := "") X0 hx hZ hown (hw _ (List.mem_of_getElem? (i := 91) rfl)) Via.refl e0 S_ah (g := (mkF m 24 #[.val (.int p1), .val (.int ((p1 &&& (2147483647 : Int32)) % (3 : Int32)))] [])) rfl (hb hby own_d_pick_24)
      refine GoW.step st5 ?_
      show GoW p e below s _ _ _ (T5.setTop (mkF m 27 #[.val (.int p1), .val (.int ((p1 &&& (2147483647 : Int32)) % (3 : Int32)))] [(.ref ah)]))
      exact GoW.retA X5 hx hlk hS0 (own_at e5 (Nat.le_refl _)) hret rfl rfl (hb hby own_d_pick_27) (show _ ∧ _ ∧ _ from ⟨by simp [own_pick, hc8_1, hc17_3], rfl, e5⟩) (by decide) (by decide)
theorem own_d_min_0 : decode jdk_29_method_69_code 0 = .ok (.iload_n 0, 1) := by decide +kernel
theorem own_d_min_1 : decode jdk_29_method_69_code 1 = .ok (.iload_n 1, 1) := by decide +kernel
theorem own_d_min_2 : decode jdk_29_method_69_code 2 = .ok (.if_icmp .gt 7, 3) := by decide +kernel
theorem own_d_min_5 : decode jdk_29_method_69_code 5 = .ok (.iload_n 0, 1) := by decide +kernel
theorem own_d_min_6 : decode jdk_29_method_69_code 6 = .ok (.goto 4, 3) := by decide +kernel
theorem own_d_min_9 : decode jdk_29_method_69_code 9 = .ok (.iload_n 1, 1) := by decide +kernel
theorem own_d_min_10 : decode jdk_29_method_69_code 10 = .ok (.ireturn, 1) := by decide +kernel
theorem own_ef_min (m : MethodId) (p1 : Int32) (p2 : Int32) : entryFrame m #[(.int p1), (.int p2)] 2 = mkF m 0 #[.val (.int p1), .val (.int p2)] [] := by first | (simp [entryFrame, mkF, argsToLocals, Value.category, maxLocals]; done) | rfl
set_option maxRecDepth 65536 in
set_option maxHeartbeats 40000000 in
theorem rm_min (l : Launch) (Z : State) (a0 : Array Value) (hw : ∀ d ∈ tables_1, d.before a0 Z = true) (p1 : Int32) (p2 : Int32) (h0 : Heap) (n0 : Nat)  :
    ConW l Z (⟨"java/lang/Math", "min", "(II)I"⟩ : MethodName) jdk_29_method_69_code 2 (some .int) ({ frames := 0, cells := 0, slots := 0, locals := 0 } : Room) #[(.int p1), (.int p2)] h0 (fun v h L => v = some (.int (own_min p1 p2)) ∧ L = [] ∧ h = h0) := by
  refine ConW.of (by decide +kernel) ?_
  intro p e s m below meth c T0 X0 hx hby hml hret hlk hown0 hnm hZ e0 hS0
  have hown : s.vm.findClass "java/lang/Math" = some m.cls := hown0
  have N0 := Fr.nil n0
  refine GoW.step (fun t kk => castTop (own_ef_min m p1 p2) kk) ?_
  show GoW p e below s _ _ _ (T0.setTop (mkF m 0 #[.val (.int p1), .val (.int p2)] []))
  refine GoW.step (fun t kk => XS.iloadN X0.here hx rfl (hb hby own_d_min_0) rfl kk) ?_
  show GoW p e below s _ _ _ (T0.setTop (mkF m 1 #[.val (.int p1), .val (.int p2)] [(.int p1)]))
  refine GoW.step (fun t kk => XS.iloadN X0.here hx rfl (hb hby own_d_min_1) rfl kk) ?_
  show GoW p e below s _ _ _ (T0.setTop (mkF m 2 #[.val (.int p1), .val (.int p2)] [(.int p2), (.int p1)]))
  by_cases hc2_1 : p2 < p1
  · refine GoW.step (fun t kk => XS.icmpYes X0.here hx rfl (pc0 := 2) (pc' := 9) rfl (hb hby own_d_min_2) rfl (tlt hc2_1).2.2.1 (by decide) (by decide) kk) ?_
    show GoW p e below s _ _ _ (T0.setTop (mkF m 9 #[.val (.int p1), .val (.int p2)] []))
    refine GoW.step (fun t kk => XS.iloadN X0.here hx rfl (hb hby own_d_min_9) rfl kk) ?_
    show GoW p e below s _ _ _ (T0.setTop (mkF m 10 #[.val (.int p1), .val (.int p2)] [(.int p2)]))
    exact GoW.retI X0 hx hlk hS0 (own_at e0 (Nat.le_refl _)) hret (hb hby own_d_min_10) (show _ ∧ _ ∧ _ from ⟨by simp [own_min, hc2_1], rfl, e0⟩) (by decide) (by decide)
  · refine GoW.step (fun t kk => XS.icmpNo X0.here hx rfl (hb hby own_d_min_2) rfl (flt hc2_1).2.2.1 kk) ?_
    show GoW p e below s _ _ _ (T0.setTop (mkF m 5 #[.val (.int p1), .val (.int p2)] []))
    refine GoW.step (fun t kk => XS.iloadN X0.here hx rfl (hb hby own_d_min_5) rfl kk) ?_
    show GoW p e below s _ _ _ (T0.setTop (mkF m 6 #[.val (.int p1), .val (.int p2)] [(.int p1)]))
    refine GoW.step (fun t kk => XS.goto X0.here hx rfl (pc0 := 6) (pc' := 10) rfl (hb hby own_d_min_6) (by decide) (by decide) kk) ?_
    show GoW p e below s _ _ _ (T0.setTop (mkF m 10 #[.val (.int p1), .val (.int p2)] [(.int p1)]))
    exact GoW.retI X0 hx hlk hS0 (own_at e0 (Nat.le_refl _)) hret (hb hby own_d_min_10) (show _ ∧ _ ∧ _ from ⟨by simp [own_min, hc2_1], rfl, e0⟩) (by decide) (by decide)
theorem own_pn1 : plainName "java/lang/Record" = true := by first | (simp [plainName, overriddenIn]; done) | decide +kernel
theorem own_d_rec_0 : decode jdk_30_method_1_code 0 = .ok (.aload_n 0, 1) := by decide +kernel
theorem own_d_rec_1 : decode jdk_30_method_1_code 1 = .ok (.invokespecial 1, 3) := by decide +kernel
theorem own_d_rec_4 : decode jdk_30_method_1_code 4 = .ok (.return_, 1) := by decide +kernel
theorem own_ef_rec (m : MethodId) (b : Addr) : entryFrame m #[(.ref b)] 1 = mkF m 0 #[.val (.ref b)] [] := by first | (simp [entryFrame, mkF, argsToLocals, Value.category, maxLocals]; done) | rfl
set_option maxRecDepth 65536 in
set_option maxHeartbeats 40000000 in
theorem rm_rec (l : Launch) (Z : State) (a0 : Array Value) (hw : ∀ d ∈ tables_1, d.before a0 Z = true) (b : Addr) (h0 : Heap) (n0 : Nat)  :
    ConW l Z (⟨"java/lang/Record", "<init>", "()V"⟩ : MethodName) jdk_30_method_1_code 1 none ({ frames := 1, cells := 0, slots := 0, locals := 12 } : Room) #[(.ref b)] h0 (fun v h L => v = none ∧ L = [] ∧ h = h0) := by
  refine ConW.of (plainFor_of_name own_pn1) ?_
  intro p e s m below meth c T0 X0 hx hby hml hret hlk hown0 hnm hZ e0 hS0
  have hown : s.vm.findClass "java/lang/Record" = some m.cls := hown0
  have N0 := Fr.nil n0
  refine GoW.step (fun t kk => castTop (own_ef_rec m b) kk) ?_
  show GoW p e below s _ _ _ (T0.setTop (mkF m 0 #[.val (.ref b)] []))
  refine GoW.step (fun t kk => XS.aloadN X0.here hx rfl (hb hby own_d_rec_0) rfl rfl kk) ?_
  show GoW p e below s _ _ _ (T0.setTop (mkF m 1 #[.val (.ref b)] [(.ref b)]))
  obtain ⟨T1, X1, e1, st1⟩ := initO X0 hx hZ hown (hw _ (List.mem_of_getElem? (i := 25) rfl)) (hw _ (List.mem_of_getElem? (i := 26) rfl)) (hw _ (List.mem_of_getElem? (i := 27) rfl)) e0 (g := (mkF m 1 #[.val (.ref b)] [(.ref b)])) rfl (by rw [hml]; rfl) rfl (hb hby own_d_rec_1) (by decide) (W := 0) (by show 2 * 0 + _ ≤ _; exact Nat.le_of_eq rfl) (by decide)
  refine GoW.step st1 ?_
  show GoW p e below s _ _ _ (T1.setTop (mkF m 4 #[.val (.ref b)] []))
  exact GoW.retV X1 hx hlk hS0 (own_at e1 (Nat.le_refl _)) hret (hb hby own_d_rec_4) (show _ ∧ _ ∧ _ from ⟨rfl, rfl, e1⟩) (by decide) (by decide)
theorem own_pn2 : plainName "java/util/Objects" = true := by first | (simp [plainName, overriddenIn]; done) | decide +kernel
theorem own_d_rnn_0 : decode jdk_31_method_11_code 0 = .ok (.aload_n 0, 1) := by decide +kernel
theorem own_d_rnn_1 : decode jdk_31_method_11_code 1 = .ok (.ifnonnull 12, 3) := by decide +kernel
theorem own_d_rnn_13 : decode jdk_31_method_11_code 13 = .ok (.aload_n 0, 1) := by decide +kernel
theorem own_d_rnn_14 : decode jdk_31_method_11_code 14 = .ok (.areturn, 1) := by decide +kernel
theorem own_ef_rnn (m : MethodId) (b : Addr) (g : Addr) : entryFrame m #[(.ref b), (.ref g)] 2 = mkF m 0 #[.val (.ref b), .val (.ref g)] [] := by first | (simp [entryFrame, mkF, argsToLocals, Value.category, maxLocals]; done) | rfl
set_option maxRecDepth 65536 in
set_option maxHeartbeats 40000000 in
theorem rm_rnn (l : Launch) (Z : State) (a0 : Array Value) (hw : ∀ d ∈ tables_1, d.before a0 Z = true) (b : Addr) (g : Addr) (h0 : Heap) (n0 : Nat)  :
    ConW l Z (⟨"java/util/Objects", "requireNonNull", "(Ljava/lang/Object;Ljava/lang/String;)Ljava/lang/Object;"⟩ : MethodName) jdk_31_method_11_code 2 (some (.object "java/lang/Object")) ({ frames := 0, cells := 0, slots := 0, locals := 0 } : Room) #[(.ref b), (.ref g)] h0 (fun v h L => v = some (.ref b) ∧ L = [] ∧ h = h0) := by
  refine ConW.of (plainFor_of_name own_pn2) ?_
  intro p e s m below meth c T0 X0 hx hby hml hret hlk hown0 hnm hZ e0 hS0
  have hown : s.vm.findClass "java/util/Objects" = some m.cls := hown0
  have N0 := Fr.nil n0
  refine GoW.step (fun t kk => castTop (own_ef_rnn m b g) kk) ?_
  show GoW p e below s _ _ _ (T0.setTop (mkF m 0 #[.val (.ref b), .val (.ref g)] []))
  refine GoW.step (fun t kk => XS.aloadN X0.here hx rfl (hb hby own_d_rnn_0) rfl rfl kk) ?_
  show GoW p e below s _ _ _ (T0.setTop (mkF m 1 #[.val (.ref b), .val (.ref g)] [(.ref b)]))
  refine GoW.step (fun t kk => XS.ifnonnullYes X0.here hx rfl (pc0 := 1) (pc' := 13) rfl (hb hby own_d_rnn_1) rfl (by decide) (by decide) kk) ?_
  show GoW p e below s _ _ _ (T0.setTop (mkF m 13 #[.val (.ref b), .val (.ref g)] []))
  refine GoW.step (fun t kk => XS.aloadN X0.here hx rfl (hb hby own_d_rnn_13) rfl rfl kk) ?_
  show GoW p e below s _ _ _ (T0.setTop (mkF m 14 #[.val (.ref b), .val (.ref g)] [(.ref b)]))
  exact GoW.retA X0 hx hlk hS0 (own_at e0 (Nat.le_refl _)) hret rfl rfl (hb hby own_d_rnn_14) (show _ ∧ _ ∧ _ from ⟨rfl, rfl, e0⟩) (by decide) (by decide)
theorem own_pn3 : plainName "com/example/wary_retry/waryretry/breaker/Phase" = true := by first | (simp [plainName, overriddenIn]; done) | decide +kernel
theorem own_pd0 : parseMethodDescriptor "()V" = some ⟨[], none⟩ := by decide +kernel
theorem own_pd1 : parseMethodDescriptor "(Ljava/lang/Object;Ljava/lang/String;)Ljava/lang/Object;" = some ⟨[(.object "java/lang/Object"), (.object "java/lang/String")], (some (.object "java/lang/Object"))⟩ := by decide +kernel
theorem own_d_init_0 : decode prog_17_method_1_code 0 = .ok (.aload_n 0, 1) := by decide +kernel
theorem own_d_init_1 : decode prog_17_method_1_code 1 = .ok (.invokespecial 1, 3) := by decide +kernel
theorem own_d_init_4 : decode prog_17_method_1_code 4 = .ok (.aload_n 1, 1) := by decide +kernel
theorem own_d_init_5 : decode prog_17_method_1_code 5 = .ok (.ldc 7, 2) := by decide +kernel
theorem own_d_init_7 : decode prog_17_method_1_code 7 = .ok (.invokestatic 9, 3) := by decide +kernel
theorem own_d_init_10 : decode prog_17_method_1_code 10 = .ok (.pop, 1) := by decide +kernel
theorem own_d_init_11 : decode prog_17_method_1_code 11 = .ok (.lload_n 2, 1) := by decide +kernel
theorem own_d_init_12 : decode prog_17_method_1_code 12 = .ok (.lconst 0, 1) := by decide +kernel
theorem own_d_init_13 : decode prog_17_method_1_code 13 = .ok (.lcmp, 1) := by decide +kernel
theorem own_d_init_14 : decode prog_17_method_1_code 14 = .ok (.ifCond .lt 18, 3) := by decide +kernel
theorem own_d_init_17 : decode prog_17_method_1_code 17 = .ok (.iload 4, 2) := by decide +kernel
theorem own_d_init_19 : decode prog_17_method_1_code 19 = .ok (.ifCond .lt 13, 3) := by decide +kernel
theorem own_d_init_22 : decode prog_17_method_1_code 22 = .ok (.iload 7, 2) := by decide +kernel
theorem own_d_init_24 : decode prog_17_method_1_code 24 = .ok (.ifCond .lt 8, 3) := by decide +kernel
theorem own_d_init_27 : decode prog_17_method_1_code 27 = .ok (.iload 8, 2) := by decide +kernel
theorem own_d_init_29 : decode prog_17_method_1_code 29 = .ok (.ifCond .ge 23, 3) := by decide +kernel
theorem own_d_init_52 : decode prog_17_method_1_code 52 = .ok (.aload_n 0, 1) := by decide +kernel
theorem own_d_init_53 : decode prog_17_method_1_code 53 = .ok (.aload_n 1, 1) := by decide +kernel
theorem own_d_init_54 : decode prog_17_method_1_code 54 = .ok (.putfield 24, 3) := by decide +kernel
theorem own_d_init_57 : decode prog_17_method_1_code 57 = .ok (.aload_n 0, 1) := by decide +kernel
theorem own_d_init_58 : decode prog_17_method_1_code 58 = .ok (.lload_n 2, 1) := by decide +kernel
theorem own_d_init_59 : decode prog_17_method_1_code 59 = .ok (.putfield 29, 3) := by decide +kernel
theorem own_d_init_62 : decode prog_17_method_1_code 62 = .ok (.aload_n 0, 1) := by decide +kernel
theorem own_d_init_63 : decode prog_17_method_1_code 63 = .ok (.iload 4, 2) := by decide +kernel
theorem own_d_init_65 : decode prog_17_method_1_code 65 = .ok (.putfield 33, 3) := by decide +kernel
theorem own_d_init_68 : decode prog_17_method_1_code 68 = .ok (.aload_n 0, 1) := by decide +kernel
theorem own_d_init_69 : decode prog_17_method_1_code 69 = .ok (.lload 5, 2) := by decide +kernel
theorem own_d_init_71 : decode prog_17_method_1_code 71 = .ok (.putfield 37, 3) := by decide +kernel
theorem own_d_init_74 : decode prog_17_method_1_code 74 = .ok (.aload_n 0, 1) := by decide +kernel
theorem own_d_init_75 : decode prog_17_method_1_code 75 = .ok (.iload 7, 2) := by decide +kernel
theorem own_d_init_77 : decode prog_17_method_1_code 77 = .ok (.putfield 40, 3) := by decide +kernel
theorem own_d_init_80 : decode prog_17_method_1_code 80 = .ok (.aload_n 0, 1) := by decide +kernel
theorem own_d_init_81 : decode prog_17_method_1_code 81 = .ok (.iload 8, 2) := by decide +kernel
theorem own_d_init_83 : decode prog_17_method_1_code 83 = .ok (.putfield 43, 3) := by decide +kernel
theorem own_d_init_86 : decode prog_17_method_1_code 86 = .ok (.return_, 1) := by decide +kernel
theorem own_ef_init (m : MethodId) (b : Addr) (x1 : Addr) (x2 : Int64) (x3 : Int32) (x4 : Int64) (x5 : Int32) (x6 : Int32) : entryFrame m #[(.ref b), (.ref x1), (.long x2), (.int x3), (.long x4), (.int x5), (.int x6)] 9 = mkF m 0 #[.val (.ref b), .val (.ref x1), .val (.long x2), .second, .val (.int x3), .val (.long x4), .second, .val (.int x5), .val (.int x6)] [] := by first | (simp [entryFrame, mkF, argsToLocals, Value.category, maxLocals]; done) | rfl
set_option maxRecDepth 65536 in
set_option maxHeartbeats 40000000 in
theorem rm_init (l : Launch) (Z : State) (a0 : Array Value) (hw : ∀ d ∈ tables_1, d.before a0 Z = true) (b : Addr) (x1 : Addr) (x2 : Int64) (x3 : Int32) (x4 : Int64) (x5 : Int32) (x6 : Int32) (h0 : Heap) (n0 : Nat) (F0_state : Fld Z h0 b "com/example/wary_retry/waryretry/breaker/Phase" "state" "Lcom/example/wary_retry/waryretry/breaker/State;" .null) (F0_period : Fld Z h0 b "com/example/wary_retry/waryretry/breaker/Phase" "period" "J" (.long 0)) (F0_failures : Fld Z h0 b "com/example/wary_retry/waryretry/breaker/Phase" "failures" "I" (.int 0)) (F0_changedAt : Fld Z h0 b "com/example/wary_retry/waryretry/breaker/Phase" "changedAt" "J" (.long 0)) (F0_admitted : Fld Z h0 b "com/example/wary_retry/waryretry/breaker/Phase" "admitted" "I" (.int 0)) (F0_succeeded : Fld Z h0 b "com/example/wary_retry/waryretry/breaker/Phase" "succeeded" "I" (.int 0)) (E0 : Exa Z h0 b "com/example/wary_retry/waryretry/breaker/Phase") (gb : n0 ≤ b) (Z0 : n0 ≤ h0.size) (n2 : ¬ x2 < 0) (n3 : ¬ x3 < 0) (n5 : ¬ x5 < 0) (n6 : ¬ x6 < 0) :
    ConW l Z (⟨"com/example/wary_retry/waryretry/breaker/Phase", "<init>", "(Lcom/example/wary_retry/waryretry/breaker/State;JIJII)V"⟩ : MethodName) prog_17_method_1_code 9 none ({ frames := 2, cells := 2, slots := 24, locals := 24 } : Room) #[(.ref b), (.ref x1), (.long x2), (.int x3), (.long x4), (.int x5), (.int x6)] h0 (fun v h L => v = none ∧ Fr n0 L ∧ Keep h0 h [b] ∧ Fld Z h b "com/example/wary_retry/waryretry/breaker/Phase" "state" "Lcom/example/wary_retry/waryretry/breaker/State;" (.ref x1) ∧ Fld Z h b "com/example/wary_retry/waryretry/breaker/Phase" "period" "J" (.long x2) ∧ Fld Z h b "com/example/wary_retry/waryretry/breaker/Phase" "failures" "I" (.int x3) ∧ Fld Z h b "com/example/wary_retry/waryretry/breaker/Phase" "changedAt" "J" (.long x4) ∧ Fld Z h b "com/example/wary_retry/waryretry/breaker/Phase" "admitted" "I" (.int x5) ∧ Fld Z h b "com/example/wary_retry/waryretry/breaker/Phase" "succeeded" "I" (.int x6)) := by
  refine ConW.of (plainFor_of_name own_pn3) ?_
  intro p e s m below meth c T0 X0 hx hby hml hret hlk hown0 hnm hZ e0 hS0
  have hown : s.vm.findClass "com/example/wary_retry/waryretry/breaker/Phase" = some m.cls := hown0
  have N0 := Fr.nil n0
  refine GoW.step (fun t kk => castTop (own_ef_init m b x1 x2 x3 x4 x5 x6) kk) ?_
  show GoW p e below s _ _ _ (T0.setTop (mkF m 0 #[.val (.ref b), .val (.ref x1), .val (.long x2), .second, .val (.int x3), .val (.long x4), .second, .val (.int x5), .val (.int x6)] []))
  refine GoW.step (fun t kk => XS.aloadN X0.here hx rfl (hb hby own_d_init_0) rfl rfl kk) ?_
  show GoW p e below s _ _ _ (T0.setTop (mkF m 1 #[.val (.ref b), .val (.ref x1), .val (.long x2), .second, .val (.int x3), .val (.long x4), .second, .val (.int x5), .val (.int x6)] [(.ref b)]))
  refine GoW.callI X0 hx hS0 (Nat.le_refl _) hZ rfl hown (hw _ (List.mem_of_getElem? (i := 20) rfl)) (hw _ (List.mem_of_getElem? (i := 21) rfl)) (hw _ (List.mem_of_getElem? (i := 23) rfl)) (hw _ (List.mem_of_getElem? (i := 24) rfl)) (by decide) e0 [] [] 0 (rm_rec l Z a0 hw b h0 n0 ) (by decide) (by decide) (by decide) (by decide) (by rw [hml]; rfl) (lenOf own_pd0 rfl) rfl (Nat.le_of_eq rfl) (hb hby own_d_init_1) ?_
  intro T1 v1 L1 X1 hS1 hZ1 hown1 hQ1
  obtain ⟨rfl, rfl, e1⟩ := hQ1
  have N1 := Fr.app N0 (Fr.nil n0)
  show GoW p e below s _ _ _ (T1.setTop (mkF m 4 #[.val (.ref b), .val (.ref x1), .val (.long x2), .second, .val (.int x3), .val (.long x4), .second, .val (.int x5), .val (.int x6)] []))
  refine GoW.step (fun t kk => XS.aloadN X1.here hx rfl (hb hby own_d_init_4) rfl rfl kk) ?_
  show GoW p e below s _ _ _ (T1.setTop (mkF m 5 #[.val (.ref b), .val (.ref x1), .val (.long x2), .second, .val (.int x3), .val (.long x4), .second, .val (.int x5), .val (.int x6)] [(.ref x1)]))
  obtain ⟨a2, T2, h2, k2, X2, e2, E2, hS2, hk2, hZ2, hown2, st2⟩ := ldcS X1 hx hZ1 hown1 (hw _ (List.mem_of_getElem? (i := 28) rfl)) (own_wS hw) e1 hS1 (Nat.le_of_eq (congrArg Array.size e1)) (g := (mkF m 5 #[.val (.ref b), .val (.ref x1), .val (.long x2), .second, .val (.int x3), .val (.long x4), .second, .val (.int x5), .val (.int x6)] [(.ref x1)])) rfl (hb hby own_d_init_5) (n := 20) (by decide) (by decide) (by decide) (by decide)
  refine GoW.step st2 ?_
  show GoW p e below s _ _ _ (T2.setTop (mkF m 7 #[.val (.ref b), .val (.ref x1), .val (.long x2), .second, .val (.int x3), .val (.long x4), .second, .val (.int x5), .val (.int x6)] [(.ref a2), (.ref x1)]))
  refine GoW.callS X2 hx hS2 hk2 hZ2 hown2 (hw _ (List.mem_of_getElem? (i := 36) rfl)) (hw _ (List.mem_of_getElem? (i := 37) rfl)) (hw _ (List.mem_of_getElem? (i := 38) rfl)) (hw _ (List.mem_of_getElem? (i := 39) rfl)) (by decide) e2 [(.ref x1), (.ref a2)] [] 0 (rm_rnn l Z a0 hw x1 a2 h2 n0 ) (by decide) (by decide) (by decide) (by decide) (by rw [hml]; rfl) (lenOf own_pd1 rfl) rfl (Nat.le_of_eq rfl) (hb hby own_d_init_7) ?_
  intro T3 v3 L3 X3 hS3 hZ3 hown3 hQ3
  obtain ⟨rfl, rfl, e3⟩ := hQ3
  have N3 := Fr.app N1 (Fr.nil n0)
  show GoW p e below s _ _ _ (T3.setTop (mkF m 10 #[.val (.ref b), .val (.ref x1), .val (.long x2), .second, .val (.int x3), .val (.long x4), .second, .val (.int x5), .val (.int x6)] [(.ref x1)]))
  refine GoW.step (fun t kk => XS.pop X3.here hx rfl (hb hby own_d_init_10) rfl rfl kk) ?_
  show GoW p e below s _ _ _ (T3.setTop (mkF m 11 #[.val (.ref b), .val (.ref x1), .val (.long x2), .second, .val (.int x3), .val (.long x4), .second, .val (.int x5), .val (.int x6)] []))
  refine GoW.step (fun t kk => XS.lloadN X3.here hx rfl (hb hby own_d_init_11) rfl kk) ?_
  show GoW p e below s _ _ _ (T3.setTop (mkF m 12 #[.val (.ref b), .val (.ref x1), .val (.long x2), .second, .val (.int x3), .val (.long x4), .second, .val (.int x5), .val (.int x6)] [(.long x2)]))
  refine GoW.step (fun t kk => XS.lconst X3.here hx rfl (hb hby own_d_init_12) kk) ?_
  show GoW p e below s _ _ _ (T3.setTop (mkF m 13 #[.val (.ref b), .val (.ref x1), .val (.long x2), .second, .val (.int x3), .val (.long x4), .second, .val (.int x5), .val (.int x6)] [(.long (0 : Int64)), (.long x2)]))
  refine GoW.step (fun t kk => XS.lcmp X3.here hx rfl (hb hby own_d_init_13) rfl kk) ?_
  show GoW p e below s _ _ _ (T3.setTop (mkF m 14 #[.val (.ref b), .val (.ref x1), .val (.long x2), .second, .val (.int x3), .val (.long x4), .second, .val (.int x5), .val (.int x6)] [(.int (lcmpW x2 (0 : Int64)))]))
  have hc14_4 : ¬ ((lcmpW x2 (0 : Int64)) < (0 : Int32)) := fun q => n2 ((lw_lt _ _).mp q)
  refine GoW.step (fun t kk => XS.ifNo X3.here hx rfl (hb hby own_d_init_14) rfl ((if0 _ _).trans (flt hc14_4).1) kk) ?_
  show GoW p e below s _ _ _ (T3.setTop (mkF m 17 #[.val (.ref b), .val (.ref x1), .val (.long x2), .second, .val (.int x3), .val (.long x4), .second, .val (.int x5), .val (.int x6)] []))
  refine GoW.step (fun t kk => XS.iload X3.here hx rfl (hb hby own_d_init_17) rfl kk) ?_
  show GoW p e below s _ _ _ (T3.setTop (mkF m 19 #[.val (.ref b), .val (.ref x1), .val (.long x2), .second, .val (.int x3), .val (.long x4), .second, .val (.int x5), .val (.int x6)] [(.int x3)]))
  have hc19_5 : ¬ (x3 < (0 : Int32)) := n3
  refine GoW.step (fun t kk => XS.ifNo X3.here hx rfl (hb hby own_d_init_19) rfl ((if0 _ _).trans (flt hc19_5).1) kk) ?_
  show GoW p e below s _ _ _ (T3.setTop (mkF m 22 #[.val (.ref b), .val (.ref x1), .val (.long x2), .second, .val (.int x3), .val (.long x4), .second, .val (.int x5), .val (.int x6)] []))
  refine GoW.step (fun t kk => XS.iload X3.here hx rfl (hb hby own_d_init_22) rfl kk) ?_
  show GoW p e below s _ _ _ (T3.setTop (mkF m 24 #[.val (.ref b), .val (.ref x1), .val (.long x2), .second, .val (.int x3), .val (.long x4), .second, .val (.int x5), .val (.int x6)] [(.int x5)]))
  have hc24_6 : ¬ (x5 < (0 : Int32)) := n5
  refine GoW.step (fun t kk => XS.ifNo X3.here hx rfl (hb hby own_d_init_24) rfl ((if0 _ _).trans (flt hc24_6).1) kk) ?_
  show GoW p e below s _ _ _ (T3.setTop (mkF m 27 #[.val (.ref b), .val (.ref x1), .val (.long x2), .second, .val (.int x3), .val (.long x4), .second, .val (.int x5), .val (.int x6)] []))
  refine GoW.step (fun t kk => XS.iload X3.here hx rfl (hb hby own_d_init_27) rfl kk) ?_
  show GoW p e below s _ _ _ (T3.setTop (mkF m 29 #[.val (.ref b), .val (.ref x1), .val (.long x2), .second, .val (.int x3), .val (.long x4), .second, .val (.int x5), .val (.int x6)] [(.int x6)]))
  have hc29_7 : ¬ (x6 < (0 : Int32)) := n6
  refine GoW.step (fun t kk => XS.ifYes X3.here hx rfl (pc0 := 29) (pc' := 52) rfl (hb hby own_d_init_29) rfl ((if0 _ _).trans (flt hc29_7).2.1) (by decide) (by decide) kk) ?_
  show GoW p e below s _ _ _ (T3.setTop (mkF m 52 #[.val (.ref b), .val (.ref x1), .val (.long x2), .second, .val (.int x3), .val (.long x4), .second, .val (.int x5), .val (.int x6)] []))
  refine GoW.step (fun t kk => XS.aloadN X3.here hx rfl (hb hby own_d_init_52) rfl rfl kk) ?_
  show GoW p e below s _ _ _ (T3.setTop (mkF m 53 #[.val (.ref b), .val (.ref x1), .val (.long x2), .second, .val (.int x3), .val (.long x4), .second, .val (.int x5), .val (.int x6)] [(.ref b)]))
  refine GoW.step (fun t kk => XS.aloadN X3.here hx rfl (hb hby own_d_init_53) rfl rfl kk) ?_
  show GoW p e below s _ _ _ (T3.setTop (mkF m 54 #[.val (.ref b), .val (.ref x1), .val (.long x2), .second, .val (.int x3), .val (.long x4), .second, .val (.int x5), .val (.int x6)] [(.ref x1), (.ref b)]))
  obtain ⟨T8, h8, X8, e8, W8, st8⟩ := putF X3 hx hZ3 hown3 (host := "") (Or.inl (hw _ (List.mem_of_getElem? (i := 40) rfl))) Via.refl e3 (Fld.ext E2 F0_state) (Exa.ext E2 E0) (Or.inr ⟨(hw _ (List.mem_of_getElem? (i := 41) rfl)), rfl, hnm⟩) (hw _ (List.mem_of_getElem? (i := 15) rfl)) (ty := (.object "com/example/wary_retry/waryretry/breaker/State")) (by decide +kernel) rfl rfl (g := (mkF m 54 #[.val (.ref b), .val (.ref x1), .val (.long x2), .second, .val (.int x3), .val (.long x4), .second, .val (.int x5), .val (.int x6)] [(.ref x1), (.ref b)])) rfl rfl (hb hby own_d_init_54)
  have N8 := Fr.snoc X8 N3 gb
  refine GoW.step st8 ?_
  show GoW p e below s _ _ _ (T8.setTop (mkF m 57 #[.val (.ref b), .val (.ref x1), .val (.long x2), .second, .val (.int x3), .val (.long x4), .second, .val (.int x5), .val (.int x6)] []))
  refine GoW.step (fun t kk => XS.aloadN X8.here hx rfl (hb hby own_d_init_57) rfl rfl kk) ?_
  show GoW p e below s _ _ _ (T8.setTop (mkF m 58 #[.val (.ref b), .val (.ref x1), .val (.long x2), .second, .val (.int x3), .val (.long x4), .second, .val (.int x5), .val (.int x6)] [(.ref b)]))
  refine GoW.step (fun t kk => XS.lloadN X8.here hx rfl (hb hby own_d_init_58) rfl kk) ?_
  show GoW p e below s _ _ _ (T8.setTop (mkF m 59 #[.val (.ref b), .val (.ref x1), .val (.long x2), .second, .val (.int x3), .val (.long x4), .second, .val (.int x5), .val (.int x6)] [(.long x2), (.ref b)]))
  obtain ⟨T9, h9, X9, e9, W9, st9⟩ := putF X8 hx hZ3 hown3 (host := "") (Or.inl (hw _ (List.mem_of_getElem? (i := 42) rfl))) Via.refl e8 (Fld.other W8 (Fld.ext E2 F0_period) (Or.inr (slot_ne (Or.inr (hw _ (List.mem_of_getElem? (i := 43) rfl))) (Or.inr (hw _ (List.mem_of_getElem? (i := 41) rfl))) (by decide) (t := .long) (t' := (.object "com/example/wary_retry/waryretry/breaker/State")) (by decide +kernel) (by decide +kernel)))) (Exa.wr W8 (Exa.ext E2 E0)) (Or.inr ⟨(hw _ (List.mem_of_getElem? (i := 43) rfl)), rfl, hnm⟩) (hw _ (List.mem_of_getElem? (i := 15) rfl)) (ty := .long) (by decide +kernel) rfl rfl (g := (mkF m 59 #[.val (.ref b), .val (.ref x1), .val (.long x2), .second, .val (.int x3), .val (.long x4), .second, .val (.int x5), .val (.int x6)] [(.long x2), (.ref b)])) rfl rfl (hb hby own_d_init_59)
  have N9 := Fr.snoc X9 N8 gb
  refine GoW.step st9 ?_
  show GoW p e below s _ _ _ (T9.setTop (mkF m 62 #[.val (.ref b), .val (.ref x1), .val (.long x2), .second, .val (.int x3), .val (.long x4), .second, .val (.int x5), .val (.int x6)] []))
  refine GoW.step (fun t kk => XS.aloadN X9.here hx rfl (hb hby own_d_init_62) rfl rfl kk) ?_
  show GoW p e below s _ _ _ (T9.setTop (mkF m 63 #[.val (.ref b), .val (.ref x1), .val (.long x2), .second, .val (.int x3), .val (.long x4), .second, .val (.int x5), .val (.int x6)] [(.ref b)]))
  refine GoW.step (fun t kk => XS.iload X9.here hx rfl (hb hby own_d_init_63) rfl kk) ?_
  show GoW p e below s _ _ _ (T9.setTop (mkF m 65 #[.val (.ref b), .val (.ref x1), .val (.long x2), .second, .val (.int x3), .val (.long x4), .second, .val (.int x5), .val (.int x6)] [(.int x3), (.ref b)]))
  obtain ⟨T10, h10, X10, e10, W10, st10⟩ := putF X9 hx hZ3 hown3 (host := "") (Or.inl (hw _ (List.mem_of_getElem? (i := 44) rfl))) Via.refl e9 (Fld.other W9 (Fld.other W8 (Fld.ext E2 F0_failures) (Or.inr (slot_ne (Or.inr (hw _ (List.mem_of_getElem? (i := 45) rfl))) (Or.inr (hw _ (List.mem_of_getElem? (i := 41) rfl))) (by decide) (t := .int) (t' := (.object "com/example/wary_retry/waryretry/breaker/State")) (by decide +kernel) (by decide +kernel)))) (Or.inr (slot_ne (Or.inr (hw _ (List.mem_of_getElem? (i := 45) rfl))) (Or.inr (hw _ (List.mem_of_getElem? (i := 43) rfl))) (by decide) (t := .int) (t' := .long) (by decide +kernel) (by decide +kernel)))) (Exa.wr W9 (Exa.wr W8 (Exa.ext E2 E0))) (Or.inr ⟨(hw _ (List.mem_of_getElem? (i := 45) rfl)), rfl, hnm⟩) (hw _ (List.mem_of_getElem? (i := 15) rfl)) (ty := .int) (by decide +kernel) rfl rfl (g := (mkF m 65 #[.val (.ref b), .val (.ref x1), .val (.long x2), .second, .val (.int x3), .val (.long x4), .second, .val (.int x5), .val (.int x6)] [(.int x3), (.ref b)])) rfl rfl (hb hby own_d_init_65)
  have N10 := Fr.snoc X10 N9 gb
  refine GoW.step st10 ?_
  show GoW p e below s _ _ _ (T10.setTop (mkF m 68 #[.val (.ref b), .val (.ref x1), .val (.long x2), .second, .val (.int x3), .val (.long x4), .second, .val (.int x5), .val (.int x6)] []))
  refine GoW.step (fun t kk => XS.aloadN X10.here hx rfl (hb hby own_d_init_68) rfl rfl kk) ?_
  show GoW p e below s _ _ _ (T10.setTop (mkF m 69 #[.val (.ref b), .val (.ref x1), .val (.long x2), .second, .val (.int x3), .val (.long x4), .second, .val (.int x5), .val (.int x6)] [(.ref b)]))
  refine GoW.step (fun t kk => XS.lload X10.here hx rfl (hb hby own_d_init_69) rfl kk) ?_
  show GoW p e below s _ _ _ (T10.setTop (mkF m 71 #[.val (.ref b), .val (.ref x1), .val (.long x2), .second, .val (.int x3), .val (.long x4), .second, .val (.int x5), .val (.int x6)] [(.long x4), (.ref b)]))
  obtain ⟨T11, h11, X11, e11, W11, st11⟩ := putF X10 hx hZ3 hown3 (host := "") (Or.inl (hw _ (List.mem_of_getElem? (i := 46) rfl))) Via.refl e10 (Fld.other W10 (Fld.other W9 (Fld.other W8 (Fld.ext E2 F0_changedAt) (Or.inr (slot_ne (Or.inr (hw _ (List.mem_of_getElem? (i := 47) rfl))) (Or.inr (hw _ (List.mem_of_getElem? (i := 41) rfl))) (by decide) (t := .long) (t' := (.object "com/example/wary_retry/waryretry/breaker/State")) (by decide +kernel) (by decide +kernel)))) (Or.inr (slot_ne (Or.inr (hw _ (List.mem_of_getElem? (i := 47) rfl))) (Or.inr (hw _ (List.mem_of_getElem? (i := 43) rfl))) (by decide) (t := .long) (t' := .long) (by decide +kernel) (by decide +kernel)))) (Or.inr (slot_ne (Or.inr (hw _ (List.mem_of_getElem? (i := 47) rfl))) (Or.inr (hw _ (List.mem_of_getElem? (i := 45) rfl))) (by decide) (t := .long) (t' := .int) (by decide +kernel) (by decide +kernel)))) (Exa.wr W10 (Exa.wr W9 (Exa.wr W8 (Exa.ext E2 E0)))) (Or.inr ⟨(hw _ (List.mem_of_getElem? (i := 47) rfl)), rfl, hnm⟩) (hw _ (List.mem_of_getElem? (i := 15) rfl)) (ty := .long) (by decide +kernel) rfl rfl (g := (mkF m 71 #[.val (.ref b), .val (.ref x1), .val (.long x2), .second, .val (.int x3), .val (.long x4), .second, .val (.int x5), .val (.int x6)] [(.long x4), (.ref b)])) rfl rfl (hb hby own_d_init_71)
  have N11 := Fr.snoc X11 N10 gb
  refine GoW.step st11 ?_
  show GoW p e below s _ _ _ (T11.setTop (mkF m 74 #[.val (.ref b), .val (.ref x1), .val (.long x2), .second, .val (.int x3), .val (.long x4), .second, .val (.int x5), .val (.int x6)] []))
  refine GoW.step (fun t kk => XS.aloadN X11.here hx rfl (hb hby own_d_init_74) rfl rfl kk) ?_
  show GoW p e below s _ _ _ (T11.setTop (mkF m 75 #[.val (.ref b), .val (.ref x1), .val (.long x2), .second, .val (.int x3), .val (.long x4), .second, .val (.int x5), .val (.int x6)] [(.ref b)]))
  refine GoW.step (fun t kk => XS.iload X11.here hx rfl (hb hby own_d_init_75) rfl kk) ?_
  show GoW p e below s _ _ _ (T11.setTop (mkF m 77 #[.val (.ref b), .val (.ref x1), .val (.long x2), .second, .val (.int x3), .val (.long x4), .second, .val (.int x5), .val (.int x6)] [(.int x5), (.ref b)]))
  obtain ⟨T12, h12, X12, e12, W12, st12⟩ := putF X11 hx hZ3 hown3 (host := "") (Or.inl (hw _ (List.mem_of_getElem? (i := 48) rfl))) Via.refl e11 (Fld.other W11 (Fld.other W10 (Fld.other W9 (Fld.other W8 (Fld.ext E2 F0_admitted) (Or.inr (slot_ne (Or.inr (hw _ (List.mem_of_getElem? (i := 49) rfl))) (Or.inr (hw _ (List.mem_of_getElem? (i := 41) rfl))) (by decide) (t := .int) (t' := (.object "com/example/wary_retry/waryretry/breaker/State")) (by decide +kernel) (by decide +kernel)))) (Or.inr (slot_ne (Or.inr (hw _ (List.mem_of_getElem? (i := 49) rfl))) (Or.inr (hw _ (List.mem_of_getElem? (i := 43) rfl))) (by decide) (t := .int) (t' := .long) (by decide +kernel) (by decide +kernel)))) (Or.inr (slot_ne (Or.inr (hw _ (List.mem_of_getElem? (i := 49) rfl))) (Or.inr (hw _ (List.mem_of_getElem? (i := 45) rfl))) (by decide) (t := .int) (t' := .int) (by decide +kernel) (by decide +kernel)))) (Or.inr (slot_ne (Or.inr (hw _ (List.mem_of_getElem? (i := 49) rfl))) (Or.inr (hw _ (List.mem_of_getElem? (i := 47) rfl))) (by decide) (t := .int) (t' := .long) (by decide +kernel) (by decide +kernel)))) (Exa.wr W11 (Exa.wr W10 (Exa.wr W9 (Exa.wr W8 (Exa.ext E2 E0))))) (Or.inr ⟨(hw _ (List.mem_of_getElem? (i := 49) rfl)), rfl, hnm⟩) (hw _ (List.mem_of_getElem? (i := 15) rfl)) (ty := .int) (by decide +kernel) rfl rfl (g := (mkF m 77 #[.val (.ref b), .val (.ref x1), .val (.long x2), .second, .val (.int x3), .val (.long x4), .second, .val (.int x5), .val (.int x6)] [(.int x5), (.ref b)])) rfl rfl (hb hby own_d_init_77)
  have N12 := Fr.snoc X12 N11 gb
  refine GoW.step st12 ?_
  show GoW p e below s _ _ _ (T12.setTop (mkF m 80 #[.val (.ref b), .val (.ref x1), .val (.long x2), .second, .val (.int x3), .val (.long x4), .second, .val (.int x5), .val (.int x6)] []))
  refine GoW.step (fun t kk => XS.aloadN X12.here hx rfl (hb hby own_d_init_80) rfl rfl kk) ?_
  show GoW p e below s _ _ _ (T12.setTop (mkF m 81 #[.val (.ref b), .val (.ref x1), .val (.long x2), .second, .val (.int x3), .val (.long x4), .second, .val (.int x5), .val (.int x6)] [(.ref b)]))
  refine GoW.step (fun t kk => XS.iload X12.here hx rfl (hb hby own_d_init_81) rfl kk) ?_
  show GoW p e below s _ _ _ (T12.setTop (mkF m 83 #[.val (.ref b), .val (.ref x1), .val (.long x2), .second, .val (.int x3), .val (.long x4), .second, .val (.int x5), .val (.int x6)] [(.int x6), (.ref b)]))
  obtain ⟨T13, h13, X13, e13, W13, st13⟩ := putF X12 hx hZ3 hown3 (host := "") (Or.inl (hw _ (List.mem_of_getElem? (i := 50) rfl))) Via.refl e12 (Fld.other W12 (Fld.other W11 (Fld.other W10 (Fld.other W9 (Fld.other W8 (Fld.ext E2 F0_succeeded) (Or.inr (slot_ne (Or.inr (hw _ (List.mem_of_getElem? (i := 51) rfl))) (Or.inr (hw _ (List.mem_of_getElem? (i := 41) rfl))) (by decide) (t := .int) (t' := (.object "com/example/wary_retry/waryretry/breaker/State")) (by decide +kernel) (by decide +kernel)))) (Or.inr (slot_ne (Or.inr (hw _ (List.mem_of_getElem? (i := 51) rfl))) (Or.inr (hw _ (List.mem_of_getElem? (i := 43) rfl))) (by decide) (t := .int) (t' := .long) (by decide +kernel) (by decide +kernel)))) (Or.inr (slot_ne (Or.inr (hw _ (List.mem_of_getElem? (i := 51) rfl))) (Or.inr (hw _ (List.mem_of_getElem? (i := 45) rfl))) (by decide) (t := .int) (t' := .int) (by decide +kernel) (by decide +kernel)))) (Or.inr (slot_ne (Or.inr (hw _ (List.mem_of_getElem? (i := 51) rfl))) (Or.inr (hw _ (List.mem_of_getElem? (i := 47) rfl))) (by decide) (t := .int) (t' := .long) (by decide +kernel) (by decide +kernel)))) (Or.inr (slot_ne (Or.inr (hw _ (List.mem_of_getElem? (i := 51) rfl))) (Or.inr (hw _ (List.mem_of_getElem? (i := 49) rfl))) (by decide) (t := .int) (t' := .int) (by decide +kernel) (by decide +kernel)))) (Exa.wr W12 (Exa.wr W11 (Exa.wr W10 (Exa.wr W9 (Exa.wr W8 (Exa.ext E2 E0)))))) (Or.inr ⟨(hw _ (List.mem_of_getElem? (i := 51) rfl)), rfl, hnm⟩) (hw _ (List.mem_of_getElem? (i := 15) rfl)) (ty := .int) (by decide +kernel) rfl rfl (g := (mkF m 83 #[.val (.ref b), .val (.ref x1), .val (.long x2), .second, .val (.int x3), .val (.long x4), .second, .val (.int x5), .val (.int x6)] [(.int x6), (.ref b)])) rfl rfl (hb hby own_d_init_83)
  have N13 := Fr.snoc X13 N12 gb
  refine GoW.step st13 ?_
  show GoW p e below s _ _ _ (T13.setTop (mkF m 86 #[.val (.ref b), .val (.ref x1), .val (.long x2), .second, .val (.int x3), .val (.long x4), .second, .val (.int x5), .val (.int x6)] []))
  exact GoW.retV X13 hx hlk hS3 (own_at e13 (Nat.le_trans (Nat.le_trans (Nat.le_trans (Nat.le_trans (Nat.le_trans (Nat.le_trans (Nat.le_of_eq (congrArg Array.size e3)) (Nat.le_of_eq (Wr.size W8).symm)) (Nat.le_of_eq (Wr.size W9).symm)) (Nat.le_of_eq (Wr.size W10).symm)) (Nat.le_of_eq (Wr.size W11).symm)) (Nat.le_of_eq (Wr.size W12).symm)) (Nat.le_of_eq (Wr.size W13).symm))) hret (hb hby own_d_init_86) (by rw [e13]; exact ⟨rfl, N13, (Keep.wr (Keep.wr (Keep.wr (Keep.wr (Keep.wr (Keep.wr (Keep.ext (Keep.refl h0 [b]) E2) W8 (Or.inl (List.mem_of_getElem? (i := 0) rfl))) W9 (Or.inl (List.mem_of_getElem? (i := 0) rfl))) W10 (Or.inl (List.mem_of_getElem? (i := 0) rfl))) W11 (Or.inl (List.mem_of_getElem? (i := 0) rfl))) W12 (Or.inl (List.mem_of_getElem? (i := 0) rfl))) W13 (Or.inl (List.mem_of_getElem? (i := 0) rfl))), (Fld.other W13 (Fld.other W12 (Fld.other W11 (Fld.other W10 (Fld.other W9 (Fld.same W8 (Fld.ext E2 F0_state)) (Or.inr (slot_ne (Or.inr (hw _ (List.mem_of_getElem? (i := 41) rfl))) (Or.inr (hw _ (List.mem_of_getElem? (i := 43) rfl))) (by decide) (t := (.object "com/example/wary_retry/waryretry/breaker/State")) (t' := .long) (by decide +kernel) (by decide +kernel)))) (Or.inr (slot_ne (Or.inr (hw _ (List.mem_of_getElem? (i := 41) rfl))) (Or.inr (hw _ (List.mem_of_getElem? (i := 45) rfl))) (by decide) (t := (.object "com/example/wary_retry/waryretry/breaker/State")) (t' := .int) (by decide +kernel) (by decide +kernel)))) (Or.inr (slot_ne (Or.inr (hw _ (List.mem_of_getElem? (i := 41) rfl))) (Or.inr (hw _ (List.mem_of_getElem? (i := 47) rfl))) (by decide) (t := (.object "com/example/wary_retry/waryretry/breaker/State")) (t' := .long) (by decide +kernel) (by decide +kernel)))) (Or.inr (slot_ne (Or.inr (hw _ (List.mem_of_getElem? (i := 41) rfl))) (Or.inr (hw _ (List.mem_of_getElem? (i := 49) rfl))) (by decide) (t := (.object "com/example/wary_retry/waryretry/breaker/State")) (t' := .int) (by decide +kernel) (by decide +kernel)))) (Or.inr (slot_ne (Or.inr (hw _ (List.mem_of_getElem? (i := 41) rfl))) (Or.inr (hw _ (List.mem_of_getElem? (i := 51) rfl))) (by decide) (t := (.object "com/example/wary_retry/waryretry/breaker/State")) (t' := .int) (by decide +kernel) (by decide +kernel)))), (Fld.other W13 (Fld.other W12 (Fld.other W11 (Fld.other W10 (Fld.same W9 (Fld.other W8 (Fld.ext E2 F0_period) (Or.inr (slot_ne (Or.inr (hw _ (List.mem_of_getElem? (i := 43) rfl))) (Or.inr (hw _ (List.mem_of_getElem? (i := 41) rfl))) (by decide) (t := .long) (t' := (.object "com/example/wary_retry/waryretry/breaker/State")) (by decide +kernel) (by decide +kernel))))) (Or.inr (slot_ne (Or.inr (hw _ (List.mem_of_getElem? (i := 43) rfl))) (Or.inr (hw _ (List.mem_of_getElem? (i := 45) rfl))) (by decide) (t := .long) (t' := .int) (by decide +kernel) (by decide +kernel)))) (Or.inr (slot_ne (Or.inr (hw _ (List.mem_of_getElem? (i := 43) rfl))) (Or.inr (hw _ (List.mem_of_getElem? (i := 47) rfl))) (by decide) (t := .long) (t' := .long) (by decide +kernel) (by decide +kernel)))) (Or.inr (slot_ne (Or.inr (hw _ (List.mem_of_getElem? (i := 43) rfl))) (Or.inr (hw _ (List.mem_of_getElem? (i := 49) rfl))) (by decide) (t := .long) (t' := .int) (by decide +kernel) (by decide +kernel)))) (Or.inr (slot_ne (Or.inr (hw _ (List.mem_of_getElem? (i := 43) rfl))) (Or.inr (hw _ (List.mem_of_getElem? (i := 51) rfl))) (by decide) (t := .long) (t' := .int) (by decide +kernel) (by decide +kernel)))), (Fld.other W13 (Fld.other W12 (Fld.other W11 (Fld.same W10 (Fld.other W9 (Fld.other W8 (Fld.ext E2 F0_failures) (Or.inr (slot_ne (Or.inr (hw _ (List.mem_of_getElem? (i := 45) rfl))) (Or.inr (hw _ (List.mem_of_getElem? (i := 41) rfl))) (by decide) (t := .int) (t' := (.object "com/example/wary_retry/waryretry/breaker/State")) (by decide +kernel) (by decide +kernel)))) (Or.inr (slot_ne (Or.inr (hw _ (List.mem_of_getElem? (i := 45) rfl))) (Or.inr (hw _ (List.mem_of_getElem? (i := 43) rfl))) (by decide) (t := .int) (t' := .long) (by decide +kernel) (by decide +kernel))))) (Or.inr (slot_ne (Or.inr (hw _ (List.mem_of_getElem? (i := 45) rfl))) (Or.inr (hw _ (List.mem_of_getElem? (i := 47) rfl))) (by decide) (t := .int) (t' := .long) (by decide +kernel) (by decide +kernel)))) (Or.inr (slot_ne (Or.inr (hw _ (List.mem_of_getElem? (i := 45) rfl))) (Or.inr (hw _ (List.mem_of_getElem? (i := 49) rfl))) (by decide) (t := .int) (t' := .int) (by decide +kernel) (by decide +kernel)))) (Or.inr (slot_ne (Or.inr (hw _ (List.mem_of_getElem? (i := 45) rfl))) (Or.inr (hw _ (List.mem_of_getElem? (i := 51) rfl))) (by decide) (t := .int) (t' := .int) (by decide +kernel) (by decide +kernel)))), (Fld.other W13 (Fld.other W12 (Fld.same W11 (Fld.other W10 (Fld.other W9 (Fld.other W8 (Fld.ext E2 F0_changedAt) (Or.inr (slot_ne (Or.inr (hw _ (List.mem_of_getElem? (i := 47) rfl))) (Or.inr (hw _ (List.mem_of_getElem? (i := 41) rfl))) (by decide) (t := .long) (t' := (.object "com/example/wary_retry/waryretry/breaker/State")) (by decide +kernel) (by decide +kernel)))) (Or.inr (slot_ne (Or.inr (hw _ (List.mem_of_getElem? (i := 47) rfl))) (Or.inr (hw _ (List.mem_of_getElem? (i := 43) rfl))) (by decide) (t := .long) (t' := .long) (by decide +kernel) (by decide +kernel)))) (Or.inr (slot_ne (Or.inr (hw _ (List.mem_of_getElem? (i := 47) rfl))) (Or.inr (hw _ (List.mem_of_getElem? (i := 45) rfl))) (by decide) (t := .long) (t' := .int) (by decide +kernel) (by decide +kernel))))) (Or.inr (slot_ne (Or.inr (hw _ (List.mem_of_getElem? (i := 47) rfl))) (Or.inr (hw _ (List.mem_of_getElem? (i := 49) rfl))) (by decide) (t := .long) (t' := .int) (by decide +kernel) (by decide +kernel)))) (Or.inr (slot_ne (Or.inr (hw _ (List.mem_of_getElem? (i := 47) rfl))) (Or.inr (hw _ (List.mem_of_getElem? (i := 51) rfl))) (by decide) (t := .long) (t' := .int) (by decide +kernel) (by decide +kernel)))), (Fld.other W13 (Fld.same W12 (Fld.other W11 (Fld.other W10 (Fld.other W9 (Fld.other W8 (Fld.ext E2 F0_admitted) (Or.inr (slot_ne (Or.inr (hw _ (List.mem_of_getElem? (i := 49) rfl))) (Or.inr (hw _ (List.mem_of_getElem? (i := 41) rfl))) (by decide) (t := .int) (t' := (.object "com/example/wary_retry/waryretry/breaker/State")) (by decide +kernel) (by decide +kernel)))) (Or.inr (slot_ne (Or.inr (hw _ (List.mem_of_getElem? (i := 49) rfl))) (Or.inr (hw _ (List.mem_of_getElem? (i := 43) rfl))) (by decide) (t := .int) (t' := .long) (by decide +kernel) (by decide +kernel)))) (Or.inr (slot_ne (Or.inr (hw _ (List.mem_of_getElem? (i := 49) rfl))) (Or.inr (hw _ (List.mem_of_getElem? (i := 45) rfl))) (by decide) (t := .int) (t' := .int) (by decide +kernel) (by decide +kernel)))) (Or.inr (slot_ne (Or.inr (hw _ (List.mem_of_getElem? (i := 49) rfl))) (Or.inr (hw _ (List.mem_of_getElem? (i := 47) rfl))) (by decide) (t := .int) (t' := .long) (by decide +kernel) (by decide +kernel))))) (Or.inr (slot_ne (Or.inr (hw _ (List.mem_of_getElem? (i := 49) rfl))) (Or.inr (hw _ (List.mem_of_getElem? (i := 51) rfl))) (by decide) (t := .int) (t' := .int) (by decide +kernel) (by decide +kernel)))), (Fld.same W13 (Fld.other W12 (Fld.other W11 (Fld.other W10 (Fld.other W9 (Fld.other W8 (Fld.ext E2 F0_succeeded) (Or.inr (slot_ne (Or.inr (hw _ (List.mem_of_getElem? (i := 51) rfl))) (Or.inr (hw _ (List.mem_of_getElem? (i := 41) rfl))) (by decide) (t := .int) (t' := (.object "com/example/wary_retry/waryretry/breaker/State")) (by decide +kernel) (by decide +kernel)))) (Or.inr (slot_ne (Or.inr (hw _ (List.mem_of_getElem? (i := 51) rfl))) (Or.inr (hw _ (List.mem_of_getElem? (i := 43) rfl))) (by decide) (t := .int) (t' := .long) (by decide +kernel) (by decide +kernel)))) (Or.inr (slot_ne (Or.inr (hw _ (List.mem_of_getElem? (i := 51) rfl))) (Or.inr (hw _ (List.mem_of_getElem? (i := 45) rfl))) (by decide) (t := .int) (t' := .int) (by decide +kernel) (by decide +kernel)))) (Or.inr (slot_ne (Or.inr (hw _ (List.mem_of_getElem? (i := 51) rfl))) (Or.inr (hw _ (List.mem_of_getElem? (i := 47) rfl))) (by decide) (t := .int) (t' := .long) (by decide +kernel) (by decide +kernel)))) (Or.inr (slot_ne (Or.inr (hw _ (List.mem_of_getElem? (i := 51) rfl))) (Or.inr (hw _ (List.mem_of_getElem? (i := 49) rfl))) (by decide) (t := .int) (t' := .int) (by decide +kernel) (by decide +kernel)))))⟩) (by decide) (by decide)
theorem own_d_g_state_0 : decode prog_17_method_11_code 0 = .ok (.aload_n 0, 1) := by decide +kernel
theorem own_d_g_state_1 : decode prog_17_method_11_code 1 = .ok (.getfield 24, 3) := by decide +kernel
theorem own_d_g_state_4 : decode prog_17_method_11_code 4 = .ok (.areturn, 1) := by decide +kernel
theorem own_ef_g_state (m : MethodId) (b : Addr) : entryFrame m #[(.ref b)] 1 = mkF m 0 #[.val (.ref b)] [] := by first | (simp [entryFrame, mkF, argsToLocals, Value.category, maxLocals]; done) | rfl
set_option maxRecDepth 65536 in
set_option maxHeartbeats 40000000 in
theorem rm_g_state (l : Launch) (Z : State) (a0 : Array Value) (hw : ∀ d ∈ tables_1, d.before a0 Z = true) (b : Addr) (z : Addr) (h0 : Heap) (n0 : Nat) (F0 : Fld Z h0 b "com/example/wary_retry/waryretry/breaker/Phase" "state" "Lcom/example/wary_retry/waryretry/breaker/State;" (.ref z)) :
    ConW l Z (⟨"com/example/wary_retry/waryretry/breaker/Phase", "state", "()Lcom/example/wary_retry/waryretry/breaker/State;"⟩ : MethodName) prog_17_method_11_code 1 (some (.object "com/example/wary_retry/waryretry/breaker/State")) ({ frames := 0, cells := 0, slots := 0, locals := 0 } : Room) #[(.ref b)] h0 (fun v h L => v = some (.ref z) ∧ L = [] ∧ h = h0) := by
  refine ConW.of (plainFor_of_name own_pn3) ?_
  intro p e s m below meth c T0 X0 hx hby hml hret hlk hown0 hnm hZ e0 hS0
  have hown : s.vm.findClass "com/example/wary_retry/waryretry/breaker/Phase" = some m.cls := hown0
  have N0 := Fr.nil n0
  refine GoW.step (fun t kk => castTop (own_ef_g_state m b) kk) ?_
  show GoW p e below s _ _ _ (T0.setTop (mkF m 0 #[.val (.ref b)] []))
  refine GoW.step (fun t kk => XS.aloadN X0.here hx rfl (hb hby own_d_g_state_0) rfl rfl kk) ?_
  show GoW p e below s _ _ _ (T0.setTop (mkF m 1 #[.val (.ref b)] [(.ref b)]))
  obtain ⟨T1, X1, e1, st1⟩ := getF X0 hx hZ hown (host := "") (Or.inl (hw _ (List.mem_of_getElem? (i := 40) rfl))) Via.refl e0 F0 (g := (mkF m 1 #[.val (.ref b)] [(.ref b)])) rfl rfl (hb hby own_d_g_state_1)
  refine GoW.step st1 ?_
  show GoW p e below s _ _ _ (T1.setTop (mkF m 4 #[.val (.ref b)] [(.ref z)]))
  exact GoW.retA X1 hx hlk hS0 (own_at e1 (Nat.le_refl _)) hret rfl rfl (hb hby own_d_g_state_4) (show _ ∧ _ ∧ _ from ⟨rfl, rfl, e1⟩) (by decide) (by decide)
theorem own_d_g_period_0 : decode prog_17_method_12_code 0 = .ok (.aload_n 0, 1) := by decide +kernel
theorem own_d_g_period_1 : decode prog_17_method_12_code 1 = .ok (.getfield 29, 3) := by decide +kernel
theorem own_d_g_period_4 : decode prog_17_method_12_code 4 = .ok (.lreturn, 1) := by decide +kernel
theorem own_ef_g_period (m : MethodId) (b : Addr) : entryFrame m #[(.ref b)] 1 = mkF m 0 #[.val (.ref b)] [] := by first | (simp [entryFrame, mkF, argsToLocals, Value.category, maxLocals]; done) | rfl
set_option maxRecDepth 65536 in
set_option maxHeartbeats 40000000 in
theorem rm_g_period (l : Launch) (Z : State) (a0 : Array Value) (hw : ∀ d ∈ tables_1, d.before a0 Z = true) (b : Addr) (z : Int64) (h0 : Heap) (n0 : Nat) (F0 : Fld Z h0 b "com/example/wary_retry/waryretry/breaker/Phase" "period" "J" (.long z)) :
    ConW l Z (⟨"com/example/wary_retry/waryretry/breaker/Phase", "period", "()J"⟩ : MethodName) prog_17_method_12_code 1 (some .long) ({ frames := 0, cells := 0, slots := 0, locals := 0 } : Room) #[(.ref b)] h0 (fun v h L => v = some (.long z) ∧ L = [] ∧ h = h0) := by
  refine ConW.of (plainFor_of_name own_pn3) ?_
  intro p e s m below meth c T0 X0 hx hby hml hret hlk hown0 hnm hZ e0 hS0
  have hown : s.vm.findClass "com/example/wary_retry/waryretry/breaker/Phase" = some m.cls := hown0
  have N0 := Fr.nil n0
  refine GoW.step (fun t kk => castTop (own_ef_g_period m b) kk) ?_
  show GoW p e below s _ _ _ (T0.setTop (mkF m 0 #[.val (.ref b)] []))
  refine GoW.step (fun t kk => XS.aloadN X0.here hx rfl (hb hby own_d_g_period_0) rfl rfl kk) ?_
  show GoW p e below s _ _ _ (T0.setTop (mkF m 1 #[.val (.ref b)] [(.ref b)]))
  obtain ⟨T1, X1, e1, st1⟩ := getF X0 hx hZ hown (host := "") (Or.inl (hw _ (List.mem_of_getElem? (i := 42) rfl))) Via.refl e0 F0 (g := (mkF m 1 #[.val (.ref b)] [(.ref b)])) rfl rfl (hb hby own_d_g_period_1)
  refine GoW.step st1 ?_
  show GoW p e below s _ _ _ (T1.setTop (mkF m 4 #[.val (.ref b)] [(.long z)]))
  exact GoW.retJ X1 hx hlk hS0 (own_at e1 (Nat.le_refl _)) hret (hb hby own_d_g_period_4) (show _ ∧ _ ∧ _ from ⟨rfl, rfl, e1⟩) (by decide) (by decide)
theorem own_d_g_failures_0 : decode prog_17_method_13_code 0 = .ok (.aload_n 0, 1) := by decide +kernel
theorem own_d_g_failures_1 : decode prog_17_method_13_code 1 = .ok (.getfield 33, 3) := by decide +kernel
theorem own_d_g_failures_4 : decode prog_17_method_13_code 4 = .ok (.ireturn, 1) := by decide +kernel
theorem own_ef_g_failures (m : MethodId) (b : Addr) : entryFrame m #[(.ref b)] 1 = mkF m 0 #[.val (.ref b)] [] := by first | (simp [entryFrame, mkF, argsToLocals, Value.category, maxLocals]; done) | rfl
set_option maxRecDepth 65536 in
set_option maxHeartbeats 40000000 in
theorem rm_g_failures (l : Launch) (Z : State) (a0 : Array Value) (hw : ∀ d ∈ tables_1, d.before a0 Z = true) (b : Addr) (z : Int32) (h0 : Heap) (n0 : Nat) (F0 : Fld Z h0 b "com/example/wary_retry/waryretry/breaker/Phase" "failures" "I" (.int z)) :
    ConW l Z (⟨"com/example/wary_retry/waryretry/breaker/Phase", "failures", "()I"⟩ : MethodName) prog_17_method_13_code 1 (some .int) ({ frames := 0, cells := 0, slots := 0, locals := 0 } : Room) #[(.ref b)] h0 (fun v h L => v = some (.int z) ∧ L = [] ∧ h = h0) := by
  refine ConW.of (plainFor_of_name own_pn3) ?_
  intro p e s m below meth c T0 X0 hx hby hml hret hlk hown0 hnm hZ e0 hS0
  have hown : s.vm.findClass "com/example/wary_retry/waryretry/breaker/Phase" = some m.cls := hown0
  have N0 := Fr.nil n0
  refine GoW.step (fun t kk => castTop (own_ef_g_failures m b) kk) ?_
  show GoW p e below s _ _ _ (T0.setTop (mkF m 0 #[.val (.ref b)] []))
  refine GoW.step (fun t kk => XS.aloadN X0.here hx rfl (hb hby own_d_g_failures_0) rfl rfl kk) ?_
  show GoW p e below s _ _ _ (T0.setTop (mkF m 1 #[.val (.ref b)] [(.ref b)]))
  obtain ⟨T1, X1, e1, st1⟩ := getF X0 hx hZ hown (host := "") (Or.inl (hw _ (List.mem_of_getElem? (i := 44) rfl))) Via.refl e0 F0 (g := (mkF m 1 #[.val (.ref b)] [(.ref b)])) rfl rfl (hb hby own_d_g_failures_1)
  refine GoW.step st1 ?_
  show GoW p e below s _ _ _ (T1.setTop (mkF m 4 #[.val (.ref b)] [(.int z)]))
  exact GoW.retI X1 hx hlk hS0 (own_at e1 (Nat.le_refl _)) hret (hb hby own_d_g_failures_4) (show _ ∧ _ ∧ _ from ⟨rfl, rfl, e1⟩) (by decide) (by decide)
theorem own_d_g_changedAt_0 : decode prog_17_method_14_code 0 = .ok (.aload_n 0, 1) := by decide +kernel
theorem own_d_g_changedAt_1 : decode prog_17_method_14_code 1 = .ok (.getfield 37, 3) := by decide +kernel
theorem own_d_g_changedAt_4 : decode prog_17_method_14_code 4 = .ok (.lreturn, 1) := by decide +kernel
theorem own_ef_g_changedAt (m : MethodId) (b : Addr) : entryFrame m #[(.ref b)] 1 = mkF m 0 #[.val (.ref b)] [] := by first | (simp [entryFrame, mkF, argsToLocals, Value.category, maxLocals]; done) | rfl
set_option maxRecDepth 65536 in
set_option maxHeartbeats 40000000 in
theorem rm_g_changedAt (l : Launch) (Z : State) (a0 : Array Value) (hw : ∀ d ∈ tables_1, d.before a0 Z = true) (b : Addr) (z : Int64) (h0 : Heap) (n0 : Nat) (F0 : Fld Z h0 b "com/example/wary_retry/waryretry/breaker/Phase" "changedAt" "J" (.long z)) :
    ConW l Z (⟨"com/example/wary_retry/waryretry/breaker/Phase", "changedAt", "()J"⟩ : MethodName) prog_17_method_14_code 1 (some .long) ({ frames := 0, cells := 0, slots := 0, locals := 0 } : Room) #[(.ref b)] h0 (fun v h L => v = some (.long z) ∧ L = [] ∧ h = h0) := by
  refine ConW.of (plainFor_of_name own_pn3) ?_
  intro p e s m below meth c T0 X0 hx hby hml hret hlk hown0 hnm hZ e0 hS0
  have hown : s.vm.findClass "com/example/wary_retry/waryretry/breaker/Phase" = some m.cls := hown0
  have N0 := Fr.nil n0
  refine GoW.step (fun t kk => castTop (own_ef_g_changedAt m b) kk) ?_
  show GoW p e below s _ _ _ (T0.setTop (mkF m 0 #[.val (.ref b)] []))
  refine GoW.step (fun t kk => XS.aloadN X0.here hx rfl (hb hby own_d_g_changedAt_0) rfl rfl kk) ?_
  show GoW p e below s _ _ _ (T0.setTop (mkF m 1 #[.val (.ref b)] [(.ref b)]))
  obtain ⟨T1, X1, e1, st1⟩ := getF X0 hx hZ hown (host := "") (Or.inl (hw _ (List.mem_of_getElem? (i := 46) rfl))) Via.refl e0 F0 (g := (mkF m 1 #[.val (.ref b)] [(.ref b)])) rfl rfl (hb hby own_d_g_changedAt_1)
  refine GoW.step st1 ?_
  show GoW p e below s _ _ _ (T1.setTop (mkF m 4 #[.val (.ref b)] [(.long z)]))
  exact GoW.retJ X1 hx hlk hS0 (own_at e1 (Nat.le_refl _)) hret (hb hby own_d_g_changedAt_4) (show _ ∧ _ ∧ _ from ⟨rfl, rfl, e1⟩) (by decide) (by decide)
theorem own_d_g_admitted_0 : decode prog_17_method_15_code 0 = .ok (.aload_n 0, 1) := by decide +kernel
theorem own_d_g_admitted_1 : decode prog_17_method_15_code 1 = .ok (.getfield 40, 3) := by decide +kernel
theorem own_d_g_admitted_4 : decode prog_17_method_15_code 4 = .ok (.ireturn, 1) := by decide +kernel
theorem own_ef_g_admitted (m : MethodId) (b : Addr) : entryFrame m #[(.ref b)] 1 = mkF m 0 #[.val (.ref b)] [] := by first | (simp [entryFrame, mkF, argsToLocals, Value.category, maxLocals]; done) | rfl
set_option maxRecDepth 65536 in
set_option maxHeartbeats 40000000 in
theorem rm_g_admitted (l : Launch) (Z : State) (a0 : Array Value) (hw : ∀ d ∈ tables_1, d.before a0 Z = true) (b : Addr) (z : Int32) (h0 : Heap) (n0 : Nat) (F0 : Fld Z h0 b "com/example/wary_retry/waryretry/breaker/Phase" "admitted" "I" (.int z)) :
    ConW l Z (⟨"com/example/wary_retry/waryretry/breaker/Phase", "admitted", "()I"⟩ : MethodName) prog_17_method_15_code 1 (some .int) ({ frames := 0, cells := 0, slots := 0, locals := 0 } : Room) #[(.ref b)] h0 (fun v h L => v = some (.int z) ∧ L = [] ∧ h = h0) := by
  refine ConW.of (plainFor_of_name own_pn3) ?_
  intro p e s m below meth c T0 X0 hx hby hml hret hlk hown0 hnm hZ e0 hS0
  have hown : s.vm.findClass "com/example/wary_retry/waryretry/breaker/Phase" = some m.cls := hown0
  have N0 := Fr.nil n0
  refine GoW.step (fun t kk => castTop (own_ef_g_admitted m b) kk) ?_
  show GoW p e below s _ _ _ (T0.setTop (mkF m 0 #[.val (.ref b)] []))
  refine GoW.step (fun t kk => XS.aloadN X0.here hx rfl (hb hby own_d_g_admitted_0) rfl rfl kk) ?_
  show GoW p e below s _ _ _ (T0.setTop (mkF m 1 #[.val (.ref b)] [(.ref b)]))
  obtain ⟨T1, X1, e1, st1⟩ := getF X0 hx hZ hown (host := "") (Or.inl (hw _ (List.mem_of_getElem? (i := 48) rfl))) Via.refl e0 F0 (g := (mkF m 1 #[.val (.ref b)] [(.ref b)])) rfl rfl (hb hby own_d_g_admitted_1)
  refine GoW.step st1 ?_
  show GoW p e below s _ _ _ (T1.setTop (mkF m 4 #[.val (.ref b)] [(.int z)]))
  exact GoW.retI X1 hx hlk hS0 (own_at e1 (Nat.le_refl _)) hret (hb hby own_d_g_admitted_4) (show _ ∧ _ ∧ _ from ⟨rfl, rfl, e1⟩) (by decide) (by decide)
theorem own_d_g_succeeded_0 : decode prog_17_method_16_code 0 = .ok (.aload_n 0, 1) := by decide +kernel
theorem own_d_g_succeeded_1 : decode prog_17_method_16_code 1 = .ok (.getfield 43, 3) := by decide +kernel
theorem own_d_g_succeeded_4 : decode prog_17_method_16_code 4 = .ok (.ireturn, 1) := by decide +kernel
theorem own_ef_g_succeeded (m : MethodId) (b : Addr) : entryFrame m #[(.ref b)] 1 = mkF m 0 #[.val (.ref b)] [] := by first | (simp [entryFrame, mkF, argsToLocals, Value.category, maxLocals]; done) | rfl
set_option maxRecDepth 65536 in
set_option maxHeartbeats 40000000 in
theorem rm_g_succeeded (l : Launch) (Z : State) (a0 : Array Value) (hw : ∀ d ∈ tables_1, d.before a0 Z = true) (b : Addr) (z : Int32) (h0 : Heap) (n0 : Nat) (F0 : Fld Z h0 b "com/example/wary_retry/waryretry/breaker/Phase" "succeeded" "I" (.int z)) :
    ConW l Z (⟨"com/example/wary_retry/waryretry/breaker/Phase", "succeeded", "()I"⟩ : MethodName) prog_17_method_16_code 1 (some .int) ({ frames := 0, cells := 0, slots := 0, locals := 0 } : Room) #[(.ref b)] h0 (fun v h L => v = some (.int z) ∧ L = [] ∧ h = h0) := by
  refine ConW.of (plainFor_of_name own_pn3) ?_
  intro p e s m below meth c T0 X0 hx hby hml hret hlk hown0 hnm hZ e0 hS0
  have hown : s.vm.findClass "com/example/wary_retry/waryretry/breaker/Phase" = some m.cls := hown0
  have N0 := Fr.nil n0
  refine GoW.step (fun t kk => castTop (own_ef_g_succeeded m b) kk) ?_
  show GoW p e below s _ _ _ (T0.setTop (mkF m 0 #[.val (.ref b)] []))
  refine GoW.step (fun t kk => XS.aloadN X0.here hx rfl (hb hby own_d_g_succeeded_0) rfl rfl kk) ?_
  show GoW p e below s _ _ _ (T0.setTop (mkF m 1 #[.val (.ref b)] [(.ref b)]))
  obtain ⟨T1, X1, e1, st1⟩ := getF X0 hx hZ hown (host := "") (Or.inl (hw _ (List.mem_of_getElem? (i := 50) rfl))) Via.refl e0 F0 (g := (mkF m 1 #[.val (.ref b)] [(.ref b)])) rfl rfl (hb hby own_d_g_succeeded_1)
  refine GoW.step st1 ?_
  show GoW p e below s _ _ _ (T1.setTop (mkF m 4 #[.val (.ref b)] [(.int z)]))
  exact GoW.retI X1 hx hlk hS0 (own_at e1 (Nat.le_refl _)) hret (hb hby own_d_g_succeeded_4) (show _ ∧ _ ∧ _ from ⟨rfl, rfl, e1⟩) (by decide) (by decide)
theorem own_minb (x : Int32) : ¬ own_min (x &&& 2147483647) 2147483646 < 0 ∧ ¬ (own_min (x &&& 2147483647) 2147483646 + 1) < 0 := by
  have h := c_and x 2147483647 (by decide)
  have e0 : (0 : Int32).toInt = 0 := by decide
  have e1 : (2147483646 : Int32).toInt = 2147483646 := by decide
  have e2 : (1 : Int32).toInt = 1 := by decide
  generalize (x &&& 2147483647) = y at *
  have hr := rng32 y
  have k1 : 0 ≤ (own_min y 2147483646).toInt ∧ (own_min y 2147483646).toInt ≤ 2147483646 := by
    unfold own_min
    by_cases q : (2147483646 : Int32) < y
    · rw [if_pos q]; decide
    · rw [if_neg q]; rw [Int32.lt_iff_toInt_lt] at q; omega
  have k2 := c_iadd (own_min y 2147483646) 1
  have k3 := rng32 (own_min y 2147483646 + 1)
  simp only [Int32.lt_iff_toInt_lt]
  omega
theorem own_pd2 : parseMethodDescriptor "(Lcom/example/wary_retry/waryretry/breaker/State;JIJII)V" = some ⟨[(.object "com/example/wary_retry/waryretry/breaker/State"), .long, .int, .long, .int, .int], none⟩ := by decide +kernel
theorem own_d_ts_0 : decode prog_17_method_7_code 0 = .ok (.new 25, 3) := by decide +kernel
theorem own_d_ts_3 : decode prog_17_method_7_code 3 = .ok (.dup, 1) := by decide +kernel
theorem own_d_ts_4 : decode prog_17_method_7_code 4 = .ok (.aload_n 0, 1) := by decide +kernel
theorem own_d_ts_5 : decode prog_17_method_7_code 5 = .ok (.getfield 24, 3) := by decide +kernel
theorem own_d_ts_8 : decode prog_17_method_7_code 8 = .ok (.aload_n 0, 1) := by decide +kernel
theorem own_d_ts_9 : decode prog_17_method_7_code 9 = .ok (.getfield 29, 3) := by decide +kernel
theorem own_d_ts_12 : decode prog_17_method_7_code 12 = .ok (.iconst 0, 1) := by decide +kernel
theorem own_d_ts_13 : decode prog_17_method_7_code 13 = .ok (.aload_n 0, 1) := by decide +kernel
theorem own_d_ts_14 : decode prog_17_method_7_code 14 = .ok (.getfield 37, 3) := by decide +kernel
theorem own_d_ts_17 : decode prog_17_method_7_code 17 = .ok (.aload_n 0, 1) := by decide +kernel
theorem own_d_ts_18 : decode prog_17_method_7_code 18 = .ok (.getfield 40, 3) := by decide +kernel
theorem own_d_ts_21 : decode prog_17_method_7_code 21 = .ok (.aload_n 0, 1) := by decide +kernel
theorem own_d_ts_22 : decode prog_17_method_7_code 22 = .ok (.getfield 43, 3) := by decide +kernel
theorem own_d_ts_25 : decode prog_17_method_7_code 25 = .ok (.iconst 1, 1) := by decide +kernel
theorem own_d_ts_26 : decode prog_17_method_7_code 26 = .ok (.iadd, 1) := by decide +kernel
theorem own_d_ts_27 : decode prog_17_method_7_code 27 = .ok (.invokespecial 51, 3) := by decide +kernel
theorem own_d_ts_30 : decode prog_17_method_7_code 30 = .ok (.areturn, 1) := by decide +kernel
theorem own_ef_ts (m : MethodId) (b : Addr) : entryFrame m #[(.ref b)] 1 = mkF m 0 #[.val (.ref b)] [] := by first | (simp [entryFrame, mkF, argsToLocals, Value.category, maxLocals]; done) | rfl
set_option maxRecDepth 65536 in
set_option maxHeartbeats 40000000 in
theorem rm_ts (l : Launch) (Z : State) (a0 : Array Value) (hw : ∀ d ∈ tables_1, d.before a0 Z = true) (b : Addr) (x1 : Addr) (x2 : Int64) (x3 : Int32) (x4 : Int64) (x5 : Int32) (x6 : Int32) (h0 : Heap) (n0 : Nat) (F_state : Fld Z h0 b "com/example/wary_retry/waryretry/breaker/Phase" "state" "Lcom/example/wary_retry/waryretry/breaker/State;" (.ref x1)) (F_period : Fld Z h0 b "com/example/wary_retry/waryretry/breaker/Phase" "period" "J" (.long x2)) (F_failures : Fld Z h0 b "com/example/wary_retry/waryretry/breaker/Phase" "failures" "I" (.int x3)) (F_changedAt : Fld Z h0 b "com/example/wary_retry/waryretry/breaker/Phase" "changedAt" "J" (.long x4)) (F_admitted : Fld Z h0 b "com/example/wary_retry/waryretry/breaker/Phase" "admitted" "I" (.int x5)) (F_succeeded : Fld Z h0 b "com/example/wary_retry/waryretry/breaker/Phase" "succeeded" "I" (.int x6)) (Eb : Exa Z h0 b "com/example/wary_retry/waryretry/breaker/Phase") (Z0 : n0 ≤ h0.size) (n2 : ¬ x2 < 0) (n5 : ¬ x5 < 0) (n6 : ¬ (x6 + 1) < 0) :
    ConW l Z (⟨"com/example/wary_retry/waryretry/breaker/Phase", "trialSucceeded", "()Lcom/example/wary_retry/waryretry/breaker/Phase;"⟩ : MethodName) prog_17_method_7_code 1 (some (.object "com/example/wary_retry/waryretry/breaker/Phase")) ({ frames := 3, cells := 3, slots := 30, locals := 60 } : Room) #[(.ref b)] h0 (fun v h L => v = some (.ref h0.size) ∧ Fr n0 L ∧ Ext h0 h ∧ Exa Z h h0.size "com/example/wary_retry/waryretry/breaker/Phase" ∧ Fld Z h h0.size "com/example/wary_retry/waryretry/breaker/Phase" "state" "Lcom/example/wary_retry/waryretry/breaker/State;" (.ref x1) ∧ Fld Z h h0.size "com/example/wary_retry/waryretry/breaker/Phase" "period" "J" (.long x2) ∧ Fld Z h h0.size "com/example/wary_retry/waryretry/breaker/Phase" "failures" "I" (.int (0 : Int32)) ∧ Fld Z h h0.size "com/example/wary_retry/waryretry/breaker/Phase" "changedAt" "J" (.long x4) ∧ Fld Z h h0.size "com/example/wary_retry/waryretry/breaker/Phase" "admitted" "I" (.int x5) ∧ Fld Z h h0.size "com/example/wary_retry/waryretry/breaker/Phase" "succeeded" "I" (.int (x6 + (1 : Int32)))) := by
  refine ConW.of (plainFor_of_name own_pn3) ?_
  intro p e s m below meth c T0 X0 hx hby hml hret hlk hown0 hnm hZ e0 hS0
  have hown : s.vm.findClass "com/example/wary_retry/waryretry/breaker/Phase" = some m.cls := hown0
  have N0 := Fr.nil n0
  refine GoW.step (fun t kk => castTop (own_ef_ts m b) kk) ?_
  show GoW p e below s _ _ _ (T0.setTop (mkF m 0 #[.val (.ref b)] []))
  obtain ⟨T1, h1, X1, e1, E1, A1, D1, -, st1⟩ := newO X0 hx hZ hown (hw _ (List.mem_of_getElem? (i := 57) rfl)) (hw _ (List.mem_of_getElem? (i := 15) rfl)) (hw _ (List.mem_of_getElem? (i := 16) rfl)) e0 (g := (mkF m 0 #[.val (.ref b)] [])) rfl (hb hby own_d_ts_0) (by decide) (by decide)
  obtain ⟨a1, g1⟩ : ∃ z, z = h0.size := ⟨_, rfl⟩
  rw [← g1] at A1 D1 st1
  have ge1 : n0 ≤ a1 := Nat.le_trans Z0 (Nat.le_of_eq g1.symm)
  refine GoW.step st1 ?_
  have F1_state : Fld Z h1 a1 "com/example/wary_retry/waryretry/breaker/Phase" "state" "Lcom/example/wary_retry/waryretry/breaker/State;" (.null) := D1 (Or.inr (hw _ (List.mem_of_getElem? (i := 41) rfl))) (ty := (.object "com/example/wary_retry/waryretry/breaker/State")) (by decide +kernel)
  have F1_period : Fld Z h1 a1 "com/example/wary_retry/waryretry/breaker/Phase" "period" "J" (.long (0 : Int64)) := D1 (Or.inr (hw _ (List.mem_of_getElem? (i := 43) rfl))) (ty := .long) (by decide +kernel)
  have F1_failures : Fld Z h1 a1 "com/example/wary_retry/waryretry/breaker/Phase" "failures" "I" (.int (0 : Int32)) := D1 (Or.inr (hw _ (List.mem_of_getElem? (i := 45) rfl))) (ty := .int) (by decide +kernel)
  have F1_changedAt : Fld Z h1 a1 "com/example/wary_retry/waryretry/breaker/Phase" "changedAt" "J" (.long (0 : Int64)) := D1 (Or.inr (hw _ (List.mem_of_getElem? (i := 47) rfl))) (ty := .long) (by decide +kernel)
  have F1_admitted : Fld Z h1 a1 "com/example/wary_retry/waryretry/breaker/Phase" "admitted" "I" (.int (0 : Int32)) := D1 (Or.inr (hw _ (List.mem_of_getElem? (i := 49) rfl))) (ty := .int) (by decide +kernel)
  have F1_succeeded : Fld Z h1 a1 "com/example/wary_retry/waryretry/breaker/Phase" "succeeded" "I" (.int (0 : Int32)) := D1 (Or.inr (hw _ (List.mem_of_getElem? (i := 51) rfl))) (ty := .int) (by decide +kernel)
  have nba1 : b ≠ a1 := own_ne_lt (Exa.lt Eb) (Nat.le_of_eq g1.symm)
  show GoW p e below s _ _ _ (T1.setTop (mkF m 3 #[.val (.ref b)] [(.ref a1)]))
  refine GoW.step (fun t kk => XS.dup X1.here hx rfl (hb hby own_d_ts_3) rfl rfl kk) ?_
  show GoW p e below s _ _ _ (T1.setTop (mkF m 4 #[.val (.ref b)] [(.ref a1), (.ref a1)]))
  refine GoW.step (fun t kk => XS.aloadN X1.here hx rfl (hb hby own_d_ts_4) rfl rfl kk) ?_
  show GoW p e below s _ _ _ (T1.setTop (mkF m 5 #[.val (.ref b)] [(.ref b), (.ref a1), (.ref a1)]))
  obtain ⟨T2, X2, e2, st2⟩ := getF X1 hx hZ hown (host := "") (Or.inl (hw _ (List.mem_of_getElem? (i := 40) rfl))) Via.refl e1 (Fld.ext E1 F_state) (g := (mkF m 5 #[.val (.ref b)] [(.ref b), (.ref a1), (.ref a1)])) rfl rfl (hb hby own_d_ts_5)
  refine GoW.step st2 ?_
  show GoW p e below s _ _ _ (T2.setTop (mkF m 8 #[.val (.ref b)] [(.ref x1), (.ref a1), (.ref a1)]))
  refine GoW.step (fun t kk => XS.aloadN X2.here hx rfl (hb hby own_d_ts_8) rfl rfl kk) ?_
  show GoW p e below s _ _ _ (T2.setTop (mkF m 9 #[.val (.ref b)] [(.ref b), (.ref x1), (.ref a1), (.ref a1)]))
  obtain ⟨T3, X3, e3, st3⟩ := getF X2 hx hZ hown (host := "") (Or.inl (hw _ (List.mem_of_getElem? (i := 42) rfl))) Via.refl e2 (Fld.ext E1 F_period) (g := (mkF m 9 #[.val (.ref b)] [(.ref b), (.ref x1), (.ref a1), (.ref a1)])) rfl rfl (hb hby own_d_ts_9)
  refine GoW.step st3 ?_
  show GoW p e below s _ _ _ (T3.setTop (mkF m 12 #[.val (.ref b)] [(.long x2), (.ref x1), (.ref a1), (.ref a1)]))
  refine GoW.step (fun t kk => XS.iconst X3.here hx rfl (hb hby own_d_ts_12) kk) ?_
  show GoW p e below s _ _ _ (T3.setTop (mkF m 13 #[.val (.ref b)] [(.int (0 : Int32)), (.long x2), (.ref x1), (.ref a1), (.ref a1)]))
  refine GoW.step (fun t kk => XS.aloadN X3.here hx rfl (hb hby own_d_ts_13) rfl rfl kk) ?_
  show GoW p e below s _ _ _ (T3.setTop (mkF m 14 #[.val (.ref b)] [(.ref b), (.int (0 : Int32)), (.long x2), (.ref x1), (.ref a1), (.ref a1)]))
  obtain ⟨T4, X4, e4, st4⟩ := getF X3 hx hZ hown (host := "") (Or.inl (hw _ (List.mem_of_getElem? (i := 46) rfl))) Via.refl e3 (Fld.ext E1 F_changedAt) (g := (mkF m 14 #[.val (.ref b)] [(.ref b), (.int (0 : Int32)), (.long x2), (.ref x1), (.ref a1), (.ref a1)])) rfl rfl (hb hby own_d_ts_14)
  refine GoW.step st4 ?_
  show GoW p e below s _ _ _ (T4.setTop (mkF m 17 #[.val (.ref b)] [(.long x4), (.int (0 : Int32)), (.long x2), (.ref x1), (.ref a1), (.ref a1)]))
  refine GoW.step (fun t kk => XS.aloadN X4.here hx rfl (hb hby own_d_ts_17) rfl rfl kk) ?_
  show GoW p e below s _ _ _ (T4.setTop (mkF m 18 #[.val (.ref b)] [(.ref b), (.long x4), (.int (0 : Int32)), (.long x2), (.ref x1), (.ref a1), (.ref a1)]))
  obtain ⟨T5, X5, e5, st5⟩ := getF X4 hx hZ hown (host := "") (Or.inl (hw _ (List.mem_of_getElem? (i := 48) rfl))) Via.refl e4 (Fld.ext E1 F_admitted) (g := (mkF m 18 #[.val (.ref b)] [(.ref b), (.long x4), (.int (0 : Int32)), (.long x2), (.ref x1), (.ref a1), (.ref a1)])) rfl rfl (hb hby own_d_ts_18)
  refine GoW.step st5 ?_
  show GoW p e below s _ _ _ (T5.setTop (mkF m 21 #[.val (.ref b)] [(.int x5), (.long x4), (.int (0 : Int32)), (.long x2), (.ref x1), (.ref a1), (.ref a1)]))
  refine GoW.step (fun t kk => XS.aloadN X5.here hx rfl (hb hby own_d_ts_21) rfl rfl kk) ?_
  show GoW p e below s _ _ _ (T5.setTop (mkF m 22 #[.val (.ref b)] [(.ref b), (.int x5), (.long x4), (.int (0 : Int32)), (.long x2), (.ref x1), (.ref a1), (.ref a1)]))
  obtain ⟨T6, X6, e6, st6⟩ := getF X5 hx hZ hown (host := "") (Or.inl (hw _ (List.mem_of_getElem? (i := 50) rfl))) Via.refl e5 (Fld.ext E1 F_succeeded) (g := (mkF m 22 #[.val (.ref b)] [(.ref b), (.int x5), (.long x4), (.int (0 : Int32)), (.long x2), (.ref x1), (.ref a1), (.ref a1)])) rfl rfl (hb hby own_d_ts_22)
  refine GoW.step st6 ?_
  show GoW p e below s _ _ _ (T6.setTop (mkF m 25 #[.val (.ref b)] [(.int x6), (.int x5), (.long x4), (.int (0 : Int32)), (.long x2), (.ref x1), (.ref a1), (.ref a1)]))
  refine GoW.step (fun t kk => XS.iconst X6.here hx rfl (hb hby own_d_ts_25) kk) ?_
  show GoW p e below s _ _ _ (T6.setTop (mkF m 26 #[.val (.ref b)] [(.int (1 : Int32)), (.int x6), (.int x5), (.long x4), (.int (0 : Int32)), (.long x2), (.ref x1), (.ref a1), (.ref a1)]))
  refine GoW.step (fun t kk => XS.iadd X6.here hx rfl (hb hby own_d_ts_26) rfl kk) ?_
  show GoW p e below s _ _ _ (T6.setTop (mkF m 27 #[.val (.ref b)] [(.int (x6 + (1 : Int32))), (.int x5), (.long x4), (.int (0 : Int32)), (.long x2), (.ref x1), (.ref a1), (.ref a1)]))
  refine GoW.callI X6 hx hS0 (Nat.le_trans (Nat.le_refl _) E1.1) hZ rfl hown (hw _ (List.mem_of_getElem? (i := 58) rfl)) (hw _ (List.mem_of_getElem? (i := 18) rfl)) (hw _ (List.mem_of_getElem? (i := 16) rfl)) (hw _ (List.mem_of_getElem? (i := 19) rfl)) (by decide) e6 [(.ref x1), (.long x2), (.int (0 : Int32)), (.long x4), (.int x5), (.int (x6 + (1 : Int32)))] [(.ref a1)] 1 (rm_init l Z a0 hw a1 x1 x2 (0 : Int32) x4 x5 (x6 + (1 : Int32)) h1 n0 F1_state F1_period F1_failures F1_changedAt F1_admitted F1_succeeded A1 ge1 (Nat.le_trans Z0 E1.1) n2 (by decide) n5 n6) (by decide) (by decide) (by decide) (by decide) (by rw [hml]; rfl) (lenOf own_pd2 rfl) rfl (Nat.le_of_eq rfl) (hb hby own_d_ts_27) ?_
  intro T7 v7 L7 X7 hS7 hZ7 hown7 hQ7
  obtain ⟨rfl, Nq7, K7, G7_state, G7_period, G7_failures, G7_changedAt, G7_admitted, G7_succeeded⟩ := hQ7
  have N7 := Fr.app N0 Nq7
  show GoW p e below s _ _ _ (T7.setTop (mkF m 30 #[.val (.ref b)] [(.ref a1)]))
  exact GoW.retA X7 hx hlk hS7 (own_at rfl (Nat.le_refl _)) hret rfl rfl (hb hby own_d_ts_30) (by rw [← g1]; exact ⟨rfl, N7, (own_ext_keep (own_ext_trans (own_ext_refl h0) E1) K7 (allS (Nat.le_of_eq g1.symm) all0)), (Exa.keep A1 K7), G7_state, G7_period, G7_failures, G7_changedAt, G7_admitted, G7_succeeded⟩) (by decide) (by decide)
theorem own_pd3 : parseMethodDescriptor "(I)Lcom/example/wary_retry/waryretry/breaker/State;" = some ⟨[.int], (some (.object "com/example/wary_retry/waryretry/breaker/State"))⟩ := by decide +kernel
theorem own_pd4 : parseMethodDescriptor "(II)I" = some ⟨[.int, .int], (some .int)⟩ := by decide +kernel
theorem own_pd5 : parseMethodDescriptor "()Lcom/example/wary_retry/waryretry/breaker/Phase;" = some ⟨[], (some (.object "com/example/wary_retry/waryretry/breaker/Phase"))⟩ := by decide +kernel
theorem own_pd6 : parseMethodDescriptor "()Lcom/example/wary_retry/waryretry/breaker/State;" = some ⟨[], (some (.object "com/example/wary_retry/waryretry/breaker/State"))⟩ := by decide +kernel
theorem own_pd7 : parseMethodDescriptor "()J" = some ⟨[], (some .long)⟩ := by decide +kernel
theorem own_pd8 : parseMethodDescriptor "()I" = some ⟨[], (some .int)⟩ := by decide +kernel
theorem own_ef_law (m : MethodId) (p1 : Int32) (q2 : Int64) (p3 : Int32) (q4 : Int64) (p5 : Int32) (p6 : Int32) : entryFrame m #[(.int p1), (.long q2), (.int p3), (.long q4), (.int p5), (.int p6)] maxLocals = mkF m 0 #[.val (.int p1), .val (.long q2), .second, .val (.int p3), .val (.long q4), .second, .val (.int p5), .val (.int p6), .unset, .unset, .unset, .unset, .unset, .unset, .unset, .unset] [] := by first | (simp [entryFrame, mkF, argsToLocals, Value.category, maxLocals]; done) | rfl
set_option maxRecDepth 65536 in
set_option maxHeartbeats 40000000 in
theorem rm_law (l : Launch) (Z : State) (a0 : Array Value) (hw : ∀ d ∈ tables_1, d.before a0 Z = true) (p1 : Int32) (q2 : Int64) (p3 : Int32) (q4 : Int64) (p5 : Int32) (p6 : Int32) (ac : Addr) (ao : Addr) (ah : Addr) (h0 : Heap) (n0 : Nat) (S_ac : Sta Z h0 "com/example/wary_retry/waryretry/breaker/State" "CLOSED" "Lcom/example/wary_retry/waryretry/breaker/State;" (.ref ac)) (S_ao : Sta Z h0 "com/example/wary_retry/waryretry/breaker/State" "OPEN" "Lcom/example/wary_retry/waryretry/breaker/State;" (.ref ao)) (S_ah : Sta Z h0 "com/example/wary_retry/waryretry/breaker/State" "HALF_OPEN" "Lcom/example/wary_retry/waryretry/breaker/State;" (.ref ah)) (Z0 : n0 ≤ h0.size) :
    ConW l Z x code maxLocals ret room_1 #[(.int p1), (.long q2), (.int p3), (.long q4), (.int p5), (.int p6)] h0 (fun v h L => v = some (.int 1) ∧ Fr n0 L) := by
  refine ConW.of (plainFor_of_name own_pn0) ?_
  intro p e s m below meth c T0 X0 hx hby hml hret hlk hown0 hnm hZ e0 hS0
  have hown : s.vm.findClass "com/example/wary_retry/waryretry/breaker/PhaseTrialSucceededPinLaw" = some m.cls := hown0
  have N0 := Fr.nil n0
  refine GoW.step (fun t kk => castTop (own_ef_law m p1 q2 p3 q4 p5 p6) kk) ?_
  show GoW p e below s _ _ _ (T0.setTop (mkF m 0 #[.val (.int p1), .val (.long q2), .second, .val (.int p3), .val (.long q4), .second, .val (.int p5), .val (.int p6), .unset, .unset, .unset, .unset, .unset, .unset, .unset, .unset] []))
  refine GoW.step (fun t kk => XS.iloadN X0.here hx rfl (hb hby at_0) rfl kk) ?_
  show GoW p e below s _ _ _ (T0.setTop (mkF m 1 #[.val (.int p1), .val (.long q2), .second, .val (.int p3), .val (.long q4), .second, .val (.int p5), .val (.int p6), .unset, .unset, .unset, .unset, .unset, .unset, .unset, .unset] [(.int p1)]))
  refine GoW.callS X0 hx hS0 (Nat.le_refl _) hZ hown (hw _ (List.mem_of_getElem? (i := 0) rfl)) (hw _ (List.mem_of_getElem? (i := 1) rfl)) (hw _ (List.mem_of_getElem? (i := 2) rfl)) (hw _ (List.mem_of_getElem? (i := 3) rfl)) (by decide) e0 [(.int p1)] [] 0 (rm_pick l Z a0 hw p1 ac ao ah h0 n0 S_ac S_ao S_ah) (by decide) (by decide) (by decide) (by decide) (by rw [hml]; rfl) (lenOf own_pd3 rfl) rfl (Nat.le_of_eq rfl) (hb hby at_1) ?_
  intro T1 v1 L1 X1 hS1 hZ1 hown1 hQ1
  obtain ⟨rfl, rfl, e1⟩ := hQ1
  have N1 := Fr.app N0 (Fr.nil n0)
  show GoW p e below s _ _ _ (T1.setTop (mkF m 4 #[.val (.int p1), .val (.long q2), .second, .val (.int p3), .val (.long q4), .second, .val (.int p5), .val (.int p6), .unset, .unset, .unset, .unset, .unset, .unset, .unset, .unset] [(.ref (own_pick ((p1 &&& (2147483647 : Int32)) % (3 : Int32)) ac ao ah))]))
  refine GoW.step (fun t kk => XS.astore X1.here hx rfl (hb hby at_4) rfl rfl (l' := #[.val (.int p1), .val (.long q2), .second, .val (.int p3), .val (.long q4), .second, .val (.int p5), .val (.int p6), .val (.ref (own_pick ((p1 &&& (2147483647 : Int32)) % (3 : Int32)) ac ao ah)), .unset, .unset, .unset, .unset, .unset, .unset, .unset]) rfl kk) ?_
  show GoW p e below s _ _ _ (T1.setTop (mkF m 6 #[.val (.int p1), .val (.long q2), .second, .val (.int p3), .val (.long q4), .second, .val (.int p5), .val (.int p6), .val (.ref (own_pick ((p1 &&& (2147483647 : Int32)) % (3 : Int32)) ac ao ah)), .unset, .unset, .unset, .unset, .unset, .unset, .unset] []))
  refine GoW.step (fun t kk => XS.lloadN X1.here hx rfl (hb hby at_6) rfl kk) ?_
  show GoW p e below s _ _ _ (T1.setTop (mkF m 7 #[.val (.int p1), .val (.long q2), .second, .val (.int p3), .val (.long q4), .second, .val (.int p5), .val (.int p6), .val (.ref (own_pick ((p1 &&& (2147483647 : Int32)) % (3 : Int32)) ac ao ah)), .unset, .unset, .unset, .unset, .unset, .unset, .unset] [(.long q2)]))
  refine GoW.step (X1.ldc2Long hx hown1 (mvT hZ1 (hw _ (List.mem_of_getElem? (i := 8) rfl))) (g := (mkF m 7 #[.val (.int p1), .val (.long q2), .second, .val (.int p3), .val (.long q4), .second, .val (.int p5), .val (.int p6), .val (.ref (own_pick ((p1 &&& (2147483647 : Int32)) % (3 : Int32)) ac ao ah)), .unset, .unset, .unset, .unset, .unset, .unset, .unset] [(.long q2)])) rfl (hb hby at_7)) ?_
  show GoW p e below s _ _ _ (T1.setTop (mkF m 10 #[.val (.int p1), .val (.long q2), .second, .val (.int p3), .val (.long q4), .second, .val (.int p5), .val (.int p6), .val (.ref (own_pick ((p1 &&& (2147483647 : Int32)) % (3 : Int32)) ac ao ah)), .unset, .unset, .unset, .unset, .unset, .unset, .unset] [(.long (9223372036854775807 : Int64)), (.long q2)]))
  refine GoW.step (fun t kk => XS.land X1.here hx rfl (hb hby at_10) rfl kk) ?_
  show GoW p e below s _ _ _ (T1.setTop (mkF m 11 #[.val (.int p1), .val (.long q2), .second, .val (.int p3), .val (.long q4), .second, .val (.int p5), .val (.int p6), .val (.ref (own_pick ((p1 &&& (2147483647 : Int32)) % (3 : Int32)) ac ao ah)), .unset, .unset, .unset, .unset, .unset, .unset, .unset] [(.long (q2 &&& (9223372036854775807 : Int64)))]))
  refine GoW.step (fun t kk => XS.lstore X1.here hx rfl (hb hby at_11) rfl (l' := #[.val (.int p1), .val (.long q2), .second, .val (.int p3), .val (.long q4), .second, .val (.int p5), .val (.int p6), .val (.ref (own_pick ((p1 &&& (2147483647 : Int32)) % (3 : Int32)) ac ao ah)), .val (.long (q2 &&& (9223372036854775807 : Int64))), .second, .unset, .unset, .unset, .unset, .unset]) rfl kk) ?_
  show GoW p e below s _ _ _ (T1.setTop (mkF m 13 #[.val (.int p1), .val (.long q2), .second, .val (.int p3), .val (.long q4), .second, .val (.int p5), .val (.int p6), .val (.ref (own_pick ((p1 &&& (2147483647 : Int32)) % (3 : Int32)) ac ao ah)), .val (.long (q2 &&& (9223372036854775807 : Int64))), .second, .unset, .unset, .unset, .unset, .unset] []))
  refine GoW.step (fun t kk => XS.iloadN X1.here hx rfl (hb hby at_13) rfl kk) ?_
  show GoW p e below s _ _ _ (T1.setTop (mkF m 14 #[.val (.int p1), .val (.long q2), .second, .val (.int p3), .val (.long q4), .second, .val (.int p5), .val (.int p6), .val (.ref (own_pick ((p1 &&& (2147483647 : Int32)) % (3 : Int32)) ac ao ah)), .val (.long (q2 &&& (9223372036854775807 : Int64))), .second, .unset, .unset, .unset, .unset, .unset] [(.int p3)]))
  refine GoW.step (X1.ldcInt hx hown1 (mvT hZ1 (hw _ (List.mem_of_getElem? (i := 4) rfl))) (g := (mkF m 14 #[.val (.int p1), .val (.long q2), .second, .val (.int p3), .val (.long q4), .second, .val (.int p5), .val (.int p6), .val (.ref (own_pick ((p1 &&& (2147483647 : Int32)) % (3 : Int32)) ac ao ah)), .val (.long (q2 &&& (9223372036854775807 : Int64))), .second, .unset, .unset, .unset, .unset, .unset] [(.int p3)])) rfl (hb hby at_14)) ?_
  show GoW p e below s _ _ _ (T1.setTop (mkF m 16 #[.val (.int p1), .val (.long q2), .second, .val (.int p3), .val (.long q4), .second, .val (.int p5), .val (.int p6), .val (.ref (own_pick ((p1 &&& (2147483647 : Int32)) % (3 : Int32)) ac ao ah)), .val (.long (q2 &&& (9223372036854775807 : Int64))), .second, .unset, .unset, .unset, .unset, .unset] [(.int (2147483647 : Int32)), (.int p3)]))
  refine GoW.step (fun t kk => XS.iand X1.here hx rfl (hb hby at_16) rfl kk) ?_
  show GoW p e below s _ _ _ (T1.setTop (mkF m 17 #[.val (.int p1), .val (.long q2), .second, .val (.int p3), .val (.long q4), .second, .val (.int p5), .val (.int p6), .val (.ref (own_pick ((p1 &&& (2147483647 : Int32)) % (3 : Int32)) ac ao ah)), .val (.long (q2 &&& (9223372036854775807 : Int64))), .second, .unset, .unset, .unset, .unset, .unset] [(.int (p3 &&& (2147483647 : Int32)))]))
  refine GoW.step (fun t kk => XS.istore X1.here hx rfl (hb hby at_17) rfl (l' := #[.val (.int p1), .val (.long q2), .second, .val (.int p3), .val (.long q4), .second, .val (.int p5), .val (.int p6), .val (.ref (own_pick ((p1 &&& (2147483647 : Int32)) % (3 : Int32)) ac ao ah)), .val (.long (q2 &&& (9223372036854775807 : Int64))), .second, .val (.int (p3 &&& (2147483647 : Int32))), .unset, .unset, .unset, .unset]) rfl kk) ?_
  show GoW p e below s _ _ _ (T1.setTop (mkF m 19 #[.val (.int p1), .val (.long q2), .second, .val (.int p3), .val (.long q4), .second, .val (.int p5), .val (.int p6), .val (.ref (own_pick ((p1 &&& (2147483647 : Int32)) % (3 : Int32)) ac ao ah)), .val (.long (q2 &&& (9223372036854775807 : Int64))), .second, .val (.int (p3 &&& (2147483647 : Int32))), .unset, .unset, .unset, .unset] []))
  refine GoW.step (fun t kk => XS.iload X1.here hx rfl (hb hby at_19) rfl kk) ?_
  show GoW p e below s _ _ _ (T1.setTop (mkF m 21 #[.val (.int p1), .val (.long q2), .second, .val (.int p3), .val (.long q4), .second, .val (.int p5), .val (.int p6), .val (.ref (own_pick ((p1 &&& (2147483647 : Int32)) % (3 : Int32)) ac ao ah)), .val (.long (q2 &&& (9223372036854775807 : Int64))), .second, .val (.int (p3 &&& (2147483647 : Int32))), .unset, .unset, .unset, .unset] [(.int p5)]))
  refine GoW.step (X1.ldcInt hx hown1 (mvT hZ1 (hw _ (List.mem_of_getElem? (i := 4) rfl))) (g := (mkF m 21 #[.val (.int p1), .val (.long q2), .second, .val (.int p3), .val (.long q4), .second, .val (.int p5), .val (.int p6), .val (.ref (own_pick ((p1 &&& (2147483647 : Int32)) % (3 : Int32)) ac ao ah)), .val (.long (q2 &&& (9223372036854775807 : Int64))), .second, .val (.int (p3 &&& (2147483647 : Int32))), .unset, .unset, .unset, .unset] [(.int p5)])) rfl (hb hby at_21)) ?_
  show GoW p e below s _ _ _ (T1.setTop (mkF m 23 #[.val (.int p1), .val (.long q2), .second, .val (.int p3), .val (.long q4), .second, .val (.int p5), .val (.int p6), .val (.ref (own_pick ((p1 &&& (2147483647 : Int32)) % (3 : Int32)) ac ao ah)), .val (.long (q2 &&& (9223372036854775807 : Int64))), .second, .val (.int (p3 &&& (2147483647 : Int32))), .unset, .unset, .unset, .unset] [(.int (2147483647 : Int32)), (.int p5)]))
  refine GoW.step (fun t kk => XS.iand X1.here hx rfl (hb hby at_23) rfl kk) ?_
  show GoW p e below s _ _ _ (T1.setTop (mkF m 24 #[.val (.int p1), .val (.long q2), .second, .val (.int p3), .val (.long q4), .second, .val (.int p5), .val (.int p6), .val (.ref (own_pick ((p1 &&& (2147483647 : Int32)) % (3 : Int32)) ac ao ah)), .val (.long (q2 &&& (9223372036854775807 : Int64))), .second, .val (.int (p3 &&& (2147483647 : Int32))), .unset, .unset, .unset, .unset] [(.int (p5 &&& (2147483647 : Int32)))]))
  refine GoW.step (fun t kk => XS.istore X1.here hx rfl (hb hby at_24) rfl (l' := #[.val (.int p1), .val (.long q2), .second, .val (.int p3), .val (.long q4), .second, .val (.int p5), .val (.int p6), .val (.ref (own_pick ((p1 &&& (2147483647 : Int32)) % (3 : Int32)) ac ao ah)), .val (.long (q2 &&& (9223372036854775807 : Int64))), .second, .val (.int (p3 &&& (2147483647 : Int32))), .val (.int (p5 &&& (2147483647 : Int32))), .unset, .unset, .unset]) rfl kk) ?_
  show GoW p e below s _ _ _ (T1.setTop (mkF m 26 #[.val (.int p1), .val (.long q2), .second, .val (.int p3), .val (.long q4), .second, .val (.int p5), .val (.int p6), .val (.ref (own_pick ((p1 &&& (2147483647 : Int32)) % (3 : Int32)) ac ao ah)), .val (.long (q2 &&& (9223372036854775807 : Int64))), .second, .val (.int (p3 &&& (2147483647 : Int32))), .val (.int (p5 &&& (2147483647 : Int32))), .unset, .unset, .unset] []))
  refine GoW.step (fun t kk => XS.iload X1.here hx rfl (hb hby at_26) rfl kk) ?_
  show GoW p e below s _ _ _ (T1.setTop (mkF m 28 #[.val (.int p1), .val (.long q2), .second, .val (.int p3), .val (.long q4), .second, .val (.int p5), .val (.int p6), .val (.ref (own_pick ((p1 &&& (2147483647 : Int32)) % (3 : Int32)) ac ao ah)), .val (.long (q2 &&& (9223372036854775807 : Int64))), .second, .val (.int (p3 &&& (2147483647 : Int32))), .val (.int (p5 &&& (2147483647 : Int32))), .unset, .unset, .unset] [(.int p6)]))
  refine GoW.step (X1.ldcInt hx hown1 (mvT hZ1 (hw _ (List.mem_of_getElem? (i := 4) rfl))) (g := (mkF m 28 #[.val (.int p1), .val (.long q2), .second, .val (.int p3), .val (.long q4), .second, .val (.int p5), .val (.int p6), .val (.ref (own_pick ((p1 &&& (2147483647 : Int32)) % (3 : Int32)) ac ao ah)), .val (.long (q2 &&& (9223372036854775807 : Int64))), .second, .val (.int (p3 &&& (2147483647 : Int32))), .val (.int (p5 &&& (2147483647 : Int32))), .unset, .unset, .unset] [(.int p6)])) rfl (hb hby at_28)) ?_
  show GoW p e below s _ _ _ (T1.setTop (mkF m 30 #[.val (.int p1), .val (.long q2), .second, .val (.int p3), .val (.long q4), .second, .val (.int p5), .val (.int p6), .val (.ref (own_pick ((p1 &&& (2147483647 : Int32)) % (3 : Int32)) ac ao ah)), .val (.long (q2 &&& (9223372036854775807 : Int64))), .second, .val (.int (p3 &&& (2147483647 : Int32))), .val (.int (p5 &&& (2147483647 : Int32))), .unset, .unset, .unset] [(.int (2147483647 : Int32)), (.int p6)]))
  refine GoW.step (fun t kk => XS.iand X1.here hx rfl (hb hby at_30) rfl kk) ?_
  show GoW p e below s _ _ _ (T1.setTop (mkF m 31 #[.val (.int p1), .val (.long q2), .second, .val (.int p3), .val (.long q4), .second, .val (.int p5), .val (.int p6), .val (.ref (own_pick ((p1 &&& (2147483647 : Int32)) % (3 : Int32)) ac ao ah)), .val (.long (q2 &&& (9223372036854775807 : Int64))), .second, .val (.int (p3 &&& (2147483647 : Int32))), .val (.int (p5 &&& (2147483647 : Int32))), .unset, .unset, .unset] [(.int (p6 &&& (2147483647 : Int32)))]))
  refine GoW.step (X1.ldcInt hx hown1 (mvT hZ1 (hw _ (List.mem_of_getElem? (i := 9) rfl))) (g := (mkF m 31 #[.val (.int p1), .val (.long q2), .second, .val (.int p3), .val (.long q4), .second, .val (.int p5), .val (.int p6), .val (.ref (own_pick ((p1 &&& (2147483647 : Int32)) % (3 : Int32)) ac ao ah)), .val (.long (q2 &&& (9223372036854775807 : Int64))), .second, .val (.int (p3 &&& (2147483647 : Int32))), .val (.int (p5 &&& (2147483647 : Int32))), .unset, .unset, .unset] [(.int (p6 &&& (2147483647 : Int32)))])) rfl (hb hby at_31)) ?_
  show GoW p e below s _ _ _ (T1.setTop (mkF m 33 #[.val (.int p1), .val (.long q2), .second, .val (.int p3), .val (.long q4), .second, .val (.int p5), .val (.int p6), .val (.ref (own_pick ((p1 &&& (2147483647 : Int32)) % (3 : Int32)) ac ao ah)), .val (.long (q2 &&& (9223372036854775807 : Int64))), .second, .val (.int (p3 &&& (2147483647 : Int32))), .val (.int (p5 &&& (2147483647 : Int32))), .unset, .unset, .unset] [(.int (2147483646 : Int32)), (.int (p6 &&& (2147483647 : Int32)))]))
  refine GoW.callS X1 hx hS1 (Nat.le_of_eq (congrArg Array.size e1)) hZ1 hown1 (hw _ (List.mem_of_getElem? (i := 10) rfl)) (hw _ (List.mem_of_getElem? (i := 11) rfl)) (hw _ (List.mem_of_getElem? (i := 12) rfl)) (hw _ (List.mem_of_getElem? (i := 13) rfl)) (by decide) e1 [(.int (p6 &&& (2147483647 : Int32))), (.int (2147483646 : Int32))] [] 0 (rm_min l Z a0 hw (p6 &&& (2147483647 : Int32)) (2147483646 : Int32) h0 n0 ) (by decide) (by decide) (by decide) (by decide) (by rw [hml]; rfl) (lenOf own_pd4 rfl) rfl (Nat.le_of_eq rfl) (hb hby at_33) ?_
  intro T2 v2 L2 X2 hS2 hZ2 hown2 hQ2
  obtain ⟨rfl, rfl, e2⟩ := hQ2
  have N2 := Fr.app N1 (Fr.nil n0)
  show GoW p e below s _ _ _ (T2.setTop (mkF m 36 #[.val (.int p1), .val (.long q2), .second, .val (.int p3), .val (.long q4), .second, .val (.int p5), .val (.int p6), .val (.ref (own_pick ((p1 &&& (2147483647 : Int32)) % (3 : Int32)) ac ao ah)), .val (.long (q2 &&& (9223372036854775807 : Int64))), .second, .val (.int (p3 &&& (2147483647 : Int32))), .val (.int (p5 &&& (2147483647 : Int32))), .unset, .unset, .unset] [(.int (own_min (p6 &&& (2147483647 : Int32)) (2147483646 : Int32)))]))
  refine GoW.step (fun t kk => XS.istore X2.here hx rfl (hb hby at_36) rfl (l' := #[.val (.int p1), .val (.long q2), .second, .val (.int p3), .val (.long q4), .second, .val (.int p5), .val (.int p6), .val (.ref (own_pick ((p1 &&& (2147483647 : Int32)) % (3 : Int32)) ac ao ah)), .val (.long (q2 &&& (9223372036854775807 : Int64))), .second, .val (.int (p3 &&& (2147483647 : Int32))), .val (.int (p5 &&& (2147483647 : Int32))), .val (.int (own_min (p6 &&& (2147483647 : Int32)) (2147483646 : Int32))), .unset, .unset]) rfl kk) ?_
  show GoW p e below s _ _ _ (T2.setTop (mkF m 38 #[.val (.int p1), .val (.long q2), .second, .val (.int p3), .val (.long q4), .second, .val (.int p5), .val (.int p6), .val (.ref (own_pick ((p1 &&& (2147483647 : Int32)) % (3 : Int32)) ac ao ah)), .val (.long (q2 &&& (9223372036854775807 : Int64))), .second, .val (.int (p3 &&& (2147483647 : Int32))), .val (.int (p5 &&& (2147483647 : Int32))), .val (.int (own_min (p6 &&& (2147483647 : Int32)) (2147483646 : Int32))), .unset, .unset] []))
  obtain ⟨T3, h3, X3, e3, E3, A3, D3, -, st3⟩ := newO X2 hx hZ2 hown2 (hw _ (List.mem_of_getElem? (i := 14) rfl)) (hw _ (List.mem_of_getElem? (i := 15) rfl)) (hw _ (List.mem_of_getElem? (i := 16) rfl)) e2 (g := (mkF m 38 #[.val (.int p1), .val (.long q2), .second, .val (.int p3), .val (.long q4), .second, .val (.int p5), .val (.int p6), .val (.ref (own_pick ((p1 &&& (2147483647 : Int32)) % (3 : Int32)) ac ao ah)), .val (.long (q2 &&& (9223372036854775807 : Int64))), .second, .val (.int (p3 &&& (2147483647 : Int32))), .val (.int (p5 &&& (2147483647 : Int32))), .val (.int (own_min (p6 &&& (2147483647 : Int32)) (2147483646 : Int32))), .unset, .unset] [])) rfl (hb hby at_38) (by decide) (by decide)
  obtain ⟨a3, g3⟩ : ∃ z, z = h0.size := ⟨_, rfl⟩
  rw [← g3] at A3 D3 st3
  have ge3 : n0 ≤ a3 := Nat.le_trans Z0 (Nat.le_of_eq g3.symm)
  refine GoW.step st3 ?_
  have F3_state : Fld Z h3 a3 "com/example/wary_retry/waryretry/breaker/Phase" "state" "Lcom/example/wary_retry/waryretry/breaker/State;" (.null) := D3 (Or.inr (hw _ (List.mem_of_getElem? (i := 41) rfl))) (ty := (.object "com/example/wary_retry/waryretry/breaker/State")) (by decide +kernel)
  have F3_period : Fld Z h3 a3 "com/example/wary_retry/waryretry/breaker/Phase" "period" "J" (.long (0 : Int64)) := D3 (Or.inr (hw _ (List.mem_of_getElem? (i := 43) rfl))) (ty := .long) (by decide +kernel)
  have F3_failures : Fld Z h3 a3 "com/example/wary_retry/waryretry/breaker/Phase" "failures" "I" (.int (0 : Int32)) := D3 (Or.inr (hw _ (List.mem_of_getElem? (i := 45) rfl))) (ty := .int) (by decide +kernel)
  have F3_changedAt : Fld Z h3 a3 "com/example/wary_retry/waryretry/breaker/Phase" "changedAt" "J" (.long (0 : Int64)) := D3 (Or.inr (hw _ (List.mem_of_getElem? (i := 47) rfl))) (ty := .long) (by decide +kernel)
  have F3_admitted : Fld Z h3 a3 "com/example/wary_retry/waryretry/breaker/Phase" "admitted" "I" (.int (0 : Int32)) := D3 (Or.inr (hw _ (List.mem_of_getElem? (i := 49) rfl))) (ty := .int) (by decide +kernel)
  have F3_succeeded : Fld Z h3 a3 "com/example/wary_retry/waryretry/breaker/Phase" "succeeded" "I" (.int (0 : Int32)) := D3 (Or.inr (hw _ (List.mem_of_getElem? (i := 51) rfl))) (ty := .int) (by decide +kernel)
  show GoW p e below s _ _ _ (T3.setTop (mkF m 41 #[.val (.int p1), .val (.long q2), .second, .val (.int p3), .val (.long q4), .second, .val (.int p5), .val (.int p6), .val (.ref (own_pick ((p1 &&& (2147483647 : Int32)) % (3 : Int32)) ac ao ah)), .val (.long (q2 &&& (9223372036854775807 : Int64))), .second, .val (.int (p3 &&& (2147483647 : Int32))), .val (.int (p5 &&& (2147483647 : Int32))), .val (.int (own_min (p6 &&& (2147483647 : Int32)) (2147483646 : Int32))), .unset, .unset] [(.ref a3)]))
  refine GoW.step (fun t kk => XS.dup X3.here hx rfl (hb hby at_41) rfl rfl kk) ?_
  show GoW p e below s _ _ _ (T3.setTop (mkF m 42 #[.val (.int p1), .val (.long q2), .second, .val (.int p3), .val (.long q4), .second, .val (.int p5), .val (.int p6), .val (.ref (own_pick ((p1 &&& (2147483647 : Int32)) % (3 : Int32)) ac ao ah)), .val (.long (q2 &&& (9223372036854775807 : Int64))), .second, .val (.int (p3 &&& (2147483647 : Int32))), .val (.int (p5 &&& (2147483647 : Int32))), .val (.int (own_min (p6 &&& (2147483647 : Int32)) (2147483646 : Int32))), .unset, .unset] [(.ref a3), (.ref a3)]))
  refine GoW.step (fun t kk => XS.aload X3.here hx rfl (hb hby at_42) rfl rfl kk) ?_
  show GoW p e below s _ _ _ (T3.setTop (mkF m 44 #[.val (.int p1), .val (.long q2), .second, .val (.int p3), .val (.long q4), .second, .val (.int p5), .val (.int p6), .val (.ref (own_pick ((p1 &&& (2147483647 : Int32)) % (3 : Int32)) ac ao ah)), .val (.long (q2 &&& (9223372036854775807 : Int64))), .second, .val (.int (p3 &&& (2147483647 : Int32))), .val (.int (p5 &&& (2147483647 : Int32))), .val (.int (own_min (p6 &&& (2147483647 : Int32)) (2147483646 : Int32))), .unset, .unset] [(.ref (own_pick ((p1 &&& (2147483647 : Int32)) % (3 : Int32)) ac ao ah)), (.ref a3), (.ref a3)]))
  refine GoW.step (fun t kk => XS.lload X3.here hx rfl (hb hby at_44) rfl kk) ?_
  show GoW p e below s _ _ _ (T3.setTop (mkF m 46 #[.val (.int p1), .val (.long q2), .second, .val (.int p3), .val (.long q4), .second, .val (.int p5), .val (.int p6), .val (.ref (own_pick ((p1 &&& (2147483647 : Int32)) % (3 : Int32)) ac ao ah)), .val (.long (q2 &&& (9223372036854775807 : Int64))), .second, .val (.int (p3 &&& (2147483647 : Int32))), .val (.int (p5 &&& (2147483647 : Int32))), .val (.int (own_min (p6 &&& (2147483647 : Int32)) (2147483646 : Int32))), .unset, .unset] [(.long (q2 &&& (9223372036854775807 : Int64))), (.ref (own_pick ((p1 &&& (2147483647 : Int32)) % (3 : Int32)) ac ao ah)), (.ref a3), (.ref a3)]))
  refine GoW.step (fun t kk => XS.iload X3.here hx rfl (hb hby at_46) rfl kk) ?_
  show GoW p e below s _ _ _ (T3.setTop (mkF m 48 #[.val (.int p1), .val (.long q2), .second, .val (.int p3), .val (.long q4), .second, .val (.int p5), .val (.int p6), .val (.ref (own_pick ((p1 &&& (2147483647 : Int32)) % (3 : Int32)) ac ao ah)), .val (.long (q2 &&& (9223372036854775807 : Int64))), .second, .val (.int (p3 &&& (2147483647 : Int32))), .val (.int (p5 &&& (2147483647 : Int32))), .val (.int (own_min (p6 &&& (2147483647 : Int32)) (2147483646 : Int32))), .unset, .unset] [(.int (p3 &&& (2147483647 : Int32))), (.long (q2 &&& (9223372036854775807 : Int64))), (.ref (own_pick ((p1 &&& (2147483647 : Int32)) % (3 : Int32)) ac ao ah)), (.ref a3), (.ref a3)]))
  refine GoW.step (fun t kk => XS.lload X3.here hx rfl (hb hby at_48) rfl kk) ?_
  show GoW p e below s _ _ _ (T3.setTop (mkF m 50 #[.val (.int p1), .val (.long q2), .second, .val (.int p3), .val (.long q4), .second, .val (.int p5), .val (.int p6), .val (.ref (own_pick ((p1 &&& (2147483647 : Int32)) % (3 : Int32)) ac ao ah)), .val (.long (q2 &&& (9223372036854775807 : Int64))), .second, .val (.int (p3 &&& (2147483647 : Int32))), .val (.int (p5 &&& (2147483647 : Int32))), .val (.int (own_min (p6 &&& (2147483647 : Int32)) (2147483646 : Int32))), .unset, .unset] [(.long q4), (.int (p3 &&& (2147483647 : Int32))), (.long (q2 &&& (9223372036854775807 : Int64))), (.ref (own_pick ((p1 &&& (2147483647 : Int32)) % (3 : Int32)) ac ao ah)), (.ref a3), (.ref a3)]))
  refine GoW.step (fun t kk => XS.iload X3.here hx rfl (hb hby at_50) rfl kk) ?_
  show GoW p e below s _ _ _ (T3.setTop (mkF m 52 #[.val (.int p1), .val (.long q2), .second, .val (.int p3), .val (.long q4), .second, .val (.int p5), .val (.int p6), .val (.ref (own_pick ((p1 &&& (2147483647 : Int32)) % (3 : Int32)) ac ao ah)), .val (.long (q2 &&& (9223372036854775807 : Int64))), .second, .val (.int (p3 &&& (2147483647 : Int32))), .val (.int (p5 &&& (2147483647 : Int32))), .val (.int (own_min (p6 &&& (2147483647 : Int32)) (2147483646 : Int32))), .unset, .unset] [(.int (p5 &&& (2147483647 : Int32))), (.long q4), (.int (p3 &&& (2147483647 : Int32))), (.long (q2 &&& (9223372036854775807 : Int64))), (.ref (own_pick ((p1 &&& (2147483647 : Int32)) % (3 : Int32)) ac ao ah)), (.ref a3), (.ref a3)]))
  refine GoW.step (fun t kk => XS.iload X3.here hx rfl (hb hby at_52) rfl kk) ?_
  show GoW p e below s _ _ _ (T3.setTop (mkF m 54 #[.val (.int p1), .val (.long q2), .second, .val (.int p3), .val (.long q4), .second, .val (.int p5), .val (.int p6), .val (.ref (own_pick ((p1 &&& (2147483647 : Int32)) % (3 : Int32)) ac ao ah)), .val (.long (q2 &&& (9223372036854775807 : Int64))), .second, .val (.int (p3 &&& (2147483647 : Int32))), .val (.int (p5 &&& (2147483647 : Int32))), .val (.int (own_min (p6 &&& (2147483647 : Int32)) (2147483646 : Int32))), .unset, .unset] [(.int (own_min (p6 &&& (2147483647 : Int32)) (2147483646 : Int32))), (.int (p5 &&& (2147483647 : Int32))), (.long q4), (.int (p3 &&& (2147483647 : Int32))), (.long (q2 &&& (9223372036854775807 : Int64))), (.ref (own_pick ((p1 &&& (2147483647 : Int32)) % (3 : Int32)) ac ao ah)), (.ref a3), (.ref a3)]))
  refine GoW.callI X3 hx hS2 (Nat.le_trans (Nat.le_of_eq (congrArg Array.size e2)) E3.1) hZ2 rfl hown2 (hw _ (List.mem_of_getElem? (i := 17) rfl)) (hw _ (List.mem_of_getElem? (i := 18) rfl)) (hw _ (List.mem_of_getElem? (i := 16) rfl)) (hw _ (List.mem_of_getElem? (i := 19) rfl)) (by decide) e3 [(.ref (own_pick ((p1 &&& (2147483647 : Int32)) % (3 : Int32)) ac ao ah)), (.long (q2 &&& (9223372036854775807 : Int64))), (.int (p3 &&& (2147483647 : Int32))), (.long q4), (.int (p5 &&& (2147483647 : Int32))), (.int (own_min (p6 &&& (2147483647 : Int32)) (2147483646 : Int32)))] [(.ref a3)] 1 (rm_init l Z a0 hw a3 (own_pick ((p1 &&& (2147483647 : Int32)) % (3 : Int32)) ac ao ah) (q2 &&& (9223372036854775807 : Int64)) (p3 &&& (2147483647 : Int32)) q4 (p5 &&& (2147483647 : Int32)) (own_min (p6 &&& (2147483647 : Int32)) (2147483646 : Int32)) h3 n0 F3_state F3_period F3_failures F3_changedAt F3_admitted F3_succeeded A3 ge3 (Nat.le_trans Z0 E3.1) (own_nnL _) (own_nnI _) (own_nnI _) (own_minb _).1) (by decide) (by decide) (by decide) (by decide) (by rw [hml]; rfl) (lenOf own_pd2 rfl) rfl (Nat.le_of_eq rfl) (hb hby at_54) ?_
  intro T4 v4 L4 X4 hS4 hZ4 hown4 hQ4
  obtain ⟨rfl, Nq4, K4, G4_state, G4_period, G4_failures, G4_changedAt, G4_admitted, G4_succeeded⟩ := hQ4
  have N4 := Fr.app N2 Nq4
  show GoW p e below s _ _ _ (T4.setTop (mkF m 57 #[.val (.int p1), .val (.long q2), .second, .val (.int p3), .val (.long q4), .second, .val (.int p5), .val (.int p6), .val (.ref (own_pick ((p1 &&& (2147483647 : Int32)) % (3 : Int32)) ac ao ah)), .val (.long (q2 &&& (9223372036854775807 : Int64))), .second, .val (.int (p3 &&& (2147483647 : Int32))), .val (.int (p5 &&& (2147483647 : Int32))), .val (.int (own_min (p6 &&& (2147483647 : Int32)) (2147483646 : Int32))), .unset, .unset] [(.ref a3)]))
  refine GoW.step (fun t kk => XS.astore X4.here hx rfl (hb hby at_57) rfl rfl (l' := #[.val (.int p1), .val (.long q2), .second, .val (.int p3), .val (.long q4), .second, .val (.int p5), .val (.int p6), .val (.ref (own_pick ((p1 &&& (2147483647 : Int32)) % (3 : Int32)) ac ao ah)), .val (.long (q2 &&& (9223372036854775807 : Int64))), .second, .val (.int (p3 &&& (2147483647 : Int32))), .val (.int (p5 &&& (2147483647 : Int32))), .val (.int (own_min (p6 &&& (2147483647 : Int32)) (2147483646 : Int32))), .val (.ref a3), .unset]) rfl kk) ?_
  show GoW p e below s _ _ _ (T4.setTop (mkF m 59 #[.val (.int p1), .val (.long q2), .second, .val (.int p3), .val (.long q4), .second, .val (.int p5), .val (.int p6), .val (.ref (own_pick ((p1 &&& (2147483647 : Int32)) % (3 : Int32)) ac ao ah)), .val (.long (q2 &&& (9223372036854775807 : Int64))), .second, .val (.int (p3 &&& (2147483647 : Int32))), .val (.int (p5 &&& (2147483647 : Int32))), .val (.int (own_min (p6 &&& (2147483647 : Int32)) (2147483646 : Int32))), .val (.ref a3), .unset] []))
  refine GoW.step (fun t kk => XS.aload X4.here hx rfl (hb hby at_59) rfl rfl kk) ?_
  show GoW p e below s _ _ _ (T4.setTop (mkF m 61 #[.val (.int p1), .val (.long q2), .second, .val (.int p3), .val (.long q4), .second, .val (.int p5), .val (.int p6), .val (.ref (own_pick ((p1 &&& (2147483647 : Int32)) % (3 : Int32)) ac ao ah)), .val (.long (q2 &&& (9223372036854775807 : Int64))), .second, .val (.int (p3 &&& (2147483647 : Int32))), .val (.int (p5 &&& (2147483647 : Int32))), .val (.int (own_min (p6 &&& (2147483647 : Int32)) (2147483646 : Int32))), .val (.ref a3), .unset] [(.ref a3)]))
  refine GoW.callV X4 hx hS4 (Nat.le_refl _) hZ4 hown4 (hw _ (List.mem_of_getElem? (i := 52) rfl)) (hw _ (List.mem_of_getElem? (i := 53) rfl)) (hw _ (List.mem_of_getElem? (i := 55) rfl)) (hw _ (List.mem_of_getElem? (i := 54) rfl)) (hw _ (List.mem_of_getElem? (i := 16) rfl)) (hw _ (List.mem_of_getElem? (i := 56) rfl)) (by decide) rfl (Exa.keep A3 K4) [] [] 0 (rm_ts l Z a0 hw a3 (own_pick ((p1 &&& (2147483647 : Int32)) % (3 : Int32)) ac ao ah) (q2 &&& (9223372036854775807 : Int64)) (p3 &&& (2147483647 : Int32)) q4 (p5 &&& (2147483647 : Int32)) (own_min (p6 &&& (2147483647 : Int32)) (2147483646 : Int32)) T4.heap n0 G4_state G4_period G4_failures G4_changedAt G4_admitted G4_succeeded (Exa.keep A3 K4) (Nat.le_trans (Nat.le_trans Z0 E3.1) K4.1) (own_nnL _) (own_nnI _) (own_minb _).2) (by decide) (by decide) (by decide) (by decide) (by rw [hml]; rfl) (lenOf own_pd5 rfl) rfl (Nat.le_of_eq rfl) (hb hby at_61) ?_
  intro T5 v5 L5 X5 hS5 hZ5 hown5 hQ5
  obtain ⟨rfl, Nq5, E5, A5, G5_state, G5_period, G5_failures, G5_changedAt, G5_admitted, G5_succeeded⟩ := hQ5
  have N5 := Fr.app N4 Nq5
  obtain ⟨a5, g5⟩ : ∃ z, z = (T4.heap).size := ⟨_, rfl⟩
  rw [← g5] at A5 G5_state G5_period G5_failures G5_changedAt G5_admitted G5_succeeded
  rw [← g5]
  show GoW p e below s _ _ _ (T5.setTop (mkF m 64 #[.val (.int p1), .val (.long q2), .second, .val (.int p3), .val (.long q4), .second, .val (.int p5), .val (.int p6), .val (.ref (own_pick ((p1 &&& (2147483647 : Int32)) % (3 : Int32)) ac ao ah)), .val (.long (q2 &&& (9223372036854775807 : Int64))), .second, .val (.int (p3 &&& (2147483647 : Int32))), .val (.int (p5 &&& (2147483647 : Int32))), .val (.int (own_min (p6 &&& (2147483647 : Int32)) (2147483646 : Int32))), .val (.ref a3), .unset] [(.ref a5)]))
  refine GoW.step (fun t kk => XS.astore X5.here hx rfl (hb hby at_64) rfl rfl (l' := #[.val (.int p1), .val (.long q2), .second, .val (.int p3), .val (.long q4), .second, .val (.int p5), .val (.int p6), .val (.ref (own_pick ((p1 &&& (2147483647 : Int32)) % (3 : Int32)) ac ao ah)), .val (.long (q2 &&& (9223372036854775807 : Int64))), .second, .val (.int (p3 &&& (2147483647 : Int32))), .val (.int (p5 &&& (2147483647 : Int32))), .val (.int (own_min (p6 &&& (2147483647 : Int32)) (2147483646 : Int32))), .val (.ref a3), .val (.ref a5)]) rfl kk) ?_
  show GoW p e below s _ _ _ (T5.setTop (mkF m 66 #[.val (.int p1), .val (.long q2), .second, .val (.int p3), .val (.long q4), .second, .val (.int p5), .val (.int p6), .val (.ref (own_pick ((p1 &&& (2147483647 : Int32)) % (3 : Int32)) ac ao ah)), .val (.long (q2 &&& (9223372036854775807 : Int64))), .second, .val (.int (p3 &&& (2147483647 : Int32))), .val (.int (p5 &&& (2147483647 : Int32))), .val (.int (own_min (p6 &&& (2147483647 : Int32)) (2147483646 : Int32))), .val (.ref a3), .val (.ref a5)] []))
  refine GoW.step (fun t kk => XS.aload X5.here hx rfl (hb hby at_66) rfl rfl kk) ?_
  show GoW p e below s _ _ _ (T5.setTop (mkF m 68 #[.val (.int p1), .val (.long q2), .second, .val (.int p3), .val (.long q4), .second, .val (.int p5), .val (.int p6), .val (.ref (own_pick ((p1 &&& (2147483647 : Int32)) % (3 : Int32)) ac ao ah)), .val (.long (q2 &&& (9223372036854775807 : Int64))), .second, .val (.int (p3 &&& (2147483647 : Int32))), .val (.int (p5 &&& (2147483647 : Int32))), .val (.int (own_min (p6 &&& (2147483647 : Int32)) (2147483646 : Int32))), .val (.ref a3), .val (.ref a5)] [(.ref a5)]))
  refine GoW.callV X5 hx hS5 (Nat.le_refl _) hZ5 hown5 (hw _ (List.mem_of_getElem? (i := 59) rfl)) (hw _ (List.mem_of_getElem? (i := 60) rfl)) (hw _ (List.mem_of_getElem? (i := 62) rfl)) (hw _ (List.mem_of_getElem? (i := 61) rfl)) (hw _ (List.mem_of_getElem? (i := 16) rfl)) (hw _ (List.mem_of_getElem? (i := 63) rfl)) (by decide) rfl A5 [] [] 0 (rm_g_state l Z a0 hw a5 (own_pick ((p1 &&& (2147483647 : Int32)) % (3 : Int32)) ac ao ah) T5.heap n0 G5_state) (by decide) (by decide) (by decide) (by decide) (by rw [hml]; rfl) (lenOf own_pd6 rfl) rfl (Nat.le_of_eq rfl) (hb hby at_68) ?_
  intro T6 v6 L6 X6 hS6 hZ6 hown6 hQ6
  obtain ⟨rfl, rfl, e6⟩ := hQ6
  have N6 := Fr.app N5 (Fr.nil n0)
  show GoW p e below s _ _ _ (T6.setTop (mkF m 71 #[.val (.int p1), .val (.long q2), .second, .val (.int p3), .val (.long q4), .second, .val (.int p5), .val (.int p6), .val (.ref (own_pick ((p1 &&& (2147483647 : Int32)) % (3 : Int32)) ac ao ah)), .val (.long (q2 &&& (9223372036854775807 : Int64))), .second, .val (.int (p3 &&& (2147483647 : Int32))), .val (.int (p5 &&& (2147483647 : Int32))), .val (.int (own_min (p6 &&& (2147483647 : Int32)) (2147483646 : Int32))), .val (.ref a3), .val (.ref a5)] [(.ref (own_pick ((p1 &&& (2147483647 : Int32)) % (3 : Int32)) ac ao ah))]))
  refine GoW.step (fun t kk => XS.aload X6.here hx rfl (hb hby at_71) rfl rfl kk) ?_
  show GoW p e below s _ _ _ (T6.setTop (mkF m 73 #[.val (.int p1), .val (.long q2), .second, .val (.int p3), .val (.long q4), .second, .val (.int p5), .val (.int p6), .val (.ref (own_pick ((p1 &&& (2147483647 : Int32)) % (3 : Int32)) ac ao ah)), .val (.long (q2 &&& (9223372036854775807 : Int64))), .second, .val (.int (p3 &&& (2147483647 : Int32))), .val (.int (p5 &&& (2147483647 : Int32))), .val (.int (own_min (p6 &&& (2147483647 : Int32)) (2147483646 : Int32))), .val (.ref a3), .val (.ref a5)] [(.ref (own_pick ((p1 &&& (2147483647 : Int32)) % (3 : Int32)) ac ao ah)), (.ref (own_pick ((p1 &&& (2147483647 : Int32)) % (3 : Int32)) ac ao ah))]))
  have hc73_7 : (own_pick ((p1 &&& (2147483647 : Int32)) % (3 : Int32)) ac ao ah) = (own_pick ((p1 &&& (2147483647 : Int32)) % (3 : Int32)) ac ao ah) := rfl
  refine GoW.step (fun t kk => acmp X6 hx rfl (cd := .ne) (x := (.ref (own_pick ((p1 &&& (2147483647 : Int32)) % (3 : Int32)) ac ao ah))) (y := (.ref (own_pick ((p1 &&& (2147483647 : Int32)) % (3 : Int32)) ac ao ah))) rfl rfl (pc0 := 73) (pc' := 76) (same := true) rfl (hb hby at_73) rfl (own_decT (congrArg Value.ref hc73_7)) (by decide) (by decide) kk) ?_
  show GoW p e below s _ _ _ (T6.setTop (mkF m 76 #[.val (.int p1), .val (.long q2), .second, .val (.int p3), .val (.long q4), .second, .val (.int p5), .val (.int p6), .val (.ref (own_pick ((p1 &&& (2147483647 : Int32)) % (3 : Int32)) ac ao ah)), .val (.long (q2 &&& (9223372036854775807 : Int64))), .second, .val (.int (p3 &&& (2147483647 : Int32))), .val (.int (p5 &&& (2147483647 : Int32))), .val (.int (own_min (p6 &&& (2147483647 : Int32)) (2147483646 : Int32))), .val (.ref a3), .val (.ref a5)] []))
  refine GoW.step (fun t kk => XS.aload X6.here hx rfl (hb hby at_76) rfl rfl kk) ?_
  show GoW p e below s _ _ _ (T6.setTop (mkF m 78 #[.val (.int p1), .val (.long q2), .second, .val (.int p3), .val (.long q4), .second, .val (.int p5), .val (.int p6), .val (.ref (own_pick ((p1 &&& (2147483647 : Int32)) % (3 : Int32)) ac ao ah)), .val (.long (q2 &&& (9223372036854775807 : Int64))), .second, .val (.int (p3 &&& (2147483647 : Int32))), .val (.int (p5 &&& (2147483647 : Int32))), .val (.int (own_min (p6 &&& (2147483647 : Int32)) (2147483646 : Int32))), .val (.ref a3), .val (.ref a5)] [(.ref a5)]))
  refine GoW.callV X6 hx hS6 (Nat.le_of_eq (congrArg Array.size e6)) hZ6 hown6 (hw _ (List.mem_of_getElem? (i := 64) rfl)) (hw _ (List.mem_of_getElem? (i := 65) rfl)) (hw _ (List.mem_of_getElem? (i := 67) rfl)) (hw _ (List.mem_of_getElem? (i := 66) rfl)) (hw _ (List.mem_of_getElem? (i := 16) rfl)) (hw _ (List.mem_of_getElem? (i := 68) rfl)) (by decide) e6 A5 [] [] 0 (rm_g_period l Z a0 hw a5 (q2 &&& (9223372036854775807 : Int64)) T5.heap n0 G5_period) (by decide) (by decide) (by decide) (by decide) (by rw [hml]; rfl) (lenOf own_pd7 rfl) rfl (Nat.le_of_eq rfl) (hb hby at_78) ?_
  intro T8 v8 L8 X8 hS8 hZ8 hown8 hQ8
  obtain ⟨rfl, rfl, e8⟩ := hQ8
  have N8 := Fr.app N6 (Fr.nil n0)
  show GoW p e below s _ _ _ (T8.setTop (mkF m 81 #[.val (.int p1), .val (.long q2), .second, .val (.int p3), .val (.long q4), .second, .val (.int p5), .val (.int p6), .val (.ref (own_pick ((p1 &&& (2147483647 : Int32)) % (3 : Int32)) ac ao ah)), .val (.long (q2 &&& (9223372036854775807 : Int64))), .second, .val (.int (p3 &&& (2147483647 : Int32))), .val (.int (p5 &&& (2147483647 : Int32))), .val (.int (own_min (p6 &&& (2147483647 : Int32)) (2147483646 : Int32))), .val (.ref a3), .val (.ref a5)] [(.long (q2 &&& (9223372036854775807 : Int64)))]))
  refine GoW.step (fun t kk => XS.lload X8.here hx rfl (hb hby at_81) rfl kk) ?_
  show GoW p e below s _ _ _ (T8.setTop (mkF m 83 #[.val (.int p1), .val (.long q2), .second, .val (.int p3), .val (.long q4), .second, .val (.int p5), .val (.int p6), .val (.ref (own_pick ((p1 &&& (2147483647 : Int32)) % (3 : Int32)) ac ao ah)), .val (.long (q2 &&& (9223372036854775807 : Int64))), .second, .val (.int (p3 &&& (2147483647 : Int32))), .val (.int (p5 &&& (2147483647 : Int32))), .val (.int (own_min (p6 &&& (2147483647 : Int32)) (2147483646 : Int32))), .val (.ref a3), .val (.ref a5)] [(.long (q2 &&& (9223372036854775807 : Int64))), (.long (q2 &&& (9223372036854775807 : Int64)))]))
  refine GoW.step (fun t kk => XS.lcmp X8.here hx rfl (hb hby at_83) rfl kk) ?_
  show GoW p e below s _ _ _ (T8.setTop (mkF m 84 #[.val (.int p1), .val (.long q2), .second, .val (.int p3), .val (.long q4), .second, .val (.int p5), .val (.int p6), .val (.ref (own_pick ((p1 &&& (2147483647 : Int32)) % (3 : Int32)) ac ao ah)), .val (.long (q2 &&& (9223372036854775807 : Int64))), .second, .val (.int (p3 &&& (2147483647 : Int32))), .val (.int (p5 &&& (2147483647 : Int32))), .val (.int (own_min (p6 &&& (2147483647 : Int32)) (2147483646 : Int32))), .val (.ref a3), .val (.ref a5)] [(.int (lcmpW (q2 &&& (9223372036854775807 : Int64)) (q2 &&& (9223372036854775807 : Int64))))]))
  have hc84_9 : (lcmpW (q2 &&& (9223372036854775807 : Int64)) (q2 &&& (9223372036854775807 : Int64))) = (0 : Int32) := (lw_eq _ _).mpr rfl
  refine GoW.step (fun t kk => XS.ifNo X8.here hx rfl (hb hby at_84) rfl ((if0 _ _).trans (teq hc84_9).2) kk) ?_
  show GoW p e below s _ _ _ (T8.setTop (mkF m 87 #[.val (.int p1), .val (.long q2), .second, .val (.int p3), .val (.long q4), .second, .val (.int p5), .val (.int p6), .val (.ref (own_pick ((p1 &&& (2147483647 : Int32)) % (3 : Int32)) ac ao ah)), .val (.long (q2 &&& (9223372036854775807 : Int64))), .second, .val (.int (p3 &&& (2147483647 : Int32))), .val (.int (p5 &&& (2147483647 : Int32))), .val (.int (own_min (p6 &&& (2147483647 : Int32)) (2147483646 : Int32))), .val (.ref a3), .val (.ref a5)] []))
  refine GoW.step (fun t kk => XS.aload X8.here hx rfl (hb hby at_87) rfl rfl kk) ?_
  show GoW p e below s _ _ _ (T8.setTop (mkF m 89 #[.val (.int p1), .val (.long q2), .second, .val (.int p3), .val (.long q4), .second, .val (.int p5), .val (.int p6), .val (.ref (own_pick ((p1 &&& (2147483647 : Int32)) % (3 : Int32)) ac ao ah)), .val (.long (q2 &&& (9223372036854775807 : Int64))), .second, .val (.int (p3 &&& (2147483647 : Int32))), .val (.int (p5 &&& (2147483647 : Int32))), .val (.int (own_min (p6 &&& (2147483647 : Int32)) (2147483646 : Int32))), .val (.ref a3), .val (.ref a5)] [(.ref a5)]))
  refine GoW.callV X8 hx hS8 (Nat.le_of_eq (congrArg Array.size e8)) hZ8 hown8 (hw _ (List.mem_of_getElem? (i := 69) rfl)) (hw _ (List.mem_of_getElem? (i := 70) rfl)) (hw _ (List.mem_of_getElem? (i := 72) rfl)) (hw _ (List.mem_of_getElem? (i := 71) rfl)) (hw _ (List.mem_of_getElem? (i := 16) rfl)) (hw _ (List.mem_of_getElem? (i := 73) rfl)) (by decide) e8 A5 [] [] 0 (rm_g_failures l Z a0 hw a5 (0 : Int32) T5.heap n0 G5_failures) (by decide) (by decide) (by decide) (by decide) (by rw [hml]; rfl) (lenOf own_pd8 rfl) rfl (Nat.le_of_eq rfl) (hb hby at_89) ?_
  intro T10 v10 L10 X10 hS10 hZ10 hown10 hQ10
  obtain ⟨rfl, rfl, e10⟩ := hQ10
  have N10 := Fr.app N8 (Fr.nil n0)
  show GoW p e below s _ _ _ (T10.setTop (mkF m 92 #[.val (.int p1), .val (.long q2), .second, .val (.int p3), .val (.long q4), .second, .val (.int p5), .val (.int p6), .val (.ref (own_pick ((p1 &&& (2147483647 : Int32)) % (3 : Int32)) ac ao ah)), .val (.long (q2 &&& (9223372036854775807 : Int64))), .second, .val (.int (p3 &&& (2147483647 : Int32))), .val (.int (p5 &&& (2147483647 : Int32))), .val (.int (own_min (p6 &&& (2147483647 : Int32)) (2147483646 : Int32))), .val (.ref a3), .val (.ref a5)] [(.int (0 : Int32))]))
  have hc92_11 : (0 : Int32) = (0 : Int32) := rfl
  refine GoW.step (fun t kk => XS.ifNo X10.here hx rfl (hb hby at_92) rfl ((if0 _ _).trans (teq hc92_11).2) kk) ?_
  show GoW p e below s _ _ _ (T10.setTop (mkF m 95 #[.val (.int p1), .val (.long q2), .second, .val (.int p3), .val (.long q4), .second, .val (.int p5), .val (.int p6), .val (.ref (own_pick ((p1 &&& (2147483647 : Int32)) % (3 : Int32)) ac ao ah)), .val (.long (q2 &&& (9223372036854775807 : Int64))), .second, .val (.int (p3 &&& (2147483647 : Int32))), .val (.int (p5 &&& (2147483647 : Int32))), .val (.int (own_min (p6 &&& (2147483647 : Int32)) (2147483646 : Int32))), .val (.ref a3), .val (.ref a5)] []))
  refine GoW.step (fun t kk => XS.aload X10.here hx rfl (hb hby at_95) rfl rfl kk) ?_
  show GoW p e below s _ _ _ (T10.setTop (mkF m 97 #[.val (.int p1), .val (.long q2), .second, .val (.int p3), .val (.long q4), .second, .val (.int p5), .val (.int p6), .val (.ref (own_pick ((p1 &&& (2147483647 : Int32)) % (3 : Int32)) ac ao ah)), .val (.long (q2 &&& (9223372036854775807 : Int64))), .second, .val (.int (p3 &&& (2147483647 : Int32))), .val (.int (p5 &&& (2147483647 : Int32))), .val (.int (own_min (p6 &&& (2147483647 : Int32)) (2147483646 : Int32))), .val (.ref a3), .val (.ref a5)] [(.ref a5)]))
  refine GoW.callV X10 hx hS10 (Nat.le_of_eq (congrArg Array.size e10)) hZ10 hown10 (hw _ (List.mem_of_getElem? (i := 74) rfl)) (hw _ (List.mem_of_getElem? (i := 75) rfl)) (hw _ (List.mem_of_getElem? (i := 77) rfl)) (hw _ (List.mem_of_getElem? (i := 76) rfl)) (hw _ (List.mem_of_getElem? (i := 16) rfl)) (hw _ (List.mem_of_getElem? (i := 78) rfl)) (by decide) e10 A5 [] [] 0 (rm_g_changedAt l Z a0 hw a5 q4 T5.heap n0 G5_changedAt) (by decide) (by decide) (by decide) (by decide) (by rw [hml]; rfl) (lenOf own_pd7 rfl) rfl (Nat.le_of_eq rfl) (hb hby at_97) ?_
  intro T12 v12 L12 X12 hS12 hZ12 hown12 hQ12
  obtain ⟨rfl, rfl, e12⟩ := hQ12
  have N12 := Fr.app N10 (Fr.nil n0)
  show GoW p e below s _ _ _ (T12.setTop (mkF m 100 #[.val (.int p1), .val (.long q2), .second, .val (.int p3), .val (.long q4), .second, .val (.int p5), .val (.int p6), .val (.ref (own_pick ((p1 &&& (2147483647 : Int32)) % (3 : Int32)) ac ao ah)), .val (.long (q2 &&& (9223372036854775807 : Int64))), .second, .val (.int (p3 &&& (2147483647 : Int32))), .val (.int (p5 &&& (2147483647 : Int32))), .val (.int (own_min (p6 &&& (2147483647 : Int32)) (2147483646 : Int32))), .val (.ref a3), .val (.ref a5)] [(.long q4)]))
  refine GoW.step (fun t kk => XS.lload X12.here hx rfl (hb hby at_100) rfl kk) ?_
  show GoW p e below s _ _ _ (T12.setTop (mkF m 102 #[.val (.int p1), .val (.long q2), .second, .val (.int p3), .val (.long q4), .second, .val (.int p5), .val (.int p6), .val (.ref (own_pick ((p1 &&& (2147483647 : Int32)) % (3 : Int32)) ac ao ah)), .val (.long (q2 &&& (9223372036854775807 : Int64))), .second, .val (.int (p3 &&& (2147483647 : Int32))), .val (.int (p5 &&& (2147483647 : Int32))), .val (.int (own_min (p6 &&& (2147483647 : Int32)) (2147483646 : Int32))), .val (.ref a3), .val (.ref a5)] [(.long q4), (.long q4)]))
  refine GoW.step (fun t kk => XS.lcmp X12.here hx rfl (hb hby at_102) rfl kk) ?_
  show GoW p e below s _ _ _ (T12.setTop (mkF m 103 #[.val (.int p1), .val (.long q2), .second, .val (.int p3), .val (.long q4), .second, .val (.int p5), .val (.int p6), .val (.ref (own_pick ((p1 &&& (2147483647 : Int32)) % (3 : Int32)) ac ao ah)), .val (.long (q2 &&& (9223372036854775807 : Int64))), .second, .val (.int (p3 &&& (2147483647 : Int32))), .val (.int (p5 &&& (2147483647 : Int32))), .val (.int (own_min (p6 &&& (2147483647 : Int32)) (2147483646 : Int32))), .val (.ref a3), .val (.ref a5)] [(.int (lcmpW q4 q4))]))
  have hc103_13 : (lcmpW q4 q4) = (0 : Int32) := (lw_eq _ _).mpr rfl
  refine GoW.step (fun t kk => XS.ifNo X12.here hx rfl (hb hby at_103) rfl ((if0 _ _).trans (teq hc103_13).2) kk) ?_
  show GoW p e below s _ _ _ (T12.setTop (mkF m 106 #[.val (.int p1), .val (.long q2), .second, .val (.int p3), .val (.long q4), .second, .val (.int p5), .val (.int p6), .val (.ref (own_pick ((p1 &&& (2147483647 : Int32)) % (3 : Int32)) ac ao ah)), .val (.long (q2 &&& (9223372036854775807 : Int64))), .second, .val (.int (p3 &&& (2147483647 : Int32))), .val (.int (p5 &&& (2147483647 : Int32))), .val (.int (own_min (p6 &&& (2147483647 : Int32)) (2147483646 : Int32))), .val (.ref a3), .val (.ref a5)] []))
  refine GoW.step (fun t kk => XS.aload X12.here hx rfl (hb hby at_106) rfl rfl kk) ?_
  show GoW p e below s _ _ _ (T12.setTop (mkF m 108 #[.val (.int p1), .val (.long q2), .second, .val (.int p3), .val (.long q4), .second, .val (.int p5), .val (.int p6), .val (.ref (own_pick ((p1 &&& (2147483647 : Int32)) % (3 : Int32)) ac ao ah)), .val (.long (q2 &&& (9223372036854775807 : Int64))), .second, .val (.int (p3 &&& (2147483647 : Int32))), .val (.int (p5 &&& (2147483647 : Int32))), .val (.int (own_min (p6 &&& (2147483647 : Int32)) (2147483646 : Int32))), .val (.ref a3), .val (.ref a5)] [(.ref a5)]))
  refine GoW.callV X12 hx hS12 (Nat.le_of_eq (congrArg Array.size e12)) hZ12 hown12 (hw _ (List.mem_of_getElem? (i := 79) rfl)) (hw _ (List.mem_of_getElem? (i := 80) rfl)) (hw _ (List.mem_of_getElem? (i := 82) rfl)) (hw _ (List.mem_of_getElem? (i := 81) rfl)) (hw _ (List.mem_of_getElem? (i := 16) rfl)) (hw _ (List.mem_of_getElem? (i := 83) rfl)) (by decide) e12 A5 [] [] 0 (rm_g_admitted l Z a0 hw a5 (p5 &&& (2147483647 : Int32)) T5.heap n0 G5_admitted) (by decide) (by decide) (by decide) (by decide) (by rw [hml]; rfl) (lenOf own_pd8 rfl) rfl (Nat.le_of_eq rfl) (hb hby at_108) ?_
  intro T14 v14 L14 X14 hS14 hZ14 hown14 hQ14
  obtain ⟨rfl, rfl, e14⟩ := hQ14
  have N14 := Fr.app N12 (Fr.nil n0)
  show GoW p e below s _ _ _ (T14.setTop (mkF m 111 #[.val (.int p1), .val (.long q2), .second, .val (.int p3), .val (.long q4), .second, .val (.int p5), .val (.int p6), .val (.ref (own_pick ((p1 &&& (2147483647 : Int32)) % (3 : Int32)) ac ao ah)), .val (.long (q2 &&& (9223372036854775807 : Int64))), .second, .val (.int (p3 &&& (2147483647 : Int32))), .val (.int (p5 &&& (2147483647 : Int32))), .val (.int (own_min (p6 &&& (2147483647 : Int32)) (2147483646 : Int32))), .val (.ref a3), .val (.ref a5)] [(.int (p5 &&& (2147483647 : Int32)))]))
  refine GoW.step (fun t kk => XS.iload X14.here hx rfl (hb hby at_111) rfl kk) ?_
  show GoW p e below s _ _ _ (T14.setTop (mkF m 113 #[.val (.int p1), .val (.long q2), .second, .val (.int p3), .val (.long q4), .second, .val (.int p5), .val (.int p6), .val (.ref (own_pick ((p1 &&& (2147483647 : Int32)) % (3 : Int32)) ac ao ah)), .val (.long (q2 &&& (9223372036854775807 : Int64))), .second, .val (.int (p3 &&& (2147483647 : Int32))), .val (.int (p5 &&& (2147483647 : Int32))), .val (.int (own_min (p6 &&& (2147483647 : Int32)) (2147483646 : Int32))), .val (.ref a3), .val (.ref a5)] [(.int (p5 &&& (2147483647 : Int32))), (.int (p5 &&& (2147483647 : Int32)))]))
  have hc113_15 : (p5 &&& (2147483647 : Int32)) = (p5 &&& (2147483647 : Int32)) := rfl
  refine GoW.step (fun t kk => XS.icmpNo X14.here hx rfl (hb hby at_113) rfl (teq hc113_15).2 kk) ?_
  show GoW p e below s _ _ _ (T14.setTop (mkF m 116 #[.val (.int p1), .val (.long q2), .second, .val (.int p3), .val (.long q4), .second, .val (.int p5), .val (.int p6), .val (.ref (own_pick ((p1 &&& (2147483647 : Int32)) % (3 : Int32)) ac ao ah)), .val (.long (q2 &&& (9223372036854775807 : Int64))), .second, .val (.int (p3 &&& (2147483647 : Int32))), .val (.int (p5 &&& (2147483647 : Int32))), .val (.int (own_min (p6 &&& (2147483647 : Int32)) (2147483646 : Int32))), .val (.ref a3), .val (.ref a5)] []))
  refine GoW.step (fun t kk => XS.aload X14.here hx rfl (hb hby at_116) rfl rfl kk) ?_
  show GoW p e below s _ _ _ (T14.setTop (mkF m 118 #[.val (.int p1), .val (.long q2), .second, .val (.int p3), .val (.long q4), .second, .val (.int p5), .val (.int p6), .val (.ref (own_pick ((p1 &&& (2147483647 : Int32)) % (3 : Int32)) ac ao ah)), .val (.long (q2 &&& (9223372036854775807 : Int64))), .second, .val (.int (p3 &&& (2147483647 : Int32))), .val (.int (p5 &&& (2147483647 : Int32))), .val (.int (own_min (p6 &&& (2147483647 : Int32)) (2147483646 : Int32))), .val (.ref a3), .val (.ref a5)] [(.ref a5)]))
  refine GoW.callV X14 hx hS14 (Nat.le_of_eq (congrArg Array.size e14)) hZ14 hown14 (hw _ (List.mem_of_getElem? (i := 84) rfl)) (hw _ (List.mem_of_getElem? (i := 85) rfl)) (hw _ (List.mem_of_getElem? (i := 87) rfl)) (hw _ (List.mem_of_getElem? (i := 86) rfl)) (hw _ (List.mem_of_getElem? (i := 16) rfl)) (hw _ (List.mem_of_getElem? (i := 88) rfl)) (by decide) e14 A5 [] [] 0 (rm_g_succeeded l Z a0 hw a5 ((own_min (p6 &&& (2147483647 : Int32)) (2147483646 : Int32)) + (1 : Int32)) T5.heap n0 G5_succeeded) (by decide) (by decide) (by decide) (by decide) (by rw [hml]; rfl) (lenOf own_pd8 rfl) rfl (Nat.le_of_eq rfl) (hb hby at_118) ?_
  intro T16 v16 L16 X16 hS16 hZ16 hown16 hQ16
  obtain ⟨rfl, rfl, e16⟩ := hQ16
  have N16 := Fr.app N14 (Fr.nil n0)
  show GoW p e below s _ _ _ (T16.setTop (mkF m 121 #[.val (.int p1), .val (.long q2), .second, .val (.int p3), .val (.long q4), .second, .val (.int p5), .val (.int p6), .val (.ref (own_pick ((p1 &&& (2147483647 : Int32)) % (3 : Int32)) ac ao ah)), .val (.long (q2 &&& (9223372036854775807 : Int64))), .second, .val (.int (p3 &&& (2147483647 : Int32))), .val (.int (p5 &&& (2147483647 : Int32))), .val (.int (own_min (p6 &&& (2147483647 : Int32)) (2147483646 : Int32))), .val (.ref a3), .val (.ref a5)] [(.int ((own_min (p6 &&& (2147483647 : Int32)) (2147483646 : Int32)) + (1 : Int32)))]))
  refine GoW.step (fun t kk => XS.iload X16.here hx rfl (hb hby at_121) rfl kk) ?_
  show GoW p e below s _ _ _ (T16.setTop (mkF m 123 #[.val (.int p1), .val (.long q2), .second, .val (.int p3), .val (.long q4), .second, .val (.int p5), .val (.int p6), .val (.ref (own_pick ((p1 &&& (2147483647 : Int32)) % (3 : Int32)) ac ao ah)), .val (.long (q2 &&& (9223372036854775807 : Int64))), .second, .val (.int (p3 &&& (2147483647 : Int32))), .val (.int (p5 &&& (2147483647 : Int32))), .val (.int (own_min (p6 &&& (2147483647 : Int32)) (2147483646 : Int32))), .val (.ref a3), .val (.ref a5)] [(.int (own_min (p6 &&& (2147483647 : Int32)) (2147483646 : Int32))), (.int ((own_min (p6 &&& (2147483647 : Int32)) (2147483646 : Int32)) + (1 : Int32)))]))
  refine GoW.step (fun t kk => XS.iconst X16.here hx rfl (hb hby at_123) kk) ?_
  show GoW p e below s _ _ _ (T16.setTop (mkF m 124 #[.val (.int p1), .val (.long q2), .second, .val (.int p3), .val (.long q4), .second, .val (.int p5), .val (.int p6), .val (.ref (own_pick ((p1 &&& (2147483647 : Int32)) % (3 : Int32)) ac ao ah)), .val (.long (q2 &&& (9223372036854775807 : Int64))), .second, .val (.int (p3 &&& (2147483647 : Int32))), .val (.int (p5 &&& (2147483647 : Int32))), .val (.int (own_min (p6 &&& (2147483647 : Int32)) (2147483646 : Int32))), .val (.ref a3), .val (.ref a5)] [(.int (1 : Int32)), (.int (own_min (p6 &&& (2147483647 : Int32)) (2147483646 : Int32))), (.int ((own_min (p6 &&& (2147483647 : Int32)) (2147483646 : Int32)) + (1 : Int32)))]))
  refine GoW.step (fun t kk => XS.iadd X16.here hx rfl (hb hby at_124) rfl kk) ?_
  show GoW p e below s _ _ _ (T16.setTop (mkF m 125 #[.val (.int p1), .val (.long q2), .second, .val (.int p3), .val (.long q4), .second, .val (.int p5), .val (.int p6), .val (.ref (own_pick ((p1 &&& (2147483647 : Int32)) % (3 : Int32)) ac ao ah)), .val (.long (q2 &&& (9223372036854775807 : Int64))), .second, .val (.int (p3 &&& (2147483647 : Int32))), .val (.int (p5 &&& (2147483647 : Int32))), .val (.int (own_min (p6 &&& (2147483647 : Int32)) (2147483646 : Int32))), .val (.ref a3), .val (.ref a5)] [(.int ((own_min (p6 &&& (2147483647 : Int32)) (2147483646 : Int32)) + (1 : Int32))), (.int ((own_min (p6 &&& (2147483647 : Int32)) (2147483646 : Int32)) + (1 : Int32)))]))
  have hc125_17 : ((own_min (p6 &&& (2147483647 : Int32)) (2147483646 : Int32)) + (1 : Int32)) = ((own_min (p6 &&& (2147483647 : Int32)) (2147483646 : Int32)) + (1 : Int32)) := rfl
  refine GoW.step (fun t kk => XS.icmpNo X16.here hx rfl (hb hby at_125) rfl (teq hc125_17).2 kk) ?_
  show GoW p e below s _ _ _ (T16.setTop (mkF m 128 #[.val (.int p1), .val (.long q2), .second, .val (.int p3), .val (.long q4), .second, .val (.int p5), .val (.int p6), .val (.ref (own_pick ((p1 &&& (2147483647 : Int32)) % (3 : Int32)) ac ao ah)), .val (.long (q2 &&& (9223372036854775807 : Int64))), .second, .val (.int (p3 &&& (2147483647 : Int32))), .val (.int (p5 &&& (2147483647 : Int32))), .val (.int (own_min (p6 &&& (2147483647 : Int32)) (2147483646 : Int32))), .val (.ref a3), .val (.ref a5)] []))
  refine GoW.step (fun t kk => XS.iconst X16.here hx rfl (hb hby at_128) kk) ?_
  show GoW p e below s _ _ _ (T16.setTop (mkF m 129 #[.val (.int p1), .val (.long q2), .second, .val (.int p3), .val (.long q4), .second, .val (.int p5), .val (.int p6), .val (.ref (own_pick ((p1 &&& (2147483647 : Int32)) % (3 : Int32)) ac ao ah)), .val (.long (q2 &&& (9223372036854775807 : Int64))), .second, .val (.int (p3 &&& (2147483647 : Int32))), .val (.int (p5 &&& (2147483647 : Int32))), .val (.int (own_min (p6 &&& (2147483647 : Int32)) (2147483646 : Int32))), .val (.ref a3), .val (.ref a5)] [(.int (1 : Int32))]))
  refine GoW.step (fun t kk => XS.goto X16.here hx rfl (pc0 := 129) (pc' := 133) rfl (hb hby at_129) (by decide) (by decide) kk) ?_
  show GoW p e below s _ _ _ (T16.setTop (mkF m 133 #[.val (.int p1), .val (.long q2), .second, .val (.int p3), .val (.long q4), .second, .val (.int p5), .val (.int p6), .val (.ref (own_pick ((p1 &&& (2147483647 : Int32)) % (3 : Int32)) ac ao ah)), .val (.long (q2 &&& (9223372036854775807 : Int64))), .second, .val (.int (p3 &&& (2147483647 : Int32))), .val (.int (p5 &&& (2147483647 : Int32))), .val (.int (own_min (p6 &&& (2147483647 : Int32)) (2147483646 : Int32))), .val (.ref a3), .val (.ref a5)] [(.int (1 : Int32))]))
  exact GoW.retN X16 hx hlk hS16 (own_at e16 (Nat.le_of_eq (congrArg Array.size e16))) (t := .boolean) hret (by simp) (hb hby at_133) (show _ ∧ _ from ⟨rfl, N16⟩) (by decide) (by decide)
set_option maxRecDepth 65536 in
set_option maxHeartbeats 40000000 in
theorem comes_1 {Post : Tables → Env → Array Value → State → Outcome → State → Prop} (hpost : ∀ tb e args s v u, (limb_1_1.after args s (.returned v) u = true ∧ limb_1_2.after args s (.returned v) u = true ∧ True) → ReturnedEndW s (.returned v) u (Jvm.fieldLocs frame_1_writes args s ++ Jvm.arrayLocs frame_1_arrays args s ++ Jvm.staticLocs frame_1_statics s) 16 1152 → Post tb e args s (.returned v) u) :
    ArmFor flags0 classFile x code maxLocals ret World_1 tables_1 room_1 Calls_1 rest_1 Pre_1 Post := by
  intro l hfl _ _ p e ha hc hk s m args below hf hA hF happ hP
  obtain ⟨hcalls, hrest, hpre⟩ := hP
  obtain ⟨-, -, -, hnamed, -, -, -, hat⟩ := (Spec.applies_iff hf).mp happ
  obtain ⟨hg, hn⟩ := and_e (Cond.before_iff.mp (show (Jvm.Cond.and given_1 narrow_1).before args s = true from hpre))
  obtain ⟨hcount, r0⟩ := and_e hg
  obtain ⟨g0, r1⟩ := and_e r0
  obtain ⟨g1, r2⟩ := and_e r1
  obtain ⟨g2, r3⟩ := and_e r2
  obtain ⟨g3, r4⟩ := and_e r3
  obtain ⟨g4, r5⟩ := and_e r4
  have g5 := r5
  obtain ⟨w0, w1, w2, w3, w4, w5, rfl⟩ : ∃ w0 w1 w2 w3 w4 w5 : Value, args = #[w0, w1, w2, w3, w4, w5] := by
    have hs : args.size = 6 := by simpa [Cond.value, given_1] using hcount
    obtain ⟨L⟩ := args
    match L, hs with
    | [w0, w1, w2, w3, w4, w5], _ => exact ⟨w0, w1, w2, w3, w4, w5, rfl⟩
  have hw := fun d (hd : d ∈ tables_1) => atoms_spec (ws := Jvm.Cond.code x code maxLocals ret :: tables_1) hat d (List.mem_cons_of_mem _ hd)
  obtain ⟨i0, ea0⟩ := is_v g0
  obtain rfl : w0 = (.int i0) := Option.some.inj ea0
  obtain ⟨i1, ea1⟩ := isL_v g1
  obtain rfl : w1 = (.long i1) := Option.some.inj ea1
  obtain ⟨i2, ea2⟩ := is_v g2
  obtain rfl : w2 = (.int i2) := Option.some.inj ea2
  obtain ⟨i3, ea3⟩ := isL_v g3
  obtain rfl : w3 = (.long i3) := Option.some.inj ea3
  obtain ⟨i4, ea4⟩ := is_v g4
  obtain rfl : w4 = (.int i4) := Option.some.inj ea4
  obtain ⟨i5, ea5⟩ := is_v g5
  obtain rfl : w5 = (.int i5) := Option.some.inj ea5
  obtain ⟨q0, t0⟩ := and_e hn
  obtain ⟨q1, t1⟩ := and_e t0
  have q2 := t1
  obtain ⟨ac, ev_ac⟩ := exa_v q0
  have E_ac := Exa.start ev_ac q0
  have S_ac := Sta.start ev_ac (Or.inr ⟨(hw _ (List.mem_of_getElem? (i := 6) rfl)), (hw _ (List.mem_of_getElem? (i := 7) rfl))⟩)
  obtain ⟨ao, ev_ao⟩ := exa_v q1
  have E_ao := Exa.start ev_ao q1
  have S_ao := Sta.start ev_ao (Or.inr ⟨(hw _ (List.mem_of_getElem? (i := 6) rfl)), (hw _ (List.mem_of_getElem? (i := 90) rfl))⟩)
  obtain ⟨ah, ev_ah⟩ := exa_v q2
  have E_ah := Exa.start ev_ah q2
  have S_ah := Sta.start ev_ah (Or.inr ⟨(hw _ (List.mem_of_getElem? (i := 6) rfl)), (hw _ (List.mem_of_getElem? (i := 92) rfl))⟩)
  obtain ⟨n, o, h1, h2, h3, _, L, rfl, ⟨rfl, N⟩, hq⟩ := rm_law l s _ hw i0 i1 i2 i3 i4 i5 ac ao ah s.heap s.heap.size S_ac S_ao S_ah (Nat.le_refl _) tables_1 p e ha hc hk s m _ below hf ((Spec.applies_iff_loose hf).mp happ).1 ⟨rfl, State.Warmed39.refl s, rfl⟩ trivial
  refine ⟨n, _, h1, h2, h3, hpost _ _ _ _ _ _ ⟨Cond.after_iff.mpr rfl, Cond.after_iff.mpr (eq_i res_at (Term.int_eval (1)) rfl), trivial⟩ ⟨hq.1, hq.2.1, hq.2.2.1, (hq.2.2.2.sift fun y hy => Or.inr (N y hy)).mono (by decide) (by decide)⟩⟩
theorem main_1_1 : Claimed_1_1 := comes_1 fun _ _ _ _ _ _ h hF => ⟨h.1, hF⟩
theorem main_1_2 : Claimed_1_2 := comes_1 fun _ _ _ _ _ _ h hF => ⟨h.2.1, hF⟩
end Jvm.Pilot.@@N@@
namespace Jvm.Pilot.@@N@@
open Jvm Jvm.ClassFile Sem Op Lib Jvm.Free Jvm.Stand Jvm.Pilot.@@N@@.Jvm.D
/-! MADE BY PROGRAM (witnessworld.py) out of the Statement's table words and the real class files: 19 classes; the members and pool entries that the words name. The judged class is class 1, her method 2. -/
namespace start1
open Jvm.ClassFile
def u (s : String) : CpInfo := .utf8 (stringToUtf16 s)
/-- a pool by its gaps: so many unusable entries, then the entry; so many at the end -/
def gap : Nat → List CpInfo → List CpInfo
  | 0, r => r
  | n + 1, r => .unusable :: gap n r
def poolList (es : List (Nat × CpInfo)) (last : Nat) : List CpInfo := es.foldr (fun e r => gap e.1 (e.2 :: r)) (gap last [])
def pool (es : List (Nat × CpInfo)) (last : Nat) : Array CpInfo := ⟨poolList es last⟩
def fileOf (pool : Array CpInfo) (this : Nat) (attrs : Array Attribute := #[]) (ms : Array MethodInfo := #[]) (fl : Nat := 33) (sup : Nat := 0) (ifs : Array Nat := #[]) (fds : Array FieldInfo := #[]) : ClassFile where
  minorVersion := 0
  majorVersion := 65
  constantPool := pool
  accessFlags := fl
  thisClass := this
  superClass := sup
  interfaces := ifs
  fields := fds
  methods := ms
  attributes := attrs
def plain (name : String) (sup : Option ClassId) : Class where
  name := name
  kind := .ordinary
  loader := none
  accessFlags := 33
  super := sup
  interfaces := #[]
  cf := none
  fields := #[]
  methods := #[]
  instanceTypes := #[]
  staticTypes := #[]
  resolved := #[]
  callSites := []
  init := .initialized
  statics := none
  mirror := none

def pool0 : Array CpInfo := pool [(5, u "<init>"), (0, u "()V"), (1, .class_ 10), (1, u "java/lang/Object")] 113

def k0c0 : Code := { maxStack := 0, maxLocals := 1, code := object_method_1_code, exceptionTable := #[], attributes := #[] }
def k0m0 : Method := { name := "<init>", desc := "()V", sig := { parameters := [], returnType := none }, accessFlags := 1, code := some k0c0 }
/-- java/lang/Object -/
def k0 : Class := { plain "java/lang/Object" none with
  accessFlags := 33
  interfaces := #[]
  cf := some (fileOf pool0 8 #[] #[{ accessFlags := 1, nameIndex := 5, descriptorIndex := 6, attributes := #[] }] 33 0 #[] #[])
  fields := #[]
  methods := #[k0m0]
  instanceTypes := #[]
  staticTypes := #[]
  resolved := Array.replicate 124 none
  statics := none }

def pool1 : Array CpInfo := pool [(2, .class_ 4), (1, u "java/lang/Object"), (0, u "<init>"), (0, u "()V"), (0, .integer 2147483647), (0, .fieldref 9 10), (0, .class_ 11), (0, .nameAndType 12 13), (0, u "com/example/wary_retry/waryretry/breaker/State"), (0, u "CLOSED"), (0, u "Lcom/example/wary_retry/waryretry/breaker/State;"), (0, .fieldref 9 15), (0, .nameAndType 16 13), (0, u "OPEN"), (0, .fieldref 9 18), (0, .nameAndType 19 13), (0, u "HALF_OPEN"), (0, .methodref 21 22), (0, .class_ 23), (0, .nameAndType 24 25), (0, u "com/example/wary_retry/waryretry/breaker/PhaseTrialSucceededPinLaw"), (0, u "pick"), (0, u "(I)Lcom/example/wary_retry/waryretry/breaker/State;"), (2, .long 9223372036854775807), (3, .integer 2147483646), (0, .methodref 34 35), (0, .class_ 36), (0, .nameAndType 37 38), (0, u "java/lang/Math"), (0, u "min"), (0, u "(II)I"), (0, .class_ 40), (0, u "com/example/wary_retry/waryretry/breaker/Phase"), (0, .methodref 39 42), (0, .nameAndType 5 43), (0, u "(Lcom/example/wary_retry/waryretry/breaker/State;JIJII)V"), (0, .methodref 39 45), (0, .nameAndType 46 47), (0, u "trialSucceeded"), (0, u "()Lcom/example/wary_retry/waryretry/breaker/Phase;"), (0, .methodref 39 49), (0, .nameAndType 50 51), (0, u "state"), (0, u "()Lcom/example/wary_retry/waryretry/breaker/State;"), (0, .methodref 39 53), (0, .nameAndType 54 55), (0, u "period"), (0, u "()J"), (0, .methodref 39 57), (0, .nameAndType 58 59), (0, u "failures"), (0, u "()I"), (0, .methodref 39 61), (0, .nameAndType 62 55), (0, u "changedAt"), (0, .methodref 39 64), (0, .nameAndType 65 59), (0, u "admitted"), (0, .methodref 39 67), (0, .nameAndType 68 59), (0, u "succeeded"), (3, u "law"), (0, u "(IJIJII)Z")] 2

def k1m0 : Method := { name := "<init>", desc := "()V", sig := { parameters := [], returnType := none }, accessFlags := 2, code := none }
def k1c1 : Code := { maxStack := 2, maxLocals := 2, code := method_2_code, exceptionTable := #[], attributes := #[] }
def k1m1 : Method := { name := "pick", desc := "(I)Lcom/example/wary_retry/waryretry/breaker/State;", sig := { parameters := [.int], returnType := some (.object "com/example/wary_retry/waryretry/breaker/State") }, accessFlags := 10, code := some k1c1 }
def k1c2 : Code := { maxStack := 10, maxLocals := 16, code := code, exceptionTable := #[], attributes := #[] }
def k1m2 : Method := { name := "law", desc := "(IJIJII)Z", sig := { parameters := [.int, .long, .int, .long, .int, .int], returnType := some .boolean }, accessFlags := 9, code := some k1c2 }
/-- com/example/wary_retry/waryretry/breaker/PhaseTrialSucceededPinLaw -/
def k1 : Class := { plain "com/example/wary_retry/waryretry/breaker/PhaseTrialSucceededPinLaw" (some 0) with
  accessFlags := 49
  interfaces := #[]
  cf := some (fileOf pool1 21 #[] #[{ accessFlags := 2, nameIndex := 5, descriptorIndex := 6, attributes := #[] }, { accessFlags := 10, nameIndex := 24, descriptorIndex := 25, attributes := #[] }, { accessFlags := 9, nameIndex := 72, descriptorIndex := 73, attributes := #[] }] 49 2 #[] #[])
  fields := #[]
  methods := #[k1m0, k1m1, k1m2]
  instanceTypes := #[]
  staticTypes := #[]
  resolved := Array.replicate 76 none
  statics := none }

def pool2 : Array CpInfo := pool [(1, .class_ 2), (0, u "java/lang/constant/Constable"), (0, .class_ 4), (0, u "java/lang/Object")] 6

/-- java/lang/constant/Constable -/
def k2 : Class := { plain "java/lang/constant/Constable" (some 0) with
  accessFlags := 1537
  interfaces := #[]
  cf := some (fileOf pool2 1 #[] #[] 1537 3 #[] #[])
  fields := #[]
  methods := #[]
  instanceTypes := #[]
  staticTypes := #[]
  resolved := Array.replicate 11 none
  statics := none }

def pool3 : Array CpInfo := pool [(1, .class_ 2), (0, u "java/lang/Comparable"), (0, .class_ 4), (0, u "java/lang/Object")] 7

/-- java/lang/Comparable -/
def k3 : Class := { plain "java/lang/Comparable" (some 0) with
  accessFlags := 1537
  interfaces := #[]
  cf := some (fileOf pool3 1 #[] #[] 1537 3 #[] #[])
  fields := #[]
  methods := #[]
  instanceTypes := #[]
  staticTypes := #[]
  resolved := Array.replicate 12 none
  statics := none }

def pool4 : Array CpInfo := pool [(1, .class_ 2), (0, u "java/io/Serializable"), (0, .class_ 4), (0, u "java/lang/Object")] 2

/-- java/io/Serializable -/
def k4 : Class := { plain "java/io/Serializable" (some 0) with
  accessFlags := 1537
  interfaces := #[]
  cf := some (fileOf pool4 1 #[] #[] 1537 3 #[] #[])
  fields := #[]
  methods := #[]
  instanceTypes := #[]
  staticTypes := #[]
  resolved := Array.replicate 7 none
  statics := none }

def pool5 : Array CpInfo := pool [(2, .class_ 4), (1, u "java/lang/Enum"), (0, u "name"), (0, u "Ljava/lang/String;"), (2, u "ordinal"), (0, u "I"), (1, .class_ 14), (1, u "java/lang/Object"), (4, u "hash"), (86, .class_ 108), (1, u "java/lang/Enum$EnumDesc"), (2, .class_ 112), (0, u "java/lang/constant/Constable"), (0, .class_ 114), (0, u "java/lang/Comparable"), (0, .class_ 116), (0, u "java/io/Serializable")] 87

/-- java/lang/Enum -/
def k5 : Class := { plain "java/lang/Enum" (some 0) with
  accessFlags := 1057
  interfaces := #[2, 3, 4]
  cf := some (fileOf pool5 2 #[.nestMembers #[106]] #[] 1057 12 #[111, 113, 115] #[{ accessFlags := 18, nameIndex := 5, descriptorIndex := 6, attributes := #[] }, { accessFlags := 18, nameIndex := 9, descriptorIndex := 10, attributes := #[] }, { accessFlags := 2, nameIndex := 19, descriptorIndex := 10, attributes := #[] }])
  fields := #[{ name := "name", type := (.object "java/lang/String"), accessFlags := 18, slot := 0, constantValue := 0 }, { name := "ordinal", type := .int, accessFlags := 18, slot := 1, constantValue := 0 }, { name := "hash", type := .int, accessFlags := 2, slot := 2, constantValue := 0 }]
  methods := #[]
  instanceTypes := #[(.object "java/lang/String"), .int, .int]
  staticTypes := #[]
  resolved := Array.replicate 204 none
  statics := none }

def pool6 : Array CpInfo := pool [(1, .class_ 2), (0, u "com/example/wary_retry/waryretry/breaker/State"), (2, u "CLOSED"), (0, u "Lcom/example/wary_retry/waryretry/breaker/State;"), (2, u "OPEN"), (2, u "HALF_OPEN"), (2, u "$VALUES"), (0, u "[Lcom/example/wary_retry/waryretry/breaker/State;"), (6, .class_ 25), (1, u "java/lang/Enum")] 25

/-- com/example/wary_retry/waryretry/breaker/State -/
def k6 : Class := { plain "com/example/wary_retry/waryretry/breaker/State" (some 5) with
  accessFlags := 16433
  interfaces := #[]
  cf := some (fileOf pool6 1 #[] #[] 16433 23 #[] #[{ accessFlags := 16409, nameIndex := 5, descriptorIndex := 6, attributes := #[] }, { accessFlags := 16409, nameIndex := 9, descriptorIndex := 6, attributes := #[] }, { accessFlags := 16409, nameIndex := 12, descriptorIndex := 6, attributes := #[] }, { accessFlags := 4122, nameIndex := 15, descriptorIndex := 16, attributes := #[] }])
  fields := #[{ name := "CLOSED", type := (.object "com/example/wary_retry/waryretry/breaker/State"), accessFlags := 16409, slot := 0, constantValue := 0 }, { name := "OPEN", type := (.object "com/example/wary_retry/waryretry/breaker/State"), accessFlags := 16409, slot := 1, constantValue := 0 }, { name := "HALF_OPEN", type := (.object "com/example/wary_retry/waryretry/breaker/State"), accessFlags := 16409, slot := 2, constantValue := 0 }, { name := "$VALUES", type := (.array (.object "com/example/wary_retry/waryretry/breaker/State")), accessFlags := 4122, slot := 3, constantValue := 0 }]
  methods := #[]
  instanceTypes := #[(.object "java/lang/String"), .int, .int]
  staticTypes := #[(.object "com/example/wary_retry/waryretry/breaker/State"), (.object "com/example/wary_retry/waryretry/breaker/State"), (.object "com/example/wary_retry/waryretry/breaker/State"), (.array (.object "com/example/wary_retry/waryretry/breaker/State"))]
  resolved := Array.replicate 51 none
  statics := some 0 }

def pool7 : Array CpInfo := pool [(1, .class_ 2), (0, u "java/lang/Math"), (1, .class_ 6), (1, u "java/lang/Object"), (0, u "<init>"), (0, u "()V"), (89, .class_ 100), (1, u "java/lang/Math$RandomNumberGeneratorHolder"), (71, u "negativeZeroFloatBits"), (0, u "J"), (2, u "negativeZeroDoubleBits"), (24, u "min"), (43, u "$assertionsDisabled"), (0, u "Z"), (88, u "(II)I"), (2, u "twoToTheDoubleScaleDown"), (0, u "D"), (4, u "twoToTheDoubleScaleUp"), (9, u "E"), (3, u "PI"), (2, u "TAU"), (2, u "DEGREES_TO_RADIANS"), (0, u "RADIANS_TO_DEGREES")] 94

def k7m0 : Method := { name := "<init>", desc := "()V", sig := { parameters := [], returnType := none }, accessFlags := 2, code := none }
def k7c1 : Code := { maxStack := 2, maxLocals := 2, code := jdk_29_method_69_code, exceptionTable := #[], attributes := #[] }
def k7m1 : Method := { name := "min", desc := "(II)I", sig := { parameters := [.int, .int], returnType := some .int }, accessFlags := 9, code := some k7c1 }
/-- java/lang/Math -/
def k7 : Class := { plain "java/lang/Math" (some 0) with
  accessFlags := 49
  interfaces := #[]
  cf := some (fileOf pool7 1 #[.nestMembers #[98]] #[{ accessFlags := 2, nameIndex := 7, descriptorIndex := 8, attributes := #[] }, { accessFlags := 9, nameIndex := 201, descriptorIndex := 335, attributes := #[] }] 49 4 #[] #[{ accessFlags := 25, nameIndex := 354, descriptorIndex := 339, attributes := #[] }, { accessFlags := 25, nameIndex := 358, descriptorIndex := 339, attributes := #[] }, { accessFlags := 25, nameIndex := 361, descriptorIndex := 339, attributes := #[] }, { accessFlags := 26, nameIndex := 364, descriptorIndex := 339, attributes := #[] }, { accessFlags := 26, nameIndex := 365, descriptorIndex := 339, attributes := #[] }, { accessFlags := 26, nameIndex := 172, descriptorIndex := 173, attributes := #[] }, { accessFlags := 26, nameIndex := 176, descriptorIndex := 173, attributes := #[] }, { accessFlags := 8, nameIndex := 344, descriptorIndex := 339, attributes := #[] }, { accessFlags := 8, nameIndex := 338, descriptorIndex := 339, attributes := #[] }, { accessFlags := 4120, nameIndex := 245, descriptorIndex := 246, attributes := #[] }])
  fields := #[{ name := "E", type := .double, accessFlags := 25, slot := 0, constantValue := 0 }, { name := "PI", type := .double, accessFlags := 25, slot := 1, constantValue := 0 }, { name := "TAU", type := .double, accessFlags := 25, slot := 2, constantValue := 0 }, { name := "DEGREES_TO_RADIANS", type := .double, accessFlags := 26, slot := 3, constantValue := 0 }, { name := "RADIANS_TO_DEGREES", type := .double, accessFlags := 26, slot := 4, constantValue := 0 }, { name := "negativeZeroFloatBits", type := .long, accessFlags := 26, slot := 5, constantValue := 0 }, { name := "negativeZeroDoubleBits", type := .long, accessFlags := 26, slot := 6, constantValue := 0 }, { name := "twoToTheDoubleScaleUp", type := .double, accessFlags := 8, slot := 7, constantValue := 0 }, { name := "twoToTheDoubleScaleDown", type := .double, accessFlags := 8, slot := 8, constantValue := 0 }, { name := "$assertionsDisabled", type := .boolean, accessFlags := 4120, slot := 9, constantValue := 0 }]
  methods := #[k7m0, k7m1]
  instanceTypes := #[]
  staticTypes := #[.double, .double, .double, .double, .double, .long, .long, .double, .double, .boolean]
  resolved := Array.replicate 460 none
  statics := none }

def pool8 : Array CpInfo := pool [(1, .methodref 2 3), (0, .class_ 4), (0, .nameAndType 5 6), (0, u "java/lang/Object"), (0, u "<init>"), (0, u "()V"), (0, .class_ 8), (0, u "java/lang/Record")] 13

def k8c0 : Code := { maxStack := 1, maxLocals := 1, code := jdk_30_method_1_code, exceptionTable := #[], attributes := #[] }
def k8m0 : Method := { name := "<init>", desc := "()V", sig := { parameters := [], returnType := none }, accessFlags := 4, code := some k8c0 }
/-- java/lang/Record -/
def k8 : Class := { plain "java/lang/Record" (some 0) with
  accessFlags := 1057
  interfaces := #[]
  cf := some (fileOf pool8 7 #[] #[{ accessFlags := 4, nameIndex := 5, descriptorIndex := 6, attributes := #[] }] 1057 2 #[] #[])
  fields := #[]
  methods := #[k8m0]
  instanceTypes := #[]
  staticTypes := #[]
  resolved := Array.replicate 22 none
  statics := none }

def pool9 : Array CpInfo := pool [(1, .methodref 2 3), (0, .class_ 4), (0, .nameAndType 5 6), (0, u "java/lang/Record"), (0, u "<init>"), (0, u "()V"), (0, .string 8), (0, u "state"), (0, .methodref 10 11), (0, .class_ 12), (0, .nameAndType 13 14), (0, u "java/util/Objects"), (0, u "requireNonNull"), (0, u "(Ljava/lang/Object;Ljava/lang/String;)Ljava/lang/Object;"), (9, .fieldref 25 26), (0, .class_ 27), (0, .nameAndType 8 28), (0, u "com/example/wary_retry/waryretry/breaker/Phase"), (0, u "Lcom/example/wary_retry/waryretry/breaker/State;"), (0, .fieldref 25 30), (0, .nameAndType 31 32), (0, u "period"), (0, u "J"), (0, .fieldref 25 34), (0, .nameAndType 35 36), (0, u "failures"), (0, u "I"), (0, .fieldref 25 38), (0, .nameAndType 39 32), (0, u "changedAt"), (0, .fieldref 25 41), (0, .nameAndType 42 36), (0, u "admitted"), (0, .fieldref 25 44), (0, .nameAndType 45 36), (0, u "succeeded"), (5, .methodref 25 52), (0, .nameAndType 5 53), (0, u "(Lcom/example/wary_retry/waryretry/breaker/State;JIJII)V"), (20, u "FIRST"), (0, u "Lcom/example/wary_retry/waryretry/breaker/Phase;"), (11, u "trialSucceeded"), (0, u "()Lcom/example/wary_retry/waryretry/breaker/Phase;"), (1, u "()I"), (1, u "()Lcom/example/wary_retry/waryretry/breaker/State;"), (0, u "()J")] 34

def k9c0 : Code := { maxStack := 7, maxLocals := 9, code := prog_17_method_1_code, exceptionTable := #[], attributes := #[] }
def k9m0 : Method := { name := "<init>", desc := "(Lcom/example/wary_retry/waryretry/breaker/State;JIJII)V", sig := { parameters := [(.object "com/example/wary_retry/waryretry/breaker/State"), .long, .int, .long, .int, .int], returnType := none }, accessFlags := 1, code := some k9c0 }
def k9c1 : Code := { maxStack := 11, maxLocals := 1, code := prog_17_method_7_code, exceptionTable := #[], attributes := #[] }
def k9m1 : Method := { name := "trialSucceeded", desc := "()Lcom/example/wary_retry/waryretry/breaker/Phase;", sig := { parameters := [], returnType := some (.object "com/example/wary_retry/waryretry/breaker/Phase") }, accessFlags := 0, code := some k9c1 }
def k9c2 : Code := { maxStack := 1, maxLocals := 1, code := prog_17_method_11_code, exceptionTable := #[], attributes := #[] }
def k9m2 : Method := { name := "state", desc := "()Lcom/example/wary_retry/waryretry/breaker/State;", sig := { parameters := [], returnType := some (.object "com/example/wary_retry/waryretry/breaker/State") }, accessFlags := 1, code := some k9c2 }
def k9c3 : Code := { maxStack := 2, maxLocals := 1, code := prog_17_method_12_code, exceptionTable := #[], attributes := #[] }
def k9m3 : Method := { name := "period", desc := "()J", sig := { parameters := [], returnType := some .long }, accessFlags := 1, code := some k9c3 }
def k9c4 : Code := { maxStack := 1, maxLocals := 1, code := prog_17_method_13_code, exceptionTable := #[], attributes := #[] }
def k9m4 : Method := { name := "failures", desc := "()I", sig := { parameters := [], returnType := some .int }, accessFlags := 1, code := some k9c4 }
def k9c5 : Code := { maxStack := 2, maxLocals := 1, code := prog_17_method_14_code, exceptionTable := #[], attributes := #[] }
def k9m5 : Method := { name := "changedAt", desc := "()J", sig := { parameters := [], returnType := some .long }, accessFlags := 1, code := some k9c5 }
def k9c6 : Code := { maxStack := 1, maxLocals := 1, code := prog_17_method_15_code, exceptionTable := #[], attributes := #[] }
def k9m6 : Method := { name := "admitted", desc := "()I", sig := { parameters := [], returnType := some .int }, accessFlags := 1, code := some k9c6 }
def k9c7 : Code := { maxStack := 1, maxLocals := 1, code := prog_17_method_16_code, exceptionTable := #[], attributes := #[] }
def k9m7 : Method := { name := "succeeded", desc := "()I", sig := { parameters := [], returnType := some .int }, accessFlags := 1, code := some k9c7 }
/-- com/example/wary_retry/waryretry/breaker/Phase -/
def k9 : Class := { plain "com/example/wary_retry/waryretry/breaker/Phase" (some 8) with
  accessFlags := 49
  interfaces := #[]
  cf := some (fileOf pool9 25 #[] #[{ accessFlags := 1, nameIndex := 5, descriptorIndex := 53, attributes := #[] }, { accessFlags := 0, nameIndex := 87, descriptorIndex := 88, attributes := #[] }, { accessFlags := 1, nameIndex := 8, descriptorIndex := 92, attributes := #[] }, { accessFlags := 1, nameIndex := 31, descriptorIndex := 93, attributes := #[] }, { accessFlags := 1, nameIndex := 35, descriptorIndex := 90, attributes := #[] }, { accessFlags := 1, nameIndex := 39, descriptorIndex := 93, attributes := #[] }, { accessFlags := 1, nameIndex := 42, descriptorIndex := 90, attributes := #[] }, { accessFlags := 1, nameIndex := 45, descriptorIndex := 90, attributes := #[] }] 49 2 #[] #[{ accessFlags := 18, nameIndex := 8, descriptorIndex := 28, attributes := #[] }, { accessFlags := 18, nameIndex := 31, descriptorIndex := 32, attributes := #[] }, { accessFlags := 18, nameIndex := 35, descriptorIndex := 36, attributes := #[] }, { accessFlags := 18, nameIndex := 39, descriptorIndex := 32, attributes := #[] }, { accessFlags := 18, nameIndex := 42, descriptorIndex := 36, attributes := #[] }, { accessFlags := 18, nameIndex := 45, descriptorIndex := 36, attributes := #[] }, { accessFlags := 25, nameIndex := 74, descriptorIndex := 75, attributes := #[] }])
  fields := #[{ name := "state", type := (.object "com/example/wary_retry/waryretry/breaker/State"), accessFlags := 18, slot := 0, constantValue := 0 }, { name := "period", type := .long, accessFlags := 18, slot := 1, constantValue := 0 }, { name := "failures", type := .int, accessFlags := 18, slot := 2, constantValue := 0 }, { name := "changedAt", type := .long, accessFlags := 18, slot := 3, constantValue := 0 }, { name := "admitted", type := .int, accessFlags := 18, slot := 4, constantValue := 0 }, { name := "succeeded", type := .int, accessFlags := 18, slot := 5, constantValue := 0 }, { name := "FIRST", type := (.object "com/example/wary_retry/waryretry/breaker/Phase"), accessFlags := 25, slot := 0, constantValue := 0 }]
  methods := #[k9m0, k9m1, k9m2, k9m3, k9m4, k9m5, k9m6, k9m7]
  instanceTypes := #[(.object "com/example/wary_retry/waryretry/breaker/State"), .long, .int, .long, .int, .int]
  staticTypes := #[(.object "com/example/wary_retry/waryretry/breaker/Phase")]
  resolved := Array.replicate 128 none
  statics := none }

def pool10 : Array CpInfo := pool [(2, .class_ 4), (1, u "java/lang/CharSequence"), (42, .class_ 48), (0, u "java/lang/CharSequence$1CodePointIterator"), (10, .class_ 60), (0, u "java/lang/CharSequence$1CharIterator"), (5, .class_ 67), (0, u "java/lang/Object")] 63

/-- java/lang/CharSequence -/
def k10 : Class := { plain "java/lang/CharSequence" (some 0) with
  accessFlags := 1537
  interfaces := #[]
  cf := some (fileOf pool10 2 #[.nestMembers #[47, 59]] #[] 1537 66 #[] #[])
  fields := #[]
  methods := #[]
  instanceTypes := #[]
  staticTypes := #[]
  resolved := Array.replicate 131 none
  statics := none }

def pool11 : Array CpInfo := pool [(1, .class_ 2), (0, u "java/lang/constant/ConstantDesc"), (0, .class_ 4), (0, u "java/lang/Object")] 32

/-- java/lang/constant/ConstantDesc -/
def k11 : Class := { plain "java/lang/constant/ConstantDesc" (some 0) with
  accessFlags := 1537
  interfaces := #[]
  cf := some (fileOf pool11 1 #[] #[] 1537 3 #[] #[])
  fields := #[]
  methods := #[]
  instanceTypes := #[]
  staticTypes := #[]
  resolved := Array.replicate 37 none
  statics := none }

def pool12 : Array CpInfo := pool [(2, .class_ 4), (1, u "java/lang/Object"), (0, u "<init>"), (0, u "()V"), (3, .class_ 12), (1, u "java/lang/String"), (0, u "value"), (0, u "[B"), (2, u "coder"), (0, u "B"), (2, u "hash"), (0, u "I"), (2, u "hashIsZero"), (0, u "Z"), (13, u "COMPACT_STRINGS"), (534, .class_ 576), (0, u "java/lang/CharSequence"), (22, u "CASE_INSENSITIVE_ORDER"), (0, u "Ljava/util/Comparator;"), (500, u "serialPersistentFields"), (0, u "[Ljava/io/ObjectStreamField;"), (0, .class_ 1104), (0, u "java/lang/String$CaseInsensitiveComparator"), (1, .class_ 1107), (0, u "java/io/Serializable"), (0, .class_ 1109), (0, u "java/lang/Comparable"), (0, .class_ 1111), (0, u "java/lang/constant/Constable"), (0, .class_ 1113), (0, u "java/lang/constant/ConstantDesc"), (2, u "serialVersionUID"), (0, u "J"), (3, u "REPL"), (0, u "C"), (2, u "LATIN1"), (1, u "UTF16")] 323

def k12m0 : Method := { name := "<init>", desc := "()V", sig := { parameters := [], returnType := none }, accessFlags := 1, code := none }
/-- java/lang/String -/
def k12 : Class := { plain "java/lang/String" (some 0) with
  accessFlags := 49
  interfaces := #[4, 3, 10, 2, 11]
  cf := some (fileOf pool12 10 #[.nestMembers #[1103]] #[{ accessFlags := 1, nameIndex := 5, descriptorIndex := 6, attributes := #[] }] 49 2 #[1106, 1108, 575, 1110, 1112] #[{ accessFlags := 18, nameIndex := 13, descriptorIndex := 14, attributes := #[] }, { accessFlags := 18, nameIndex := 17, descriptorIndex := 18, attributes := #[] }, { accessFlags := 2, nameIndex := 21, descriptorIndex := 22, attributes := #[] }, { accessFlags := 2, nameIndex := 25, descriptorIndex := 26, attributes := #[] }, { accessFlags := 26, nameIndex := 1116, descriptorIndex := 1117, attributes := #[] }, { accessFlags := 24, nameIndex := 40, descriptorIndex := 26, attributes := #[] }, { accessFlags := 26, nameIndex := 1101, descriptorIndex := 1102, attributes := #[] }, { accessFlags := 26, nameIndex := 1121, descriptorIndex := 1122, attributes := #[] }, { accessFlags := 25, nameIndex := 599, descriptorIndex := 600, attributes := #[] }, { accessFlags := 24, nameIndex := 1125, descriptorIndex := 18, attributes := #[] }, { accessFlags := 24, nameIndex := 1127, descriptorIndex := 18, attributes := #[] }])
  fields := #[{ name := "value", type := (.array .byte), accessFlags := 18, slot := 0, constantValue := 0 }, { name := "coder", type := .byte, accessFlags := 18, slot := 1, constantValue := 0 }, { name := "hash", type := .int, accessFlags := 2, slot := 2, constantValue := 0 }, { name := "hashIsZero", type := .boolean, accessFlags := 2, slot := 3, constantValue := 0 }, { name := "serialVersionUID", type := .long, accessFlags := 26, slot := 0, constantValue := 0 }, { name := "COMPACT_STRINGS", type := .boolean, accessFlags := 24, slot := 1, constantValue := 0 }, { name := "serialPersistentFields", type := (.array (.object "java/io/ObjectStreamField")), accessFlags := 26, slot := 2, constantValue := 0 }, { name := "REPL", type := .char, accessFlags := 26, slot := 3, constantValue := 0 }, { name := "CASE_INSENSITIVE_ORDER", type := (.object "java/util/Comparator"), accessFlags := 25, slot := 4, constantValue := 0 }, { name := "LATIN1", type := .byte, accessFlags := 24, slot := 5, constantValue := 0 }, { name := "UTF16", type := .byte, accessFlags := 24, slot := 6, constantValue := 0 }]
  methods := #[k12m0]
  instanceTypes := #[(.array .byte), .byte, .int, .boolean]
  staticTypes := #[.long, .boolean, (.array (.object "java/io/ObjectStreamField")), .char, (.object "java/util/Comparator"), .byte, .byte]
  resolved := Array.replicate 1451 none
  statics := none }

def pool13 : Array CpInfo := pool [(2, .class_ 4), (1, u "java/lang/Object"), (0, u "<init>"), (0, u "()V"), (35, .class_ 44), (1, u "java/util/Objects"), (0, u "requireNonNull"), (48, u "(Ljava/lang/Object;Ljava/lang/String;)Ljava/lang/Object;")] 89

def k13m0 : Method := { name := "<init>", desc := "()V", sig := { parameters := [], returnType := none }, accessFlags := 2, code := none }
def k13c1 : Code := { maxStack := 3, maxLocals := 2, code := jdk_31_method_11_code, exceptionTable := #[], attributes := #[] }
def k13m1 : Method := { name := "requireNonNull", desc := "(Ljava/lang/Object;Ljava/lang/String;)Ljava/lang/Object;", sig := { parameters := [(.object "java/lang/Object"), (.object "java/lang/String")], returnType := some (.object "java/lang/Object") }, accessFlags := 9, code := some k13c1 }
/-- java/util/Objects -/
def k13 : Class := { plain "java/util/Objects" (some 0) with
  accessFlags := 49
  interfaces := #[]
  cf := some (fileOf pool13 42 #[] #[{ accessFlags := 2, nameIndex := 5, descriptorIndex := 6, attributes := #[] }, { accessFlags := 9, nameIndex := 45, descriptorIndex := 94, attributes := #[] }] 49 2 #[] #[])
  fields := #[]
  methods := #[k13m0, k13m1]
  instanceTypes := #[]
  staticTypes := #[]
  resolved := Array.replicate 184 none
  statics := none }

def pool14 : Array CpInfo := pool [(1, u "java/lang/Cloneable"), (0, .class_ 1), (0, u "java/lang/Object"), (0, .class_ 3)] 3

/-- java/lang/Cloneable -/
def k14 : Class := { plain "java/lang/Cloneable" (some 0) with
  accessFlags := 1537
  interfaces := #[]
  cf := some (fileOf pool14 2 #[] #[] 1537 4 #[] #[])
  fields := #[]
  methods := #[]
  instanceTypes := #[]
  staticTypes := #[]
  resolved := Array.replicate 8 none
  statics := none }

/-- the primitive byte -/
def k15 : Class := { plain "byte" none with kind := .primitive 'B', accessFlags := 0x411 }
/-- [B -/
def k16 : Class := { plain "[B" (some 0) with kind := .array 15 .byte, interfaces := #[14, 4], accessFlags := 1041 }

/-- the primitive int -/
def k17 : Class := { plain "int" none with kind := .primitive 'I', accessFlags := 0x411 }
/-- [I -/
def k18 : Class := { plain "[I" (some 0) with kind := .array 17 .int, interfaces := #[14, 4], accessFlags := 1041 }

def heap : Heap := #[{ cls := 6, slots := #[.ref 1, .ref 2, .ref 3, .null], vm := .statics 6 },
  { cls := 6, slots := #[.null, .int 0, .int 0], vm := .none },
  { cls := 6, slots := #[.null, .int 1, .int 0], vm := .none },
  { cls := 6, slots := #[.null, .int 2, .int 0], vm := .none }]
def classes : Array Class := #[k0, k1, k2, k3, k4, k5, k6, k7, k8, k9, k10, k11, k12, k13, k14, k15, k16, k17, k18]
def interned : List (Array UInt16 × Addr) := []
def slotsUsed : Nat := 13
def theMethod : MethodId := ⟨1, 2⟩
def args0 : Array Value := #[.int 5, .long 3, .int 5, .long 3, .int 5, .int 5]
def aboutOver (below : List Frame) : State where
  vm := { classes := classes, interned := interned.toArray }
  heap := heap
  slotsUsed := slotsUsed
  threads := #[{ frames := .invoking theMethod args0 :: below }]
def below0 : List Frame := [.native { method := ⟨0, 0⟩, args := #[] }]
def about1 : State := aboutOver below0
def p0 : Program := .bare "" "" ""
def e0 : Env := launch0.env 0 0 0
theorem w_frames : about1.frames = Frame.invoking theMethod args0 :: below0 := rfl
set_option maxRecDepth 65536 in
theorem w_args : argsFit about1.vm theMethod args0 = true := by decide +kernel
set_option maxRecDepth 65536 in
theorem w_heap : heapFits about1 = true := by decide +kernel
set_option maxRecDepth 65536 in
theorem w_runnable : about1.curStatus? = some .runnable := by decide +kernel
set_option maxRecDepth 65536 in
theorem w_alone : about1.alone = true := by decide +kernel
set_option maxRecDepth 65536 in
theorem w_named : about1.methodNamed? x = some theMethod := by decide +kernel
set_option maxRecDepth 65536 in
theorem w_hears : about1.hears theMethod below0 = true := by decide +kernel
set_option maxRecDepth 65536 in
theorem w_ripe : about1.ripe theMethod args0 below0 = true := by decide +kernel
theorem w_running : about1.status = .running := rfl
set_option maxRecDepth 65536 in
theorem w_room : about1.hasRoom e0.platform room_1 = true :=
  launch0.hasRoom_least _ room_1 (by decide +kernel) (by decide +kernel) (by decide +kernel) (by decide +kernel) (by decide +kernel) (by decide +kernel)
theorem allAtoms_all (ts : List Jvm.Cond) (a : Array Jvm.Value) (st : Jvm.State) : (allAtoms ts).before a st = ts.all (fun c => c.before a st) := by
  induction ts with
  | nil => rfl
  | cons c t ih =>
    show (Jvm.Cond.and c (allAtoms t)).before a st = _
    rw [Jvm.Cond.before_and, ih, List.all_cons]
def words1 : List Jvm.Cond := Jvm.Cond.code x code maxLocals ret :: tables_1
/-- a 'code' word, met by the world's own term for the bytes: nothing is compared byte by byte -/
theorem code_word {y : MethodName} {bytes : ByteArray} {mx : Nat} {rt : Option FieldType} {a : Array Value} {s : State} {m : MethodId} {meth : Method} {c : Code} (h1 : s.methodNamed? y = some m) (h2 : s.vm.method? m = some meth) (h3 : meth.code = some c) (h4 : c.code = bytes)
    (h5 : (c.maxLocals == mx && c.exceptionTable.isEmpty && decide (c.maxStack ≤ mostOperands) && decide (meth.sig.returnType = rt) && !meth.locks && decide (parseMethodDescriptor y.desc = some meth.sig)) = true) : (Jvm.Cond.code y bytes mx rt).before a s = true := by
  simp only [Bool.and_eq_true, beq_iff_eq, Bool.not_eq_true', decide_eq_true_eq] at h5
  obtain ⟨⟨⟨⟨⟨g1, g2⟩, g3⟩, g4⟩, g5⟩, g6⟩ := h5
  simp [Cond.before, Cond.holds, Cond.value, h1, h2, h3, h4, g1, g2, g3, g4, g5, g6]
def isCode : Jvm.Cond → Bool
  | .code _ _ _ _ => true
  | _ => false
theorem all_split {L : List Jvm.Cond} {P : Jvm.Cond → Bool} (h1 : L.all (fun c => isCode c || P c) = true) (h2 : ∀ c ∈ L.filter isCode, P c = true) : L.all P = true := by
  refine List.all_eq_true.mpr fun c hc => ?_
  have h := List.all_eq_true.mp h1 c hc
  rcases Bool.eq_false_or_eq_true (isCode c) with hi | hi
  · exact h2 c (List.mem_filter.mpr ⟨hc, hi⟩)
  · simpa [hi] using h
set_option maxRecDepth 65536 in
theorem w_c0 : (Jvm.Cond.code x code maxLocals ret).before args0 about1 = true := code_word (m := ⟨1, 2⟩) (meth := k1m2) (c := k1c2) (by decide +kernel) rfl rfl rfl (by decide +kernel)
set_option maxRecDepth 65536 in
theorem w_c1 : (Jvm.Cond.code ({ cls := "com/example/wary_retry/waryretry/breaker/PhaseTrialSucceededPinLaw", name := "pick", desc := "(I)Lcom/example/wary_retry/waryretry/breaker/State;" } : Jvm.MethodName) method_2_code (2 : Nat) (Option.some (Jvm.ClassFile.FieldType.object "com/example/wary_retry/waryretry/breaker/State"))).before args0 about1 = true := code_word (m := ⟨1, 1⟩) (meth := k1m1) (c := k1c1) (by decide +kernel) rfl rfl rfl (by decide +kernel)
set_option maxRecDepth 65536 in
theorem w_c2 : (Jvm.Cond.code ({ cls := "java/lang/Math", name := "min", desc := "(II)I" } : Jvm.MethodName) jdk_29_method_69_code (2 : Nat) (Option.some Jvm.ClassFile.FieldType.int)).before args0 about1 = true := code_word (m := ⟨7, 1⟩) (meth := k7m1) (c := k7c1) (by decide +kernel) rfl rfl rfl (by decide +kernel)
set_option maxRecDepth 65536 in
theorem w_c3 : (Jvm.Cond.code ({ cls := "com/example/wary_retry/waryretry/breaker/Phase", name := "<init>", desc := "(Lcom/example/wary_retry/waryretry/breaker/State;JIJII)V" } : Jvm.MethodName) prog_17_method_1_code (9 : Nat) (Option.none : Option Jvm.ClassFile.FieldType)).before args0 about1 = true := code_word (m := ⟨9, 0⟩) (meth := k9m0) (c := k9c0) (by decide +kernel) rfl rfl rfl (by decide +kernel)
set_option maxRecDepth 65536 in
theorem w_c4 : (Jvm.Cond.code ({ cls := "java/lang/Record", name := "<init>", desc := "()V" } : Jvm.MethodName) jdk_30_method_1_code (1 : Nat) (Option.none : Option Jvm.ClassFile.FieldType)).before args0 about1 = true := code_word (m := ⟨8, 0⟩) (meth := k8m0) (c := k8c0) (by decide +kernel) rfl rfl rfl (by decide +kernel)
set_option maxRecDepth 65536 in
theorem w_c5 : (Jvm.Cond.code ({ cls := "java/lang/Object", name := "<init>", desc := "()V" } : Jvm.MethodName) object_method_1_code (1 : Nat) (Option.none : Option Jvm.ClassFile.FieldType)).before args0 about1 = true := code_word (m := ⟨0, 0⟩) (meth := k0m0) (c := k0c0) (by decide +kernel) rfl rfl rfl (by decide +kernel)
set_option maxRecDepth 65536 in
theorem w_c6 : (Jvm.Cond.code ({ cls := "java/util/Objects", name := "requireNonNull", desc := "(Ljava/lang/Object;Ljava/lang/String;)Ljava/lang/Object;" } : Jvm.MethodName) jdk_31_method_11_code (2 : Nat) (Option.some (Jvm.ClassFile.FieldType.object "java/lang/Object"))).before args0 about1 = true := code_word (m := ⟨13, 1⟩) (meth := k13m1) (c := k13c1) (by decide +kernel) rfl rfl rfl (by decide +kernel)
set_option maxRecDepth 65536 in
theorem w_c7 : (Jvm.Cond.code ({ cls := "com/example/wary_retry/waryretry/breaker/Phase", name := "trialSucceeded", desc := "()Lcom/example/wary_retry/waryretry/breaker/Phase;" } : Jvm.MethodName) prog_17_method_7_code (1 : Nat) (Option.some (Jvm.ClassFile.FieldType.object "com/example/wary_retry/waryretry/breaker/Phase"))).before args0 about1 = true := code_word (m := ⟨9, 1⟩) (meth := k9m1) (c := k9c1) (by decide +kernel) rfl rfl rfl (by decide +kernel)
set_option maxRecDepth 65536 in
theorem w_c8 : (Jvm.Cond.code ({ cls := "com/example/wary_retry/waryretry/breaker/Phase", name := "state", desc := "()Lcom/example/wary_retry/waryretry/breaker/State;" } : Jvm.MethodName) prog_17_method_11_code (1 : Nat) (Option.some (Jvm.ClassFile.FieldType.object "com/example/wary_retry/waryretry/breaker/State"))).before args0 about1 = true := code_word (m := ⟨9, 2⟩) (meth := k9m2) (c := k9c2) (by decide +kernel) rfl rfl rfl (by decide +kernel)
set_option maxRecDepth 65536 in
theorem w_c9 : (Jvm.Cond.code ({ cls := "com/example/wary_retry/waryretry/breaker/Phase", name := "period", desc := "()J" } : Jvm.MethodName) prog_17_method_12_code (1 : Nat) (Option.some Jvm.ClassFile.FieldType.long)).before args0 about1 = true := code_word (m := ⟨9, 3⟩) (meth := k9m3) (c := k9c3) (by decide +kernel) rfl rfl rfl (by decide +kernel)
set_option maxRecDepth 65536 in
theorem w_c10 : (Jvm.Cond.code ({ cls := "com/example/wary_retry/waryretry/breaker/Phase", name := "failures", desc := "()I" } : Jvm.MethodName) prog_17_method_13_code (1 : Nat) (Option.some Jvm.ClassFile.FieldType.int)).before args0 about1 = true := code_word (m := ⟨9, 4⟩) (meth := k9m4) (c := k9c4) (by decide +kernel) rfl rfl rfl (by decide +kernel)
set_option maxRecDepth 65536 in
theorem w_c11 : (Jvm.Cond.code ({ cls := "com/example/wary_retry/waryretry/breaker/Phase", name := "changedAt", desc := "()J" } : Jvm.MethodName) prog_17_method_14_code (1 : Nat) (Option.some Jvm.ClassFile.FieldType.long)).before args0 about1 = true := code_word (m := ⟨9, 5⟩) (meth := k9m5) (c := k9c5) (by decide +kernel) rfl rfl rfl (by decide +kernel)
set_option maxRecDepth 65536 in
theorem w_c12 : (Jvm.Cond.code ({ cls := "com/example/wary_retry/waryretry/breaker/Phase", name := "admitted", desc := "()I" } : Jvm.MethodName) prog_17_method_15_code (1 : Nat) (Option.some Jvm.ClassFile.FieldType.int)).before args0 about1 = true := code_word (m := ⟨9, 6⟩) (meth := k9m6) (c := k9c6) (by decide +kernel) rfl rfl rfl (by decide +kernel)
set_option maxRecDepth 65536 in
theorem w_c13 : (Jvm.Cond.code ({ cls := "com/example/wary_retry/waryretry/breaker/Phase", name := "succeeded", desc := "()I" } : Jvm.MethodName) prog_17_method_16_code (1 : Nat) (Option.some Jvm.ClassFile.FieldType.int)).before args0 about1 = true := code_word (m := ⟨9, 7⟩) (meth := k9m7) (c := k9c7) (by decide +kernel) rfl rfl rfl (by decide +kernel)
def codes1 : List Jvm.Cond := [Jvm.Cond.code x code maxLocals ret, Jvm.Cond.code ({ cls := "com/example/wary_retry/waryretry/breaker/PhaseTrialSucceededPinLaw", name := "pick", desc := "(I)Lcom/example/wary_retry/waryretry/breaker/State;" } : Jvm.MethodName) method_2_code (2 : Nat) (Option.some (Jvm.ClassFile.FieldType.object "com/example/wary_retry/waryretry/breaker/State")), Jvm.Cond.code ({ cls := "java/lang/Math", name := "min", desc := "(II)I" } : Jvm.MethodName) jdk_29_method_69_code (2 : Nat) (Option.some Jvm.ClassFile.FieldType.int), Jvm.Cond.code ({ cls := "com/example/wary_retry/waryretry/breaker/Phase", name := "<init>", desc := "(Lcom/example/wary_retry/waryretry/breaker/State;JIJII)V" } : Jvm.MethodName) prog_17_method_1_code (9 : Nat) (Option.none : Option Jvm.ClassFile.FieldType), Jvm.Cond.code ({ cls := "java/lang/Record", name := "<init>", desc := "()V" } : Jvm.MethodName) jdk_30_method_1_code (1 : Nat) (Option.none : Option Jvm.ClassFile.FieldType), Jvm.Cond.code ({ cls := "java/lang/Object", name := "<init>", desc := "()V" } : Jvm.MethodName) object_method_1_code (1 : Nat) (Option.none : Option Jvm.ClassFile.FieldType), Jvm.Cond.code ({ cls := "java/util/Objects", name := "requireNonNull", desc := "(Ljava/lang/Object;Ljava/lang/String;)Ljava/lang/Object;" } : Jvm.MethodName) jdk_31_method_11_code (2 : Nat) (Option.some (Jvm.ClassFile.FieldType.object "java/lang/Object")), Jvm.Cond.code ({ cls := "com/example/wary_retry/waryretry/breaker/Phase", name := "trialSucceeded", desc := "()Lcom/example/wary_retry/waryretry/breaker/Phase;" } : Jvm.MethodName) prog_17_method_7_code (1 : Nat) (Option.some (Jvm.ClassFile.FieldType.object "com/example/wary_retry/waryretry/breaker/Phase")), Jvm.Cond.code ({ cls := "com/example/wary_retry/waryretry/breaker/Phase", name := "state", desc := "()Lcom/example/wary_retry/waryretry/breaker/State;" } : Jvm.MethodName) prog_17_method_11_code (1 : Nat) (Option.some (Jvm.ClassFile.FieldType.object "com/example/wary_retry/waryretry/breaker/State")), Jvm.Cond.code ({ cls := "com/example/wary_retry/waryretry/breaker/Phase", name := "period", desc := "()J" } : Jvm.MethodName) prog_17_method_12_code (1 : Nat) (Option.some Jvm.ClassFile.FieldType.long), Jvm.Cond.code ({ cls := "com/example/wary_retry/waryretry/breaker/Phase", name := "failures", desc := "()I" } : Jvm.MethodName) prog_17_method_13_code (1 : Nat) (Option.some Jvm.ClassFile.FieldType.int), Jvm.Cond.code ({ cls := "com/example/wary_retry/waryretry/breaker/Phase", name := "changedAt", desc := "()J" } : Jvm.MethodName) prog_17_method_14_code (1 : Nat) (Option.some Jvm.ClassFile.FieldType.long), Jvm.Cond.code ({ cls := "com/example/wary_retry/waryretry/breaker/Phase", name := "admitted", desc := "()I" } : Jvm.MethodName) prog_17_method_15_code (1 : Nat) (Option.some Jvm.ClassFile.FieldType.int), Jvm.Cond.code ({ cls := "com/example/wary_retry/waryretry/breaker/Phase", name := "succeeded", desc := "()I" } : Jvm.MethodName) prog_17_method_16_code (1 : Nat) (Option.some Jvm.ClassFile.FieldType.int)]
set_option maxRecDepth 65536 in
theorem codes_eq : words1.filter isCode = codes1 := rfl
theorem w_codes : ∀ c ∈ words1.filter isCode, c.before args0 about1 = true := by
  rw [codes_eq]
  intro c hc
  simp only [codes1, List.mem_cons, List.not_mem_nil, or_false] at hc
  rcases hc with rfl | rfl | rfl | rfl | rfl | rfl | rfl | rfl | rfl | rfl | rfl | rfl | rfl | rfl
  · exact w_c0
  · exact w_c1
  · exact w_c2
  · exact w_c3
  · exact w_c4
  · exact w_c5
  · exact w_c6
  · exact w_c7
  · exact w_c8
  · exact w_c9
  · exact w_c10
  · exact w_c11
  · exact w_c12
  · exact w_c13
set_option maxRecDepth 65536 in
theorem w_t1 : (words1.take 24).all (fun c => isCode c || c.before args0 about1) = true := by decide +kernel
set_option maxRecDepth 65536 in
theorem w_t2 : ((words1.drop 24).take 24).all (fun c => isCode c || c.before args0 about1) = true := by decide +kernel
set_option maxRecDepth 65536 in
theorem w_t3 : (((words1.drop 24).drop 24).take 24).all (fun c => isCode c || c.before args0 about1) = true := by decide +kernel
set_option maxRecDepth 65536 in
theorem w_t4 : (((words1.drop 24).drop 24).drop 24).all (fun c => isCode c || c.before args0 about1) = true := by decide +kernel
theorem w_tables : (allAtoms (Jvm.Cond.code x code maxLocals ret :: tables_1)).before args0 about1 = true := by
  rw [allAtoms_all]
  show words1.all (fun c => c.before args0 about1) = true
  refine all_split ?_ w_codes
  rw [← List.take_append_drop 24 words1, List.all_append, w_t1, ← List.take_append_drop 24 (words1.drop 24), List.all_append, w_t2, ← List.take_append_drop 24 ((words1.drop 24).drop 24), List.all_append, w_t3, w_t4]
  rfl
set_option maxRecDepth 65536 in
theorem w_case : (Jvm.Cond.and given_1 narrow_1).before args0 about1 = true := by decide +kernel
theorem w_applies : (headSpec (Jvm.Cond.code x code maxLocals ret :: tables_1) room_1).applies x e0.platform about1 = true :=
  (Spec.applies_iff w_frames).mpr ⟨w_running, w_runnable, w_alone, w_named, w_hears, w_ripe, w_room, w_tables⟩
theorem atStart : AtStart classFile x code maxLocals ret World_1 tables_1 room_1 Calls_1 rest_1 Pre_1 launch0 p0 e0 about1 theMethod args0 below0 :=
  ⟨lists_1, trivial, launch0.admits_env _ _ _, launch0.least_env, fairChoices_fair.cas, fairChoices_fair.clock, w_frames, w_args, w_heap, w_applies, trivial, trivial, w_case⟩
end start1
theorem witness_1 : WitnessClaimed_1 := ⟨start1.p0, start1.e0, start1.about1, start1.theMethod, start1.args0, start1.below0, start1.atStart⟩
end Jvm.Pilot.@@N@@
