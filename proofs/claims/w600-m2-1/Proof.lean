import JvmDerived
import JvmDerived.Pilot.@@N@@Statement
import JvmDerived.Pilot.@@N@@Code
set_option linter.unusedVariables false
set_option linter.unusedSimpArgs false
namespace Jvm.Pilot.@@N@@
open Jvm Jvm.ClassFile Sem Op Lib Jvm.Free Jvm.Stand Jvm.LawKit Jvm.RoadKit Bundle Jvm.Pilot.@@N@@.Jvm.D
section OwnKit
variable {p : Program} {l : Launch} {e : Env} {R : Room} {s : State} {m : MethodId} {args : Array Value} {below : List Frame} {meth : Method} {c : Code} {T : State} {locs : List Loc} {cells slots : Nat} {Z : State} {a0 : Array Value} {h : Heap} {Q : Option Value → Heap → List Loc → Prop} {k n : Nat}
/-- from the state a the run comes to its end, and Q holds there -/
def Go (p : Program) (e : Env) (below : List Frame) (s : State) (Q : Option Value → Heap → List Loc → Prop) (k n : Nat) (a : State) : Prop :=
  ∃ t o, Steps p.tables e below a t ∧ t.status = .running ∧ Ended t below o ∧ ∃ v L, o = .returned v ∧ Q v t.heap L ∧ FrameEnd s o t L k n
theorem Go.step {a b : State} (st : ∀ t, Steps p.tables e below b t → Steps p.tables e below a t) (g : Go p e below s Q k n b) : Go p e below s Q k n a := by
  obtain ⟨t, o, h1, h2⟩ := g
  exact ⟨t, o, st t h1, h2⟩
theorem Go.out (X : Stand p l e R s m args below meth c T locs cells slots) (hx : p.tables.exec = Jvm.exec) (hlk : meth.locks = false) {pc : Nat} {Ls : Array Slot} {w : Value} {t : FieldType} {i : Instr} {rest : List Value} (hret : meth.sig.returnType = some t) (hn : narrow t w = w)
    (hi : (i = .ireturn ∧ (t = .int ∨ t = .boolean ∨ t = .byte ∨ t = .char ∨ t = .short) ∧ ∃ z, w = .int z) ∨ (i = .lreturn ∧ t = .long ∧ ∃ z, w = .long z) ∨ (i = .dreturn ∧ t = .double ∧ ∃ z, w = .double z) ∨ (i = .freturn ∧ t = .float ∧ ∃ z, w = .float z) ∨ (i = .areturn ∧ t.isReference = true ∧ w.isRef = true))
    (hd : decode c.code pc = .ok (i, 1)) (hq : Q (some w) T.heap locs) (hk : cells ≤ k) (hl : slots ≤ n) : Go p e below s Q k n (T.setTop (mkF m pc Ls (w :: rest))) := by
  obtain ⟨fs, hr, hrun, hended, hW, hsame⟩ := X.leave (v := some w) (fun h => by rw [hret] at h; cases h) hlk
  exact ⟨_, _, retOut X hx hret hn hi hd hr, hrun, hended, _, _, rfl, hq, ⟨_, rfl⟩, hW, hsame.mono hk hl⟩
theorem Go.retI (X : Stand p l e R s m args below meth c T locs cells slots) (hx : p.tables.exec = Jvm.exec) (hlk : meth.locks = false) {pc : Nat} {Ls : Array Slot} {z : Int32} {rest : List Value} (hret : meth.sig.returnType = some .int) (hd : decode c.code pc = .ok (.ireturn, 1)) (hq : Q (some (.int z)) T.heap locs) (hk : cells ≤ k) (hl : slots ≤ n) : Go p e below s Q k n (T.setTop (mkF m pc Ls (.int z :: rest))) :=
  Go.out X hx hlk hret rfl (Or.inl ⟨rfl, Or.inl rfl, z, rfl⟩) hd hq hk hl
theorem Go.retJ (X : Stand p l e R s m args below meth c T locs cells slots) (hx : p.tables.exec = Jvm.exec) (hlk : meth.locks = false) {pc : Nat} {Ls : Array Slot} {z : Int64} {rest : List Value} (hret : meth.sig.returnType = some .long) (hd : decode c.code pc = .ok (.lreturn, 1)) (hq : Q (some (.long z)) T.heap locs) (hk : cells ≤ k) (hl : slots ≤ n) : Go p e below s Q k n (T.setTop (mkF m pc Ls (.long z :: rest))) :=
  Go.out X hx hlk hret rfl (Or.inr (Or.inl ⟨rfl, rfl, z, rfl⟩)) hd hq hk hl
theorem own_narrow_ref {t : FieldType} {w : Value} (ht : t.isReference = true) : narrow t w = w := by cases t <;> first | (cases ht; done) | rfl | (cases w <;> rfl)
theorem Go.retA (X : Stand p l e R s m args below meth c T locs cells slots) (hx : p.tables.exec = Jvm.exec) (hlk : meth.locks = false) {pc : Nat} {Ls : Array Slot} {w : Value} {t : FieldType} {rest : List Value} (hret : meth.sig.returnType = some t) (ht : t.isReference = true) (hw : w.isRef = true) (hd : decode c.code pc = .ok (.areturn, 1)) (hq : Q (some w) T.heap locs) (hk : cells ≤ k) (hl : slots ≤ n) : Go p e below s Q k n (T.setTop (mkF m pc Ls (w :: rest))) :=
  Go.out X hx hlk hret (own_narrow_ref ht) (Or.inr (Or.inr (Or.inr (Or.inr ⟨rfl, ht, hw⟩)))) hd hq hk hl
theorem Go.retN (X : Stand p l e R s m args below meth c T locs cells slots) (hx : p.tables.exec = Jvm.exec) (hlk : meth.locks = false) {pc : Nat} {Ls : Array Slot} {z : Int32} {t : FieldType} {rest : List Value} (hret : meth.sig.returnType = some t) (ht : t = .boolean ∨ t = .byte ∨ t = .char ∨ t = .short) (hd : decode c.code pc = .ok (.ireturn, 1)) (hq : Q (some (.int (nar t z))) T.heap locs) (hk : cells ≤ k) (hl : slots ≤ n) : Go p e below s Q k n (T.setTop (mkF m pc Ls (.int z :: rest))) := by
  obtain ⟨fs, hr, hrun, hended, hW, hsame⟩ := X.leave (v := some (.int (nar t z))) (fun h => by rw [hret] at h; cases h) hlk
  exact ⟨_, _, Jvm.RoadKit.retN X hx hret ht hd hr, hrun, hended, _, _, rfl, hq, ⟨_, rfl⟩, hW, hsame.mono hk hl⟩
theorem Go.retV (X : Stand p l e R s m args below meth c T locs cells slots) (hx : p.tables.exec = Jvm.exec) (hlk : meth.locks = false) {pc : Nat} {Ls : Array Slot} (hret : meth.sig.returnType = none) (hd : decode c.code pc = .ok (.return_, 1)) (hq : Q none T.heap locs) (hk : cells ≤ k) (hl : slots ≤ n) : Go p e below s Q k n (T.setTop (mkF m pc Ls [])) := by
  obtain ⟨fs, hr, hrun, hended, hW, hsame⟩ := X.leave (v := none) (fun _ => rfl) hlk
  exact ⟨_, _, X.returnOut hx hret hd hr, hrun, hended, _, _, rfl, hq, ⟨_, rfl⟩, hW, hsame.mono hk hl⟩
theorem own_decT {x y : Value} (q : x = y) : decide (x = y) = true := decide_eq_true q
theorem own_decF {x y : Value} (q : ¬ x = y) : decide (x = y) = false := decide_eq_false q
/-- a body's contract: called with as' over the heap h it returns, and Q holds at the end -/
def Con (l : Launch) (Z : State) (y : MethodName) (bytes : ByteArray) (maxL : Nat) (ret : Option FieldType) (rm : Room) (as' : Array Value) (h : Heap) (Q : Option Value → Heap → List Loc → Prop) : Prop :=
  ∀ ws : List Jvm.Cond, MetFree l y (head1 (Jvm.Cond.code y bytes maxL ret :: ws) rm) (fun a U => a = as' ∧ Z.Warmed39 U.vm ∧ U.heap = h) (fun _ _ _ _ _ => True) (fun _ U o U' => ∃ v L, o = .returned v ∧ Q v U'.heap L ∧ FrameEnd U o U' L rm.cells rm.slots)
theorem Con.of {y : MethodName} {bytes : ByteArray} {maxL : Nat} {ret : Option FieldType} {rm : Room} {as' : Array Value} (hy : plainName y.cls = true)
    (body : ∀ (p : Program) (e : Env) (s : State) (m : MethodId) (below : List Frame) (meth : Method) (c : Code) (T : State),
      Stand p l e rm s m as' below meth c T [] 0 0 → p.tables.exec = Jvm.exec → c.code = bytes → c.maxLocals = maxL → meth.sig.returnType = ret → meth.locks = false →
      s.vm.findClass y.cls = some m.cls → meth.name = y.name → Z.Warmed39 s.vm → T.heap = h → Go p e below s Q rm.cells rm.slots (T.setTop (entryFrame m as' maxL))) : Con l Z y bytes maxL ret rm as' h Q := by
  intro ws
  refine MetFree.of_bodySF (plainFor_of_name hy) hisR ?_
  intro p e s m args below meth c s₁ Bd hml hP hK
  obtain ⟨rfl, hZ, hh⟩ := hP
  exact body p e s m below meth c s₁ (Stand.of_body Bd) Bd.exec Bd.bytes hml Bd.returns Bd.notSynchronized (findClass_of_methodNamed Bd.named) (name_of_methodNamed Bd.named Bd.method).1 hZ (by rw [← hh, Bd.state]; rfl)
theorem Go.callS (X : Stand p l e R s m args below meth c T locs cells slots) (hx : p.tables.exec = Jvm.exec) (hZ : Z.Warmed39 s.vm) {own : String} {index : Nat} {y : MethodName} {bytes : ByteArray} {maxL : Nat} {ret : Option FieldType} {rm : Room} {Qc : Option Value → Heap → List Loc → Prop}
    (hown : s.vm.findClass own = some m.cls) (w1 : (Jvm.Cond.methodLink own index y).before a0 Z = true) (w2 : (Jvm.Cond.static y).before a0 Z = true) (w3 : (Jvm.Cond.initialized y.cls).before a0 Z = true) (w4 : (Jvm.Cond.code y bytes maxL ret).before a0 Z = true) (hy : y.cls ≠ "java/lang/invoke/MethodHandle" ∧ y.cls ≠ "java/lang/invoke/VarHandle")
    (eT : T.heap = h) (argsL rest : List Value) (W : Nat) (con : Con l Z y bytes maxL ret rm argsL.toArray h Qc)
    (hf : rm.frames + 1 ≤ R.frames) (hl : W + (maxL + 11) + rm.locals ≤ R.locals) (hc : cells + rm.cells ≤ R.cells) (hs : slots + rm.slots ≤ R.slots)
    {pc : Nat} {Ls : Array Slot} {stk : List Value} (hsize : Ls.size = c.maxLocals) (hlen : ∀ sig, parseMethodDescriptor y.desc = some sig → argsL.length = sig.parameters.length) (hstk : stk = argsL.reverse ++ rest) (hW : (rest.map fun v => v.category).sum ≤ W)
    (hd : decode c.code pc = .ok (.invokestatic index, 3))
    (k1 : ∀ (T' : State) (v : Option Value) (Lc : List Loc), Stand p l e R s m args below meth c T' (locs ++ Lc) (cells + rm.cells) (slots + rm.slots) → Qc v T'.heap Lc → Go p e below s Q k n (T'.setTop (mkF m (pc + 3) Ls (v.toList ++ rest)))) :
    Go p e below s Q k n (T.setTop (mkF m pc Ls stk)) := by
  subst hstk
  obtain ⟨v, _, ⟨T', L', c', n'⟩, -, X', ⟨Lc, hQ, l', y', z'⟩, st⟩ := Jvm.LawKit.callS X hx (y := y) hown (mvT hZ w1) (mvT hZ w2) (mvT hZ w3) (mvT hZ w4) hy (backOf (W := W) (con []) hZ w4 w3 hf hl) (g := mkF m pc Ls (argsL.reverse ++ rest)) rfl hsize (argsL := argsL) (rest := rest) hlen rfl (by show 2 * 0 + _ ≤ _; rw [Nat.mul_zero, Nat.zero_add]; exact hW) hd (fun _ _ => ⟨rfl, eT, hc, hs⟩)
  dsimp only [Pt.U, Pt.locs, Pt.cells, Pt.slots] at X' l' y' z' st hQ
  subst l' y' z'
  exact Go.step st (k1 T' v Lc X' hQ)
theorem Go.callV (X : Stand p l e R s m args below meth c T locs cells slots) (hx : p.tables.exec = Jvm.exec) (hZ : Z.Warmed39 s.vm) {own C : String} {index : Nat} {y : MethodName} {bytes : ByteArray} {maxL : Nat} {ret : Option FieldType} {rm : Room} {Qc : Option Value → Heap → List Loc → Prop}
    (hown : s.vm.findClass own = some m.cls) (w1 : (Jvm.Cond.methodLink own index y).before a0 Z = true) (w2 : (Jvm.Cond.declares y).before a0 Z = true) (w3 : (Jvm.Cond.selects C y y).before a0 Z = true) (w4 : (Jvm.Cond.instanceMethod y).before a0 Z = true) (w5 : (Jvm.Cond.initialized y.cls).before a0 Z = true) (w6 : (Jvm.Cond.code y bytes maxL ret).before a0 Z = true) (hy : y.cls ≠ "java/lang/invoke/MethodHandle" ∧ y.cls ≠ "java/lang/invoke/VarHandle")
    (eT : T.heap = h) {b : Addr} (E : Exa Z h b C) (argsL rest : List Value) (W : Nat) (con : Con l Z y bytes maxL ret rm (.ref b :: argsL).toArray h Qc)
    (hf : rm.frames + 1 ≤ R.frames) (hl : W + (maxL + 11) + rm.locals ≤ R.locals) (hc : cells + rm.cells ≤ R.cells) (hs : slots + rm.slots ≤ R.slots)
    {pc : Nat} {Ls : Array Slot} {stk : List Value} (hsize : Ls.size = c.maxLocals) (hlen : ∀ sig, parseMethodDescriptor y.desc = some sig → argsL.length = sig.parameters.length) (hstk : stk = argsL.reverse ++ .ref b :: rest) (hW : (rest.map fun v => v.category).sum ≤ W)
    (hd : decode c.code pc = .ok (.invokevirtual index, 3))
    (k1 : ∀ (T' : State) (v : Option Value) (Lc : List Loc), Stand p l e R s m args below meth c T' (locs ++ Lc) (cells + rm.cells) (slots + rm.slots) → Qc v T'.heap Lc → Go p e below s Q k n (T'.setTop (mkF m (pc + 3) Ls (v.toList ++ rest)))) :
    Go p e below s Q k n (T.setTop (mkF m pc Ls stk)) := by
  subst hstk
  obtain ⟨cq, kq, qa, qb, qc⟩ := isOf hZ eT E
  obtain ⟨v, _, ⟨T', L', c', n'⟩, -, X', ⟨Lc, hQ, l', y', z'⟩, st⟩ := X.virtualBack hx (y := y) (z := y) hown (mvT hZ w1) (mvT hZ w2) (notFace_of_selects (args := #[]) (mvT hZ w3)) (mvT hZ w3) (mvT hZ w4) hy (backOf (W := W) (con []) hZ w6 w5 hf hl) qa qc (g := mkF m pc Ls (argsL.reverse ++ .ref b :: rest)) rfl hsize (Steps.refl _) (argsL := argsL) (rest := rest) hlen rfl (by show 2 * 0 + _ ≤ _; rw [Nat.mul_zero, Nat.zero_add]; exact hW) hd (fun _ _ => ⟨rfl, eT, hc, hs⟩)
  dsimp only [Pt.U, Pt.locs, Pt.cells, Pt.slots] at X' l' y' z' st hQ
  subst l' y' z'
  exact Go.step (fun t kk => st.trans kk) (k1 T' v Lc X' hQ)
theorem Go.callI (X : Stand p l e R s m args below meth c T locs cells slots) (hx : p.tables.exec = Jvm.exec) (hZ : Z.Warmed39 s.vm) {own : String} {index : Nat} {y : MethodName} {bytes : ByteArray} {maxL : Nat} {rm : Room} {Qc : Option Value → Heap → List Loc → Prop} (hy1 : y.name = "<init>")
    (hown : s.vm.findClass own = some m.cls) (w1 : (Jvm.Cond.methodLink own index y).before a0 Z = true) (w2 : (Jvm.Cond.instanceMethod y).before a0 Z = true) (w3 : (Jvm.Cond.initialized y.cls).before a0 Z = true) (w4 : (Jvm.Cond.code y bytes maxL none).before a0 Z = true) (hy : y.cls ≠ "java/lang/invoke/MethodHandle" ∧ y.cls ≠ "java/lang/invoke/VarHandle")
    (eT : T.heap = h) {b : Addr} (argsL rest : List Value) (W : Nat) (con : Con l Z y bytes maxL none rm (.ref b :: argsL).toArray h Qc)
    (hf : rm.frames + 1 ≤ R.frames) (hl : W + (maxL + 11) + rm.locals ≤ R.locals) (hc : cells + rm.cells ≤ R.cells) (hs : slots + rm.slots ≤ R.slots)
    {pc : Nat} {Ls : Array Slot} {stk : List Value} (hsize : Ls.size = c.maxLocals) (hlen : ∀ sig, parseMethodDescriptor y.desc = some sig → argsL.length = sig.parameters.length) (hstk : stk = argsL.reverse ++ .ref b :: rest) (hW : (rest.map fun v => v.category).sum ≤ W)
    (hd : decode c.code pc = .ok (.invokespecial index, 3))
    (k1 : ∀ (T' : State) (v : Option Value) (Lc : List Loc), Stand p l e R s m args below meth c T' (locs ++ Lc) (cells + rm.cells) (slots + rm.slots) → Qc v T'.heap Lc → Go p e below s Q k n (T'.setTop (mkF m (pc + 3) Ls (v.toList ++ rest)))) :
    Go p e below s Q k n (T.setTop (mkF m pc Ls stk)) := by
  subst hstk
  obtain ⟨v, _, ⟨T', L', c', n'⟩, -, X', ⟨Lc, hQ, l', y', z'⟩, st⟩ := X.specialBack hx (y := y) hy1 hown (mvT hZ w1) (mvT hZ w2) (mvT hZ w4) hy (backOf (W := W) (con []) hZ w4 w3 hf hl) (g := mkF m pc Ls (argsL.reverse ++ .ref b :: rest)) rfl hsize (Steps.refl _) (a := b) (argsL := argsL) (rest := rest) hlen rfl (by show 2 * 0 + _ ≤ _; rw [Nat.mul_zero, Nat.zero_add]; exact hW) hd (fun _ _ => ⟨rfl, eT, hc, hs⟩)
  dsimp only [Pt.U, Pt.locs, Pt.cells, Pt.slots] at X' l' y' z' st hQ
  subst l' y' z'
  exact Go.step (fun t kk => st.trans kk) (k1 T' v Lc X' hQ)
end OwnKit
theorem own_ext_trans {h0 h1 h2 : Heap} (E : Ext h0 h1) (F : Ext h1 h2) : Ext h0 h2 := ⟨Nat.le_trans E.1 F.1, fun a c q => F.2 a c (E.2 a c q)⟩
theorem own_ext_refl (h0 : Heap) : Ext h0 h0 := ⟨Nat.le_refl _, fun _ _ q => q⟩
theorem own_ext_keep {h0 h1 h2 : Heap} {ws : List Addr} (E : Ext h0 h1) (K : Keep h1 h2 ws) (hw : ∀ x ∈ ws, h0.size ≤ x) : Ext h0 h2 := ⟨Nat.le_trans E.1 K.1, fun a c q => K.2.1 a c (E.2 a c q) fun hm => absurd (Array.getElem?_eq_some_iff.mp q).1 (Nat.not_lt.mpr (hw a hm))⟩
theorem own_ext_wr {h0 h1 h2 : Heap} {a : Addr} {sl : Nat} {v : Value} (E : Ext h0 h1) (W : Wr h1 h2 a sl v) (q : h0.size ≤ a) : Ext h0 h2 := own_ext_keep E (Keep.of_wr W) (allS q all0)
theorem own_ne_lt {a b : Addr} {n : Nat} (p : a < n) (q : n ≤ b) : a ≠ b := Nat.ne_of_lt (Nat.lt_of_lt_of_le p q)
theorem own_len {args : Array Value} {s : State} {t : Term} {a : Addr} {c : Cell} {ty : FieldType} {z : Int32} (ev : t.eval args s none [] s = some (.ref a)) (A : Arr s s.heap a c ty) (hq : (Jvm.Cond.eq (.length t) (.int z)).value args s none s [] = some true) : c.slots.size < 2 ^ 31 ∧ c.slots.size.toInt32 = z := by
  obtain ⟨x, y, hx, hy, -, hk⟩ := cmp_v (Or.inl hq)
  obtain rfl : y = .int z := (Option.some.inj hy).symm
  obtain ⟨q, rfl⟩ := hk
  have e := gotT (Cond.eq_ints hx (Term.int_eval z)) hq
  subst e
  have h1 := Arr.fin (Vm.Alike.refl _) A
  simp only [Term.eval, ev, h1, Option.bind_eq_bind, Option.bind_some] at hx
  split at hx
  · rename_i hl
    exact ⟨hl, by injection hx with hx; injection hx⟩
  · cases hx
theorem own_elem {args : Array Value} {s : State} {t u : Term} {a b : Addr} {c : Cell} {ty : FieldType} {i : Int32} (ev : t.eval args s none [] s = some (.ref a)) (A : Arr s s.heap a c ty) (eu : u.eval args s none [] s = some (.ref b)) (hq : (Jvm.Cond.eq (.elem t (.int i)) u).value args s none s [] = some true) : c.slots[i.toNatClampNeg]? = some (.ref b) := by
  obtain ⟨x, y, hx, hy, hk, hk2⟩ := cmp_v (Or.inl hq)
  cases eu.symm.trans hy
  obtain ⟨c', h1, h2, h3⟩ := elem_at hx ev (Term.int_eval i)
  cases A.1.symm.trans h1
  have hr : x.isRef = true := hk2.2
  have e := gotT (eq_R hx eu hr rfl) hq
  rw [e] at h3; exact h3
theorem own_cell {Z T : State} {h : Heap} {a : Addr} {c : Cell} {ty : FieldType} (eT : T.heap = h) (A : Arr Z h a c ty) : T.heap[a]? = some c := by rw [eT]; exact A.1
theorem own_fldI {args : Array Value} {s : State} {t : Term} {a : Addr} {C n d : String} {z : Int32} (ev : t.eval args s none [] s = some (.ref a)) (hq : (Jvm.Cond.eq (.field t C n d) (.int z)).value args s none s [] = some true) : Fld s s.heap a C n d (.int z) := by
  obtain ⟨x, y, hx, hy, -, hk⟩ := cmp_v (Or.inl hq)
  obtain rfl : y = .int z := (Option.some.inj hy).symm
  obtain ⟨q, rfl⟩ := hk
  have e := gotT (Cond.eq_ints hx (Term.int_eval z)) hq
  subst e
  exact Fld.start (by rw [← fld_at (args := args) (first := s) (o := none) (idx := []) ev]; exact hx)
theorem own_fldJ {args : Array Value} {s : State} {t : Term} {a : Addr} {C n d : String} {z : Int64} (ev : t.eval args s none [] s = some (.ref a)) (hq : (Jvm.Cond.eq (.field t C n d) (.long z)).value args s none s [] = some true) : Fld s s.heap a C n d (.long z) := by
  obtain ⟨x, y, hx, hy, -, hk⟩ := cmp_v (Or.inl hq)
  obtain rfl : y = .long z := (Option.some.inj hy).symm
  obtain ⟨q, rfl⟩ := hk
  have e := gotT (eq_L hx (long_at z)) hq
  subst e
  exact Fld.start (by rw [← fld_at (args := args) (first := s) (o := none) (idx := []) ev]; exact hx)
def own_rej (z : Int32) (a b : Addr) : Addr := if z = 400 then a else if z = 422 then a else b
theorem own_rej_ne {z : Int32} {a b g : Addr} (n1 : ¬ a = g) (n2 : ¬ b = g) : ¬ own_rej z a b = g := by
  unfold own_rej; repeat' split
  all_goals assumption
theorem own_pn0 : plainName "com/example/watchful_relay/watchfulrelay/model/DeadLetterReason" = true := by first | (simp [plainName, overriddenIn]; done) | decide +kernel
theorem own_d_rej_0 : decode prog_12_method_4_code 0 = .ok (.iload_n 0, 1) := by decide +kernel
theorem own_d_rej_1 : decode prog_12_method_4_code 1 = .ok (.sipush 400, 3) := by decide +kernel
theorem own_d_rej_4 : decode prog_12_method_4_code 4 = .ok (.if_icmp .eq 10, 3) := by decide +kernel
theorem own_d_rej_7 : decode prog_12_method_4_code 7 = .ok (.iload_n 0, 1) := by decide +kernel
theorem own_d_rej_8 : decode prog_12_method_4_code 8 = .ok (.sipush 422, 3) := by decide +kernel
theorem own_d_rej_11 : decode prog_12_method_4_code 11 = .ok (.if_icmp .ne 9, 3) := by decide +kernel
theorem own_d_rej_14 : decode prog_12_method_4_code 14 = .ok (.getstatic 3, 3) := by decide +kernel
theorem own_d_rej_17 : decode prog_12_method_4_code 17 = .ok (.goto 6, 3) := by decide +kernel
theorem own_d_rej_20 : decode prog_12_method_4_code 20 = .ok (.getstatic 7, 3) := by decide +kernel
theorem own_d_rej_23 : decode prog_12_method_4_code 23 = .ok (.areturn, 1) := by decide +kernel
theorem own_ef_rej (m : MethodId) (p1 : Int32) : entryFrame m #[(.int p1)] 1 = mkF m 0 #[.val (.int p1)] [] := by first | (simp [entryFrame, mkF, argsToLocals, Value.category, maxLocals]; done) | rfl
set_option maxRecDepth 65536 in
set_option maxHeartbeats 40000000 in
theorem rm_rej (l : Launch) (Z : State) (a0 : Array Value) (hw : ∀ d ∈ tables_1, d.before a0 Z = true) (p1 : Int32) (av : Addr) (ac : Addr) (h0 : Heap) (n0 : Nat) (S_av : Sta Z h0 "com/example/watchful_relay/watchfulrelay/model/DeadLetterReason" "VALIDATION_FAILED" "Lcom/example/watchful_relay/watchfulrelay/model/DeadLetterReason;" (.ref av)) (S_ac : Sta Z h0 "com/example/watchful_relay/watchfulrelay/model/DeadLetterReason" "CONTRACT_MISMATCH" "Lcom/example/watchful_relay/watchfulrelay/model/DeadLetterReason;" (.ref ac)) :
    Con l Z (⟨"com/example/watchful_relay/watchfulrelay/model/DeadLetterReason", "ofRejection", "(I)Lcom/example/watchful_relay/watchfulrelay/model/DeadLetterReason;"⟩ : MethodName) prog_12_method_4_code 1 (some (.object "com/example/watchful_relay/watchfulrelay/model/DeadLetterReason")) ({ frames := 0, cells := 0, slots := 0, locals := 0 } : Room) #[(.int p1)] h0 (fun v h L => v = some (.ref (own_rej p1 av ac)) ∧ L = [] ∧ h = h0) := by
  refine Con.of own_pn0 ?_
  intro p e s m below meth c T0 X0 hx hby hml hret hlk hown0 hnm hZ e0
  have hown : s.vm.findClass "com/example/watchful_relay/watchfulrelay/model/DeadLetterReason" = some m.cls := hown0
  have N0 := Fr.nil n0
  refine Go.step (fun t kk => castTop (own_ef_rej m p1) kk) ?_
  show Go p e below s _ _ _ (T0.setTop (mkF m 0 #[.val (.int p1)] []))
  refine Go.step (fun t kk => XS.iloadN X0.here hx rfl (hb hby own_d_rej_0) rfl kk) ?_
  show Go p e below s _ _ _ (T0.setTop (mkF m 1 #[.val (.int p1)] [(.int p1)]))
  refine Go.step (fun t kk => XS.sipush X0.here hx rfl (hb hby own_d_rej_1) kk) ?_
  show Go p e below s _ _ _ (T0.setTop (mkF m 4 #[.val (.int p1)] [(.int (400 : Int32)), (.int p1)]))
  by_cases hc4_1 : p1 = (400 : Int32)
  · refine Go.step (fun t kk => XS.icmpYes X0.here hx rfl (pc0 := 4) (pc' := 14) rfl (hb hby own_d_rej_4) rfl (teq hc4_1).1 (by decide) (by decide) kk) ?_
    show Go p e below s _ _ _ (T0.setTop (mkF m 14 #[.val (.int p1)] []))
    obtain ⟨T2, X2, e2, st2⟩ := getS (host := "") X0 hx hZ hown (hw _ (List.mem_of_getElem? (i := 11) rfl)) Via.refl e0 S_av (g := (mkF m 14 #[.val (.int p1)] [])) rfl (hb hby own_d_rej_14)
    refine Go.step st2 ?_
    show Go p e below s _ _ _ (T2.setTop (mkF m 17 #[.val (.int p1)] [(.ref av)]))
    refine Go.step (fun t kk => XS.goto X2.here hx rfl (pc0 := 17) (pc' := 23) rfl (hb hby own_d_rej_17) (by decide) (by decide) kk) ?_
    show Go p e below s _ _ _ (T2.setTop (mkF m 23 #[.val (.int p1)] [(.ref av)]))
    exact Go.retA X2 hx hlk hret rfl rfl (hb hby own_d_rej_23) (show _ ∧ _ ∧ _ from ⟨by simp [own_rej, hc4_1], rfl, e2⟩) (by decide) (by decide)
  · refine Go.step (fun t kk => XS.icmpNo X0.here hx rfl (hb hby own_d_rej_4) rfl (feq hc4_1).1 kk) ?_
    show Go p e below s _ _ _ (T0.setTop (mkF m 7 #[.val (.int p1)] []))
    refine Go.step (fun t kk => XS.iloadN X0.here hx rfl (hb hby own_d_rej_7) rfl kk) ?_
    show Go p e below s _ _ _ (T0.setTop (mkF m 8 #[.val (.int p1)] [(.int p1)]))
    refine Go.step (fun t kk => XS.sipush X0.here hx rfl (hb hby own_d_rej_8) kk) ?_
    show Go p e below s _ _ _ (T0.setTop (mkF m 11 #[.val (.int p1)] [(.int (422 : Int32)), (.int p1)]))
    by_cases hc11_3 : p1 = (422 : Int32)
    · refine Go.step (fun t kk => XS.icmpNo X0.here hx rfl (hb hby own_d_rej_11) rfl (teq hc11_3).2 kk) ?_
      show Go p e below s _ _ _ (T0.setTop (mkF m 14 #[.val (.int p1)] []))
      obtain ⟨T4, X4, e4, st4⟩ := getS (host := "") X0 hx hZ hown (hw _ (List.mem_of_getElem? (i := 11) rfl)) Via.refl e0 S_av (g := (mkF m 14 #[.val (.int p1)] [])) rfl (hb hby own_d_rej_14)
      refine Go.step st4 ?_
      show Go p e below s _ _ _ (T4.setTop (mkF m 17 #[.val (.int p1)] [(.ref av)]))
      refine Go.step (fun t kk => XS.goto X4.here hx rfl (pc0 := 17) (pc' := 23) rfl (hb hby own_d_rej_17) (by decide) (by decide) kk) ?_
      show Go p e below s _ _ _ (T4.setTop (mkF m 23 #[.val (.int p1)] [(.ref av)]))
      exact Go.retA X4 hx hlk hret rfl rfl (hb hby own_d_rej_23) (show _ ∧ _ ∧ _ from ⟨by simp [own_rej, hc4_1, hc11_3], rfl, e4⟩) (by decide) (by decide)
    · refine Go.step (fun t kk => XS.icmpYes X0.here hx rfl (pc0 := 11) (pc' := 20) rfl (hb hby own_d_rej_11) rfl (feq hc11_3).2 (by decide) (by decide) kk) ?_
      show Go p e below s _ _ _ (T0.setTop (mkF m 20 #[.val (.int p1)] []))
      obtain ⟨T5, X5, e5, st5⟩ := getS (host := "") X0 hx hZ hown (hw _ (List.mem_of_getElem? (i := 6) rfl)) Via.refl e0 S_ac (g := (mkF m 20 #[.val (.int p1)] [])) rfl (hb hby own_d_rej_20)
      refine Go.step st5 ?_
      show Go p e below s _ _ _ (T5.setTop (mkF m 23 #[.val (.int p1)] [(.ref ac)]))
      exact Go.retA X5 hx hlk hret rfl rfl (hb hby own_d_rej_23) (show _ ∧ _ ∧ _ from ⟨by simp [own_rej, hc4_1, hc11_3], rfl, e5⟩) (by decide) (by decide)
theorem own_pn1 : plainName "com/example/watchful_relay/watchfulrelay/model/DeadLetterReasonOfRejectionPinLaw" = true := by first | (simp [plainName, overriddenIn]; done) | decide +kernel
theorem own_pd0 : parseMethodDescriptor "(I)Lcom/example/watchful_relay/watchfulrelay/model/DeadLetterReason;" = some ⟨[.int], (some (.object "com/example/watchful_relay/watchfulrelay/model/DeadLetterReason"))⟩ := by decide +kernel
theorem own_ef_law (m : MethodId) (p1 : Int32) (p2 : Int32) : entryFrame m #[(.int p1), (.int p2)] maxLocals = mkF m 0 #[.val (.int p1), .val (.int p2), .unset, .unset, .unset, .unset] [] := by first | (simp [entryFrame, mkF, argsToLocals, Value.category, maxLocals]; done) | rfl
set_option maxRecDepth 65536 in
set_option maxHeartbeats 40000000 in
theorem rm_law (l : Launch) (Z : State) (a0 : Array Value) (hw : ∀ d ∈ tables_1, d.before a0 Z = true) (p1 : Int32) (p2 : Int32) (av : Addr) (ac : Addr) (ar : Addr) (h0 : Heap) (n0 : Nat) (S_av : Sta Z h0 "com/example/watchful_relay/watchfulrelay/model/DeadLetterReason" "VALIDATION_FAILED" "Lcom/example/watchful_relay/watchfulrelay/model/DeadLetterReason;" (.ref av)) (S_ac : Sta Z h0 "com/example/watchful_relay/watchfulrelay/model/DeadLetterReason" "CONTRACT_MISMATCH" "Lcom/example/watchful_relay/watchfulrelay/model/DeadLetterReason;" (.ref ac)) (S_ar : Sta Z h0 "com/example/watchful_relay/watchfulrelay/model/DeadLetterReason" "RETRY_EXHAUSTED" "Lcom/example/watchful_relay/watchfulrelay/model/DeadLetterReason;" (.ref ar)) (F_av_ordinal : Fld Z h0 av "java/lang/Enum" "ordinal" "I" (.int 0)) (F_ac_ordinal : Fld Z h0 ac "java/lang/Enum" "ordinal" "I" (.int 1)) (F_ar_ordinal : Fld Z h0 ar "java/lang/Enum" "ordinal" "I" (.int 2)) :
    Con l Z x code maxLocals ret room_1 #[(.int p1), (.int p2)] h0 (fun v h L => v = some (.int 1) ∧ Fr n0 L) := by
  refine Con.of own_pn1 ?_
  intro p e s m below meth c T0 X0 hx hby hml hret hlk hown0 hnm hZ e0
  have hown : s.vm.findClass "com/example/watchful_relay/watchfulrelay/model/DeadLetterReasonOfRejectionPinLaw" = some m.cls := hown0
  have N0 := Fr.nil n0
  refine Go.step (fun t kk => castTop (own_ef_law m p1 p2) kk) ?_
  have n1 : ¬ av = ar := Fld.ne F_av_ordinal F_ar_ordinal (fun q => absurd (Value.int.inj q) (by decide))
  have n2 : ¬ ac = ar := Fld.ne F_ac_ordinal F_ar_ordinal (fun q => absurd (Value.int.inj q) (by decide))
  show Go p e below s _ _ _ (T0.setTop (mkF m 0 #[.val (.int p1), .val (.int p2), .unset, .unset, .unset, .unset] []))
  refine Go.step (fun t kk => XS.iloadN X0.here hx rfl (hb hby at_0) rfl kk) ?_
  show Go p e below s _ _ _ (T0.setTop (mkF m 1 #[.val (.int p1), .val (.int p2), .unset, .unset, .unset, .unset] [(.int p2)]))
  refine Go.step (fun t kk => XS.bipush X0.here hx rfl (hb hby at_1) kk) ?_
  show Go p e below s _ _ _ (T0.setTop (mkF m 3 #[.val (.int p1), .val (.int p2), .unset, .unset, .unset, .unset] [(.int (7 : Int32)), (.int p2)]))
  refine Go.step (fun t kk => XS.iand X0.here hx rfl (hb hby at_3) rfl kk) ?_
  show Go p e below s _ _ _ (T0.setTop (mkF m 4 #[.val (.int p1), .val (.int p2), .unset, .unset, .unset, .unset] [(.int (p2 &&& (7 : Int32)))]))
  refine Go.step (fun t kk => XS.istoreN X0.here hx rfl (hb hby at_4) rfl (l' := #[.val (.int p1), .val (.int p2), .val (.int (p2 &&& (7 : Int32))), .unset, .unset, .unset]) rfl kk) ?_
  show Go p e below s _ _ _ (T0.setTop (mkF m 5 #[.val (.int p1), .val (.int p2), .val (.int (p2 &&& (7 : Int32))), .unset, .unset, .unset] []))
  refine Go.step (fun t kk => XS.iloadN X0.here hx rfl (hb hby at_5) rfl kk) ?_
  show Go p e below s _ _ _ (T0.setTop (mkF m 6 #[.val (.int p1), .val (.int p2), .val (.int (p2 &&& (7 : Int32))), .unset, .unset, .unset] [(.int (p2 &&& (7 : Int32)))]))
  by_cases hc6_1 : (p2 &&& (7 : Int32)) = (0 : Int32)
  · refine Go.step (fun t kk => XS.ifNo X0.here hx rfl (hb hby at_6) rfl ((if0 _ _).trans (teq hc6_1).2) kk) ?_
    show Go p e below s _ _ _ (T0.setTop (mkF m 9 #[.val (.int p1), .val (.int p2), .val (.int (p2 &&& (7 : Int32))), .unset, .unset, .unset] []))
    refine Go.step (fun t kk => XS.sipush X0.here hx rfl (hb hby at_9) kk) ?_
    show Go p e below s _ _ _ (T0.setTop (mkF m 12 #[.val (.int p1), .val (.int p2), .val (.int (p2 &&& (7 : Int32))), .unset, .unset, .unset] [(.int (400 : Int32))]))
    refine Go.step (fun t kk => XS.istoreN X0.here hx rfl (hb hby at_12) rfl (l' := #[.val (.int p1), .val (.int p2), .val (.int (p2 &&& (7 : Int32))), .val (.int (400 : Int32)), .unset, .unset]) rfl kk) ?_
    show Go p e below s _ _ _ (T0.setTop (mkF m 13 #[.val (.int p1), .val (.int p2), .val (.int (p2 &&& (7 : Int32))), .val (.int (400 : Int32)), .unset, .unset] []))
    obtain ⟨T2, X2, e2, st2⟩ := getS (host := "") X0 hx hZ hown (hw _ (List.mem_of_getElem? (i := 9) rfl)) Via.refl e0 S_av (g := (mkF m 13 #[.val (.int p1), .val (.int p2), .val (.int (p2 &&& (7 : Int32))), .val (.int (400 : Int32)), .unset, .unset] [])) rfl (hb hby at_13)
    refine Go.step st2 ?_
    show Go p e below s _ _ _ (T2.setTop (mkF m 16 #[.val (.int p1), .val (.int p2), .val (.int (p2 &&& (7 : Int32))), .val (.int (400 : Int32)), .unset, .unset] [(.ref av)]))
    refine Go.step (fun t kk => XS.astore X2.here hx rfl (hb hby at_16) rfl rfl (l' := #[.val (.int p1), .val (.int p2), .val (.int (p2 &&& (7 : Int32))), .val (.int (400 : Int32)), .val (.ref av), .unset]) rfl kk) ?_
    show Go p e below s _ _ _ (T2.setTop (mkF m 18 #[.val (.int p1), .val (.int p2), .val (.int (p2 &&& (7 : Int32))), .val (.int (400 : Int32)), .val (.ref av), .unset] []))
    refine Go.step (fun t kk => XS.goto X2.here hx rfl (pc0 := 18) (pc' := 161) rfl (hb hby at_18) (by decide) (by decide) kk) ?_
    show Go p e below s _ _ _ (T2.setTop (mkF m 161 #[.val (.int p1), .val (.int p2), .val (.int (p2 &&& (7 : Int32))), .val (.int (400 : Int32)), .val (.ref av), .unset] []))
    refine Go.step (fun t kk => XS.iloadN X2.here hx rfl (hb hby at_161) rfl kk) ?_
    show Go p e below s _ _ _ (T2.setTop (mkF m 162 #[.val (.int p1), .val (.int p2), .val (.int (p2 &&& (7 : Int32))), .val (.int (400 : Int32)), .val (.ref av), .unset] [(.int (400 : Int32))]))
    refine Go.callS X2 hx hZ hown (hw _ (List.mem_of_getElem? (i := 3) rfl)) (hw _ (List.mem_of_getElem? (i := 4) rfl)) (hw _ (List.mem_of_getElem? (i := 1) rfl)) (hw _ (List.mem_of_getElem? (i := 5) rfl)) (by decide) e2 [(.int (400 : Int32))] [] 0 (rm_rej l Z a0 hw (400 : Int32) av ac h0 n0 S_av S_ac) (by decide) (by decide) (by decide) (by decide) (by rw [hml]; rfl) (lenOf own_pd0 rfl) rfl (Nat.le_of_eq rfl) (hb hby at_162) ?_
    intro T3 v3 L3 X3 hQ3
    obtain ⟨rfl, rfl, e3⟩ := hQ3
    have N3 := Fr.app N0 (Fr.nil n0)
    show Go p e below s _ _ _ (T3.setTop (mkF m 165 #[.val (.int p1), .val (.int p2), .val (.int (p2 &&& (7 : Int32))), .val (.int (400 : Int32)), .val (.ref av), .unset] [(.ref (own_rej (400 : Int32) av ac))]))
    refine Go.step (fun t kk => XS.astore X3.here hx rfl (hb hby at_165) rfl rfl (l' := #[.val (.int p1), .val (.int p2), .val (.int (p2 &&& (7 : Int32))), .val (.int (400 : Int32)), .val (.ref av), .val (.ref (own_rej (400 : Int32) av ac))]) rfl kk) ?_
    show Go p e below s _ _ _ (T3.setTop (mkF m 167 #[.val (.int p1), .val (.int p2), .val (.int (p2 &&& (7 : Int32))), .val (.int (400 : Int32)), .val (.ref av), .val (.ref (own_rej (400 : Int32) av ac))] []))
    refine Go.step (fun t kk => XS.aload X3.here hx rfl (hb hby at_167) rfl rfl kk) ?_
    show Go p e below s _ _ _ (T3.setTop (mkF m 169 #[.val (.int p1), .val (.int p2), .val (.int (p2 &&& (7 : Int32))), .val (.int (400 : Int32)), .val (.ref av), .val (.ref (own_rej (400 : Int32) av ac))] [(.ref (own_rej (400 : Int32) av ac))]))
    refine Go.step (fun t kk => XS.aload X3.here hx rfl (hb hby at_169) rfl rfl kk) ?_
    show Go p e below s _ _ _ (T3.setTop (mkF m 171 #[.val (.int p1), .val (.int p2), .val (.int (p2 &&& (7 : Int32))), .val (.int (400 : Int32)), .val (.ref av), .val (.ref (own_rej (400 : Int32) av ac))] [(.ref av), (.ref (own_rej (400 : Int32) av ac))]))
    have hc171_4 : (own_rej (400 : Int32) av ac) = av := by first | rfl | (simp [own_rej]; done)
    refine Go.step (fun t kk => acmp X3 hx rfl (cd := .ne) (x := (.ref (own_rej (400 : Int32) av ac))) (y := (.ref av)) rfl rfl (pc0 := 171) (pc' := 174) (same := true) rfl (hb hby at_171) rfl (own_decT (congrArg Value.ref hc171_4)) (by decide) (by decide) kk) ?_
    show Go p e below s _ _ _ (T3.setTop (mkF m 174 #[.val (.int p1), .val (.int p2), .val (.int (p2 &&& (7 : Int32))), .val (.int (400 : Int32)), .val (.ref av), .val (.ref (own_rej (400 : Int32) av ac))] []))
    refine Go.step (fun t kk => XS.aload X3.here hx rfl (hb hby at_174) rfl rfl kk) ?_
    show Go p e below s _ _ _ (T3.setTop (mkF m 176 #[.val (.int p1), .val (.int p2), .val (.int (p2 &&& (7 : Int32))), .val (.int (400 : Int32)), .val (.ref av), .val (.ref (own_rej (400 : Int32) av ac))] [(.ref (own_rej (400 : Int32) av ac))]))
    obtain ⟨T5, X5, e5, st5⟩ := getS (host := "") X3 hx hZ hown (hw _ (List.mem_of_getElem? (i := 7) rfl)) Via.refl e3 S_ar (g := (mkF m 176 #[.val (.int p1), .val (.int p2), .val (.int (p2 &&& (7 : Int32))), .val (.int (400 : Int32)), .val (.ref av), .val (.ref (own_rej (400 : Int32) av ac))] [(.ref (own_rej (400 : Int32) av ac))])) rfl (hb hby at_176)
    refine Go.step st5 ?_
    show Go p e below s _ _ _ (T5.setTop (mkF m 179 #[.val (.int p1), .val (.int p2), .val (.int (p2 &&& (7 : Int32))), .val (.int (400 : Int32)), .val (.ref av), .val (.ref (own_rej (400 : Int32) av ac))] [(.ref ar), (.ref (own_rej (400 : Int32) av ac))]))
    have hc179_6 : ¬ ((own_rej (400 : Int32) av ac) = ar) := own_rej_ne n1 n2
    refine Go.step (fun t kk => acmp X5 hx rfl (cd := .eq) (x := (.ref (own_rej (400 : Int32) av ac))) (y := (.ref ar)) rfl rfl (pc0 := 179) (pc' := 182) (same := false) rfl (hb hby at_179) rfl (own_decF (fun q => hc179_6 (Value.ref.inj q))) (by decide) (by decide) kk) ?_
    show Go p e below s _ _ _ (T5.setTop (mkF m 182 #[.val (.int p1), .val (.int p2), .val (.int (p2 &&& (7 : Int32))), .val (.int (400 : Int32)), .val (.ref av), .val (.ref (own_rej (400 : Int32) av ac))] []))
    refine Go.step (fun t kk => XS.iconst X5.here hx rfl (hb hby at_182) kk) ?_
    show Go p e below s _ _ _ (T5.setTop (mkF m 183 #[.val (.int p1), .val (.int p2), .val (.int (p2 &&& (7 : Int32))), .val (.int (400 : Int32)), .val (.ref av), .val (.ref (own_rej (400 : Int32) av ac))] [(.int (1 : Int32))]))
    refine Go.step (fun t kk => XS.goto X5.here hx rfl (pc0 := 183) (pc' := 187) rfl (hb hby at_183) (by decide) (by decide) kk) ?_
    show Go p e below s _ _ _ (T5.setTop (mkF m 187 #[.val (.int p1), .val (.int p2), .val (.int (p2 &&& (7 : Int32))), .val (.int (400 : Int32)), .val (.ref av), .val (.ref (own_rej (400 : Int32) av ac))] [(.int (1 : Int32))]))
    exact Go.retN X5 hx hlk (t := .boolean) hret (by simp) (hb hby at_187) (show _ ∧ _ from ⟨rfl, N3⟩) (by decide) (by decide)
  · refine Go.step (fun t kk => XS.ifYes X0.here hx rfl (pc0 := 6) (pc' := 21) rfl (hb hby at_6) rfl ((if0 _ _).trans (feq hc6_1).2) (by decide) (by decide) kk) ?_
    show Go p e below s _ _ _ (T0.setTop (mkF m 21 #[.val (.int p1), .val (.int p2), .val (.int (p2 &&& (7 : Int32))), .unset, .unset, .unset] []))
    refine Go.step (fun t kk => XS.iloadN X0.here hx rfl (hb hby at_21) rfl kk) ?_
    show Go p e below s _ _ _ (T0.setTop (mkF m 22 #[.val (.int p1), .val (.int p2), .val (.int (p2 &&& (7 : Int32))), .unset, .unset, .unset] [(.int (p2 &&& (7 : Int32)))]))
    refine Go.step (fun t kk => XS.iconst X0.here hx rfl (hb hby at_22) kk) ?_
    show Go p e below s _ _ _ (T0.setTop (mkF m 23 #[.val (.int p1), .val (.int p2), .val (.int (p2 &&& (7 : Int32))), .unset, .unset, .unset] [(.int (1 : Int32)), (.int (p2 &&& (7 : Int32)))]))
    by_cases hc23_7 : (p2 &&& (7 : Int32)) = (1 : Int32)
    · refine Go.step (fun t kk => XS.icmpNo X0.here hx rfl (hb hby at_23) rfl (teq hc23_7).2 kk) ?_
      show Go p e below s _ _ _ (T0.setTop (mkF m 26 #[.val (.int p1), .val (.int p2), .val (.int (p2 &&& (7 : Int32))), .unset, .unset, .unset] []))
      refine Go.step (fun t kk => XS.sipush X0.here hx rfl (hb hby at_26) kk) ?_
      show Go p e below s _ _ _ (T0.setTop (mkF m 29 #[.val (.int p1), .val (.int p2), .val (.int (p2 &&& (7 : Int32))), .unset, .unset, .unset] [(.int (422 : Int32))]))
      refine Go.step (fun t kk => XS.istoreN X0.here hx rfl (hb hby at_29) rfl (l' := #[.val (.int p1), .val (.int p2), .val (.int (p2 &&& (7 : Int32))), .val (.int (422 : Int32)), .unset, .unset]) rfl kk) ?_
      show Go p e below s _ _ _ (T0.setTop (mkF m 30 #[.val (.int p1), .val (.int p2), .val (.int (p2 &&& (7 : Int32))), .val (.int (422 : Int32)), .unset, .unset] []))
      obtain ⟨T8, X8, e8, st8⟩ := getS (host := "") X0 hx hZ hown (hw _ (List.mem_of_getElem? (i := 9) rfl)) Via.refl e0 S_av (g := (mkF m 30 #[.val (.int p1), .val (.int p2), .val (.int (p2 &&& (7 : Int32))), .val (.int (422 : Int32)), .unset, .unset] [])) rfl (hb hby at_30)
      refine Go.step st8 ?_
      show Go p e below s _ _ _ (T8.setTop (mkF m 33 #[.val (.int p1), .val (.int p2), .val (.int (p2 &&& (7 : Int32))), .val (.int (422 : Int32)), .unset, .unset] [(.ref av)]))
      refine Go.step (fun t kk => XS.astore X8.here hx rfl (hb hby at_33) rfl rfl (l' := #[.val (.int p1), .val (.int p2), .val (.int (p2 &&& (7 : Int32))), .val (.int (422 : Int32)), .val (.ref av), .unset]) rfl kk) ?_
      show Go p e below s _ _ _ (T8.setTop (mkF m 35 #[.val (.int p1), .val (.int p2), .val (.int (p2 &&& (7 : Int32))), .val (.int (422 : Int32)), .val (.ref av), .unset] []))
      refine Go.step (fun t kk => XS.goto X8.here hx rfl (pc0 := 35) (pc' := 161) rfl (hb hby at_35) (by decide) (by decide) kk) ?_
      show Go p e below s _ _ _ (T8.setTop (mkF m 161 #[.val (.int p1), .val (.int p2), .val (.int (p2 &&& (7 : Int32))), .val (.int (422 : Int32)), .val (.ref av), .unset] []))
      refine Go.step (fun t kk => XS.iloadN X8.here hx rfl (hb hby at_161) rfl kk) ?_
      show Go p e below s _ _ _ (T8.setTop (mkF m 162 #[.val (.int p1), .val (.int p2), .val (.int (p2 &&& (7 : Int32))), .val (.int (422 : Int32)), .val (.ref av), .unset] [(.int (422 : Int32))]))
      refine Go.callS X8 hx hZ hown (hw _ (List.mem_of_getElem? (i := 3) rfl)) (hw _ (List.mem_of_getElem? (i := 4) rfl)) (hw _ (List.mem_of_getElem? (i := 1) rfl)) (hw _ (List.mem_of_getElem? (i := 5) rfl)) (by decide) e8 [(.int (422 : Int32))] [] 0 (rm_rej l Z a0 hw (422 : Int32) av ac h0 n0 S_av S_ac) (by decide) (by decide) (by decide) (by decide) (by rw [hml]; rfl) (lenOf own_pd0 rfl) rfl (Nat.le_of_eq rfl) (hb hby at_162) ?_
      intro T9 v9 L9 X9 hQ9
      obtain ⟨rfl, rfl, e9⟩ := hQ9
      have N9 := Fr.app N0 (Fr.nil n0)
      show Go p e below s _ _ _ (T9.setTop (mkF m 165 #[.val (.int p1), .val (.int p2), .val (.int (p2 &&& (7 : Int32))), .val (.int (422 : Int32)), .val (.ref av), .unset] [(.ref (own_rej (422 : Int32) av ac))]))
      refine Go.step (fun t kk => XS.astore X9.here hx rfl (hb hby at_165) rfl rfl (l' := #[.val (.int p1), .val (.int p2), .val (.int (p2 &&& (7 : Int32))), .val (.int (422 : Int32)), .val (.ref av), .val (.ref (own_rej (422 : Int32) av ac))]) rfl kk) ?_
      show Go p e below s _ _ _ (T9.setTop (mkF m 167 #[.val (.int p1), .val (.int p2), .val (.int (p2 &&& (7 : Int32))), .val (.int (422 : Int32)), .val (.ref av), .val (.ref (own_rej (422 : Int32) av ac))] []))
      refine Go.step (fun t kk => XS.aload X9.here hx rfl (hb hby at_167) rfl rfl kk) ?_
      show Go p e below s _ _ _ (T9.setTop (mkF m 169 #[.val (.int p1), .val (.int p2), .val (.int (p2 &&& (7 : Int32))), .val (.int (422 : Int32)), .val (.ref av), .val (.ref (own_rej (422 : Int32) av ac))] [(.ref (own_rej (422 : Int32) av ac))]))
      refine Go.step (fun t kk => XS.aload X9.here hx rfl (hb hby at_169) rfl rfl kk) ?_
      show Go p e below s _ _ _ (T9.setTop (mkF m 171 #[.val (.int p1), .val (.int p2), .val (.int (p2 &&& (7 : Int32))), .val (.int (422 : Int32)), .val (.ref av), .val (.ref (own_rej (422 : Int32) av ac))] [(.ref av), (.ref (own_rej (422 : Int32) av ac))]))
      have hc171_10 : (own_rej (422 : Int32) av ac) = av := by first | rfl | (simp [own_rej]; done)
      refine Go.step (fun t kk => acmp X9 hx rfl (cd := .ne) (x := (.ref (own_rej (422 : Int32) av ac))) (y := (.ref av)) rfl rfl (pc0 := 171) (pc' := 174) (same := true) rfl (hb hby at_171) rfl (own_decT (congrArg Value.ref hc171_10)) (by decide) (by decide) kk) ?_
      show Go p e below s _ _ _ (T9.setTop (mkF m 174 #[.val (.int p1), .val (.int p2), .val (.int (p2 &&& (7 : Int32))), .val (.int (422 : Int32)), .val (.ref av), .val (.ref (own_rej (422 : Int32) av ac))] []))
      refine Go.step (fun t kk => XS.aload X9.here hx rfl (hb hby at_174) rfl rfl kk) ?_
      show Go p e below s _ _ _ (T9.setTop (mkF m 176 #[.val (.int p1), .val (.int p2), .val (.int (p2 &&& (7 : Int32))), .val (.int (422 : Int32)), .val (.ref av), .val (.ref (own_rej (422 : Int32) av ac))] [(.ref (own_rej (422 : Int32) av ac))]))
      obtain ⟨T11, X11, e11, st11⟩ := getS (host := "") X9 hx hZ hown (hw _ (List.mem_of_getElem? (i := 7) rfl)) Via.refl e9 S_ar (g := (mkF m 176 #[.val (.int p1), .val (.int p2), .val (.int (p2 &&& (7 : Int32))), .val (.int (422 : Int32)), .val (.ref av), .val (.ref (own_rej (422 : Int32) av ac))] [(.ref (own_rej (422 : Int32) av ac))])) rfl (hb hby at_176)
      refine Go.step st11 ?_
      show Go p e below s _ _ _ (T11.setTop (mkF m 179 #[.val (.int p1), .val (.int p2), .val (.int (p2 &&& (7 : Int32))), .val (.int (422 : Int32)), .val (.ref av), .val (.ref (own_rej (422 : Int32) av ac))] [(.ref ar), (.ref (own_rej (422 : Int32) av ac))]))
      have hc179_12 : ¬ ((own_rej (422 : Int32) av ac) = ar) := own_rej_ne n1 n2
      refine Go.step (fun t kk => acmp X11 hx rfl (cd := .eq) (x := (.ref (own_rej (422 : Int32) av ac))) (y := (.ref ar)) rfl rfl (pc0 := 179) (pc' := 182) (same := false) rfl (hb hby at_179) rfl (own_decF (fun q => hc179_12 (Value.ref.inj q))) (by decide) (by decide) kk) ?_
      show Go p e below s _ _ _ (T11.setTop (mkF m 182 #[.val (.int p1), .val (.int p2), .val (.int (p2 &&& (7 : Int32))), .val (.int (422 : Int32)), .val (.ref av), .val (.ref (own_rej (422 : Int32) av ac))] []))
      refine Go.step (fun t kk => XS.iconst X11.here hx rfl (hb hby at_182) kk) ?_
      show Go p e below s _ _ _ (T11.setTop (mkF m 183 #[.val (.int p1), .val (.int p2), .val (.int (p2 &&& (7 : Int32))), .val (.int (422 : Int32)), .val (.ref av), .val (.ref (own_rej (422 : Int32) av ac))] [(.int (1 : Int32))]))
      refine Go.step (fun t kk => XS.goto X11.here hx rfl (pc0 := 183) (pc' := 187) rfl (hb hby at_183) (by decide) (by decide) kk) ?_
      show Go p e below s _ _ _ (T11.setTop (mkF m 187 #[.val (.int p1), .val (.int p2), .val (.int (p2 &&& (7 : Int32))), .val (.int (422 : Int32)), .val (.ref av), .val (.ref (own_rej (422 : Int32) av ac))] [(.int (1 : Int32))]))
      exact Go.retN X11 hx hlk (t := .boolean) hret (by simp) (hb hby at_187) (show _ ∧ _ from ⟨rfl, N9⟩) (by decide) (by decide)
    · refine Go.step (fun t kk => XS.icmpYes X0.here hx rfl (pc0 := 23) (pc' := 38) rfl (hb hby at_23) rfl (feq hc23_7).2 (by decide) (by decide) kk) ?_
      show Go p e below s _ _ _ (T0.setTop (mkF m 38 #[.val (.int p1), .val (.int p2), .val (.int (p2 &&& (7 : Int32))), .unset, .unset, .unset] []))
      refine Go.step (fun t kk => XS.iloadN X0.here hx rfl (hb hby at_38) rfl kk) ?_
      show Go p e below s _ _ _ (T0.setTop (mkF m 39 #[.val (.int p1), .val (.int p2), .val (.int (p2 &&& (7 : Int32))), .unset, .unset, .unset] [(.int (p2 &&& (7 : Int32)))]))
      refine Go.step (fun t kk => XS.iconst X0.here hx rfl (hb hby at_39) kk) ?_
      show Go p e below s _ _ _ (T0.setTop (mkF m 40 #[.val (.int p1), .val (.int p2), .val (.int (p2 &&& (7 : Int32))), .unset, .unset, .unset] [(.int (2 : Int32)), (.int (p2 &&& (7 : Int32)))]))
      by_cases hc40_13 : (p2 &&& (7 : Int32)) = (2 : Int32)
      · refine Go.step (fun t kk => XS.icmpNo X0.here hx rfl (hb hby at_40) rfl (teq hc40_13).2 kk) ?_
        show Go p e below s _ _ _ (T0.setTop (mkF m 43 #[.val (.int p1), .val (.int p2), .val (.int (p2 &&& (7 : Int32))), .unset, .unset, .unset] []))
        refine Go.step (fun t kk => XS.sipush X0.here hx rfl (hb hby at_43) kk) ?_
        show Go p e below s _ _ _ (T0.setTop (mkF m 46 #[.val (.int p1), .val (.int p2), .val (.int (p2 &&& (7 : Int32))), .unset, .unset, .unset] [(.int (399 : Int32))]))
        refine Go.step (fun t kk => XS.istoreN X0.here hx rfl (hb hby at_46) rfl (l' := #[.val (.int p1), .val (.int p2), .val (.int (p2 &&& (7 : Int32))), .val (.int (399 : Int32)), .unset, .unset]) rfl kk) ?_
        show Go p e below s _ _ _ (T0.setTop (mkF m 47 #[.val (.int p1), .val (.int p2), .val (.int (p2 &&& (7 : Int32))), .val (.int (399 : Int32)), .unset, .unset] []))
        obtain ⟨T14, X14, e14, st14⟩ := getS (host := "") X0 hx hZ hown (hw _ (List.mem_of_getElem? (i := 0) rfl)) Via.refl e0 S_ac (g := (mkF m 47 #[.val (.int p1), .val (.int p2), .val (.int (p2 &&& (7 : Int32))), .val (.int (399 : Int32)), .unset, .unset] [])) rfl (hb hby at_47)
        refine Go.step st14 ?_
        show Go p e below s _ _ _ (T14.setTop (mkF m 50 #[.val (.int p1), .val (.int p2), .val (.int (p2 &&& (7 : Int32))), .val (.int (399 : Int32)), .unset, .unset] [(.ref ac)]))
        refine Go.step (fun t kk => XS.astore X14.here hx rfl (hb hby at_50) rfl rfl (l' := #[.val (.int p1), .val (.int p2), .val (.int (p2 &&& (7 : Int32))), .val (.int (399 : Int32)), .val (.ref ac), .unset]) rfl kk) ?_
        show Go p e below s _ _ _ (T14.setTop (mkF m 52 #[.val (.int p1), .val (.int p2), .val (.int (p2 &&& (7 : Int32))), .val (.int (399 : Int32)), .val (.ref ac), .unset] []))
        refine Go.step (fun t kk => XS.goto X14.here hx rfl (pc0 := 52) (pc' := 161) rfl (hb hby at_52) (by decide) (by decide) kk) ?_
        show Go p e below s _ _ _ (T14.setTop (mkF m 161 #[.val (.int p1), .val (.int p2), .val (.int (p2 &&& (7 : Int32))), .val (.int (399 : Int32)), .val (.ref ac), .unset] []))
        refine Go.step (fun t kk => XS.iloadN X14.here hx rfl (hb hby at_161) rfl kk) ?_
        show Go p e below s _ _ _ (T14.setTop (mkF m 162 #[.val (.int p1), .val (.int p2), .val (.int (p2 &&& (7 : Int32))), .val (.int (399 : Int32)), .val (.ref ac), .unset] [(.int (399 : Int32))]))
        refine Go.callS X14 hx hZ hown (hw _ (List.mem_of_getElem? (i := 3) rfl)) (hw _ (List.mem_of_getElem? (i := 4) rfl)) (hw _ (List.mem_of_getElem? (i := 1) rfl)) (hw _ (List.mem_of_getElem? (i := 5) rfl)) (by decide) e14 [(.int (399 : Int32))] [] 0 (rm_rej l Z a0 hw (399 : Int32) av ac h0 n0 S_av S_ac) (by decide) (by decide) (by decide) (by decide) (by rw [hml]; rfl) (lenOf own_pd0 rfl) rfl (Nat.le_of_eq rfl) (hb hby at_162) ?_
        intro T15 v15 L15 X15 hQ15
        obtain ⟨rfl, rfl, e15⟩ := hQ15
        have N15 := Fr.app N0 (Fr.nil n0)
        show Go p e below s _ _ _ (T15.setTop (mkF m 165 #[.val (.int p1), .val (.int p2), .val (.int (p2 &&& (7 : Int32))), .val (.int (399 : Int32)), .val (.ref ac), .unset] [(.ref (own_rej (399 : Int32) av ac))]))
        refine Go.step (fun t kk => XS.astore X15.here hx rfl (hb hby at_165) rfl rfl (l' := #[.val (.int p1), .val (.int p2), .val (.int (p2 &&& (7 : Int32))), .val (.int (399 : Int32)), .val (.ref ac), .val (.ref (own_rej (399 : Int32) av ac))]) rfl kk) ?_
        show Go p e below s _ _ _ (T15.setTop (mkF m 167 #[.val (.int p1), .val (.int p2), .val (.int (p2 &&& (7 : Int32))), .val (.int (399 : Int32)), .val (.ref ac), .val (.ref (own_rej (399 : Int32) av ac))] []))
        refine Go.step (fun t kk => XS.aload X15.here hx rfl (hb hby at_167) rfl rfl kk) ?_
        show Go p e below s _ _ _ (T15.setTop (mkF m 169 #[.val (.int p1), .val (.int p2), .val (.int (p2 &&& (7 : Int32))), .val (.int (399 : Int32)), .val (.ref ac), .val (.ref (own_rej (399 : Int32) av ac))] [(.ref (own_rej (399 : Int32) av ac))]))
        refine Go.step (fun t kk => XS.aload X15.here hx rfl (hb hby at_169) rfl rfl kk) ?_
        show Go p e below s _ _ _ (T15.setTop (mkF m 171 #[.val (.int p1), .val (.int p2), .val (.int (p2 &&& (7 : Int32))), .val (.int (399 : Int32)), .val (.ref ac), .val (.ref (own_rej (399 : Int32) av ac))] [(.ref ac), (.ref (own_rej (399 : Int32) av ac))]))
        have hc171_16 : (own_rej (399 : Int32) av ac) = ac := by first | rfl | (simp [own_rej]; done)
        refine Go.step (fun t kk => acmp X15 hx rfl (cd := .ne) (x := (.ref (own_rej (399 : Int32) av ac))) (y := (.ref ac)) rfl rfl (pc0 := 171) (pc' := 174) (same := true) rfl (hb hby at_171) rfl (own_decT (congrArg Value.ref hc171_16)) (by decide) (by decide) kk) ?_
        show Go p e below s _ _ _ (T15.setTop (mkF m 174 #[.val (.int p1), .val (.int p2), .val (.int (p2 &&& (7 : Int32))), .val (.int (399 : Int32)), .val (.ref ac), .val (.ref (own_rej (399 : Int32) av ac))] []))
        refine Go.step (fun t kk => XS.aload X15.here hx rfl (hb hby at_174) rfl rfl kk) ?_
        show Go p e below s _ _ _ (T15.setTop (mkF m 176 #[.val (.int p1), .val (.int p2), .val (.int (p2 &&& (7 : Int32))), .val (.int (399 : Int32)), .val (.ref ac), .val (.ref (own_rej (399 : Int32) av ac))] [(.ref (own_rej (399 : Int32) av ac))]))
        obtain ⟨T17, X17, e17, st17⟩ := getS (host := "") X15 hx hZ hown (hw _ (List.mem_of_getElem? (i := 7) rfl)) Via.refl e15 S_ar (g := (mkF m 176 #[.val (.int p1), .val (.int p2), .val (.int (p2 &&& (7 : Int32))), .val (.int (399 : Int32)), .val (.ref ac), .val (.ref (own_rej (399 : Int32) av ac))] [(.ref (own_rej (399 : Int32) av ac))])) rfl (hb hby at_176)
        refine Go.step st17 ?_
        show Go p e below s _ _ _ (T17.setTop (mkF m 179 #[.val (.int p1), .val (.int p2), .val (.int (p2 &&& (7 : Int32))), .val (.int (399 : Int32)), .val (.ref ac), .val (.ref (own_rej (399 : Int32) av ac))] [(.ref ar), (.ref (own_rej (399 : Int32) av ac))]))
        have hc179_18 : ¬ ((own_rej (399 : Int32) av ac) = ar) := own_rej_ne n1 n2
        refine Go.step (fun t kk => acmp X17 hx rfl (cd := .eq) (x := (.ref (own_rej (399 : Int32) av ac))) (y := (.ref ar)) rfl rfl (pc0 := 179) (pc' := 182) (same := false) rfl (hb hby at_179) rfl (own_decF (fun q => hc179_18 (Value.ref.inj q))) (by decide) (by decide) kk) ?_
        show Go p e below s _ _ _ (T17.setTop (mkF m 182 #[.val (.int p1), .val (.int p2), .val (.int (p2 &&& (7 : Int32))), .val (.int (399 : Int32)), .val (.ref ac), .val (.ref (own_rej (399 : Int32) av ac))] []))
        refine Go.step (fun t kk => XS.iconst X17.here hx rfl (hb hby at_182) kk) ?_
        show Go p e below s _ _ _ (T17.setTop (mkF m 183 #[.val (.int p1), .val (.int p2), .val (.int (p2 &&& (7 : Int32))), .val (.int (399 : Int32)), .val (.ref ac), .val (.ref (own_rej (399 : Int32) av ac))] [(.int (1 : Int32))]))
        refine Go.step (fun t kk => XS.goto X17.here hx rfl (pc0 := 183) (pc' := 187) rfl (hb hby at_183) (by decide) (by decide) kk) ?_
        show Go p e below s _ _ _ (T17.setTop (mkF m 187 #[.val (.int p1), .val (.int p2), .val (.int (p2 &&& (7 : Int32))), .val (.int (399 : Int32)), .val (.ref ac), .val (.ref (own_rej (399 : Int32) av ac))] [(.int (1 : Int32))]))
        exact Go.retN X17 hx hlk (t := .boolean) hret (by simp) (hb hby at_187) (show _ ∧ _ from ⟨rfl, N15⟩) (by decide) (by decide)
      · refine Go.step (fun t kk => XS.icmpYes X0.here hx rfl (pc0 := 40) (pc' := 55) rfl (hb hby at_40) rfl (feq hc40_13).2 (by decide) (by decide) kk) ?_
        show Go p e below s _ _ _ (T0.setTop (mkF m 55 #[.val (.int p1), .val (.int p2), .val (.int (p2 &&& (7 : Int32))), .unset, .unset, .unset] []))
        refine Go.step (fun t kk => XS.iloadN X0.here hx rfl (hb hby at_55) rfl kk) ?_
        show Go p e below s _ _ _ (T0.setTop (mkF m 56 #[.val (.int p1), .val (.int p2), .val (.int (p2 &&& (7 : Int32))), .unset, .unset, .unset] [(.int (p2 &&& (7 : Int32)))]))
        refine Go.step (fun t kk => XS.iconst X0.here hx rfl (hb hby at_56) kk) ?_
        show Go p e below s _ _ _ (T0.setTop (mkF m 57 #[.val (.int p1), .val (.int p2), .val (.int (p2 &&& (7 : Int32))), .unset, .unset, .unset] [(.int (3 : Int32)), (.int (p2 &&& (7 : Int32)))]))
        by_cases hc57_19 : (p2 &&& (7 : Int32)) = (3 : Int32)
        · refine Go.step (fun t kk => XS.icmpNo X0.here hx rfl (hb hby at_57) rfl (teq hc57_19).2 kk) ?_
          show Go p e below s _ _ _ (T0.setTop (mkF m 60 #[.val (.int p1), .val (.int p2), .val (.int (p2 &&& (7 : Int32))), .unset, .unset, .unset] []))
          refine Go.step (fun t kk => XS.sipush X0.here hx rfl (hb hby at_60) kk) ?_
          show Go p e below s _ _ _ (T0.setTop (mkF m 63 #[.val (.int p1), .val (.int p2), .val (.int (p2 &&& (7 : Int32))), .unset, .unset, .unset] [(.int (401 : Int32))]))
          refine Go.step (fun t kk => XS.istoreN X0.here hx rfl (hb hby at_63) rfl (l' := #[.val (.int p1), .val (.int p2), .val (.int (p2 &&& (7 : Int32))), .val (.int (401 : Int32)), .unset, .unset]) rfl kk) ?_
          show Go p e below s _ _ _ (T0.setTop (mkF m 64 #[.val (.int p1), .val (.int p2), .val (.int (p2 &&& (7 : Int32))), .val (.int (401 : Int32)), .unset, .unset] []))
          obtain ⟨T20, X20, e20, st20⟩ := getS (host := "") X0 hx hZ hown (hw _ (List.mem_of_getElem? (i := 0) rfl)) Via.refl e0 S_ac (g := (mkF m 64 #[.val (.int p1), .val (.int p2), .val (.int (p2 &&& (7 : Int32))), .val (.int (401 : Int32)), .unset, .unset] [])) rfl (hb hby at_64)
          refine Go.step st20 ?_
          show Go p e below s _ _ _ (T20.setTop (mkF m 67 #[.val (.int p1), .val (.int p2), .val (.int (p2 &&& (7 : Int32))), .val (.int (401 : Int32)), .unset, .unset] [(.ref ac)]))
          refine Go.step (fun t kk => XS.astore X20.here hx rfl (hb hby at_67) rfl rfl (l' := #[.val (.int p1), .val (.int p2), .val (.int (p2 &&& (7 : Int32))), .val (.int (401 : Int32)), .val (.ref ac), .unset]) rfl kk) ?_
          show Go p e below s _ _ _ (T20.setTop (mkF m 69 #[.val (.int p1), .val (.int p2), .val (.int (p2 &&& (7 : Int32))), .val (.int (401 : Int32)), .val (.ref ac), .unset] []))
          refine Go.step (fun t kk => XS.goto X20.here hx rfl (pc0 := 69) (pc' := 161) rfl (hb hby at_69) (by decide) (by decide) kk) ?_
          show Go p e below s _ _ _ (T20.setTop (mkF m 161 #[.val (.int p1), .val (.int p2), .val (.int (p2 &&& (7 : Int32))), .val (.int (401 : Int32)), .val (.ref ac), .unset] []))
          refine Go.step (fun t kk => XS.iloadN X20.here hx rfl (hb hby at_161) rfl kk) ?_
          show Go p e below s _ _ _ (T20.setTop (mkF m 162 #[.val (.int p1), .val (.int p2), .val (.int (p2 &&& (7 : Int32))), .val (.int (401 : Int32)), .val (.ref ac), .unset] [(.int (401 : Int32))]))
          refine Go.callS X20 hx hZ hown (hw _ (List.mem_of_getElem? (i := 3) rfl)) (hw _ (List.mem_of_getElem? (i := 4) rfl)) (hw _ (List.mem_of_getElem? (i := 1) rfl)) (hw _ (List.mem_of_getElem? (i := 5) rfl)) (by decide) e20 [(.int (401 : Int32))] [] 0 (rm_rej l Z a0 hw (401 : Int32) av ac h0 n0 S_av S_ac) (by decide) (by decide) (by decide) (by decide) (by rw [hml]; rfl) (lenOf own_pd0 rfl) rfl (Nat.le_of_eq rfl) (hb hby at_162) ?_
          intro T21 v21 L21 X21 hQ21
          obtain ⟨rfl, rfl, e21⟩ := hQ21
          have N21 := Fr.app N0 (Fr.nil n0)
          show Go p e below s _ _ _ (T21.setTop (mkF m 165 #[.val (.int p1), .val (.int p2), .val (.int (p2 &&& (7 : Int32))), .val (.int (401 : Int32)), .val (.ref ac), .unset] [(.ref (own_rej (401 : Int32) av ac))]))
          refine Go.step (fun t kk => XS.astore X21.here hx rfl (hb hby at_165) rfl rfl (l' := #[.val (.int p1), .val (.int p2), .val (.int (p2 &&& (7 : Int32))), .val (.int (401 : Int32)), .val (.ref ac), .val (.ref (own_rej (401 : Int32) av ac))]) rfl kk) ?_
          show Go p e below s _ _ _ (T21.setTop (mkF m 167 #[.val (.int p1), .val (.int p2), .val (.int (p2 &&& (7 : Int32))), .val (.int (401 : Int32)), .val (.ref ac), .val (.ref (own_rej (401 : Int32) av ac))] []))
          refine Go.step (fun t kk => XS.aload X21.here hx rfl (hb hby at_167) rfl rfl kk) ?_
          show Go p e below s _ _ _ (T21.setTop (mkF m 169 #[.val (.int p1), .val (.int p2), .val (.int (p2 &&& (7 : Int32))), .val (.int (401 : Int32)), .val (.ref ac), .val (.ref (own_rej (401 : Int32) av ac))] [(.ref (own_rej (401 : Int32) av ac))]))
          refine Go.step (fun t kk => XS.aload X21.here hx rfl (hb hby at_169) rfl rfl kk) ?_
          show Go p e below s _ _ _ (T21.setTop (mkF m 171 #[.val (.int p1), .val (.int p2), .val (.int (p2 &&& (7 : Int32))), .val (.int (401 : Int32)), .val (.ref ac), .val (.ref (own_rej (401 : Int32) av ac))] [(.ref ac), (.ref (own_rej (401 : Int32) av ac))]))
          have hc171_22 : (own_rej (401 : Int32) av ac) = ac := by first | rfl | (simp [own_rej]; done)
          refine Go.step (fun t kk => acmp X21 hx rfl (cd := .ne) (x := (.ref (own_rej (401 : Int32) av ac))) (y := (.ref ac)) rfl rfl (pc0 := 171) (pc' := 174) (same := true) rfl (hb hby at_171) rfl (own_decT (congrArg Value.ref hc171_22)) (by decide) (by decide) kk) ?_
          show Go p e below s _ _ _ (T21.setTop (mkF m 174 #[.val (.int p1), .val (.int p2), .val (.int (p2 &&& (7 : Int32))), .val (.int (401 : Int32)), .val (.ref ac), .val (.ref (own_rej (401 : Int32) av ac))] []))
          refine Go.step (fun t kk => XS.aload X21.here hx rfl (hb hby at_174) rfl rfl kk) ?_
          show Go p e below s _ _ _ (T21.setTop (mkF m 176 #[.val (.int p1), .val (.int p2), .val (.int (p2 &&& (7 : Int32))), .val (.int (401 : Int32)), .val (.ref ac), .val (.ref (own_rej (401 : Int32) av ac))] [(.ref (own_rej (401 : Int32) av ac))]))
          obtain ⟨T23, X23, e23, st23⟩ := getS (host := "") X21 hx hZ hown (hw _ (List.mem_of_getElem? (i := 7) rfl)) Via.refl e21 S_ar (g := (mkF m 176 #[.val (.int p1), .val (.int p2), .val (.int (p2 &&& (7 : Int32))), .val (.int (401 : Int32)), .val (.ref ac), .val (.ref (own_rej (401 : Int32) av ac))] [(.ref (own_rej (401 : Int32) av ac))])) rfl (hb hby at_176)
          refine Go.step st23 ?_
          show Go p e below s _ _ _ (T23.setTop (mkF m 179 #[.val (.int p1), .val (.int p2), .val (.int (p2 &&& (7 : Int32))), .val (.int (401 : Int32)), .val (.ref ac), .val (.ref (own_rej (401 : Int32) av ac))] [(.ref ar), (.ref (own_rej (401 : Int32) av ac))]))
          have hc179_24 : ¬ ((own_rej (401 : Int32) av ac) = ar) := own_rej_ne n1 n2
          refine Go.step (fun t kk => acmp X23 hx rfl (cd := .eq) (x := (.ref (own_rej (401 : Int32) av ac))) (y := (.ref ar)) rfl rfl (pc0 := 179) (pc' := 182) (same := false) rfl (hb hby at_179) rfl (own_decF (fun q => hc179_24 (Value.ref.inj q))) (by decide) (by decide) kk) ?_
          show Go p e below s _ _ _ (T23.setTop (mkF m 182 #[.val (.int p1), .val (.int p2), .val (.int (p2 &&& (7 : Int32))), .val (.int (401 : Int32)), .val (.ref ac), .val (.ref (own_rej (401 : Int32) av ac))] []))
          refine Go.step (fun t kk => XS.iconst X23.here hx rfl (hb hby at_182) kk) ?_
          show Go p e below s _ _ _ (T23.setTop (mkF m 183 #[.val (.int p1), .val (.int p2), .val (.int (p2 &&& (7 : Int32))), .val (.int (401 : Int32)), .val (.ref ac), .val (.ref (own_rej (401 : Int32) av ac))] [(.int (1 : Int32))]))
          refine Go.step (fun t kk => XS.goto X23.here hx rfl (pc0 := 183) (pc' := 187) rfl (hb hby at_183) (by decide) (by decide) kk) ?_
          show Go p e below s _ _ _ (T23.setTop (mkF m 187 #[.val (.int p1), .val (.int p2), .val (.int (p2 &&& (7 : Int32))), .val (.int (401 : Int32)), .val (.ref ac), .val (.ref (own_rej (401 : Int32) av ac))] [(.int (1 : Int32))]))
          exact Go.retN X23 hx hlk (t := .boolean) hret (by simp) (hb hby at_187) (show _ ∧ _ from ⟨rfl, N21⟩) (by decide) (by decide)
        · refine Go.step (fun t kk => XS.icmpYes X0.here hx rfl (pc0 := 57) (pc' := 72) rfl (hb hby at_57) rfl (feq hc57_19).2 (by decide) (by decide) kk) ?_
          show Go p e below s _ _ _ (T0.setTop (mkF m 72 #[.val (.int p1), .val (.int p2), .val (.int (p2 &&& (7 : Int32))), .unset, .unset, .unset] []))
          refine Go.step (fun t kk => XS.iloadN X0.here hx rfl (hb hby at_72) rfl kk) ?_
          show Go p e below s _ _ _ (T0.setTop (mkF m 73 #[.val (.int p1), .val (.int p2), .val (.int (p2 &&& (7 : Int32))), .unset, .unset, .unset] [(.int (p2 &&& (7 : Int32)))]))
          refine Go.step (fun t kk => XS.iconst X0.here hx rfl (hb hby at_73) kk) ?_
          show Go p e below s _ _ _ (T0.setTop (mkF m 74 #[.val (.int p1), .val (.int p2), .val (.int (p2 &&& (7 : Int32))), .unset, .unset, .unset] [(.int (4 : Int32)), (.int (p2 &&& (7 : Int32)))]))
          by_cases hc74_25 : (p2 &&& (7 : Int32)) = (4 : Int32)
          · refine Go.step (fun t kk => XS.icmpNo X0.here hx rfl (hb hby at_74) rfl (teq hc74_25).2 kk) ?_
            show Go p e below s _ _ _ (T0.setTop (mkF m 77 #[.val (.int p1), .val (.int p2), .val (.int (p2 &&& (7 : Int32))), .unset, .unset, .unset] []))
            refine Go.step (fun t kk => XS.sipush X0.here hx rfl (hb hby at_77) kk) ?_
            show Go p e below s _ _ _ (T0.setTop (mkF m 80 #[.val (.int p1), .val (.int p2), .val (.int (p2 &&& (7 : Int32))), .unset, .unset, .unset] [(.int (421 : Int32))]))
            refine Go.step (fun t kk => XS.istoreN X0.here hx rfl (hb hby at_80) rfl (l' := #[.val (.int p1), .val (.int p2), .val (.int (p2 &&& (7 : Int32))), .val (.int (421 : Int32)), .unset, .unset]) rfl kk) ?_
            show Go p e below s _ _ _ (T0.setTop (mkF m 81 #[.val (.int p1), .val (.int p2), .val (.int (p2 &&& (7 : Int32))), .val (.int (421 : Int32)), .unset, .unset] []))
            obtain ⟨T26, X26, e26, st26⟩ := getS (host := "") X0 hx hZ hown (hw _ (List.mem_of_getElem? (i := 0) rfl)) Via.refl e0 S_ac (g := (mkF m 81 #[.val (.int p1), .val (.int p2), .val (.int (p2 &&& (7 : Int32))), .val (.int (421 : Int32)), .unset, .unset] [])) rfl (hb hby at_81)
            refine Go.step st26 ?_
            show Go p e below s _ _ _ (T26.setTop (mkF m 84 #[.val (.int p1), .val (.int p2), .val (.int (p2 &&& (7 : Int32))), .val (.int (421 : Int32)), .unset, .unset] [(.ref ac)]))
            refine Go.step (fun t kk => XS.astore X26.here hx rfl (hb hby at_84) rfl rfl (l' := #[.val (.int p1), .val (.int p2), .val (.int (p2 &&& (7 : Int32))), .val (.int (421 : Int32)), .val (.ref ac), .unset]) rfl kk) ?_
            show Go p e below s _ _ _ (T26.setTop (mkF m 86 #[.val (.int p1), .val (.int p2), .val (.int (p2 &&& (7 : Int32))), .val (.int (421 : Int32)), .val (.ref ac), .unset] []))
            refine Go.step (fun t kk => XS.goto X26.here hx rfl (pc0 := 86) (pc' := 161) rfl (hb hby at_86) (by decide) (by decide) kk) ?_
            show Go p e below s _ _ _ (T26.setTop (mkF m 161 #[.val (.int p1), .val (.int p2), .val (.int (p2 &&& (7 : Int32))), .val (.int (421 : Int32)), .val (.ref ac), .unset] []))
            refine Go.step (fun t kk => XS.iloadN X26.here hx rfl (hb hby at_161) rfl kk) ?_
            show Go p e below s _ _ _ (T26.setTop (mkF m 162 #[.val (.int p1), .val (.int p2), .val (.int (p2 &&& (7 : Int32))), .val (.int (421 : Int32)), .val (.ref ac), .unset] [(.int (421 : Int32))]))
            refine Go.callS X26 hx hZ hown (hw _ (List.mem_of_getElem? (i := 3) rfl)) (hw _ (List.mem_of_getElem? (i := 4) rfl)) (hw _ (List.mem_of_getElem? (i := 1) rfl)) (hw _ (List.mem_of_getElem? (i := 5) rfl)) (by decide) e26 [(.int (421 : Int32))] [] 0 (rm_rej l Z a0 hw (421 : Int32) av ac h0 n0 S_av S_ac) (by decide) (by decide) (by decide) (by decide) (by rw [hml]; rfl) (lenOf own_pd0 rfl) rfl (Nat.le_of_eq rfl) (hb hby at_162) ?_
            intro T27 v27 L27 X27 hQ27
            obtain ⟨rfl, rfl, e27⟩ := hQ27
            have N27 := Fr.app N0 (Fr.nil n0)
            show Go p e below s _ _ _ (T27.setTop (mkF m 165 #[.val (.int p1), .val (.int p2), .val (.int (p2 &&& (7 : Int32))), .val (.int (421 : Int32)), .val (.ref ac), .unset] [(.ref (own_rej (421 : Int32) av ac))]))
            refine Go.step (fun t kk => XS.astore X27.here hx rfl (hb hby at_165) rfl rfl (l' := #[.val (.int p1), .val (.int p2), .val (.int (p2 &&& (7 : Int32))), .val (.int (421 : Int32)), .val (.ref ac), .val (.ref (own_rej (421 : Int32) av ac))]) rfl kk) ?_
            show Go p e below s _ _ _ (T27.setTop (mkF m 167 #[.val (.int p1), .val (.int p2), .val (.int (p2 &&& (7 : Int32))), .val (.int (421 : Int32)), .val (.ref ac), .val (.ref (own_rej (421 : Int32) av ac))] []))
            refine Go.step (fun t kk => XS.aload X27.here hx rfl (hb hby at_167) rfl rfl kk) ?_
            show Go p e below s _ _ _ (T27.setTop (mkF m 169 #[.val (.int p1), .val (.int p2), .val (.int (p2 &&& (7 : Int32))), .val (.int (421 : Int32)), .val (.ref ac), .val (.ref (own_rej (421 : Int32) av ac))] [(.ref (own_rej (421 : Int32) av ac))]))
            refine Go.step (fun t kk => XS.aload X27.here hx rfl (hb hby at_169) rfl rfl kk) ?_
            show Go p e below s _ _ _ (T27.setTop (mkF m 171 #[.val (.int p1), .val (.int p2), .val (.int (p2 &&& (7 : Int32))), .val (.int (421 : Int32)), .val (.ref ac), .val (.ref (own_rej (421 : Int32) av ac))] [(.ref ac), (.ref (own_rej (421 : Int32) av ac))]))
            have hc171_28 : (own_rej (421 : Int32) av ac) = ac := by first | rfl | (simp [own_rej]; done)
            refine Go.step (fun t kk => acmp X27 hx rfl (cd := .ne) (x := (.ref (own_rej (421 : Int32) av ac))) (y := (.ref ac)) rfl rfl (pc0 := 171) (pc' := 174) (same := true) rfl (hb hby at_171) rfl (own_decT (congrArg Value.ref hc171_28)) (by decide) (by decide) kk) ?_
            show Go p e below s _ _ _ (T27.setTop (mkF m 174 #[.val (.int p1), .val (.int p2), .val (.int (p2 &&& (7 : Int32))), .val (.int (421 : Int32)), .val (.ref ac), .val (.ref (own_rej (421 : Int32) av ac))] []))
            refine Go.step (fun t kk => XS.aload X27.here hx rfl (hb hby at_174) rfl rfl kk) ?_
            show Go p e below s _ _ _ (T27.setTop (mkF m 176 #[.val (.int p1), .val (.int p2), .val (.int (p2 &&& (7 : Int32))), .val (.int (421 : Int32)), .val (.ref ac), .val (.ref (own_rej (421 : Int32) av ac))] [(.ref (own_rej (421 : Int32) av ac))]))
            obtain ⟨T29, X29, e29, st29⟩ := getS (host := "") X27 hx hZ hown (hw _ (List.mem_of_getElem? (i := 7) rfl)) Via.refl e27 S_ar (g := (mkF m 176 #[.val (.int p1), .val (.int p2), .val (.int (p2 &&& (7 : Int32))), .val (.int (421 : Int32)), .val (.ref ac), .val (.ref (own_rej (421 : Int32) av ac))] [(.ref (own_rej (421 : Int32) av ac))])) rfl (hb hby at_176)
            refine Go.step st29 ?_
            show Go p e below s _ _ _ (T29.setTop (mkF m 179 #[.val (.int p1), .val (.int p2), .val (.int (p2 &&& (7 : Int32))), .val (.int (421 : Int32)), .val (.ref ac), .val (.ref (own_rej (421 : Int32) av ac))] [(.ref ar), (.ref (own_rej (421 : Int32) av ac))]))
            have hc179_30 : ¬ ((own_rej (421 : Int32) av ac) = ar) := own_rej_ne n1 n2
            refine Go.step (fun t kk => acmp X29 hx rfl (cd := .eq) (x := (.ref (own_rej (421 : Int32) av ac))) (y := (.ref ar)) rfl rfl (pc0 := 179) (pc' := 182) (same := false) rfl (hb hby at_179) rfl (own_decF (fun q => hc179_30 (Value.ref.inj q))) (by decide) (by decide) kk) ?_
            show Go p e below s _ _ _ (T29.setTop (mkF m 182 #[.val (.int p1), .val (.int p2), .val (.int (p2 &&& (7 : Int32))), .val (.int (421 : Int32)), .val (.ref ac), .val (.ref (own_rej (421 : Int32) av ac))] []))
            refine Go.step (fun t kk => XS.iconst X29.here hx rfl (hb hby at_182) kk) ?_
            show Go p e below s _ _ _ (T29.setTop (mkF m 183 #[.val (.int p1), .val (.int p2), .val (.int (p2 &&& (7 : Int32))), .val (.int (421 : Int32)), .val (.ref ac), .val (.ref (own_rej (421 : Int32) av ac))] [(.int (1 : Int32))]))
            refine Go.step (fun t kk => XS.goto X29.here hx rfl (pc0 := 183) (pc' := 187) rfl (hb hby at_183) (by decide) (by decide) kk) ?_
            show Go p e below s _ _ _ (T29.setTop (mkF m 187 #[.val (.int p1), .val (.int p2), .val (.int (p2 &&& (7 : Int32))), .val (.int (421 : Int32)), .val (.ref ac), .val (.ref (own_rej (421 : Int32) av ac))] [(.int (1 : Int32))]))
            exact Go.retN X29 hx hlk (t := .boolean) hret (by simp) (hb hby at_187) (show _ ∧ _ from ⟨rfl, N27⟩) (by decide) (by decide)
          · refine Go.step (fun t kk => XS.icmpYes X0.here hx rfl (pc0 := 74) (pc' := 89) rfl (hb hby at_74) rfl (feq hc74_25).2 (by decide) (by decide) kk) ?_
            show Go p e below s _ _ _ (T0.setTop (mkF m 89 #[.val (.int p1), .val (.int p2), .val (.int (p2 &&& (7 : Int32))), .unset, .unset, .unset] []))
            refine Go.step (fun t kk => XS.iloadN X0.here hx rfl (hb hby at_89) rfl kk) ?_
            show Go p e below s _ _ _ (T0.setTop (mkF m 90 #[.val (.int p1), .val (.int p2), .val (.int (p2 &&& (7 : Int32))), .unset, .unset, .unset] [(.int (p2 &&& (7 : Int32)))]))
            refine Go.step (fun t kk => XS.iconst X0.here hx rfl (hb hby at_90) kk) ?_
            show Go p e below s _ _ _ (T0.setTop (mkF m 91 #[.val (.int p1), .val (.int p2), .val (.int (p2 &&& (7 : Int32))), .unset, .unset, .unset] [(.int (5 : Int32)), (.int (p2 &&& (7 : Int32)))]))
            by_cases hc91_31 : (p2 &&& (7 : Int32)) = (5 : Int32)
            · refine Go.step (fun t kk => XS.icmpNo X0.here hx rfl (hb hby at_91) rfl (teq hc91_31).2 kk) ?_
              show Go p e below s _ _ _ (T0.setTop (mkF m 94 #[.val (.int p1), .val (.int p2), .val (.int (p2 &&& (7 : Int32))), .unset, .unset, .unset] []))
              refine Go.step (fun t kk => XS.sipush X0.here hx rfl (hb hby at_94) kk) ?_
              show Go p e below s _ _ _ (T0.setTop (mkF m 97 #[.val (.int p1), .val (.int p2), .val (.int (p2 &&& (7 : Int32))), .unset, .unset, .unset] [(.int (423 : Int32))]))
              refine Go.step (fun t kk => XS.istoreN X0.here hx rfl (hb hby at_97) rfl (l' := #[.val (.int p1), .val (.int p2), .val (.int (p2 &&& (7 : Int32))), .val (.int (423 : Int32)), .unset, .unset]) rfl kk) ?_
              show Go p e below s _ _ _ (T0.setTop (mkF m 98 #[.val (.int p1), .val (.int p2), .val (.int (p2 &&& (7 : Int32))), .val (.int (423 : Int32)), .unset, .unset] []))
              obtain ⟨T32, X32, e32, st32⟩ := getS (host := "") X0 hx hZ hown (hw _ (List.mem_of_getElem? (i := 0) rfl)) Via.refl e0 S_ac (g := (mkF m 98 #[.val (.int p1), .val (.int p2), .val (.int (p2 &&& (7 : Int32))), .val (.int (423 : Int32)), .unset, .unset] [])) rfl (hb hby at_98)
              refine Go.step st32 ?_
              show Go p e below s _ _ _ (T32.setTop (mkF m 101 #[.val (.int p1), .val (.int p2), .val (.int (p2 &&& (7 : Int32))), .val (.int (423 : Int32)), .unset, .unset] [(.ref ac)]))
              refine Go.step (fun t kk => XS.astore X32.here hx rfl (hb hby at_101) rfl rfl (l' := #[.val (.int p1), .val (.int p2), .val (.int (p2 &&& (7 : Int32))), .val (.int (423 : Int32)), .val (.ref ac), .unset]) rfl kk) ?_
              show Go p e below s _ _ _ (T32.setTop (mkF m 103 #[.val (.int p1), .val (.int p2), .val (.int (p2 &&& (7 : Int32))), .val (.int (423 : Int32)), .val (.ref ac), .unset] []))
              refine Go.step (fun t kk => XS.goto X32.here hx rfl (pc0 := 103) (pc' := 161) rfl (hb hby at_103) (by decide) (by decide) kk) ?_
              show Go p e below s _ _ _ (T32.setTop (mkF m 161 #[.val (.int p1), .val (.int p2), .val (.int (p2 &&& (7 : Int32))), .val (.int (423 : Int32)), .val (.ref ac), .unset] []))
              refine Go.step (fun t kk => XS.iloadN X32.here hx rfl (hb hby at_161) rfl kk) ?_
              show Go p e below s _ _ _ (T32.setTop (mkF m 162 #[.val (.int p1), .val (.int p2), .val (.int (p2 &&& (7 : Int32))), .val (.int (423 : Int32)), .val (.ref ac), .unset] [(.int (423 : Int32))]))
              refine Go.callS X32 hx hZ hown (hw _ (List.mem_of_getElem? (i := 3) rfl)) (hw _ (List.mem_of_getElem? (i := 4) rfl)) (hw _ (List.mem_of_getElem? (i := 1) rfl)) (hw _ (List.mem_of_getElem? (i := 5) rfl)) (by decide) e32 [(.int (423 : Int32))] [] 0 (rm_rej l Z a0 hw (423 : Int32) av ac h0 n0 S_av S_ac) (by decide) (by decide) (by decide) (by decide) (by rw [hml]; rfl) (lenOf own_pd0 rfl) rfl (Nat.le_of_eq rfl) (hb hby at_162) ?_
              intro T33 v33 L33 X33 hQ33
              obtain ⟨rfl, rfl, e33⟩ := hQ33
              have N33 := Fr.app N0 (Fr.nil n0)
              show Go p e below s _ _ _ (T33.setTop (mkF m 165 #[.val (.int p1), .val (.int p2), .val (.int (p2 &&& (7 : Int32))), .val (.int (423 : Int32)), .val (.ref ac), .unset] [(.ref (own_rej (423 : Int32) av ac))]))
              refine Go.step (fun t kk => XS.astore X33.here hx rfl (hb hby at_165) rfl rfl (l' := #[.val (.int p1), .val (.int p2), .val (.int (p2 &&& (7 : Int32))), .val (.int (423 : Int32)), .val (.ref ac), .val (.ref (own_rej (423 : Int32) av ac))]) rfl kk) ?_
              show Go p e below s _ _ _ (T33.setTop (mkF m 167 #[.val (.int p1), .val (.int p2), .val (.int (p2 &&& (7 : Int32))), .val (.int (423 : Int32)), .val (.ref ac), .val (.ref (own_rej (423 : Int32) av ac))] []))
              refine Go.step (fun t kk => XS.aload X33.here hx rfl (hb hby at_167) rfl rfl kk) ?_
              show Go p e below s _ _ _ (T33.setTop (mkF m 169 #[.val (.int p1), .val (.int p2), .val (.int (p2 &&& (7 : Int32))), .val (.int (423 : Int32)), .val (.ref ac), .val (.ref (own_rej (423 : Int32) av ac))] [(.ref (own_rej (423 : Int32) av ac))]))
              refine Go.step (fun t kk => XS.aload X33.here hx rfl (hb hby at_169) rfl rfl kk) ?_
              show Go p e below s _ _ _ (T33.setTop (mkF m 171 #[.val (.int p1), .val (.int p2), .val (.int (p2 &&& (7 : Int32))), .val (.int (423 : Int32)), .val (.ref ac), .val (.ref (own_rej (423 : Int32) av ac))] [(.ref ac), (.ref (own_rej (423 : Int32) av ac))]))
              have hc171_34 : (own_rej (423 : Int32) av ac) = ac := by first | rfl | (simp [own_rej]; done)
              refine Go.step (fun t kk => acmp X33 hx rfl (cd := .ne) (x := (.ref (own_rej (423 : Int32) av ac))) (y := (.ref ac)) rfl rfl (pc0 := 171) (pc' := 174) (same := true) rfl (hb hby at_171) rfl (own_decT (congrArg Value.ref hc171_34)) (by decide) (by decide) kk) ?_
              show Go p e below s _ _ _ (T33.setTop (mkF m 174 #[.val (.int p1), .val (.int p2), .val (.int (p2 &&& (7 : Int32))), .val (.int (423 : Int32)), .val (.ref ac), .val (.ref (own_rej (423 : Int32) av ac))] []))
              refine Go.step (fun t kk => XS.aload X33.here hx rfl (hb hby at_174) rfl rfl kk) ?_
              show Go p e below s _ _ _ (T33.setTop (mkF m 176 #[.val (.int p1), .val (.int p2), .val (.int (p2 &&& (7 : Int32))), .val (.int (423 : Int32)), .val (.ref ac), .val (.ref (own_rej (423 : Int32) av ac))] [(.ref (own_rej (423 : Int32) av ac))]))
              obtain ⟨T35, X35, e35, st35⟩ := getS (host := "") X33 hx hZ hown (hw _ (List.mem_of_getElem? (i := 7) rfl)) Via.refl e33 S_ar (g := (mkF m 176 #[.val (.int p1), .val (.int p2), .val (.int (p2 &&& (7 : Int32))), .val (.int (423 : Int32)), .val (.ref ac), .val (.ref (own_rej (423 : Int32) av ac))] [(.ref (own_rej (423 : Int32) av ac))])) rfl (hb hby at_176)
              refine Go.step st35 ?_
              show Go p e below s _ _ _ (T35.setTop (mkF m 179 #[.val (.int p1), .val (.int p2), .val (.int (p2 &&& (7 : Int32))), .val (.int (423 : Int32)), .val (.ref ac), .val (.ref (own_rej (423 : Int32) av ac))] [(.ref ar), (.ref (own_rej (423 : Int32) av ac))]))
              have hc179_36 : ¬ ((own_rej (423 : Int32) av ac) = ar) := own_rej_ne n1 n2
              refine Go.step (fun t kk => acmp X35 hx rfl (cd := .eq) (x := (.ref (own_rej (423 : Int32) av ac))) (y := (.ref ar)) rfl rfl (pc0 := 179) (pc' := 182) (same := false) rfl (hb hby at_179) rfl (own_decF (fun q => hc179_36 (Value.ref.inj q))) (by decide) (by decide) kk) ?_
              show Go p e below s _ _ _ (T35.setTop (mkF m 182 #[.val (.int p1), .val (.int p2), .val (.int (p2 &&& (7 : Int32))), .val (.int (423 : Int32)), .val (.ref ac), .val (.ref (own_rej (423 : Int32) av ac))] []))
              refine Go.step (fun t kk => XS.iconst X35.here hx rfl (hb hby at_182) kk) ?_
              show Go p e below s _ _ _ (T35.setTop (mkF m 183 #[.val (.int p1), .val (.int p2), .val (.int (p2 &&& (7 : Int32))), .val (.int (423 : Int32)), .val (.ref ac), .val (.ref (own_rej (423 : Int32) av ac))] [(.int (1 : Int32))]))
              refine Go.step (fun t kk => XS.goto X35.here hx rfl (pc0 := 183) (pc' := 187) rfl (hb hby at_183) (by decide) (by decide) kk) ?_
              show Go p e below s _ _ _ (T35.setTop (mkF m 187 #[.val (.int p1), .val (.int p2), .val (.int (p2 &&& (7 : Int32))), .val (.int (423 : Int32)), .val (.ref ac), .val (.ref (own_rej (423 : Int32) av ac))] [(.int (1 : Int32))]))
              exact Go.retN X35 hx hlk (t := .boolean) hret (by simp) (hb hby at_187) (show _ ∧ _ from ⟨rfl, N33⟩) (by decide) (by decide)
            · refine Go.step (fun t kk => XS.icmpYes X0.here hx rfl (pc0 := 91) (pc' := 106) rfl (hb hby at_91) rfl (feq hc91_31).2 (by decide) (by decide) kk) ?_
              show Go p e below s _ _ _ (T0.setTop (mkF m 106 #[.val (.int p1), .val (.int p2), .val (.int (p2 &&& (7 : Int32))), .unset, .unset, .unset] []))
              refine Go.step (fun t kk => XS.iloadN X0.here hx rfl (hb hby at_106) rfl kk) ?_
              show Go p e below s _ _ _ (T0.setTop (mkF m 107 #[.val (.int p1), .val (.int p2), .val (.int (p2 &&& (7 : Int32))), .unset, .unset, .unset] [(.int (p2 &&& (7 : Int32)))]))
              refine Go.step (fun t kk => XS.bipush X0.here hx rfl (hb hby at_107) kk) ?_
              show Go p e below s _ _ _ (T0.setTop (mkF m 109 #[.val (.int p1), .val (.int p2), .val (.int (p2 &&& (7 : Int32))), .unset, .unset, .unset] [(.int (6 : Int32)), (.int (p2 &&& (7 : Int32)))]))
              by_cases hc109_37 : (p2 &&& (7 : Int32)) = (6 : Int32)
              · refine Go.step (fun t kk => XS.icmpNo X0.here hx rfl (hb hby at_109) rfl (teq hc109_37).2 kk) ?_
                show Go p e below s _ _ _ (T0.setTop (mkF m 112 #[.val (.int p1), .val (.int p2), .val (.int (p2 &&& (7 : Int32))), .unset, .unset, .unset] []))
                refine Go.step (fun t kk => XS.sipush X0.here hx rfl (hb hby at_112) kk) ?_
                show Go p e below s _ _ _ (T0.setTop (mkF m 115 #[.val (.int p1), .val (.int p2), .val (.int (p2 &&& (7 : Int32))), .unset, .unset, .unset] [(.int (410 : Int32))]))
                refine Go.step (fun t kk => XS.istoreN X0.here hx rfl (hb hby at_115) rfl (l' := #[.val (.int p1), .val (.int p2), .val (.int (p2 &&& (7 : Int32))), .val (.int (410 : Int32)), .unset, .unset]) rfl kk) ?_
                show Go p e below s _ _ _ (T0.setTop (mkF m 116 #[.val (.int p1), .val (.int p2), .val (.int (p2 &&& (7 : Int32))), .val (.int (410 : Int32)), .unset, .unset] []))
                obtain ⟨T38, X38, e38, st38⟩ := getS (host := "") X0 hx hZ hown (hw _ (List.mem_of_getElem? (i := 0) rfl)) Via.refl e0 S_ac (g := (mkF m 116 #[.val (.int p1), .val (.int p2), .val (.int (p2 &&& (7 : Int32))), .val (.int (410 : Int32)), .unset, .unset] [])) rfl (hb hby at_116)
                refine Go.step st38 ?_
                show Go p e below s _ _ _ (T38.setTop (mkF m 119 #[.val (.int p1), .val (.int p2), .val (.int (p2 &&& (7 : Int32))), .val (.int (410 : Int32)), .unset, .unset] [(.ref ac)]))
                refine Go.step (fun t kk => XS.astore X38.here hx rfl (hb hby at_119) rfl rfl (l' := #[.val (.int p1), .val (.int p2), .val (.int (p2 &&& (7 : Int32))), .val (.int (410 : Int32)), .val (.ref ac), .unset]) rfl kk) ?_
                show Go p e below s _ _ _ (T38.setTop (mkF m 121 #[.val (.int p1), .val (.int p2), .val (.int (p2 &&& (7 : Int32))), .val (.int (410 : Int32)), .val (.ref ac), .unset] []))
                refine Go.step (fun t kk => XS.goto X38.here hx rfl (pc0 := 121) (pc' := 161) rfl (hb hby at_121) (by decide) (by decide) kk) ?_
                show Go p e below s _ _ _ (T38.setTop (mkF m 161 #[.val (.int p1), .val (.int p2), .val (.int (p2 &&& (7 : Int32))), .val (.int (410 : Int32)), .val (.ref ac), .unset] []))
                refine Go.step (fun t kk => XS.iloadN X38.here hx rfl (hb hby at_161) rfl kk) ?_
                show Go p e below s _ _ _ (T38.setTop (mkF m 162 #[.val (.int p1), .val (.int p2), .val (.int (p2 &&& (7 : Int32))), .val (.int (410 : Int32)), .val (.ref ac), .unset] [(.int (410 : Int32))]))
                refine Go.callS X38 hx hZ hown (hw _ (List.mem_of_getElem? (i := 3) rfl)) (hw _ (List.mem_of_getElem? (i := 4) rfl)) (hw _ (List.mem_of_getElem? (i := 1) rfl)) (hw _ (List.mem_of_getElem? (i := 5) rfl)) (by decide) e38 [(.int (410 : Int32))] [] 0 (rm_rej l Z a0 hw (410 : Int32) av ac h0 n0 S_av S_ac) (by decide) (by decide) (by decide) (by decide) (by rw [hml]; rfl) (lenOf own_pd0 rfl) rfl (Nat.le_of_eq rfl) (hb hby at_162) ?_
                intro T39 v39 L39 X39 hQ39
                obtain ⟨rfl, rfl, e39⟩ := hQ39
                have N39 := Fr.app N0 (Fr.nil n0)
                show Go p e below s _ _ _ (T39.setTop (mkF m 165 #[.val (.int p1), .val (.int p2), .val (.int (p2 &&& (7 : Int32))), .val (.int (410 : Int32)), .val (.ref ac), .unset] [(.ref (own_rej (410 : Int32) av ac))]))
                refine Go.step (fun t kk => XS.astore X39.here hx rfl (hb hby at_165) rfl rfl (l' := #[.val (.int p1), .val (.int p2), .val (.int (p2 &&& (7 : Int32))), .val (.int (410 : Int32)), .val (.ref ac), .val (.ref (own_rej (410 : Int32) av ac))]) rfl kk) ?_
                show Go p e below s _ _ _ (T39.setTop (mkF m 167 #[.val (.int p1), .val (.int p2), .val (.int (p2 &&& (7 : Int32))), .val (.int (410 : Int32)), .val (.ref ac), .val (.ref (own_rej (410 : Int32) av ac))] []))
                refine Go.step (fun t kk => XS.aload X39.here hx rfl (hb hby at_167) rfl rfl kk) ?_
                show Go p e below s _ _ _ (T39.setTop (mkF m 169 #[.val (.int p1), .val (.int p2), .val (.int (p2 &&& (7 : Int32))), .val (.int (410 : Int32)), .val (.ref ac), .val (.ref (own_rej (410 : Int32) av ac))] [(.ref (own_rej (410 : Int32) av ac))]))
                refine Go.step (fun t kk => XS.aload X39.here hx rfl (hb hby at_169) rfl rfl kk) ?_
                show Go p e below s _ _ _ (T39.setTop (mkF m 171 #[.val (.int p1), .val (.int p2), .val (.int (p2 &&& (7 : Int32))), .val (.int (410 : Int32)), .val (.ref ac), .val (.ref (own_rej (410 : Int32) av ac))] [(.ref ac), (.ref (own_rej (410 : Int32) av ac))]))
                have hc171_40 : (own_rej (410 : Int32) av ac) = ac := by first | rfl | (simp [own_rej]; done)
                refine Go.step (fun t kk => acmp X39 hx rfl (cd := .ne) (x := (.ref (own_rej (410 : Int32) av ac))) (y := (.ref ac)) rfl rfl (pc0 := 171) (pc' := 174) (same := true) rfl (hb hby at_171) rfl (own_decT (congrArg Value.ref hc171_40)) (by decide) (by decide) kk) ?_
                show Go p e below s _ _ _ (T39.setTop (mkF m 174 #[.val (.int p1), .val (.int p2), .val (.int (p2 &&& (7 : Int32))), .val (.int (410 : Int32)), .val (.ref ac), .val (.ref (own_rej (410 : Int32) av ac))] []))
                refine Go.step (fun t kk => XS.aload X39.here hx rfl (hb hby at_174) rfl rfl kk) ?_
                show Go p e below s _ _ _ (T39.setTop (mkF m 176 #[.val (.int p1), .val (.int p2), .val (.int (p2 &&& (7 : Int32))), .val (.int (410 : Int32)), .val (.ref ac), .val (.ref (own_rej (410 : Int32) av ac))] [(.ref (own_rej (410 : Int32) av ac))]))
                obtain ⟨T41, X41, e41, st41⟩ := getS (host := "") X39 hx hZ hown (hw _ (List.mem_of_getElem? (i := 7) rfl)) Via.refl e39 S_ar (g := (mkF m 176 #[.val (.int p1), .val (.int p2), .val (.int (p2 &&& (7 : Int32))), .val (.int (410 : Int32)), .val (.ref ac), .val (.ref (own_rej (410 : Int32) av ac))] [(.ref (own_rej (410 : Int32) av ac))])) rfl (hb hby at_176)
                refine Go.step st41 ?_
                show Go p e below s _ _ _ (T41.setTop (mkF m 179 #[.val (.int p1), .val (.int p2), .val (.int (p2 &&& (7 : Int32))), .val (.int (410 : Int32)), .val (.ref ac), .val (.ref (own_rej (410 : Int32) av ac))] [(.ref ar), (.ref (own_rej (410 : Int32) av ac))]))
                have hc179_42 : ¬ ((own_rej (410 : Int32) av ac) = ar) := own_rej_ne n1 n2
                refine Go.step (fun t kk => acmp X41 hx rfl (cd := .eq) (x := (.ref (own_rej (410 : Int32) av ac))) (y := (.ref ar)) rfl rfl (pc0 := 179) (pc' := 182) (same := false) rfl (hb hby at_179) rfl (own_decF (fun q => hc179_42 (Value.ref.inj q))) (by decide) (by decide) kk) ?_
                show Go p e below s _ _ _ (T41.setTop (mkF m 182 #[.val (.int p1), .val (.int p2), .val (.int (p2 &&& (7 : Int32))), .val (.int (410 : Int32)), .val (.ref ac), .val (.ref (own_rej (410 : Int32) av ac))] []))
                refine Go.step (fun t kk => XS.iconst X41.here hx rfl (hb hby at_182) kk) ?_
                show Go p e below s _ _ _ (T41.setTop (mkF m 183 #[.val (.int p1), .val (.int p2), .val (.int (p2 &&& (7 : Int32))), .val (.int (410 : Int32)), .val (.ref ac), .val (.ref (own_rej (410 : Int32) av ac))] [(.int (1 : Int32))]))
                refine Go.step (fun t kk => XS.goto X41.here hx rfl (pc0 := 183) (pc' := 187) rfl (hb hby at_183) (by decide) (by decide) kk) ?_
                show Go p e below s _ _ _ (T41.setTop (mkF m 187 #[.val (.int p1), .val (.int p2), .val (.int (p2 &&& (7 : Int32))), .val (.int (410 : Int32)), .val (.ref ac), .val (.ref (own_rej (410 : Int32) av ac))] [(.int (1 : Int32))]))
                exact Go.retN X41 hx hlk (t := .boolean) hret (by simp) (hb hby at_187) (show _ ∧ _ from ⟨rfl, N39⟩) (by decide) (by decide)
              · refine Go.step (fun t kk => XS.icmpYes X0.here hx rfl (pc0 := 109) (pc' := 124) rfl (hb hby at_109) rfl (feq hc109_37).2 (by decide) (by decide) kk) ?_
                show Go p e below s _ _ _ (T0.setTop (mkF m 124 #[.val (.int p1), .val (.int p2), .val (.int (p2 &&& (7 : Int32))), .unset, .unset, .unset] []))
                refine Go.step (fun t kk => XS.iloadN X0.here hx rfl (hb hby at_124) rfl kk) ?_
                show Go p e below s _ _ _ (T0.setTop (mkF m 125 #[.val (.int p1), .val (.int p2), .val (.int (p2 &&& (7 : Int32))), .unset, .unset, .unset] [(.int p1)]))
                refine Go.step (fun t kk => XS.istoreN X0.here hx rfl (hb hby at_125) rfl (l' := #[.val (.int p1), .val (.int p2), .val (.int (p2 &&& (7 : Int32))), .val (.int p1), .unset, .unset]) rfl kk) ?_
                show Go p e below s _ _ _ (T0.setTop (mkF m 126 #[.val (.int p1), .val (.int p2), .val (.int (p2 &&& (7 : Int32))), .val (.int p1), .unset, .unset] []))
                refine Go.step (fun t kk => XS.iloadN X0.here hx rfl (hb hby at_126) rfl kk) ?_
                show Go p e below s _ _ _ (T0.setTop (mkF m 127 #[.val (.int p1), .val (.int p2), .val (.int (p2 &&& (7 : Int32))), .val (.int p1), .unset, .unset] [(.int p1)]))
                refine Go.step (fun t kk => XS.sipush X0.here hx rfl (hb hby at_127) kk) ?_
                show Go p e below s _ _ _ (T0.setTop (mkF m 130 #[.val (.int p1), .val (.int p2), .val (.int (p2 &&& (7 : Int32))), .val (.int p1), .unset, .unset] [(.int (400 : Int32)), (.int p1)]))
                by_cases hc130_43 : p1 = (400 : Int32)
                · refine Go.step (fun t kk => XS.icmpNo X0.here hx rfl (hb hby at_130) rfl (teq hc130_43).2 kk) ?_
                  show Go p e below s _ _ _ (T0.setTop (mkF m 133 #[.val (.int p1), .val (.int p2), .val (.int (p2 &&& (7 : Int32))), .val (.int p1), .unset, .unset] []))
                  obtain ⟨T44, X44, e44, st44⟩ := getS (host := "") X0 hx hZ hown (hw _ (List.mem_of_getElem? (i := 9) rfl)) Via.refl e0 S_av (g := (mkF m 133 #[.val (.int p1), .val (.int p2), .val (.int (p2 &&& (7 : Int32))), .val (.int p1), .unset, .unset] [])) rfl (hb hby at_133)
                  refine Go.step st44 ?_
                  show Go p e below s _ _ _ (T44.setTop (mkF m 136 #[.val (.int p1), .val (.int p2), .val (.int (p2 &&& (7 : Int32))), .val (.int p1), .unset, .unset] [(.ref av)]))
                  refine Go.step (fun t kk => XS.astore X44.here hx rfl (hb hby at_136) rfl rfl (l' := #[.val (.int p1), .val (.int p2), .val (.int (p2 &&& (7 : Int32))), .val (.int p1), .val (.ref av), .unset]) rfl kk) ?_
                  show Go p e below s _ _ _ (T44.setTop (mkF m 138 #[.val (.int p1), .val (.int p2), .val (.int (p2 &&& (7 : Int32))), .val (.int p1), .val (.ref av), .unset] []))
                  refine Go.step (fun t kk => XS.goto X44.here hx rfl (pc0 := 138) (pc' := 161) rfl (hb hby at_138) (by decide) (by decide) kk) ?_
                  show Go p e below s _ _ _ (T44.setTop (mkF m 161 #[.val (.int p1), .val (.int p2), .val (.int (p2 &&& (7 : Int32))), .val (.int p1), .val (.ref av), .unset] []))
                  refine Go.step (fun t kk => XS.iloadN X44.here hx rfl (hb hby at_161) rfl kk) ?_
                  show Go p e below s _ _ _ (T44.setTop (mkF m 162 #[.val (.int p1), .val (.int p2), .val (.int (p2 &&& (7 : Int32))), .val (.int p1), .val (.ref av), .unset] [(.int p1)]))
                  refine Go.callS X44 hx hZ hown (hw _ (List.mem_of_getElem? (i := 3) rfl)) (hw _ (List.mem_of_getElem? (i := 4) rfl)) (hw _ (List.mem_of_getElem? (i := 1) rfl)) (hw _ (List.mem_of_getElem? (i := 5) rfl)) (by decide) e44 [(.int p1)] [] 0 (rm_rej l Z a0 hw p1 av ac h0 n0 S_av S_ac) (by decide) (by decide) (by decide) (by decide) (by rw [hml]; rfl) (lenOf own_pd0 rfl) rfl (Nat.le_of_eq rfl) (hb hby at_162) ?_
                  intro T45 v45 L45 X45 hQ45
                  obtain ⟨rfl, rfl, e45⟩ := hQ45
                  have N45 := Fr.app N0 (Fr.nil n0)
                  show Go p e below s _ _ _ (T45.setTop (mkF m 165 #[.val (.int p1), .val (.int p2), .val (.int (p2 &&& (7 : Int32))), .val (.int p1), .val (.ref av), .unset] [(.ref (own_rej p1 av ac))]))
                  refine Go.step (fun t kk => XS.astore X45.here hx rfl (hb hby at_165) rfl rfl (l' := #[.val (.int p1), .val (.int p2), .val (.int (p2 &&& (7 : Int32))), .val (.int p1), .val (.ref av), .val (.ref (own_rej p1 av ac))]) rfl kk) ?_
                  show Go p e below s _ _ _ (T45.setTop (mkF m 167 #[.val (.int p1), .val (.int p2), .val (.int (p2 &&& (7 : Int32))), .val (.int p1), .val (.ref av), .val (.ref (own_rej p1 av ac))] []))
                  refine Go.step (fun t kk => XS.aload X45.here hx rfl (hb hby at_167) rfl rfl kk) ?_
                  show Go p e below s _ _ _ (T45.setTop (mkF m 169 #[.val (.int p1), .val (.int p2), .val (.int (p2 &&& (7 : Int32))), .val (.int p1), .val (.ref av), .val (.ref (own_rej p1 av ac))] [(.ref (own_rej p1 av ac))]))
                  refine Go.step (fun t kk => XS.aload X45.here hx rfl (hb hby at_169) rfl rfl kk) ?_
                  show Go p e below s _ _ _ (T45.setTop (mkF m 171 #[.val (.int p1), .val (.int p2), .val (.int (p2 &&& (7 : Int32))), .val (.int p1), .val (.ref av), .val (.ref (own_rej p1 av ac))] [(.ref av), (.ref (own_rej p1 av ac))]))
                  have hc171_46 : (own_rej p1 av ac) = av := by first | rfl | (simp [own_rej, hc130_43]; done)
                  refine Go.step (fun t kk => acmp X45 hx rfl (cd := .ne) (x := (.ref (own_rej p1 av ac))) (y := (.ref av)) rfl rfl (pc0 := 171) (pc' := 174) (same := true) rfl (hb hby at_171) rfl (own_decT (congrArg Value.ref hc171_46)) (by decide) (by decide) kk) ?_
                  show Go p e below s _ _ _ (T45.setTop (mkF m 174 #[.val (.int p1), .val (.int p2), .val (.int (p2 &&& (7 : Int32))), .val (.int p1), .val (.ref av), .val (.ref (own_rej p1 av ac))] []))
                  refine Go.step (fun t kk => XS.aload X45.here hx rfl (hb hby at_174) rfl rfl kk) ?_
                  show Go p e below s _ _ _ (T45.setTop (mkF m 176 #[.val (.int p1), .val (.int p2), .val (.int (p2 &&& (7 : Int32))), .val (.int p1), .val (.ref av), .val (.ref (own_rej p1 av ac))] [(.ref (own_rej p1 av ac))]))
                  obtain ⟨T47, X47, e47, st47⟩ := getS (host := "") X45 hx hZ hown (hw _ (List.mem_of_getElem? (i := 7) rfl)) Via.refl e45 S_ar (g := (mkF m 176 #[.val (.int p1), .val (.int p2), .val (.int (p2 &&& (7 : Int32))), .val (.int p1), .val (.ref av), .val (.ref (own_rej p1 av ac))] [(.ref (own_rej p1 av ac))])) rfl (hb hby at_176)
                  refine Go.step st47 ?_
                  show Go p e below s _ _ _ (T47.setTop (mkF m 179 #[.val (.int p1), .val (.int p2), .val (.int (p2 &&& (7 : Int32))), .val (.int p1), .val (.ref av), .val (.ref (own_rej p1 av ac))] [(.ref ar), (.ref (own_rej p1 av ac))]))
                  have hc179_48 : ¬ ((own_rej p1 av ac) = ar) := own_rej_ne n1 n2
                  refine Go.step (fun t kk => acmp X47 hx rfl (cd := .eq) (x := (.ref (own_rej p1 av ac))) (y := (.ref ar)) rfl rfl (pc0 := 179) (pc' := 182) (same := false) rfl (hb hby at_179) rfl (own_decF (fun q => hc179_48 (Value.ref.inj q))) (by decide) (by decide) kk) ?_
                  show Go p e below s _ _ _ (T47.setTop (mkF m 182 #[.val (.int p1), .val (.int p2), .val (.int (p2 &&& (7 : Int32))), .val (.int p1), .val (.ref av), .val (.ref (own_rej p1 av ac))] []))
                  refine Go.step (fun t kk => XS.iconst X47.here hx rfl (hb hby at_182) kk) ?_
                  show Go p e below s _ _ _ (T47.setTop (mkF m 183 #[.val (.int p1), .val (.int p2), .val (.int (p2 &&& (7 : Int32))), .val (.int p1), .val (.ref av), .val (.ref (own_rej p1 av ac))] [(.int (1 : Int32))]))
                  refine Go.step (fun t kk => XS.goto X47.here hx rfl (pc0 := 183) (pc' := 187) rfl (hb hby at_183) (by decide) (by decide) kk) ?_
                  show Go p e below s _ _ _ (T47.setTop (mkF m 187 #[.val (.int p1), .val (.int p2), .val (.int (p2 &&& (7 : Int32))), .val (.int p1), .val (.ref av), .val (.ref (own_rej p1 av ac))] [(.int (1 : Int32))]))
                  exact Go.retN X47 hx hlk (t := .boolean) hret (by simp) (hb hby at_187) (show _ ∧ _ from ⟨rfl, N45⟩) (by decide) (by decide)
                · refine Go.step (fun t kk => XS.icmpYes X0.here hx rfl (pc0 := 130) (pc' := 141) rfl (hb hby at_130) rfl (feq hc130_43).2 (by decide) (by decide) kk) ?_
                  show Go p e below s _ _ _ (T0.setTop (mkF m 141 #[.val (.int p1), .val (.int p2), .val (.int (p2 &&& (7 : Int32))), .val (.int p1), .unset, .unset] []))
                  refine Go.step (fun t kk => XS.iloadN X0.here hx rfl (hb hby at_141) rfl kk) ?_
                  show Go p e below s _ _ _ (T0.setTop (mkF m 142 #[.val (.int p1), .val (.int p2), .val (.int (p2 &&& (7 : Int32))), .val (.int p1), .unset, .unset] [(.int p1)]))
                  refine Go.step (fun t kk => XS.sipush X0.here hx rfl (hb hby at_142) kk) ?_
                  show Go p e below s _ _ _ (T0.setTop (mkF m 145 #[.val (.int p1), .val (.int p2), .val (.int (p2 &&& (7 : Int32))), .val (.int p1), .unset, .unset] [(.int (422 : Int32)), (.int p1)]))
                  by_cases hc145_49 : p1 = (422 : Int32)
                  · refine Go.step (fun t kk => XS.icmpNo X0.here hx rfl (hb hby at_145) rfl (teq hc145_49).2 kk) ?_
                    show Go p e below s _ _ _ (T0.setTop (mkF m 148 #[.val (.int p1), .val (.int p2), .val (.int (p2 &&& (7 : Int32))), .val (.int p1), .unset, .unset] []))
                    obtain ⟨T50, X50, e50, st50⟩ := getS (host := "") X0 hx hZ hown (hw _ (List.mem_of_getElem? (i := 9) rfl)) Via.refl e0 S_av (g := (mkF m 148 #[.val (.int p1), .val (.int p2), .val (.int (p2 &&& (7 : Int32))), .val (.int p1), .unset, .unset] [])) rfl (hb hby at_148)
                    refine Go.step st50 ?_
                    show Go p e below s _ _ _ (T50.setTop (mkF m 151 #[.val (.int p1), .val (.int p2), .val (.int (p2 &&& (7 : Int32))), .val (.int p1), .unset, .unset] [(.ref av)]))
                    refine Go.step (fun t kk => XS.astore X50.here hx rfl (hb hby at_151) rfl rfl (l' := #[.val (.int p1), .val (.int p2), .val (.int (p2 &&& (7 : Int32))), .val (.int p1), .val (.ref av), .unset]) rfl kk) ?_
                    show Go p e below s _ _ _ (T50.setTop (mkF m 153 #[.val (.int p1), .val (.int p2), .val (.int (p2 &&& (7 : Int32))), .val (.int p1), .val (.ref av), .unset] []))
                    refine Go.step (fun t kk => XS.goto X50.here hx rfl (pc0 := 153) (pc' := 161) rfl (hb hby at_153) (by decide) (by decide) kk) ?_
                    show Go p e below s _ _ _ (T50.setTop (mkF m 161 #[.val (.int p1), .val (.int p2), .val (.int (p2 &&& (7 : Int32))), .val (.int p1), .val (.ref av), .unset] []))
                    refine Go.step (fun t kk => XS.iloadN X50.here hx rfl (hb hby at_161) rfl kk) ?_
                    show Go p e below s _ _ _ (T50.setTop (mkF m 162 #[.val (.int p1), .val (.int p2), .val (.int (p2 &&& (7 : Int32))), .val (.int p1), .val (.ref av), .unset] [(.int p1)]))
                    refine Go.callS X50 hx hZ hown (hw _ (List.mem_of_getElem? (i := 3) rfl)) (hw _ (List.mem_of_getElem? (i := 4) rfl)) (hw _ (List.mem_of_getElem? (i := 1) rfl)) (hw _ (List.mem_of_getElem? (i := 5) rfl)) (by decide) e50 [(.int p1)] [] 0 (rm_rej l Z a0 hw p1 av ac h0 n0 S_av S_ac) (by decide) (by decide) (by decide) (by decide) (by rw [hml]; rfl) (lenOf own_pd0 rfl) rfl (Nat.le_of_eq rfl) (hb hby at_162) ?_
                    intro T51 v51 L51 X51 hQ51
                    obtain ⟨rfl, rfl, e51⟩ := hQ51
                    have N51 := Fr.app N0 (Fr.nil n0)
                    show Go p e below s _ _ _ (T51.setTop (mkF m 165 #[.val (.int p1), .val (.int p2), .val (.int (p2 &&& (7 : Int32))), .val (.int p1), .val (.ref av), .unset] [(.ref (own_rej p1 av ac))]))
                    refine Go.step (fun t kk => XS.astore X51.here hx rfl (hb hby at_165) rfl rfl (l' := #[.val (.int p1), .val (.int p2), .val (.int (p2 &&& (7 : Int32))), .val (.int p1), .val (.ref av), .val (.ref (own_rej p1 av ac))]) rfl kk) ?_
                    show Go p e below s _ _ _ (T51.setTop (mkF m 167 #[.val (.int p1), .val (.int p2), .val (.int (p2 &&& (7 : Int32))), .val (.int p1), .val (.ref av), .val (.ref (own_rej p1 av ac))] []))
                    refine Go.step (fun t kk => XS.aload X51.here hx rfl (hb hby at_167) rfl rfl kk) ?_
                    show Go p e below s _ _ _ (T51.setTop (mkF m 169 #[.val (.int p1), .val (.int p2), .val (.int (p2 &&& (7 : Int32))), .val (.int p1), .val (.ref av), .val (.ref (own_rej p1 av ac))] [(.ref (own_rej p1 av ac))]))
                    refine Go.step (fun t kk => XS.aload X51.here hx rfl (hb hby at_169) rfl rfl kk) ?_
                    show Go p e below s _ _ _ (T51.setTop (mkF m 171 #[.val (.int p1), .val (.int p2), .val (.int (p2 &&& (7 : Int32))), .val (.int p1), .val (.ref av), .val (.ref (own_rej p1 av ac))] [(.ref av), (.ref (own_rej p1 av ac))]))
                    have hc171_52 : (own_rej p1 av ac) = av := by first | rfl | (simp [own_rej, hc130_43, hc145_49]; done)
                    refine Go.step (fun t kk => acmp X51 hx rfl (cd := .ne) (x := (.ref (own_rej p1 av ac))) (y := (.ref av)) rfl rfl (pc0 := 171) (pc' := 174) (same := true) rfl (hb hby at_171) rfl (own_decT (congrArg Value.ref hc171_52)) (by decide) (by decide) kk) ?_
                    show Go p e below s _ _ _ (T51.setTop (mkF m 174 #[.val (.int p1), .val (.int p2), .val (.int (p2 &&& (7 : Int32))), .val (.int p1), .val (.ref av), .val (.ref (own_rej p1 av ac))] []))
                    refine Go.step (fun t kk => XS.aload X51.here hx rfl (hb hby at_174) rfl rfl kk) ?_
                    show Go p e below s _ _ _ (T51.setTop (mkF m 176 #[.val (.int p1), .val (.int p2), .val (.int (p2 &&& (7 : Int32))), .val (.int p1), .val (.ref av), .val (.ref (own_rej p1 av ac))] [(.ref (own_rej p1 av ac))]))
                    obtain ⟨T53, X53, e53, st53⟩ := getS (host := "") X51 hx hZ hown (hw _ (List.mem_of_getElem? (i := 7) rfl)) Via.refl e51 S_ar (g := (mkF m 176 #[.val (.int p1), .val (.int p2), .val (.int (p2 &&& (7 : Int32))), .val (.int p1), .val (.ref av), .val (.ref (own_rej p1 av ac))] [(.ref (own_rej p1 av ac))])) rfl (hb hby at_176)
                    refine Go.step st53 ?_
                    show Go p e below s _ _ _ (T53.setTop (mkF m 179 #[.val (.int p1), .val (.int p2), .val (.int (p2 &&& (7 : Int32))), .val (.int p1), .val (.ref av), .val (.ref (own_rej p1 av ac))] [(.ref ar), (.ref (own_rej p1 av ac))]))
                    have hc179_54 : ¬ ((own_rej p1 av ac) = ar) := own_rej_ne n1 n2
                    refine Go.step (fun t kk => acmp X53 hx rfl (cd := .eq) (x := (.ref (own_rej p1 av ac))) (y := (.ref ar)) rfl rfl (pc0 := 179) (pc' := 182) (same := false) rfl (hb hby at_179) rfl (own_decF (fun q => hc179_54 (Value.ref.inj q))) (by decide) (by decide) kk) ?_
                    show Go p e below s _ _ _ (T53.setTop (mkF m 182 #[.val (.int p1), .val (.int p2), .val (.int (p2 &&& (7 : Int32))), .val (.int p1), .val (.ref av), .val (.ref (own_rej p1 av ac))] []))
                    refine Go.step (fun t kk => XS.iconst X53.here hx rfl (hb hby at_182) kk) ?_
                    show Go p e below s _ _ _ (T53.setTop (mkF m 183 #[.val (.int p1), .val (.int p2), .val (.int (p2 &&& (7 : Int32))), .val (.int p1), .val (.ref av), .val (.ref (own_rej p1 av ac))] [(.int (1 : Int32))]))
                    refine Go.step (fun t kk => XS.goto X53.here hx rfl (pc0 := 183) (pc' := 187) rfl (hb hby at_183) (by decide) (by decide) kk) ?_
                    show Go p e below s _ _ _ (T53.setTop (mkF m 187 #[.val (.int p1), .val (.int p2), .val (.int (p2 &&& (7 : Int32))), .val (.int p1), .val (.ref av), .val (.ref (own_rej p1 av ac))] [(.int (1 : Int32))]))
                    exact Go.retN X53 hx hlk (t := .boolean) hret (by simp) (hb hby at_187) (show _ ∧ _ from ⟨rfl, N51⟩) (by decide) (by decide)
                  · refine Go.step (fun t kk => XS.icmpYes X0.here hx rfl (pc0 := 145) (pc' := 156) rfl (hb hby at_145) rfl (feq hc145_49).2 (by decide) (by decide) kk) ?_
                    show Go p e below s _ _ _ (T0.setTop (mkF m 156 #[.val (.int p1), .val (.int p2), .val (.int (p2 &&& (7 : Int32))), .val (.int p1), .unset, .unset] []))
                    obtain ⟨T55, X55, e55, st55⟩ := getS (host := "") X0 hx hZ hown (hw _ (List.mem_of_getElem? (i := 0) rfl)) Via.refl e0 S_ac (g := (mkF m 156 #[.val (.int p1), .val (.int p2), .val (.int (p2 &&& (7 : Int32))), .val (.int p1), .unset, .unset] [])) rfl (hb hby at_156)
                    refine Go.step st55 ?_
                    show Go p e below s _ _ _ (T55.setTop (mkF m 159 #[.val (.int p1), .val (.int p2), .val (.int (p2 &&& (7 : Int32))), .val (.int p1), .unset, .unset] [(.ref ac)]))
                    refine Go.step (fun t kk => XS.astore X55.here hx rfl (hb hby at_159) rfl rfl (l' := #[.val (.int p1), .val (.int p2), .val (.int (p2 &&& (7 : Int32))), .val (.int p1), .val (.ref ac), .unset]) rfl kk) ?_
                    show Go p e below s _ _ _ (T55.setTop (mkF m 161 #[.val (.int p1), .val (.int p2), .val (.int (p2 &&& (7 : Int32))), .val (.int p1), .val (.ref ac), .unset] []))
                    refine Go.step (fun t kk => XS.iloadN X55.here hx rfl (hb hby at_161) rfl kk) ?_
                    show Go p e below s _ _ _ (T55.setTop (mkF m 162 #[.val (.int p1), .val (.int p2), .val (.int (p2 &&& (7 : Int32))), .val (.int p1), .val (.ref ac), .unset] [(.int p1)]))
                    refine Go.callS X55 hx hZ hown (hw _ (List.mem_of_getElem? (i := 3) rfl)) (hw _ (List.mem_of_getElem? (i := 4) rfl)) (hw _ (List.mem_of_getElem? (i := 1) rfl)) (hw _ (List.mem_of_getElem? (i := 5) rfl)) (by decide) e55 [(.int p1)] [] 0 (rm_rej l Z a0 hw p1 av ac h0 n0 S_av S_ac) (by decide) (by decide) (by decide) (by decide) (by rw [hml]; rfl) (lenOf own_pd0 rfl) rfl (Nat.le_of_eq rfl) (hb hby at_162) ?_
                    intro T56 v56 L56 X56 hQ56
                    obtain ⟨rfl, rfl, e56⟩ := hQ56
                    have N56 := Fr.app N0 (Fr.nil n0)
                    show Go p e below s _ _ _ (T56.setTop (mkF m 165 #[.val (.int p1), .val (.int p2), .val (.int (p2 &&& (7 : Int32))), .val (.int p1), .val (.ref ac), .unset] [(.ref (own_rej p1 av ac))]))
                    refine Go.step (fun t kk => XS.astore X56.here hx rfl (hb hby at_165) rfl rfl (l' := #[.val (.int p1), .val (.int p2), .val (.int (p2 &&& (7 : Int32))), .val (.int p1), .val (.ref ac), .val (.ref (own_rej p1 av ac))]) rfl kk) ?_
                    show Go p e below s _ _ _ (T56.setTop (mkF m 167 #[.val (.int p1), .val (.int p2), .val (.int (p2 &&& (7 : Int32))), .val (.int p1), .val (.ref ac), .val (.ref (own_rej p1 av ac))] []))
                    refine Go.step (fun t kk => XS.aload X56.here hx rfl (hb hby at_167) rfl rfl kk) ?_
                    show Go p e below s _ _ _ (T56.setTop (mkF m 169 #[.val (.int p1), .val (.int p2), .val (.int (p2 &&& (7 : Int32))), .val (.int p1), .val (.ref ac), .val (.ref (own_rej p1 av ac))] [(.ref (own_rej p1 av ac))]))
                    refine Go.step (fun t kk => XS.aload X56.here hx rfl (hb hby at_169) rfl rfl kk) ?_
                    show Go p e below s _ _ _ (T56.setTop (mkF m 171 #[.val (.int p1), .val (.int p2), .val (.int (p2 &&& (7 : Int32))), .val (.int p1), .val (.ref ac), .val (.ref (own_rej p1 av ac))] [(.ref ac), (.ref (own_rej p1 av ac))]))
                    have hc171_57 : (own_rej p1 av ac) = ac := by first | rfl | (simp [own_rej, hc130_43, hc145_49]; done)
                    refine Go.step (fun t kk => acmp X56 hx rfl (cd := .ne) (x := (.ref (own_rej p1 av ac))) (y := (.ref ac)) rfl rfl (pc0 := 171) (pc' := 174) (same := true) rfl (hb hby at_171) rfl (own_decT (congrArg Value.ref hc171_57)) (by decide) (by decide) kk) ?_
                    show Go p e below s _ _ _ (T56.setTop (mkF m 174 #[.val (.int p1), .val (.int p2), .val (.int (p2 &&& (7 : Int32))), .val (.int p1), .val (.ref ac), .val (.ref (own_rej p1 av ac))] []))
                    refine Go.step (fun t kk => XS.aload X56.here hx rfl (hb hby at_174) rfl rfl kk) ?_
                    show Go p e below s _ _ _ (T56.setTop (mkF m 176 #[.val (.int p1), .val (.int p2), .val (.int (p2 &&& (7 : Int32))), .val (.int p1), .val (.ref ac), .val (.ref (own_rej p1 av ac))] [(.ref (own_rej p1 av ac))]))
                    obtain ⟨T58, X58, e58, st58⟩ := getS (host := "") X56 hx hZ hown (hw _ (List.mem_of_getElem? (i := 7) rfl)) Via.refl e56 S_ar (g := (mkF m 176 #[.val (.int p1), .val (.int p2), .val (.int (p2 &&& (7 : Int32))), .val (.int p1), .val (.ref ac), .val (.ref (own_rej p1 av ac))] [(.ref (own_rej p1 av ac))])) rfl (hb hby at_176)
                    refine Go.step st58 ?_
                    show Go p e below s _ _ _ (T58.setTop (mkF m 179 #[.val (.int p1), .val (.int p2), .val (.int (p2 &&& (7 : Int32))), .val (.int p1), .val (.ref ac), .val (.ref (own_rej p1 av ac))] [(.ref ar), (.ref (own_rej p1 av ac))]))
                    have hc179_59 : ¬ ((own_rej p1 av ac) = ar) := own_rej_ne n1 n2
                    refine Go.step (fun t kk => acmp X58 hx rfl (cd := .eq) (x := (.ref (own_rej p1 av ac))) (y := (.ref ar)) rfl rfl (pc0 := 179) (pc' := 182) (same := false) rfl (hb hby at_179) rfl (own_decF (fun q => hc179_59 (Value.ref.inj q))) (by decide) (by decide) kk) ?_
                    show Go p e below s _ _ _ (T58.setTop (mkF m 182 #[.val (.int p1), .val (.int p2), .val (.int (p2 &&& (7 : Int32))), .val (.int p1), .val (.ref ac), .val (.ref (own_rej p1 av ac))] []))
                    refine Go.step (fun t kk => XS.iconst X58.here hx rfl (hb hby at_182) kk) ?_
                    show Go p e below s _ _ _ (T58.setTop (mkF m 183 #[.val (.int p1), .val (.int p2), .val (.int (p2 &&& (7 : Int32))), .val (.int p1), .val (.ref ac), .val (.ref (own_rej p1 av ac))] [(.int (1 : Int32))]))
                    refine Go.step (fun t kk => XS.goto X58.here hx rfl (pc0 := 183) (pc' := 187) rfl (hb hby at_183) (by decide) (by decide) kk) ?_
                    show Go p e below s _ _ _ (T58.setTop (mkF m 187 #[.val (.int p1), .val (.int p2), .val (.int (p2 &&& (7 : Int32))), .val (.int p1), .val (.ref ac), .val (.ref (own_rej p1 av ac))] [(.int (1 : Int32))]))
                    exact Go.retN X58 hx hlk (t := .boolean) hret (by simp) (hb hby at_187) (show _ ∧ _ from ⟨rfl, N56⟩) (by decide) (by decide)
set_option maxRecDepth 65536 in
set_option maxHeartbeats 40000000 in
theorem comes_1 {Post : Tables → Env → Array Value → State → Outcome → State → Prop} (hpost : ∀ tb e args s v u, (limb_1_1.after args s (.returned v) u = true ∧ limb_1_2.after args s (.returned v) u = true ∧ True) → FrameEnd s (.returned v) u (Jvm.fieldLocs frame_1_writes args s ++ Jvm.arrayLocs frame_1_arrays args s ++ Jvm.staticLocs frame_1_statics s) 0 0 → Post tb e args s (.returned v) u) :
    ArmFor flags0 classFile x code maxLocals ret World_1 tables_1 room_1 Calls_1 rest_1 Pre_1 Post := by
  intro l hfl _ _ p e ha hc hk s m args below hf hA hF happ hP
  obtain ⟨hcalls, hrest, hpre⟩ := hP
  obtain ⟨-, -, -, hnamed, -, -, -, hat⟩ := (Spec.applies_iff hf).mp happ
  obtain ⟨hg, hn⟩ := and_e (Cond.before_iff.mp (show (Jvm.Cond.and given_1 narrow_1).before args s = true from hpre))
  obtain ⟨hcount, r0⟩ := and_e hg
  obtain ⟨g0, r1⟩ := and_e r0
  have g1 := r1
  obtain ⟨w0, w1, rfl⟩ : ∃ w0 w1 : Value, args = #[w0, w1] := by
    have hs : args.size = 2 := by simpa [Cond.value, given_1] using hcount
    obtain ⟨L⟩ := args
    match L, hs with
    | [w0, w1], _ => exact ⟨w0, w1, rfl⟩
  have hw := fun d (hd : d ∈ tables_1) => atoms_spec (ws := Jvm.Cond.code x code maxLocals ret :: tables_1) hat d (List.mem_cons_of_mem _ hd)
  obtain ⟨i0, ea0⟩ := is_v g0
  obtain rfl : w0 = (.int i0) := Option.some.inj ea0
  obtain ⟨i1, ea1⟩ := is_v g1
  obtain rfl : w1 = (.int i1) := Option.some.inj ea1
  obtain ⟨q0, t0⟩ := and_e hn
  obtain ⟨q1, t1⟩ := and_e t0
  obtain ⟨q2, t2⟩ := and_e t1
  obtain ⟨q3, t3⟩ := and_e t2
  obtain ⟨q4, t4⟩ := and_e t3
  have q5 := t4
  obtain ⟨ac, ev_ac⟩ := exa_v q0
  have E_ac := Exa.start ev_ac q0
  have S_ac := Sta.start ev_ac (Or.inr ⟨(hw _ (List.mem_of_getElem? (i := 1) rfl)), (hw _ (List.mem_of_getElem? (i := 2) rfl))⟩)
  obtain ⟨ar, ev_ar⟩ := exa_v q1
  have E_ar := Exa.start ev_ar q1
  have S_ar := Sta.start ev_ar (Or.inr ⟨(hw _ (List.mem_of_getElem? (i := 1) rfl)), (hw _ (List.mem_of_getElem? (i := 8) rfl))⟩)
  obtain ⟨av, ev_av⟩ := exa_v q4
  have E_av := Exa.start ev_av q4
  have S_av := Sta.start ev_av (Or.inr ⟨(hw _ (List.mem_of_getElem? (i := 1) rfl)), (hw _ (List.mem_of_getElem? (i := 10) rfl))⟩)
  have F_ac_ordinal := own_fldI ev_ac q2
  have F_ar_ordinal := own_fldI ev_ar q3
  have F_av_ordinal := own_fldI ev_av q5
  obtain ⟨n, o, h1, h2, h3, _, L, rfl, ⟨rfl, N⟩, hq⟩ := rm_law l s _ hw i0 i1 av ac ar s.heap s.heap.size S_av S_ac S_ar F_av_ordinal F_ac_ordinal F_ar_ordinal tables_1 p e ha hc hk s m _ below hf ((Spec.applies_iff_loose hf).mp happ).1 ⟨rfl, State.Warmed39.refl s, rfl⟩ trivial
  refine ⟨n, _, h1, h2, h3, hpost _ _ _ _ _ _ ⟨Cond.after_iff.mpr rfl, Cond.after_iff.mpr (eq_i res_at (Term.int_eval (1)) rfl), trivial⟩ ⟨hq.1, hq.2.1, (hq.2.2.sift fun y hy => Or.inr (N y hy)).mono (by decide) (by decide)⟩⟩
theorem main_1_1 : Claimed_1_1 := comes_1 fun _ _ _ _ _ _ h hF => ⟨h.1, hF⟩
theorem main_1_2 : Claimed_1_2 := comes_1 fun _ _ _ _ _ _ h hF => ⟨h.2.1, hF⟩
end Jvm.Pilot.@@N@@
namespace Jvm.Pilot.@@N@@
open Jvm Jvm.ClassFile Sem Op Lib Jvm.Free Jvm.Stand Jvm.Pilot.@@N@@.Jvm.D
/-! MADE BY PROGRAM (witnessworld.py) out of the Statement's table words and the real class files: 12 classes; the members and pool entries that the words name. The judged class is class 1, her method 1. -/
namespace start1
open Jvm.ClassFile
def u (s : String) : CpInfo := .utf8 (stringToUtf16 s)
/-- a pool by its gaps: so many unusable entries, then the entry; so many at the end -/
def gap : Nat → List CpInfo → List CpInfo
  | 0, r => r
  | n + 1, r => .unusable :: gap n r
def poolList (es : List (Nat × CpInfo)) (last : Nat) : List CpInfo := es.foldr (fun e r => gap e.1 (e.2 :: r)) (gap last [])
def pool (es : List (Nat × CpInfo)) (last : Nat) : Array CpInfo := ⟨poolList es last⟩
def fileOf (pool : Array CpInfo) (this : Nat) (attrs : Array Attribute := #[]) (ms : Array MethodInfo := #[]) (fl : Nat := 33) (sup : Nat := 0) (ifs : Array Nat := #[]) (fds : Array FieldInfo := #[]) : ClassFile where
  minorVersion := 0
  majorVersion := 65
  constantPool := pool
  accessFlags := fl
  thisClass := this
  superClass := sup
  interfaces := ifs
  fields := fds
  methods := ms
  attributes := attrs
def plain (name : String) (sup : Option ClassId) : Class where
  name := name
  kind := .ordinary
  loader := none
  accessFlags := 33
  super := sup
  interfaces := #[]
  cf := none
  fields := #[]
  methods := #[]
  instanceTypes := #[]
  staticTypes := #[]
  resolved := #[]
  callSites := []
  init := .initialized
  statics := none
  mirror := none

def pool0 : Array CpInfo := pool [(5, u "<init>"), (0, u "()V"), (1, .class_ 10), (1, u "java/lang/Object")] 113

def k0m0 : Method := { name := "<init>", desc := "()V", sig := { parameters := [], returnType := none }, accessFlags := 1, code := none }
/-- java/lang/Object -/
def k0 : Class := { plain "java/lang/Object" none with
  accessFlags := 33
  interfaces := #[]
  cf := some (fileOf pool0 8 #[] #[{ accessFlags := 1, nameIndex := 5, descriptorIndex := 6, attributes := #[] }] 33 0 #[] #[])
  fields := #[]
  methods := #[k0m0]
  instanceTypes := #[]
  staticTypes := #[]
  resolved := Array.replicate 124 none
  statics := none }

def pool1 : Array CpInfo := pool [(2, .class_ 4), (1, u "java/lang/Object"), (0, u "<init>"), (0, u "()V"), (0, .fieldref 8 9), (0, .class_ 10), (0, .nameAndType 11 12), (0, u "com/example/watchful_relay/watchfulrelay/model/DeadLetterReason"), (0, u "VALIDATION_FAILED"), (0, u "Lcom/example/watchful_relay/watchfulrelay/model/DeadLetterReason;"), (0, .fieldref 8 14), (0, .nameAndType 15 12), (0, u "CONTRACT_MISMATCH"), (0, .methodref 8 17), (0, .nameAndType 18 19), (0, u "ofRejection"), (0, u "(I)Lcom/example/watchful_relay/watchfulrelay/model/DeadLetterReason;"), (0, .fieldref 8 21), (0, .nameAndType 22 12), (0, u "RETRY_EXHAUSTED"), (0, .class_ 24), (0, u "com/example/watchful_relay/watchfulrelay/model/DeadLetterReasonOfRejectionPinLaw"), (2, u "law"), (0, u "(II)Z")] 3

def k1m0 : Method := { name := "<init>", desc := "()V", sig := { parameters := [], returnType := none }, accessFlags := 1, code := none }
def k1c1 : Code := { maxStack := 2, maxLocals := 6, code := code, exceptionTable := #[], attributes := #[] }
def k1m1 : Method := { name := "law", desc := "(II)Z", sig := { parameters := [.int, .int], returnType := some .boolean }, accessFlags := 9, code := some k1c1 }
/-- com/example/watchful_relay/watchfulrelay/model/DeadLetterReasonOfRejectionPinLaw -/
def k1 : Class := { plain "com/example/watchful_relay/watchfulrelay/model/DeadLetterReasonOfRejectionPinLaw" (some 0) with
  accessFlags := 49
  interfaces := #[]
  cf := some (fileOf pool1 23 #[] #[{ accessFlags := 1, nameIndex := 5, descriptorIndex := 6, attributes := #[] }, { accessFlags := 9, nameIndex := 27, descriptorIndex := 28, attributes := #[] }] 49 2 #[] #[])
  fields := #[]
  methods := #[k1m0, k1m1]
  instanceTypes := #[]
  staticTypes := #[]
  resolved := Array.replicate 32 none
  statics := none }

def pool2 : Array CpInfo := pool [(1, .class_ 2), (0, u "java/lang/constant/Constable"), (0, .class_ 4), (0, u "java/lang/Object")] 6

/-- java/lang/constant/Constable -/
def k2 : Class := { plain "java/lang/constant/Constable" (some 0) with
  accessFlags := 1537
  interfaces := #[]
  cf := some (fileOf pool2 1 #[] #[] 1537 3 #[] #[])
  fields := #[]
  methods := #[]
  instanceTypes := #[]
  staticTypes := #[]
  resolved := Array.replicate 11 none
  statics := none }

def pool3 : Array CpInfo := pool [(1, .class_ 2), (0, u "java/lang/Comparable"), (0, .class_ 4), (0, u "java/lang/Object")] 7

/-- java/lang/Comparable -/
def k3 : Class := { plain "java/lang/Comparable" (some 0) with
  accessFlags := 1537
  interfaces := #[]
  cf := some (fileOf pool3 1 #[] #[] 1537 3 #[] #[])
  fields := #[]
  methods := #[]
  instanceTypes := #[]
  staticTypes := #[]
  resolved := Array.replicate 12 none
  statics := none }

def pool4 : Array CpInfo := pool [(1, .class_ 2), (0, u "java/io/Serializable"), (0, .class_ 4), (0, u "java/lang/Object")] 2

/-- java/io/Serializable -/
def k4 : Class := { plain "java/io/Serializable" (some 0) with
  accessFlags := 1537
  interfaces := #[]
  cf := some (fileOf pool4 1 #[] #[] 1537 3 #[] #[])
  fields := #[]
  methods := #[]
  instanceTypes := #[]
  staticTypes := #[]
  resolved := Array.replicate 7 none
  statics := none }

def pool5 : Array CpInfo := pool [(2, .class_ 4), (1, u "java/lang/Enum"), (0, u "name"), (0, u "Ljava/lang/String;"), (2, u "ordinal"), (0, u "I"), (1, .class_ 14), (1, u "java/lang/Object"), (4, u "hash"), (86, .class_ 108), (1, u "java/lang/Enum$EnumDesc"), (2, .class_ 112), (0, u "java/lang/constant/Constable"), (0, .class_ 114), (0, u "java/lang/Comparable"), (0, .class_ 116), (0, u "java/io/Serializable")] 87

/-- java/lang/Enum -/
def k5 : Class := { plain "java/lang/Enum" (some 0) with
  accessFlags := 1057
  interfaces := #[2, 3, 4]
  cf := some (fileOf pool5 2 #[.nestMembers #[106]] #[] 1057 12 #[111, 113, 115] #[{ accessFlags := 18, nameIndex := 5, descriptorIndex := 6, attributes := #[] }, { accessFlags := 18, nameIndex := 9, descriptorIndex := 10, attributes := #[] }, { accessFlags := 2, nameIndex := 19, descriptorIndex := 10, attributes := #[] }])
  fields := #[{ name := "name", type := (.object "java/lang/String"), accessFlags := 18, slot := 0, constantValue := 0 }, { name := "ordinal", type := .int, accessFlags := 18, slot := 1, constantValue := 0 }, { name := "hash", type := .int, accessFlags := 2, slot := 2, constantValue := 0 }]
  methods := #[]
  instanceTypes := #[(.object "java/lang/String"), .int, .int]
  staticTypes := #[]
  resolved := Array.replicate 204 none
  statics := none }

def pool6 : Array CpInfo := pool [(1, .class_ 2), (0, u "com/example/watchful_relay/watchfulrelay/model/DeadLetterReason"), (0, .fieldref 1 4), (0, .nameAndType 5 6), (0, u "VALIDATION_FAILED"), (0, u "Lcom/example/watchful_relay/watchfulrelay/model/DeadLetterReason;"), (0, .fieldref 1 8), (0, .nameAndType 9 6), (0, u "CONTRACT_MISMATCH"), (2, u "RETRY_EXHAUSTED"), (2, u "$VALUES"), (0, u "[Lcom/example/watchful_relay/watchfulrelay/model/DeadLetterReason;"), (6, .class_ 25), (1, u "java/lang/Enum"), (21, u "ofRejection"), (0, u "(I)Lcom/example/watchful_relay/watchfulrelay/model/DeadLetterReason;")] 5

def k6c0 : Code := { maxStack := 2, maxLocals := 1, code := prog_12_method_4_code, exceptionTable := #[], attributes := #[] }
def k6m0 : Method := { name := "ofRejection", desc := "(I)Lcom/example/watchful_relay/watchfulrelay/model/DeadLetterReason;", sig := { parameters := [.int], returnType := some (.object "com/example/watchful_relay/watchfulrelay/model/DeadLetterReason") }, accessFlags := 8, code := some k6c0 }
/-- com/example/watchful_relay/watchfulrelay/model/DeadLetterReason -/
def k6 : Class := { plain "com/example/watchful_relay/watchfulrelay/model/DeadLetterReason" (some 5) with
  accessFlags := 16433
  interfaces := #[]
  cf := some (fileOf pool6 1 #[] #[{ accessFlags := 8, nameIndex := 47, descriptorIndex := 48, attributes := #[] }] 16433 23 #[] #[{ accessFlags := 16409, nameIndex := 5, descriptorIndex := 6, attributes := #[] }, { accessFlags := 16409, nameIndex := 9, descriptorIndex := 6, attributes := #[] }, { accessFlags := 16409, nameIndex := 12, descriptorIndex := 6, attributes := #[] }, { accessFlags := 4122, nameIndex := 15, descriptorIndex := 16, attributes := #[] }])
  fields := #[{ name := "VALIDATION_FAILED", type := (.object "com/example/watchful_relay/watchfulrelay/model/DeadLetterReason"), accessFlags := 16409, slot := 0, constantValue := 0 }, { name := "CONTRACT_MISMATCH", type := (.object "com/example/watchful_relay/watchfulrelay/model/DeadLetterReason"), accessFlags := 16409, slot := 1, constantValue := 0 }, { name := "RETRY_EXHAUSTED", type := (.object "com/example/watchful_relay/watchfulrelay/model/DeadLetterReason"), accessFlags := 16409, slot := 2, constantValue := 0 }, { name := "$VALUES", type := (.array (.object "com/example/watchful_relay/watchfulrelay/model/DeadLetterReason")), accessFlags := 4122, slot := 3, constantValue := 0 }]
  methods := #[k6m0]
  instanceTypes := #[(.object "java/lang/String"), .int, .int]
  staticTypes := #[(.object "com/example/watchful_relay/watchfulrelay/model/DeadLetterReason"), (.object "com/example/watchful_relay/watchfulrelay/model/DeadLetterReason"), (.object "com/example/watchful_relay/watchfulrelay/model/DeadLetterReason"), (.array (.object "com/example/watchful_relay/watchfulrelay/model/DeadLetterReason"))]
  resolved := Array.replicate 54 none
  statics := some 0 }

def pool7 : Array CpInfo := pool [(1, u "java/lang/Cloneable"), (0, .class_ 1), (0, u "java/lang/Object"), (0, .class_ 3)] 3

/-- java/lang/Cloneable -/
def k7 : Class := { plain "java/lang/Cloneable" (some 0) with
  accessFlags := 1537
  interfaces := #[]
  cf := some (fileOf pool7 2 #[] #[] 1537 4 #[] #[])
  fields := #[]
  methods := #[]
  instanceTypes := #[]
  staticTypes := #[]
  resolved := Array.replicate 8 none
  statics := none }

/-- the primitive byte -/
def k8 : Class := { plain "byte" none with kind := .primitive 'B', accessFlags := 0x411 }
/-- [B -/
def k9 : Class := { plain "[B" (some 0) with kind := .array 8 .byte, interfaces := #[7, 4], accessFlags := 1041 }

/-- the primitive int -/
def k10 : Class := { plain "int" none with kind := .primitive 'I', accessFlags := 0x411 }
/-- [I -/
def k11 : Class := { plain "[I" (some 0) with kind := .array 10 .int, interfaces := #[7, 4], accessFlags := 1041 }

def heap : Heap := #[{ cls := 6, slots := #[.ref 1, .ref 2, .ref 3, .null], vm := .statics 6 },
  { cls := 6, slots := #[.null, .int 0, .int 0], vm := .none },
  { cls := 6, slots := #[.null, .int 1, .int 0], vm := .none },
  { cls := 6, slots := #[.null, .int 2, .int 0], vm := .none }]
def classes : Array Class := #[k0, k1, k2, k3, k4, k5, k6, k7, k8, k9, k10, k11]
def interned : List (Array UInt16 × Addr) := []
def slotsUsed : Nat := 13
def theMethod : MethodId := ⟨1, 1⟩
def args0 : Array Value := #[.int 5, .int 3]
def aboutOver (below : List Frame) : State where
  vm := { classes := classes, interned := interned.toArray }
  heap := heap
  slotsUsed := slotsUsed
  threads := #[{ frames := .invoking theMethod args0 :: below }]
def below0 : List Frame := [.native { method := ⟨0, 0⟩, args := #[] }]
def about1 : State := aboutOver below0
def p0 : Program := .bare "" "" ""
def e0 : Env := launch0.env 0 0 0
theorem w_frames : about1.frames = Frame.invoking theMethod args0 :: below0 := rfl
set_option maxRecDepth 65536 in
theorem w_args : argsFit about1.vm theMethod args0 = true := by decide +kernel
set_option maxRecDepth 65536 in
theorem w_heap : heapFits about1 = true := by decide +kernel
set_option maxRecDepth 65536 in
theorem w_runnable : about1.curStatus? = some .runnable := by decide +kernel
set_option maxRecDepth 65536 in
theorem w_alone : about1.alone = true := by decide +kernel
set_option maxRecDepth 65536 in
theorem w_named : about1.methodNamed? x = some theMethod := by decide +kernel
set_option maxRecDepth 65536 in
theorem w_hears : about1.hears theMethod below0 = true := by decide +kernel
set_option maxRecDepth 65536 in
theorem w_ripe : about1.ripe theMethod args0 below0 = true := by decide +kernel
theorem w_running : about1.status = .running := rfl
set_option maxRecDepth 65536 in
theorem w_room : about1.hasRoom e0.platform room_1 = true :=
  launch0.hasRoom_least _ room_1 (by decide +kernel) (by decide +kernel) (by decide +kernel) (by decide +kernel) (by decide +kernel) (by decide +kernel)
theorem allAtoms_all (ts : List Jvm.Cond) (a : Array Jvm.Value) (st : Jvm.State) : (allAtoms ts).before a st = ts.all (fun c => c.before a st) := by
  induction ts with
  | nil => rfl
  | cons c t ih =>
    show (Jvm.Cond.and c (allAtoms t)).before a st = _
    rw [Jvm.Cond.before_and, ih, List.all_cons]
def words1 : List Jvm.Cond := Jvm.Cond.code x code maxLocals ret :: tables_1
/-- a 'code' word, met by the world's own term for the bytes: nothing is compared byte by byte -/
theorem code_word {y : MethodName} {bytes : ByteArray} {mx : Nat} {rt : Option FieldType} {a : Array Value} {s : State} {m : MethodId} {meth : Method} {c : Code} (h1 : s.methodNamed? y = some m) (h2 : s.vm.method? m = some meth) (h3 : meth.code = some c) (h4 : c.code = bytes)
    (h5 : (c.maxLocals == mx && c.exceptionTable.isEmpty && decide (c.maxStack ≤ mostOperands) && decide (meth.sig.returnType = rt) && !meth.locks && decide (parseMethodDescriptor y.desc = some meth.sig)) = true) : (Jvm.Cond.code y bytes mx rt).before a s = true := by
  simp only [Bool.and_eq_true, beq_iff_eq, Bool.not_eq_true', decide_eq_true_eq] at h5
  obtain ⟨⟨⟨⟨⟨g1, g2⟩, g3⟩, g4⟩, g5⟩, g6⟩ := h5
  simp [Cond.before, Cond.holds, Cond.value, h1, h2, h3, h4, g1, g2, g3, g4, g5, g6]
def isCode : Jvm.Cond → Bool
  | .code _ _ _ _ => true
  | _ => false
theorem all_split {L : List Jvm.Cond} {P : Jvm.Cond → Bool} (h1 : L.all (fun c => isCode c || P c) = true) (h2 : ∀ c ∈ L.filter isCode, P c = true) : L.all P = true := by
  refine List.all_eq_true.mpr fun c hc => ?_
  have h := List.all_eq_true.mp h1 c hc
  rcases Bool.eq_false_or_eq_true (isCode c) with hi | hi
  · exact h2 c (List.mem_filter.mpr ⟨hc, hi⟩)
  · simpa [hi] using h
set_option maxRecDepth 65536 in
theorem w_c0 : (Jvm.Cond.code x code maxLocals ret).before args0 about1 = true := code_word (m := ⟨1, 1⟩) (meth := k1m1) (c := k1c1) (by decide +kernel) rfl rfl rfl (by decide +kernel)
set_option maxRecDepth 65536 in
theorem w_c1 : (Jvm.Cond.code ({ cls := "com/example/watchful_relay/watchfulrelay/model/DeadLetterReason", name := "ofRejection", desc := "(I)Lcom/example/watchful_relay/watchfulrelay/model/DeadLetterReason;" } : Jvm.MethodName) prog_12_method_4_code (1 : Nat) (Option.some (Jvm.ClassFile.FieldType.object "com/example/watchful_relay/watchfulrelay/model/DeadLetterReason"))).before args0 about1 = true := code_word (m := ⟨6, 0⟩) (meth := k6m0) (c := k6c0) (by decide +kernel) rfl rfl rfl (by decide +kernel)
def codes1 : List Jvm.Cond := [Jvm.Cond.code x code maxLocals ret, Jvm.Cond.code ({ cls := "com/example/watchful_relay/watchfulrelay/model/DeadLetterReason", name := "ofRejection", desc := "(I)Lcom/example/watchful_relay/watchfulrelay/model/DeadLetterReason;" } : Jvm.MethodName) prog_12_method_4_code (1 : Nat) (Option.some (Jvm.ClassFile.FieldType.object "com/example/watchful_relay/watchfulrelay/model/DeadLetterReason"))]
set_option maxRecDepth 65536 in
theorem codes_eq : words1.filter isCode = codes1 := rfl
theorem w_codes : ∀ c ∈ words1.filter isCode, c.before args0 about1 = true := by
  rw [codes_eq]
  intro c hc
  simp only [codes1, List.mem_cons, List.not_mem_nil, or_false] at hc
  rcases hc with rfl | rfl
  · exact w_c0
  · exact w_c1
set_option maxRecDepth 65536 in
theorem w_t1 : words1.all (fun c => isCode c || c.before args0 about1) = true := by decide +kernel
theorem w_tables : (allAtoms (Jvm.Cond.code x code maxLocals ret :: tables_1)).before args0 about1 = true := by
  rw [allAtoms_all]
  show words1.all (fun c => c.before args0 about1) = true
  refine all_split ?_ w_codes
  rw [w_t1]
set_option maxRecDepth 65536 in
theorem w_case : (Jvm.Cond.and given_1 narrow_1).before args0 about1 = true := by decide +kernel
theorem w_applies : (headSpec (Jvm.Cond.code x code maxLocals ret :: tables_1) room_1).applies x e0.platform about1 = true :=
  (Spec.applies_iff w_frames).mpr ⟨w_running, w_runnable, w_alone, w_named, w_hears, w_ripe, w_room, w_tables⟩
theorem atStart : AtStart classFile x code maxLocals ret World_1 tables_1 room_1 Calls_1 rest_1 Pre_1 launch0 p0 e0 about1 theMethod args0 below0 :=
  ⟨lists_1, trivial, launch0.admits_env _ _ _, launch0.least_env, fairChoices_fair.cas, fairChoices_fair.clock, w_frames, w_args, w_heap, w_applies, trivial, trivial, w_case⟩
end start1
theorem witness_1 : WitnessClaimed_1 := ⟨start1.p0, start1.e0, start1.about1, start1.theMethod, start1.args0, start1.below0, start1.atStart⟩
end Jvm.Pilot.@@N@@
