import JvmDerived
import JvmDerived.Pilot.@@N@@Statement
import JvmDerived.Pilot.@@N@@Code
set_option linter.unusedVariables false
set_option linter.unusedSimpArgs false
namespace Jvm.Pilot.@@N@@
open Jvm Jvm.ClassFile Sem Op Lib Jvm.Free Jvm.Stand Jvm.LawKit Jvm.RoadKit Bundle Jvm.Pilot.@@N@@.Jvm.D
section OwnKit
variable {p : Program} {l : Launch} {e : Env} {R : Room} {s : State} {m : MethodId} {args : Array Value} {below : List Frame} {meth : Method} {c : Code} {T : State} {locs : List Loc} {cells slots : Nat} {Z : State} {a0 : Array Value} {h : Heap} {Q : Option Value → Heap → List Loc → Prop} {k n : Nat}
/-- from the state a the run comes to its end, and Q holds there -/
def Go (p : Program) (e : Env) (below : List Frame) (s : State) (Q : Option Value → Heap → List Loc → Prop) (k n : Nat) (a : State) : Prop :=
  ∃ t o, Steps p.tables e below a t ∧ t.status = .running ∧ Ended t below o ∧ ∃ v L, o = .returned v ∧ Q v t.heap L ∧ FrameEnd s o t L k n
theorem Go.step {a b : State} (st : ∀ t, Steps p.tables e below b t → Steps p.tables e below a t) (g : Go p e below s Q k n b) : Go p e below s Q k n a := by
  obtain ⟨t, o, h1, h2⟩ := g
  exact ⟨t, o, st t h1, h2⟩
theorem Go.out (X : Stand p l e R s m args below meth c T locs cells slots) (hx : p.tables.exec = Jvm.exec) (hlk : meth.locks = false) {pc : Nat} {Ls : Array Slot} {w : Value} {t : FieldType} {i : Instr} {rest : List Value} (hret : meth.sig.returnType = some t) (hn : narrow t w = w)
    (hi : (i = .ireturn ∧ (t = .int ∨ t = .boolean ∨ t = .byte ∨ t = .char ∨ t = .short) ∧ ∃ z, w = .int z) ∨ (i = .lreturn ∧ t = .long ∧ ∃ z, w = .long z) ∨ (i = .dreturn ∧ t = .double ∧ ∃ z, w = .double z) ∨ (i = .freturn ∧ t = .float ∧ ∃ z, w = .float z) ∨ (i = .areturn ∧ t.isReference = true ∧ w.isRef = true))
    (hd : decode c.code pc = .ok (i, 1)) (hq : Q (some w) T.heap locs) (hk : cells ≤ k) (hl : slots ≤ n) : Go p e below s Q k n (T.setTop (mkF m pc Ls (w :: rest))) := by
  obtain ⟨fs, hr, hrun, hended, hW, hsame⟩ := X.leave (v := some w) (fun h => by rw [hret] at h; cases h) hlk
  exact ⟨_, _, retOut X hx hret hn hi hd hr, hrun, hended, _, _, rfl, hq, ⟨_, rfl⟩, hW, hsame.mono hk hl⟩
theorem Go.retI (X : Stand p l e R s m args below meth c T locs cells slots) (hx : p.tables.exec = Jvm.exec) (hlk : meth.locks = false) {pc : Nat} {Ls : Array Slot} {z : Int32} {rest : List Value} (hret : meth.sig.returnType = some .int) (hd : decode c.code pc = .ok (.ireturn, 1)) (hq : Q (some (.int z)) T.heap locs) (hk : cells ≤ k) (hl : slots ≤ n) : Go p e below s Q k n (T.setTop (mkF m pc Ls (.int z :: rest))) :=
  Go.out X hx hlk hret rfl (Or.inl ⟨rfl, Or.inl rfl, z, rfl⟩) hd hq hk hl
theorem Go.retJ (X : Stand p l e R s m args below meth c T locs cells slots) (hx : p.tables.exec = Jvm.exec) (hlk : meth.locks = false) {pc : Nat} {Ls : Array Slot} {z : Int64} {rest : List Value} (hret : meth.sig.returnType = some .long) (hd : decode c.code pc = .ok (.lreturn, 1)) (hq : Q (some (.long z)) T.heap locs) (hk : cells ≤ k) (hl : slots ≤ n) : Go p e below s Q k n (T.setTop (mkF m pc Ls (.long z :: rest))) :=
  Go.out X hx hlk hret rfl (Or.inr (Or.inl ⟨rfl, rfl, z, rfl⟩)) hd hq hk hl
theorem own_narrow_ref {t : FieldType} {w : Value} (ht : t.isReference = true) : narrow t w = w := by cases t <;> first | (cases ht; done) | rfl | (cases w <;> rfl)
theorem Go.retA (X : Stand p l e R s m args below meth c T locs cells slots) (hx : p.tables.exec = Jvm.exec) (hlk : meth.locks = false) {pc : Nat} {Ls : Array Slot} {w : Value} {t : FieldType} {rest : List Value} (hret : meth.sig.returnType = some t) (ht : t.isReference = true) (hw : w.isRef = true) (hd : decode c.code pc = .ok (.areturn, 1)) (hq : Q (some w) T.heap locs) (hk : cells ≤ k) (hl : slots ≤ n) : Go p e below s Q k n (T.setTop (mkF m pc Ls (w :: rest))) :=
  Go.out X hx hlk hret (own_narrow_ref ht) (Or.inr (Or.inr (Or.inr (Or.inr ⟨rfl, ht, hw⟩)))) hd hq hk hl
theorem Go.retN (X : Stand p l e R s m args below meth c T locs cells slots) (hx : p.tables.exec = Jvm.exec) (hlk : meth.locks = false) {pc : Nat} {Ls : Array Slot} {z : Int32} {t : FieldType} {rest : List Value} (hret : meth.sig.returnType = some t) (ht : t = .boolean ∨ t = .byte ∨ t = .char ∨ t = .short) (hd : decode c.code pc = .ok (.ireturn, 1)) (hq : Q (some (.int (nar t z))) T.heap locs) (hk : cells ≤ k) (hl : slots ≤ n) : Go p e below s Q k n (T.setTop (mkF m pc Ls (.int z :: rest))) := by
  obtain ⟨fs, hr, hrun, hended, hW, hsame⟩ := X.leave (v := some (.int (nar t z))) (fun h => by rw [hret] at h; cases h) hlk
  exact ⟨_, _, Jvm.RoadKit.retN X hx hret ht hd hr, hrun, hended, _, _, rfl, hq, ⟨_, rfl⟩, hW, hsame.mono hk hl⟩
theorem Go.retV (X : Stand p l e R s m args below meth c T locs cells slots) (hx : p.tables.exec = Jvm.exec) (hlk : meth.locks = false) {pc : Nat} {Ls : Array Slot} (hret : meth.sig.returnType = none) (hd : decode c.code pc = .ok (.return_, 1)) (hq : Q none T.heap locs) (hk : cells ≤ k) (hl : slots ≤ n) : Go p e below s Q k n (T.setTop (mkF m pc Ls [])) := by
  obtain ⟨fs, hr, hrun, hended, hW, hsame⟩ := X.leave (v := none) (fun _ => rfl) hlk
  exact ⟨_, _, X.returnOut hx hret hd hr, hrun, hended, _, _, rfl, hq, ⟨_, rfl⟩, hW, hsame.mono hk hl⟩
theorem own_decT {x y : Value} (q : x = y) : decide (x = y) = true := decide_eq_true q
theorem own_decF {x y : Value} (q : ¬ x = y) : decide (x = y) = false := decide_eq_false q
/-- a body's contract: called with as' over the heap h it returns, and Q holds at the end -/
def Con (l : Launch) (Z : State) (y : MethodName) (bytes : ByteArray) (maxL : Nat) (ret : Option FieldType) (rm : Room) (as' : Array Value) (h : Heap) (Q : Option Value → Heap → List Loc → Prop) : Prop :=
  ∀ ws : List Jvm.Cond, MetFree l y (head1 (Jvm.Cond.code y bytes maxL ret :: ws) rm) (fun a U => a = as' ∧ Z.Warmed39 U.vm ∧ U.heap = h) (fun _ _ _ _ _ => True) (fun _ U o U' => ∃ v L, o = .returned v ∧ Q v U'.heap L ∧ FrameEnd U o U' L rm.cells rm.slots)
theorem Con.of {y : MethodName} {bytes : ByteArray} {maxL : Nat} {ret : Option FieldType} {rm : Room} {as' : Array Value} (hy : plainName y.cls = true)
    (body : ∀ (p : Program) (e : Env) (s : State) (m : MethodId) (below : List Frame) (meth : Method) (c : Code) (T : State),
      Stand p l e rm s m as' below meth c T [] 0 0 → p.tables.exec = Jvm.exec → c.code = bytes → c.maxLocals = maxL → meth.sig.returnType = ret → meth.locks = false →
      s.vm.findClass y.cls = some m.cls → meth.name = y.name → Z.Warmed39 s.vm → T.heap = h → Go p e below s Q rm.cells rm.slots (T.setTop (entryFrame m as' maxL))) : Con l Z y bytes maxL ret rm as' h Q := by
  intro ws
  refine MetFree.of_bodySF (plainFor_of_name hy) hisR ?_
  intro p e s m args below meth c s₁ Bd hml hP hK
  obtain ⟨rfl, hZ, hh⟩ := hP
  exact body p e s m below meth c s₁ (Stand.of_body Bd) Bd.exec Bd.bytes hml Bd.returns Bd.notSynchronized (findClass_of_methodNamed Bd.named) (name_of_methodNamed Bd.named Bd.method).1 hZ (by rw [← hh, Bd.state]; rfl)
theorem Go.callS (X : Stand p l e R s m args below meth c T locs cells slots) (hx : p.tables.exec = Jvm.exec) (hZ : Z.Warmed39 s.vm) {own : String} {index : Nat} {y : MethodName} {bytes : ByteArray} {maxL : Nat} {ret : Option FieldType} {rm : Room} {Qc : Option Value → Heap → List Loc → Prop}
    (hown : s.vm.findClass own = some m.cls) (w1 : (Jvm.Cond.methodLink own index y).before a0 Z = true) (w2 : (Jvm.Cond.static y).before a0 Z = true) (w3 : (Jvm.Cond.initialized y.cls).before a0 Z = true) (w4 : (Jvm.Cond.code y bytes maxL ret).before a0 Z = true) (hy : y.cls ≠ "java/lang/invoke/MethodHandle" ∧ y.cls ≠ "java/lang/invoke/VarHandle")
    (eT : T.heap = h) (argsL rest : List Value) (W : Nat) (con : Con l Z y bytes maxL ret rm argsL.toArray h Qc)
    (hf : rm.frames + 1 ≤ R.frames) (hl : W + (maxL + 11) + rm.locals ≤ R.locals) (hc : cells + rm.cells ≤ R.cells) (hs : slots + rm.slots ≤ R.slots)
    {pc : Nat} {Ls : Array Slot} {stk : List Value} (hsize : Ls.size = c.maxLocals) (hlen : ∀ sig, parseMethodDescriptor y.desc = some sig → argsL.length = sig.parameters.length) (hstk : stk = argsL.reverse ++ rest) (hW : (rest.map fun v => v.category).sum ≤ W)
    (hd : decode c.code pc = .ok (.invokestatic index, 3))
    (k1 : ∀ (T' : State) (v : Option Value) (Lc : List Loc), Stand p l e R s m args below meth c T' (locs ++ Lc) (cells + rm.cells) (slots + rm.slots) → Qc v T'.heap Lc → Go p e below s Q k n (T'.setTop (mkF m (pc + 3) Ls (v.toList ++ rest)))) :
    Go p e below s Q k n (T.setTop (mkF m pc Ls stk)) := by
  subst hstk
  obtain ⟨v, _, ⟨T', L', c', n'⟩, -, X', ⟨Lc, hQ, l', y', z'⟩, st⟩ := Jvm.LawKit.callS X hx (y := y) hown (mvT hZ w1) (mvT hZ w2) (mvT hZ w3) (mvT hZ w4) hy (backOf (W := W) (con []) hZ w4 w3 hf hl) (g := mkF m pc Ls (argsL.reverse ++ rest)) rfl hsize (argsL := argsL) (rest := rest) hlen rfl (by show 2 * 0 + _ ≤ _; rw [Nat.mul_zero, Nat.zero_add]; exact hW) hd (fun _ _ => ⟨rfl, eT, hc, hs⟩)
  dsimp only [Pt.U, Pt.locs, Pt.cells, Pt.slots] at X' l' y' z' st hQ
  subst l' y' z'
  exact Go.step st (k1 T' v Lc X' hQ)
theorem Go.callV (X : Stand p l e R s m args below meth c T locs cells slots) (hx : p.tables.exec = Jvm.exec) (hZ : Z.Warmed39 s.vm) {own C : String} {index : Nat} {y : MethodName} {bytes : ByteArray} {maxL : Nat} {ret : Option FieldType} {rm : Room} {Qc : Option Value → Heap → List Loc → Prop}
    (hown : s.vm.findClass own = some m.cls) (w1 : (Jvm.Cond.methodLink own index y).before a0 Z = true) (w2 : (Jvm.Cond.declares y).before a0 Z = true) (w3 : (Jvm.Cond.selects C y y).before a0 Z = true) (w4 : (Jvm.Cond.instanceMethod y).before a0 Z = true) (w5 : (Jvm.Cond.initialized y.cls).before a0 Z = true) (w6 : (Jvm.Cond.code y bytes maxL ret).before a0 Z = true) (hy : y.cls ≠ "java/lang/invoke/MethodHandle" ∧ y.cls ≠ "java/lang/invoke/VarHandle")
    (eT : T.heap = h) {b : Addr} (E : Exa Z h b C) (argsL rest : List Value) (W : Nat) (con : Con l Z y bytes maxL ret rm (.ref b :: argsL).toArray h Qc)
    (hf : rm.frames + 1 ≤ R.frames) (hl : W + (maxL + 11) + rm.locals ≤ R.locals) (hc : cells + rm.cells ≤ R.cells) (hs : slots + rm.slots ≤ R.slots)
    {pc : Nat} {Ls : Array Slot} {stk : List Value} (hsize : Ls.size = c.maxLocals) (hlen : ∀ sig, parseMethodDescriptor y.desc = some sig → argsL.length = sig.parameters.length) (hstk : stk = argsL.reverse ++ .ref b :: rest) (hW : (rest.map fun v => v.category).sum ≤ W)
    (hd : decode c.code pc = .ok (.invokevirtual index, 3))
    (k1 : ∀ (T' : State) (v : Option Value) (Lc : List Loc), Stand p l e R s m args below meth c T' (locs ++ Lc) (cells + rm.cells) (slots + rm.slots) → Qc v T'.heap Lc → Go p e below s Q k n (T'.setTop (mkF m (pc + 3) Ls (v.toList ++ rest)))) :
    Go p e below s Q k n (T.setTop (mkF m pc Ls stk)) := by
  subst hstk
  obtain ⟨cq, kq, qa, qb, qc⟩ := isOf hZ eT E
  obtain ⟨v, _, ⟨T', L', c', n'⟩, -, X', ⟨Lc, hQ, l', y', z'⟩, st⟩ := X.virtualBack hx (y := y) (z := y) hown (mvT hZ w1) (mvT hZ w2) (notFace_of_selects (args := #[]) (mvT hZ w3)) (mvT hZ w3) (mvT hZ w4) hy (backOf (W := W) (con []) hZ w6 w5 hf hl) qa qc (g := mkF m pc Ls (argsL.reverse ++ .ref b :: rest)) rfl hsize (Steps.refl _) (argsL := argsL) (rest := rest) hlen rfl (by show 2 * 0 + _ ≤ _; rw [Nat.mul_zero, Nat.zero_add]; exact hW) hd (fun _ _ => ⟨rfl, eT, hc, hs⟩)
  dsimp only [Pt.U, Pt.locs, Pt.cells, Pt.slots] at X' l' y' z' st hQ
  subst l' y' z'
  exact Go.step (fun t kk => st.trans kk) (k1 T' v Lc X' hQ)
theorem Go.callI (X : Stand p l e R s m args below meth c T locs cells slots) (hx : p.tables.exec = Jvm.exec) (hZ : Z.Warmed39 s.vm) {own : String} {index : Nat} {y : MethodName} {bytes : ByteArray} {maxL : Nat} {rm : Room} {Qc : Option Value → Heap → List Loc → Prop} (hy1 : y.name = "<init>")
    (hown : s.vm.findClass own = some m.cls) (w1 : (Jvm.Cond.methodLink own index y).before a0 Z = true) (w2 : (Jvm.Cond.instanceMethod y).before a0 Z = true) (w3 : (Jvm.Cond.initialized y.cls).before a0 Z = true) (w4 : (Jvm.Cond.code y bytes maxL none).before a0 Z = true) (hy : y.cls ≠ "java/lang/invoke/MethodHandle" ∧ y.cls ≠ "java/lang/invoke/VarHandle")
    (eT : T.heap = h) {b : Addr} (argsL rest : List Value) (W : Nat) (con : Con l Z y bytes maxL none rm (.ref b :: argsL).toArray h Qc)
    (hf : rm.frames + 1 ≤ R.frames) (hl : W + (maxL + 11) + rm.locals ≤ R.locals) (hc : cells + rm.cells ≤ R.cells) (hs : slots + rm.slots ≤ R.slots)
    {pc : Nat} {Ls : Array Slot} {stk : List Value} (hsize : Ls.size = c.maxLocals) (hlen : ∀ sig, parseMethodDescriptor y.desc = some sig → argsL.length = sig.parameters.length) (hstk : stk = argsL.reverse ++ .ref b :: rest) (hW : (rest.map fun v => v.category).sum ≤ W)
    (hd : decode c.code pc = .ok (.invokespecial index, 3))
    (k1 : ∀ (T' : State) (v : Option Value) (Lc : List Loc), Stand p l e R s m args below meth c T' (locs ++ Lc) (cells + rm.cells) (slots + rm.slots) → Qc v T'.heap Lc → Go p e below s Q k n (T'.setTop (mkF m (pc + 3) Ls (v.toList ++ rest)))) :
    Go p e below s Q k n (T.setTop (mkF m pc Ls stk)) := by
  subst hstk
  obtain ⟨v, _, ⟨T', L', c', n'⟩, -, X', ⟨Lc, hQ, l', y', z'⟩, st⟩ := X.specialBack hx (y := y) hy1 hown (mvT hZ w1) (mvT hZ w2) (mvT hZ w4) hy (backOf (W := W) (con []) hZ w4 w3 hf hl) (g := mkF m pc Ls (argsL.reverse ++ .ref b :: rest)) rfl hsize (Steps.refl _) (a := b) (argsL := argsL) (rest := rest) hlen rfl (by show 2 * 0 + _ ≤ _; rw [Nat.mul_zero, Nat.zero_add]; exact hW) hd (fun _ _ => ⟨rfl, eT, hc, hs⟩)
  dsimp only [Pt.U, Pt.locs, Pt.cells, Pt.slots] at X' l' y' z' st hQ
  subst l' y' z'
  exact Go.step (fun t kk => st.trans kk) (k1 T' v Lc X' hQ)
end OwnKit
theorem own_ext_trans {h0 h1 h2 : Heap} (E : Ext h0 h1) (F : Ext h1 h2) : Ext h0 h2 := ⟨Nat.le_trans E.1 F.1, fun a c q => F.2 a c (E.2 a c q)⟩
theorem own_ext_refl (h0 : Heap) : Ext h0 h0 := ⟨Nat.le_refl _, fun _ _ q => q⟩
theorem own_ext_keep {h0 h1 h2 : Heap} {ws : List Addr} (E : Ext h0 h1) (K : Keep h1 h2 ws) (hw : ∀ x ∈ ws, h0.size ≤ x) : Ext h0 h2 := ⟨Nat.le_trans E.1 K.1, fun a c q => K.2.1 a c (E.2 a c q) fun hm => absurd (Array.getElem?_eq_some_iff.mp q).1 (Nat.not_lt.mpr (hw a hm))⟩
theorem own_ext_wr {h0 h1 h2 : Heap} {a : Addr} {sl : Nat} {v : Value} (E : Ext h0 h1) (W : Wr h1 h2 a sl v) (q : h0.size ≤ a) : Ext h0 h2 := own_ext_keep E (Keep.of_wr W) (allS q all0)
theorem own_ne_lt {a b : Addr} {n : Nat} (p : a < n) (q : n ≤ b) : a ≠ b := Nat.ne_of_lt (Nat.lt_of_lt_of_le p q)
theorem own_len {args : Array Value} {s : State} {t : Term} {a : Addr} {c : Cell} {ty : FieldType} {z : Int32} (ev : t.eval args s none [] s = some (.ref a)) (A : Arr s s.heap a c ty) (hq : (Jvm.Cond.eq (.length t) (.int z)).value args s none s [] = some true) : c.slots.size < 2 ^ 31 ∧ c.slots.size.toInt32 = z := by
  obtain ⟨x, y, hx, hy, -, hk⟩ := cmp_v (Or.inl hq)
  obtain rfl : y = .int z := (Option.some.inj hy).symm
  obtain ⟨q, rfl⟩ := hk
  have e := gotT (Cond.eq_ints hx (Term.int_eval z)) hq
  subst e
  have h1 := Arr.fin (Vm.Alike.refl _) A
  simp only [Term.eval, ev, h1, Option.bind_eq_bind, Option.bind_some] at hx
  split at hx
  · rename_i hl
    exact ⟨hl, by injection hx with hx; injection hx⟩
  · cases hx
theorem own_elem {args : Array Value} {s : State} {t u : Term} {a b : Addr} {c : Cell} {ty : FieldType} {i : Int32} (ev : t.eval args s none [] s = some (.ref a)) (A : Arr s s.heap a c ty) (eu : u.eval args s none [] s = some (.ref b)) (hq : (Jvm.Cond.eq (.elem t (.int i)) u).value args s none s [] = some true) : c.slots[i.toNatClampNeg]? = some (.ref b) := by
  obtain ⟨x, y, hx, hy, hk, hk2⟩ := cmp_v (Or.inl hq)
  cases eu.symm.trans hy
  obtain ⟨c', h1, h2, h3⟩ := elem_at hx ev (Term.int_eval i)
  cases A.1.symm.trans h1
  have hr : x.isRef = true := hk2.2
  have e := gotT (eq_R hx eu hr rfl) hq
  rw [e] at h3; exact h3
theorem own_cell {Z T : State} {h : Heap} {a : Addr} {c : Cell} {ty : FieldType} (eT : T.heap = h) (A : Arr Z h a c ty) : T.heap[a]? = some c := by rw [eT]; exact A.1
theorem own_fldI {args : Array Value} {s : State} {t : Term} {a : Addr} {C n d : String} {z : Int32} (ev : t.eval args s none [] s = some (.ref a)) (hq : (Jvm.Cond.eq (.field t C n d) (.int z)).value args s none s [] = some true) : Fld s s.heap a C n d (.int z) := by
  obtain ⟨x, y, hx, hy, -, hk⟩ := cmp_v (Or.inl hq)
  obtain rfl : y = .int z := (Option.some.inj hy).symm
  obtain ⟨q, rfl⟩ := hk
  have e := gotT (Cond.eq_ints hx (Term.int_eval z)) hq
  subst e
  exact Fld.start (by rw [← fld_at (args := args) (first := s) (o := none) (idx := []) ev]; exact hx)
theorem own_fldJ {args : Array Value} {s : State} {t : Term} {a : Addr} {C n d : String} {z : Int64} (ev : t.eval args s none [] s = some (.ref a)) (hq : (Jvm.Cond.eq (.field t C n d) (.long z)).value args s none s [] = some true) : Fld s s.heap a C n d (.long z) := by
  obtain ⟨x, y, hx, hy, -, hk⟩ := cmp_v (Or.inl hq)
  obtain rfl : y = .long z := (Option.some.inj hy).symm
  obtain ⟨q, rfl⟩ := hk
  have e := gotT (eq_L hx (long_at z)) hq
  subst e
  exact Fld.start (by rw [← fld_at (args := args) (first := s) (o := none) (idx := []) ev]; exact hx)
def own_at (z : Int32) (a1 a2 a3 a4 a5 : Addr) : Addr := if z = 0 then a1 else if z = 1 then a2 else if z = 2 then a3 else if z = 3 then a4 else a5
def own_fin (b f g : Addr) : Int32 := if b = f then 1 else if b = g then 1 else 0
theorem own_exa_at {Z : State} {h0 : Heap} {z : Int32} {a1 a2 a3 a4 a5 : Addr} {C : String} (E_a1 : Exa Z h0 a1 C) (E_a2 : Exa Z h0 a2 C) (E_a3 : Exa Z h0 a3 C) (E_a4 : Exa Z h0 a4 C) (E_a5 : Exa Z h0 a5 C) : Exa Z h0 (own_at z a1 a2 a3 a4 a5) C := by
  unfold own_at; repeat' split
  all_goals assumption
theorem own_fin_at {z : Int32} {a1 a2 a3 a4 a5 : Addr} (hz : 0 ≤ z.toInt) (n14 : ¬ a1 = a4) (n15 : ¬ a1 = a5) (n24 : ¬ a2 = a4) (n25 : ¬ a2 = a5) (n34 : ¬ a3 = a4) (n35 : ¬ a3 = a5) : own_fin (own_at z a1 a2 a3 a4 a5) a4 a5 = if z < 3 then 0 else 1 := by
  have e0 : (0 : Int32).toInt = 0 := by decide
  have e1 : (1 : Int32).toInt = 1 := by decide
  have e2 : (2 : Int32).toInt = 2 := by decide
  have e3 : (3 : Int32).toInt = 3 := by decide
  by_cases q0 : z = 0
  · subst q0; rw [if_pos (by decide)]; simp [own_at, own_fin, n14, n15]
  by_cases q1 : z = 1
  · subst q1; rw [if_pos (by decide)]; simp [own_at, own_fin, n24, n25]
  by_cases q2 : z = 2
  · subst q2; rw [if_pos (by decide)]; simp [own_at, own_fin, n34, n35]
  have hn : ¬ z < 3 := by
    rw [← Int32.toInt_inj] at q0 q1 q2
    rw [Int32.lt_iff_toInt_lt]; omega
  rw [if_neg hn]
  by_cases q3 : z = 3
  · simp [own_at, own_fin, q3]
  · simp [own_at, own_fin, q0, q1, q2, q3]
theorem own_pn0 : plainName "com/example/godwit/godwit/billing/CollectionStageHasReachedFinalPinLaw" = true := by first | (simp [plainName, overriddenIn]; done) | decide +kernel
theorem own_d_at_0 : decode method_3_code 0 = .ok (.iload_n 0, 1) := by decide +kernel
theorem own_d_at_1 : decode method_3_code 1 = .ok (.ifCond .ne 7, 3) := by decide +kernel
theorem own_d_at_4 : decode method_3_code 4 = .ok (.getstatic 20, 3) := by decide +kernel
theorem own_d_at_7 : decode method_3_code 7 = .ok (.areturn, 1) := by decide +kernel
theorem own_d_at_8 : decode method_3_code 8 = .ok (.iload_n 0, 1) := by decide +kernel
theorem own_d_at_9 : decode method_3_code 9 = .ok (.iconst 1, 1) := by decide +kernel
theorem own_d_at_10 : decode method_3_code 10 = .ok (.if_icmp .ne 7, 3) := by decide +kernel
theorem own_d_at_13 : decode method_3_code 13 = .ok (.getstatic 24, 3) := by decide +kernel
theorem own_d_at_16 : decode method_3_code 16 = .ok (.areturn, 1) := by decide +kernel
theorem own_d_at_17 : decode method_3_code 17 = .ok (.iload_n 0, 1) := by decide +kernel
theorem own_d_at_18 : decode method_3_code 18 = .ok (.iconst 2, 1) := by decide +kernel
theorem own_d_at_19 : decode method_3_code 19 = .ok (.if_icmp .ne 7, 3) := by decide +kernel
theorem own_d_at_22 : decode method_3_code 22 = .ok (.getstatic 27, 3) := by decide +kernel
theorem own_d_at_25 : decode method_3_code 25 = .ok (.areturn, 1) := by decide +kernel
theorem own_d_at_26 : decode method_3_code 26 = .ok (.iload_n 0, 1) := by decide +kernel
theorem own_d_at_27 : decode method_3_code 27 = .ok (.iconst 3, 1) := by decide +kernel
theorem own_d_at_28 : decode method_3_code 28 = .ok (.if_icmp .ne 7, 3) := by decide +kernel
theorem own_d_at_31 : decode method_3_code 31 = .ok (.getstatic 30, 3) := by decide +kernel
theorem own_d_at_34 : decode method_3_code 34 = .ok (.areturn, 1) := by decide +kernel
theorem own_d_at_35 : decode method_3_code 35 = .ok (.getstatic 33, 3) := by decide +kernel
theorem own_d_at_38 : decode method_3_code 38 = .ok (.areturn, 1) := by decide +kernel
theorem own_ef_at (m : MethodId) (p1 : Int32) : entryFrame m #[(.int p1)] 1 = mkF m 0 #[.val (.int p1)] [] := by first | (simp [entryFrame, mkF, argsToLocals, Value.category, maxLocals]; done) | rfl
set_option maxRecDepth 65536 in
set_option maxHeartbeats 40000000 in
theorem rm_at (l : Launch) (Z : State) (a0 : Array Value) (hw : ∀ d ∈ tables_1, d.before a0 Z = true) (p1 : Int32) (a1 : Addr) (a2 : Addr) (a3 : Addr) (a4 : Addr) (a5 : Addr) (h0 : Heap) (n0 : Nat) (S_a1 : Sta Z h0 "com/example/godwit/godwit/billing/CollectionStage" "UNPAID" "Lcom/example/godwit/godwit/billing/CollectionStage;" (.ref a1)) (S_a2 : Sta Z h0 "com/example/godwit/godwit/billing/CollectionStage" "FIRST" "Lcom/example/godwit/godwit/billing/CollectionStage;" (.ref a2)) (S_a3 : Sta Z h0 "com/example/godwit/godwit/billing/CollectionStage" "SECOND" "Lcom/example/godwit/godwit/billing/CollectionStage;" (.ref a3)) (S_a4 : Sta Z h0 "com/example/godwit/godwit/billing/CollectionStage" "FINAL" "Lcom/example/godwit/godwit/billing/CollectionStage;" (.ref a4)) (S_a5 : Sta Z h0 "com/example/godwit/godwit/billing/CollectionStage" "COLLECTIONS" "Lcom/example/godwit/godwit/billing/CollectionStage;" (.ref a5)) :
    Con l Z (⟨"com/example/godwit/godwit/billing/CollectionStageHasReachedFinalPinLaw", "stageAt", "(I)Lcom/example/godwit/godwit/billing/CollectionStage;"⟩ : MethodName) method_3_code 1 (some (.object "com/example/godwit/godwit/billing/CollectionStage")) ({ frames := 0, cells := 0, slots := 0, locals := 0 } : Room) #[(.int p1)] h0 (fun v h L => v = some (.ref (own_at p1 a1 a2 a3 a4 a5)) ∧ L = [] ∧ h = h0) := by
  refine Con.of own_pn0 ?_
  intro p e s m below meth c T0 X0 hx hby hml hret hlk hown0 hnm hZ e0
  have hown : s.vm.findClass "com/example/godwit/godwit/billing/CollectionStageHasReachedFinalPinLaw" = some m.cls := hown0
  have N0 := Fr.nil n0
  refine Go.step (fun t kk => castTop (own_ef_at m p1) kk) ?_
  show Go p e below s _ _ _ (T0.setTop (mkF m 0 #[.val (.int p1)] []))
  refine Go.step (fun t kk => XS.iloadN X0.here hx rfl (hb hby own_d_at_0) rfl kk) ?_
  show Go p e below s _ _ _ (T0.setTop (mkF m 1 #[.val (.int p1)] [(.int p1)]))
  by_cases hc1_1 : p1 = (0 : Int32)
  · refine Go.step (fun t kk => XS.ifNo X0.here hx rfl (hb hby own_d_at_1) rfl ((if0 _ _).trans (teq hc1_1).2) kk) ?_
    show Go p e below s _ _ _ (T0.setTop (mkF m 4 #[.val (.int p1)] []))
    obtain ⟨T2, X2, e2, st2⟩ := getS (host := "") X0 hx hZ hown (hw _ (List.mem_of_getElem? (i := 5) rfl)) Via.refl e0 S_a1 (g := (mkF m 4 #[.val (.int p1)] [])) rfl (hb hby own_d_at_4)
    refine Go.step st2 ?_
    show Go p e below s _ _ _ (T2.setTop (mkF m 7 #[.val (.int p1)] [(.ref a1)]))
    exact Go.retA X2 hx hlk hret rfl rfl (hb hby own_d_at_7) (show _ ∧ _ ∧ _ from ⟨by simp [own_at, hc1_1], rfl, e2⟩) (by decide) (by decide)
  · refine Go.step (fun t kk => XS.ifYes X0.here hx rfl (pc0 := 1) (pc' := 8) rfl (hb hby own_d_at_1) rfl ((if0 _ _).trans (feq hc1_1).2) (by decide) (by decide) kk) ?_
    show Go p e below s _ _ _ (T0.setTop (mkF m 8 #[.val (.int p1)] []))
    refine Go.step (fun t kk => XS.iloadN X0.here hx rfl (hb hby own_d_at_8) rfl kk) ?_
    show Go p e below s _ _ _ (T0.setTop (mkF m 9 #[.val (.int p1)] [(.int p1)]))
    refine Go.step (fun t kk => XS.iconst X0.here hx rfl (hb hby own_d_at_9) kk) ?_
    show Go p e below s _ _ _ (T0.setTop (mkF m 10 #[.val (.int p1)] [(.int (1 : Int32)), (.int p1)]))
    by_cases hc10_3 : p1 = (1 : Int32)
    · refine Go.step (fun t kk => XS.icmpNo X0.here hx rfl (hb hby own_d_at_10) rfl (teq hc10_3).2 kk) ?_
      show Go p e below s _ _ _ (T0.setTop (mkF m 13 #[.val (.int p1)] []))
      obtain ⟨T4, X4, e4, st4⟩ := getS (host := "") X0 hx hZ hown (hw _ (List.mem_of_getElem? (i := 18) rfl)) Via.refl e0 S_a2 (g := (mkF m 13 #[.val (.int p1)] [])) rfl (hb hby own_d_at_13)
      refine Go.step st4 ?_
      show Go p e below s _ _ _ (T4.setTop (mkF m 16 #[.val (.int p1)] [(.ref a2)]))
      exact Go.retA X4 hx hlk hret rfl rfl (hb hby own_d_at_16) (show _ ∧ _ ∧ _ from ⟨by simp [own_at, hc1_1, hc10_3], rfl, e4⟩) (by decide) (by decide)
    · refine Go.step (fun t kk => XS.icmpYes X0.here hx rfl (pc0 := 10) (pc' := 17) rfl (hb hby own_d_at_10) rfl (feq hc10_3).2 (by decide) (by decide) kk) ?_
      show Go p e below s _ _ _ (T0.setTop (mkF m 17 #[.val (.int p1)] []))
      refine Go.step (fun t kk => XS.iloadN X0.here hx rfl (hb hby own_d_at_17) rfl kk) ?_
      show Go p e below s _ _ _ (T0.setTop (mkF m 18 #[.val (.int p1)] [(.int p1)]))
      refine Go.step (fun t kk => XS.iconst X0.here hx rfl (hb hby own_d_at_18) kk) ?_
      show Go p e below s _ _ _ (T0.setTop (mkF m 19 #[.val (.int p1)] [(.int (2 : Int32)), (.int p1)]))
      by_cases hc19_5 : p1 = (2 : Int32)
      · refine Go.step (fun t kk => XS.icmpNo X0.here hx rfl (hb hby own_d_at_19) rfl (teq hc19_5).2 kk) ?_
        show Go p e below s _ _ _ (T0.setTop (mkF m 22 #[.val (.int p1)] []))
        obtain ⟨T6, X6, e6, st6⟩ := getS (host := "") X0 hx hZ hown (hw _ (List.mem_of_getElem? (i := 21) rfl)) Via.refl e0 S_a3 (g := (mkF m 22 #[.val (.int p1)] [])) rfl (hb hby own_d_at_22)
        refine Go.step st6 ?_
        show Go p e below s _ _ _ (T6.setTop (mkF m 25 #[.val (.int p1)] [(.ref a3)]))
        exact Go.retA X6 hx hlk hret rfl rfl (hb hby own_d_at_25) (show _ ∧ _ ∧ _ from ⟨by simp [own_at, hc1_1, hc10_3, hc19_5], rfl, e6⟩) (by decide) (by decide)
      · refine Go.step (fun t kk => XS.icmpYes X0.here hx rfl (pc0 := 19) (pc' := 26) rfl (hb hby own_d_at_19) rfl (feq hc19_5).2 (by decide) (by decide) kk) ?_
        show Go p e below s _ _ _ (T0.setTop (mkF m 26 #[.val (.int p1)] []))
        refine Go.step (fun t kk => XS.iloadN X0.here hx rfl (hb hby own_d_at_26) rfl kk) ?_
        show Go p e below s _ _ _ (T0.setTop (mkF m 27 #[.val (.int p1)] [(.int p1)]))
        refine Go.step (fun t kk => XS.iconst X0.here hx rfl (hb hby own_d_at_27) kk) ?_
        show Go p e below s _ _ _ (T0.setTop (mkF m 28 #[.val (.int p1)] [(.int (3 : Int32)), (.int p1)]))
        by_cases hc28_7 : p1 = (3 : Int32)
        · refine Go.step (fun t kk => XS.icmpNo X0.here hx rfl (hb hby own_d_at_28) rfl (teq hc28_7).2 kk) ?_
          show Go p e below s _ _ _ (T0.setTop (mkF m 31 #[.val (.int p1)] []))
          obtain ⟨T8, X8, e8, st8⟩ := getS (host := "") X0 hx hZ hown (hw _ (List.mem_of_getElem? (i := 17) rfl)) Via.refl e0 S_a4 (g := (mkF m 31 #[.val (.int p1)] [])) rfl (hb hby own_d_at_31)
          refine Go.step st8 ?_
          show Go p e below s _ _ _ (T8.setTop (mkF m 34 #[.val (.int p1)] [(.ref a4)]))
          exact Go.retA X8 hx hlk hret rfl rfl (hb hby own_d_at_34) (show _ ∧ _ ∧ _ from ⟨by simp [own_at, hc1_1, hc10_3, hc19_5, hc28_7], rfl, e8⟩) (by decide) (by decide)
        · refine Go.step (fun t kk => XS.icmpYes X0.here hx rfl (pc0 := 28) (pc' := 35) rfl (hb hby own_d_at_28) rfl (feq hc28_7).2 (by decide) (by decide) kk) ?_
          show Go p e below s _ _ _ (T0.setTop (mkF m 35 #[.val (.int p1)] []))
          obtain ⟨T9, X9, e9, st9⟩ := getS (host := "") X0 hx hZ hown (hw _ (List.mem_of_getElem? (i := 20) rfl)) Via.refl e0 S_a5 (g := (mkF m 35 #[.val (.int p1)] [])) rfl (hb hby own_d_at_35)
          refine Go.step st9 ?_
          show Go p e below s _ _ _ (T9.setTop (mkF m 38 #[.val (.int p1)] [(.ref a5)]))
          exact Go.retA X9 hx hlk hret rfl rfl (hb hby own_d_at_38) (show _ ∧ _ ∧ _ from ⟨by simp [own_at, hc1_1, hc10_3, hc19_5, hc28_7], rfl, e9⟩) (by decide) (by decide)
theorem own_pn1 : plainName "com/example/godwit/godwit/billing/CollectionStage" = true := by first | (simp [plainName, overriddenIn]; done) | decide +kernel
theorem own_d_hr_0 : decode prog_22_method_7_code 0 = .ok (.aload_n 0, 1) := by decide +kernel
theorem own_d_hr_1 : decode prog_22_method_7_code 1 = .ok (.getstatic 13, 3) := by decide +kernel
theorem own_d_hr_4 : decode prog_22_method_7_code 4 = .ok (.if_acmp .eq 10, 3) := by decide +kernel
theorem own_d_hr_7 : decode prog_22_method_7_code 7 = .ok (.aload_n 0, 1) := by decide +kernel
theorem own_d_hr_8 : decode prog_22_method_7_code 8 = .ok (.getstatic 16, 3) := by decide +kernel
theorem own_d_hr_11 : decode prog_22_method_7_code 11 = .ok (.if_acmp .ne 7, 3) := by decide +kernel
theorem own_d_hr_14 : decode prog_22_method_7_code 14 = .ok (.iconst 1, 1) := by decide +kernel
theorem own_d_hr_15 : decode prog_22_method_7_code 15 = .ok (.goto 4, 3) := by decide +kernel
theorem own_d_hr_18 : decode prog_22_method_7_code 18 = .ok (.iconst 0, 1) := by decide +kernel
theorem own_d_hr_19 : decode prog_22_method_7_code 19 = .ok (.ireturn, 1) := by decide +kernel
theorem own_ef_hr (m : MethodId) (b : Addr) : entryFrame m #[(.ref b)] 1 = mkF m 0 #[.val (.ref b)] [] := by first | (simp [entryFrame, mkF, argsToLocals, Value.category, maxLocals]; done) | rfl
set_option maxRecDepth 65536 in
set_option maxHeartbeats 40000000 in
theorem rm_hr (l : Launch) (Z : State) (a0 : Array Value) (hw : ∀ d ∈ tables_1, d.before a0 Z = true) (b : Addr) (a4 : Addr) (a5 : Addr) (h0 : Heap) (n0 : Nat) (S_a4 : Sta Z h0 "com/example/godwit/godwit/billing/CollectionStage" "FINAL" "Lcom/example/godwit/godwit/billing/CollectionStage;" (.ref a4)) (S_a5 : Sta Z h0 "com/example/godwit/godwit/billing/CollectionStage" "COLLECTIONS" "Lcom/example/godwit/godwit/billing/CollectionStage;" (.ref a5)) :
    Con l Z (⟨"com/example/godwit/godwit/billing/CollectionStage", "hasReachedFinal", "()Z"⟩ : MethodName) prog_22_method_7_code 1 (some .boolean) ({ frames := 0, cells := 0, slots := 0, locals := 0 } : Room) #[(.ref b)] h0 (fun v h L => v = some (.int (own_fin b a4 a5)) ∧ L = [] ∧ h = h0) := by
  refine Con.of own_pn1 ?_
  intro p e s m below meth c T0 X0 hx hby hml hret hlk hown0 hnm hZ e0
  have hown : s.vm.findClass "com/example/godwit/godwit/billing/CollectionStage" = some m.cls := hown0
  have N0 := Fr.nil n0
  refine Go.step (fun t kk => castTop (own_ef_hr m b) kk) ?_
  show Go p e below s _ _ _ (T0.setTop (mkF m 0 #[.val (.ref b)] []))
  refine Go.step (fun t kk => XS.aloadN X0.here hx rfl (hb hby own_d_hr_0) rfl rfl kk) ?_
  show Go p e below s _ _ _ (T0.setTop (mkF m 1 #[.val (.ref b)] [(.ref b)]))
  obtain ⟨T1, X1, e1, st1⟩ := getS (host := "") X0 hx hZ hown (hw _ (List.mem_of_getElem? (i := 13) rfl)) Via.refl e0 S_a4 (g := (mkF m 1 #[.val (.ref b)] [(.ref b)])) rfl (hb hby own_d_hr_1)
  refine Go.step st1 ?_
  show Go p e below s _ _ _ (T1.setTop (mkF m 4 #[.val (.ref b)] [(.ref a4), (.ref b)]))
  by_cases hc4_2 : b = a4
  · refine Go.step (fun t kk => acmp X1 hx rfl (cd := .eq) (x := (.ref b)) (y := (.ref a4)) rfl rfl (pc0 := 4) (pc' := 14) (same := true) rfl (hb hby own_d_hr_4) rfl (own_decT (congrArg Value.ref hc4_2)) (by decide) (by decide) kk) ?_
    show Go p e below s _ _ _ (T1.setTop (mkF m 14 #[.val (.ref b)] []))
    refine Go.step (fun t kk => XS.iconst X1.here hx rfl (hb hby own_d_hr_14) kk) ?_
    show Go p e below s _ _ _ (T1.setTop (mkF m 15 #[.val (.ref b)] [(.int (1 : Int32))]))
    refine Go.step (fun t kk => XS.goto X1.here hx rfl (pc0 := 15) (pc' := 19) rfl (hb hby own_d_hr_15) (by decide) (by decide) kk) ?_
    show Go p e below s _ _ _ (T1.setTop (mkF m 19 #[.val (.ref b)] [(.int (1 : Int32))]))
    exact Go.retN X1 hx hlk (t := .boolean) hret (by simp) (hb hby own_d_hr_19) (show _ ∧ _ ∧ _ from ⟨by rw [show own_fin b a4 a5 = (1 : Int32) by simp [own_fin, hc4_2]]; rfl, rfl, e1⟩) (by decide) (by decide)
  · refine Go.step (fun t kk => acmp X1 hx rfl (cd := .eq) (x := (.ref b)) (y := (.ref a4)) rfl rfl (pc0 := 4) (pc' := 7) (same := false) rfl (hb hby own_d_hr_4) rfl (own_decF (fun q => hc4_2 (Value.ref.inj q))) (by decide) (by decide) kk) ?_
    show Go p e below s _ _ _ (T1.setTop (mkF m 7 #[.val (.ref b)] []))
    refine Go.step (fun t kk => XS.aloadN X1.here hx rfl (hb hby own_d_hr_7) rfl rfl kk) ?_
    show Go p e below s _ _ _ (T1.setTop (mkF m 8 #[.val (.ref b)] [(.ref b)]))
    obtain ⟨T3, X3, e3, st3⟩ := getS (host := "") X1 hx hZ hown (hw _ (List.mem_of_getElem? (i := 15) rfl)) Via.refl e1 S_a5 (g := (mkF m 8 #[.val (.ref b)] [(.ref b)])) rfl (hb hby own_d_hr_8)
    refine Go.step st3 ?_
    show Go p e below s _ _ _ (T3.setTop (mkF m 11 #[.val (.ref b)] [(.ref a5), (.ref b)]))
    by_cases hc11_4 : b = a5
    · refine Go.step (fun t kk => acmp X3 hx rfl (cd := .ne) (x := (.ref b)) (y := (.ref a5)) rfl rfl (pc0 := 11) (pc' := 14) (same := true) rfl (hb hby own_d_hr_11) rfl (own_decT (congrArg Value.ref hc11_4)) (by decide) (by decide) kk) ?_
      show Go p e below s _ _ _ (T3.setTop (mkF m 14 #[.val (.ref b)] []))
      refine Go.step (fun t kk => XS.iconst X3.here hx rfl (hb hby own_d_hr_14) kk) ?_
      show Go p e below s _ _ _ (T3.setTop (mkF m 15 #[.val (.ref b)] [(.int (1 : Int32))]))
      refine Go.step (fun t kk => XS.goto X3.here hx rfl (pc0 := 15) (pc' := 19) rfl (hb hby own_d_hr_15) (by decide) (by decide) kk) ?_
      show Go p e below s _ _ _ (T3.setTop (mkF m 19 #[.val (.ref b)] [(.int (1 : Int32))]))
      exact Go.retN X3 hx hlk (t := .boolean) hret (by simp) (hb hby own_d_hr_19) (show _ ∧ _ ∧ _ from ⟨by rw [show own_fin b a4 a5 = (1 : Int32) by simp [own_fin, hc4_2, hc11_4]]; rfl, rfl, e3⟩) (by decide) (by decide)
    · refine Go.step (fun t kk => acmp X3 hx rfl (cd := .ne) (x := (.ref b)) (y := (.ref a5)) rfl rfl (pc0 := 11) (pc' := 18) (same := false) rfl (hb hby own_d_hr_11) rfl (own_decF (fun q => hc11_4 (Value.ref.inj q))) (by decide) (by decide) kk) ?_
      show Go p e below s _ _ _ (T3.setTop (mkF m 18 #[.val (.ref b)] []))
      refine Go.step (fun t kk => XS.iconst X3.here hx rfl (hb hby own_d_hr_18) kk) ?_
      show Go p e below s _ _ _ (T3.setTop (mkF m 19 #[.val (.ref b)] [(.int (0 : Int32))]))
      exact Go.retN X3 hx hlk (t := .boolean) hret (by simp) (hb hby own_d_hr_19) (show _ ∧ _ ∧ _ from ⟨by rw [show own_fin b a4 a5 = (0 : Int32) by simp [own_fin, hc4_2, hc11_4]]; rfl, rfl, e3⟩) (by decide) (by decide)
theorem own_pd0 : parseMethodDescriptor "(I)Lcom/example/godwit/godwit/billing/CollectionStage;" = some ⟨[.int], (some (.object "com/example/godwit/godwit/billing/CollectionStage"))⟩ := by decide +kernel
theorem own_pd1 : parseMethodDescriptor "()Z" = some ⟨[], (some .boolean)⟩ := by decide +kernel
theorem own_ef_law (m : MethodId) (p1 : Int32) : entryFrame m #[(.int p1)] maxLocals = mkF m 0 #[.val (.int p1), .unset, .unset, .unset] [] := by first | (simp [entryFrame, mkF, argsToLocals, Value.category, maxLocals]; done) | rfl
set_option maxRecDepth 65536 in
set_option maxHeartbeats 40000000 in
theorem rm_law (l : Launch) (Z : State) (a0 : Array Value) (hw : ∀ d ∈ tables_1, d.before a0 Z = true) (p1 : Int32) (a1 : Addr) (a2 : Addr) (a3 : Addr) (a4 : Addr) (a5 : Addr) (h0 : Heap) (n0 : Nat) (S_a1 : Sta Z h0 "com/example/godwit/godwit/billing/CollectionStage" "UNPAID" "Lcom/example/godwit/godwit/billing/CollectionStage;" (.ref a1)) (S_a2 : Sta Z h0 "com/example/godwit/godwit/billing/CollectionStage" "FIRST" "Lcom/example/godwit/godwit/billing/CollectionStage;" (.ref a2)) (S_a3 : Sta Z h0 "com/example/godwit/godwit/billing/CollectionStage" "SECOND" "Lcom/example/godwit/godwit/billing/CollectionStage;" (.ref a3)) (S_a4 : Sta Z h0 "com/example/godwit/godwit/billing/CollectionStage" "FINAL" "Lcom/example/godwit/godwit/billing/CollectionStage;" (.ref a4)) (S_a5 : Sta Z h0 "com/example/godwit/godwit/billing/CollectionStage" "COLLECTIONS" "Lcom/example/godwit/godwit/billing/CollectionStage;" (.ref a5)) (E_a1 : Exa Z h0 a1 "com/example/godwit/godwit/billing/CollectionStage") (E_a2 : Exa Z h0 a2 "com/example/godwit/godwit/billing/CollectionStage") (E_a3 : Exa Z h0 a3 "com/example/godwit/godwit/billing/CollectionStage") (E_a4 : Exa Z h0 a4 "com/example/godwit/godwit/billing/CollectionStage") (E_a5 : Exa Z h0 a5 "com/example/godwit/godwit/billing/CollectionStage") (F_a1_ordinal : Fld Z h0 a1 "java/lang/Enum" "ordinal" "I" (.int 0)) (F_a2_ordinal : Fld Z h0 a2 "java/lang/Enum" "ordinal" "I" (.int 1)) (F_a3_ordinal : Fld Z h0 a3 "java/lang/Enum" "ordinal" "I" (.int 2)) (F_a4_ordinal : Fld Z h0 a4 "java/lang/Enum" "ordinal" "I" (.int 3)) (F_a5_ordinal : Fld Z h0 a5 "java/lang/Enum" "ordinal" "I" (.int 4)) :
    Con l Z x code maxLocals ret room_1 #[(.int p1)] h0 (fun v h L => v = some (.int 1) ∧ Fr n0 L) := by
  refine Con.of own_pn0 ?_
  intro p e s m below meth c T0 X0 hx hby hml hret hlk hown0 hnm hZ e0
  have hown : s.vm.findClass "com/example/godwit/godwit/billing/CollectionStageHasReachedFinalPinLaw" = some m.cls := hown0
  have N0 := Fr.nil n0
  refine Go.step (fun t kk => castTop (own_ef_law m p1) kk) ?_
  have hz : 0 ≤ ((p1 &&& (2147483647 : Int32)) % (5 : Int32)).toInt := by
    have q1 := (c_and p1 2147483647 (by decide)).1
    have q2 := (c_irem (p1 &&& 2147483647) 5 5 (by decide)).1 q1
    omega
  have hfin := own_fin_at hz (Fld.ne F_a1_ordinal F_a4_ordinal (fun q => absurd (Value.int.inj q) (by decide))) (Fld.ne F_a1_ordinal F_a5_ordinal (fun q => absurd (Value.int.inj q) (by decide))) (Fld.ne F_a2_ordinal F_a4_ordinal (fun q => absurd (Value.int.inj q) (by decide))) (Fld.ne F_a2_ordinal F_a5_ordinal (fun q => absurd (Value.int.inj q) (by decide))) (Fld.ne F_a3_ordinal F_a4_ordinal (fun q => absurd (Value.int.inj q) (by decide))) (Fld.ne F_a3_ordinal F_a5_ordinal (fun q => absurd (Value.int.inj q) (by decide)))
  show Go p e below s _ _ _ (T0.setTop (mkF m 0 #[.val (.int p1), .unset, .unset, .unset] []))
  refine Go.step (fun t kk => XS.iloadN X0.here hx rfl (hb hby at_0) rfl kk) ?_
  show Go p e below s _ _ _ (T0.setTop (mkF m 1 #[.val (.int p1), .unset, .unset, .unset] [(.int p1)]))
  refine Go.step (X0.ldcInt hx hown (mvT hZ (hw _ (List.mem_of_getElem? (i := 0) rfl))) (g := (mkF m 1 #[.val (.int p1), .unset, .unset, .unset] [(.int p1)])) rfl (hb hby at_1)) ?_
  show Go p e below s _ _ _ (T0.setTop (mkF m 3 #[.val (.int p1), .unset, .unset, .unset] [(.int (2147483647 : Int32)), (.int p1)]))
  refine Go.step (fun t kk => XS.iand X0.here hx rfl (hb hby at_3) rfl kk) ?_
  show Go p e below s _ _ _ (T0.setTop (mkF m 4 #[.val (.int p1), .unset, .unset, .unset] [(.int (p1 &&& (2147483647 : Int32)))]))
  refine Go.step (fun t kk => XS.iconst X0.here hx rfl (hb hby at_4) kk) ?_
  show Go p e below s _ _ _ (T0.setTop (mkF m 5 #[.val (.int p1), .unset, .unset, .unset] [(.int (5 : Int32)), (.int (p1 &&& (2147483647 : Int32)))]))
  refine Go.step (fun t kk => iremM X0 hx rfl (hb hby at_5) rfl (by decide) kk) ?_
  show Go p e below s _ _ _ (T0.setTop (mkF m 6 #[.val (.int p1), .unset, .unset, .unset] [(.int ((p1 &&& (2147483647 : Int32)) % (5 : Int32)))]))
  refine Go.step (fun t kk => XS.istoreN X0.here hx rfl (hb hby at_6) rfl (l' := #[.val (.int p1), .val (.int ((p1 &&& (2147483647 : Int32)) % (5 : Int32))), .unset, .unset]) rfl kk) ?_
  show Go p e below s _ _ _ (T0.setTop (mkF m 7 #[.val (.int p1), .val (.int ((p1 &&& (2147483647 : Int32)) % (5 : Int32))), .unset, .unset] []))
  refine Go.step (fun t kk => XS.iloadN X0.here hx rfl (hb hby at_7) rfl kk) ?_
  show Go p e below s _ _ _ (T0.setTop (mkF m 8 #[.val (.int p1), .val (.int ((p1 &&& (2147483647 : Int32)) % (5 : Int32))), .unset, .unset] [(.int ((p1 &&& (2147483647 : Int32)) % (5 : Int32)))]))
  refine Go.callS X0 hx hZ hown (hw _ (List.mem_of_getElem? (i := 1) rfl)) (hw _ (List.mem_of_getElem? (i := 2) rfl)) (hw _ (List.mem_of_getElem? (i := 3) rfl)) (hw _ (List.mem_of_getElem? (i := 4) rfl)) (by decide) e0 [(.int ((p1 &&& (2147483647 : Int32)) % (5 : Int32)))] [] 0 (rm_at l Z a0 hw ((p1 &&& (2147483647 : Int32)) % (5 : Int32)) a1 a2 a3 a4 a5 h0 n0 S_a1 S_a2 S_a3 S_a4 S_a5) (by decide) (by decide) (by decide) (by decide) (by rw [hml]; rfl) (lenOf own_pd0 rfl) rfl (Nat.le_of_eq rfl) (hb hby at_8) ?_
  intro T1 v1 L1 X1 hQ1
  obtain ⟨rfl, rfl, e1⟩ := hQ1
  have N1 := Fr.app N0 (Fr.nil n0)
  show Go p e below s _ _ _ (T1.setTop (mkF m 11 #[.val (.int p1), .val (.int ((p1 &&& (2147483647 : Int32)) % (5 : Int32))), .unset, .unset] [(.ref (own_at ((p1 &&& (2147483647 : Int32)) % (5 : Int32)) a1 a2 a3 a4 a5))]))
  refine Go.step (fun t kk => XS.astoreN X1.here hx rfl (hb hby at_11) rfl rfl (l' := #[.val (.int p1), .val (.int ((p1 &&& (2147483647 : Int32)) % (5 : Int32))), .val (.ref (own_at ((p1 &&& (2147483647 : Int32)) % (5 : Int32)) a1 a2 a3 a4 a5)), .unset]) rfl kk) ?_
  show Go p e below s _ _ _ (T1.setTop (mkF m 12 #[.val (.int p1), .val (.int ((p1 &&& (2147483647 : Int32)) % (5 : Int32))), .val (.ref (own_at ((p1 &&& (2147483647 : Int32)) % (5 : Int32)) a1 a2 a3 a4 a5)), .unset] []))
  refine Go.step (fun t kk => XS.iloadN X1.here hx rfl (hb hby at_12) rfl kk) ?_
  show Go p e below s _ _ _ (T1.setTop (mkF m 13 #[.val (.int p1), .val (.int ((p1 &&& (2147483647 : Int32)) % (5 : Int32))), .val (.ref (own_at ((p1 &&& (2147483647 : Int32)) % (5 : Int32)) a1 a2 a3 a4 a5)), .unset] [(.int ((p1 &&& (2147483647 : Int32)) % (5 : Int32)))]))
  refine Go.step (fun t kk => XS.iconst X1.here hx rfl (hb hby at_13) kk) ?_
  show Go p e below s _ _ _ (T1.setTop (mkF m 14 #[.val (.int p1), .val (.int ((p1 &&& (2147483647 : Int32)) % (5 : Int32))), .val (.ref (own_at ((p1 &&& (2147483647 : Int32)) % (5 : Int32)) a1 a2 a3 a4 a5)), .unset] [(.int (3 : Int32)), (.int ((p1 &&& (2147483647 : Int32)) % (5 : Int32)))]))
  by_cases hc14_2 : ((p1 &&& (2147483647 : Int32)) % (5 : Int32)) < (3 : Int32)
  · refine Go.step (fun t kk => XS.icmpYes X1.here hx rfl (pc0 := 14) (pc' := 21) rfl (hb hby at_14) rfl (tlt hc14_2).1 (by decide) (by decide) kk) ?_
    show Go p e below s _ _ _ (T1.setTop (mkF m 21 #[.val (.int p1), .val (.int ((p1 &&& (2147483647 : Int32)) % (5 : Int32))), .val (.ref (own_at ((p1 &&& (2147483647 : Int32)) % (5 : Int32)) a1 a2 a3 a4 a5)), .unset] []))
    refine Go.step (fun t kk => XS.iconst X1.here hx rfl (hb hby at_21) kk) ?_
    show Go p e below s _ _ _ (T1.setTop (mkF m 22 #[.val (.int p1), .val (.int ((p1 &&& (2147483647 : Int32)) % (5 : Int32))), .val (.ref (own_at ((p1 &&& (2147483647 : Int32)) % (5 : Int32)) a1 a2 a3 a4 a5)), .unset] [(.int (0 : Int32))]))
    refine Go.step (fun t kk => XS.istoreN X1.here hx rfl (hb hby at_22) rfl (l' := #[.val (.int p1), .val (.int ((p1 &&& (2147483647 : Int32)) % (5 : Int32))), .val (.ref (own_at ((p1 &&& (2147483647 : Int32)) % (5 : Int32)) a1 a2 a3 a4 a5)), .val (.int (0 : Int32))]) rfl kk) ?_
    show Go p e below s _ _ _ (T1.setTop (mkF m 23 #[.val (.int p1), .val (.int ((p1 &&& (2147483647 : Int32)) % (5 : Int32))), .val (.ref (own_at ((p1 &&& (2147483647 : Int32)) % (5 : Int32)) a1 a2 a3 a4 a5)), .val (.int (0 : Int32))] []))
    refine Go.step (fun t kk => XS.aloadN X1.here hx rfl (hb hby at_23) rfl rfl kk) ?_
    show Go p e below s _ _ _ (T1.setTop (mkF m 24 #[.val (.int p1), .val (.int ((p1 &&& (2147483647 : Int32)) % (5 : Int32))), .val (.ref (own_at ((p1 &&& (2147483647 : Int32)) % (5 : Int32)) a1 a2 a3 a4 a5)), .val (.int (0 : Int32))] [(.ref (own_at ((p1 &&& (2147483647 : Int32)) % (5 : Int32)) a1 a2 a3 a4 a5))]))
    refine Go.callV X1 hx hZ hown (hw _ (List.mem_of_getElem? (i := 8) rfl)) (hw _ (List.mem_of_getElem? (i := 9) rfl)) (hw _ (List.mem_of_getElem? (i := 11) rfl)) (hw _ (List.mem_of_getElem? (i := 10) rfl)) (hw _ (List.mem_of_getElem? (i := 6) rfl)) (hw _ (List.mem_of_getElem? (i := 12) rfl)) (by decide) e1 (own_exa_at E_a1 E_a2 E_a3 E_a4 E_a5) [] [] 0 (rm_hr l Z a0 hw (own_at ((p1 &&& (2147483647 : Int32)) % (5 : Int32)) a1 a2 a3 a4 a5) a4 a5 h0 n0 S_a4 S_a5) (by decide) (by decide) (by decide) (by decide) (by rw [hml]; rfl) (lenOf own_pd1 rfl) rfl (Nat.le_of_eq rfl) (hb hby at_24) ?_
    intro T3 v3 L3 X3 hQ3
    obtain ⟨rfl, rfl, e3⟩ := hQ3
    have N3 := Fr.app N1 (Fr.nil n0)
    show Go p e below s _ _ _ (T3.setTop (mkF m 27 #[.val (.int p1), .val (.int ((p1 &&& (2147483647 : Int32)) % (5 : Int32))), .val (.ref (own_at ((p1 &&& (2147483647 : Int32)) % (5 : Int32)) a1 a2 a3 a4 a5)), .val (.int (0 : Int32))] [(.int (own_fin (own_at ((p1 &&& (2147483647 : Int32)) % (5 : Int32)) a1 a2 a3 a4 a5) a4 a5))]))
    refine Go.step (fun t kk => XS.iloadN X3.here hx rfl (hb hby at_27) rfl kk) ?_
    show Go p e below s _ _ _ (T3.setTop (mkF m 28 #[.val (.int p1), .val (.int ((p1 &&& (2147483647 : Int32)) % (5 : Int32))), .val (.ref (own_at ((p1 &&& (2147483647 : Int32)) % (5 : Int32)) a1 a2 a3 a4 a5)), .val (.int (0 : Int32))] [(.int (0 : Int32)), (.int (own_fin (own_at ((p1 &&& (2147483647 : Int32)) % (5 : Int32)) a1 a2 a3 a4 a5) a4 a5))]))
    have hc28_4 : (own_fin (own_at ((p1 &&& (2147483647 : Int32)) % (5 : Int32)) a1 a2 a3 a4 a5) a4 a5) = (0 : Int32) := hfin.trans (if_pos hc14_2)
    refine Go.step (fun t kk => XS.icmpNo X3.here hx rfl (hb hby at_28) rfl (teq hc28_4).2 kk) ?_
    show Go p e below s _ _ _ (T3.setTop (mkF m 31 #[.val (.int p1), .val (.int ((p1 &&& (2147483647 : Int32)) % (5 : Int32))), .val (.ref (own_at ((p1 &&& (2147483647 : Int32)) % (5 : Int32)) a1 a2 a3 a4 a5)), .val (.int (0 : Int32))] []))
    refine Go.step (fun t kk => XS.iconst X3.here hx rfl (hb hby at_31) kk) ?_
    show Go p e below s _ _ _ (T3.setTop (mkF m 32 #[.val (.int p1), .val (.int ((p1 &&& (2147483647 : Int32)) % (5 : Int32))), .val (.ref (own_at ((p1 &&& (2147483647 : Int32)) % (5 : Int32)) a1 a2 a3 a4 a5)), .val (.int (0 : Int32))] [(.int (1 : Int32))]))
    refine Go.step (fun t kk => XS.goto X3.here hx rfl (pc0 := 32) (pc' := 36) rfl (hb hby at_32) (by decide) (by decide) kk) ?_
    show Go p e below s _ _ _ (T3.setTop (mkF m 36 #[.val (.int p1), .val (.int ((p1 &&& (2147483647 : Int32)) % (5 : Int32))), .val (.ref (own_at ((p1 &&& (2147483647 : Int32)) % (5 : Int32)) a1 a2 a3 a4 a5)), .val (.int (0 : Int32))] [(.int (1 : Int32))]))
    exact Go.retN X3 hx hlk (t := .boolean) hret (by simp) (hb hby at_36) (show _ ∧ _ from ⟨rfl, N3⟩) (by decide) (by decide)
  · refine Go.step (fun t kk => XS.icmpNo X1.here hx rfl (hb hby at_14) rfl (flt hc14_2).1 kk) ?_
    show Go p e below s _ _ _ (T1.setTop (mkF m 17 #[.val (.int p1), .val (.int ((p1 &&& (2147483647 : Int32)) % (5 : Int32))), .val (.ref (own_at ((p1 &&& (2147483647 : Int32)) % (5 : Int32)) a1 a2 a3 a4 a5)), .unset] []))
    refine Go.step (fun t kk => XS.iconst X1.here hx rfl (hb hby at_17) kk) ?_
    show Go p e below s _ _ _ (T1.setTop (mkF m 18 #[.val (.int p1), .val (.int ((p1 &&& (2147483647 : Int32)) % (5 : Int32))), .val (.ref (own_at ((p1 &&& (2147483647 : Int32)) % (5 : Int32)) a1 a2 a3 a4 a5)), .unset] [(.int (1 : Int32))]))
    refine Go.step (fun t kk => XS.goto X1.here hx rfl (pc0 := 18) (pc' := 22) rfl (hb hby at_18) (by decide) (by decide) kk) ?_
    show Go p e below s _ _ _ (T1.setTop (mkF m 22 #[.val (.int p1), .val (.int ((p1 &&& (2147483647 : Int32)) % (5 : Int32))), .val (.ref (own_at ((p1 &&& (2147483647 : Int32)) % (5 : Int32)) a1 a2 a3 a4 a5)), .unset] [(.int (1 : Int32))]))
    refine Go.step (fun t kk => XS.istoreN X1.here hx rfl (hb hby at_22) rfl (l' := #[.val (.int p1), .val (.int ((p1 &&& (2147483647 : Int32)) % (5 : Int32))), .val (.ref (own_at ((p1 &&& (2147483647 : Int32)) % (5 : Int32)) a1 a2 a3 a4 a5)), .val (.int (1 : Int32))]) rfl kk) ?_
    show Go p e below s _ _ _ (T1.setTop (mkF m 23 #[.val (.int p1), .val (.int ((p1 &&& (2147483647 : Int32)) % (5 : Int32))), .val (.ref (own_at ((p1 &&& (2147483647 : Int32)) % (5 : Int32)) a1 a2 a3 a4 a5)), .val (.int (1 : Int32))] []))
    refine Go.step (fun t kk => XS.aloadN X1.here hx rfl (hb hby at_23) rfl rfl kk) ?_
    show Go p e below s _ _ _ (T1.setTop (mkF m 24 #[.val (.int p1), .val (.int ((p1 &&& (2147483647 : Int32)) % (5 : Int32))), .val (.ref (own_at ((p1 &&& (2147483647 : Int32)) % (5 : Int32)) a1 a2 a3 a4 a5)), .val (.int (1 : Int32))] [(.ref (own_at ((p1 &&& (2147483647 : Int32)) % (5 : Int32)) a1 a2 a3 a4 a5))]))
    refine Go.callV X1 hx hZ hown (hw _ (List.mem_of_getElem? (i := 8) rfl)) (hw _ (List.mem_of_getElem? (i := 9) rfl)) (hw _ (List.mem_of_getElem? (i := 11) rfl)) (hw _ (List.mem_of_getElem? (i := 10) rfl)) (hw _ (List.mem_of_getElem? (i := 6) rfl)) (hw _ (List.mem_of_getElem? (i := 12) rfl)) (by decide) e1 (own_exa_at E_a1 E_a2 E_a3 E_a4 E_a5) [] [] 0 (rm_hr l Z a0 hw (own_at ((p1 &&& (2147483647 : Int32)) % (5 : Int32)) a1 a2 a3 a4 a5) a4 a5 h0 n0 S_a4 S_a5) (by decide) (by decide) (by decide) (by decide) (by rw [hml]; rfl) (lenOf own_pd1 rfl) rfl (Nat.le_of_eq rfl) (hb hby at_24) ?_
    intro T5 v5 L5 X5 hQ5
    obtain ⟨rfl, rfl, e5⟩ := hQ5
    have N5 := Fr.app N1 (Fr.nil n0)
    show Go p e below s _ _ _ (T5.setTop (mkF m 27 #[.val (.int p1), .val (.int ((p1 &&& (2147483647 : Int32)) % (5 : Int32))), .val (.ref (own_at ((p1 &&& (2147483647 : Int32)) % (5 : Int32)) a1 a2 a3 a4 a5)), .val (.int (1 : Int32))] [(.int (own_fin (own_at ((p1 &&& (2147483647 : Int32)) % (5 : Int32)) a1 a2 a3 a4 a5) a4 a5))]))
    refine Go.step (fun t kk => XS.iloadN X5.here hx rfl (hb hby at_27) rfl kk) ?_
    show Go p e below s _ _ _ (T5.setTop (mkF m 28 #[.val (.int p1), .val (.int ((p1 &&& (2147483647 : Int32)) % (5 : Int32))), .val (.ref (own_at ((p1 &&& (2147483647 : Int32)) % (5 : Int32)) a1 a2 a3 a4 a5)), .val (.int (1 : Int32))] [(.int (1 : Int32)), (.int (own_fin (own_at ((p1 &&& (2147483647 : Int32)) % (5 : Int32)) a1 a2 a3 a4 a5) a4 a5))]))
    have hc28_6 : (own_fin (own_at ((p1 &&& (2147483647 : Int32)) % (5 : Int32)) a1 a2 a3 a4 a5) a4 a5) = (1 : Int32) := hfin.trans (if_neg hc14_2)
    refine Go.step (fun t kk => XS.icmpNo X5.here hx rfl (hb hby at_28) rfl (teq hc28_6).2 kk) ?_
    show Go p e below s _ _ _ (T5.setTop (mkF m 31 #[.val (.int p1), .val (.int ((p1 &&& (2147483647 : Int32)) % (5 : Int32))), .val (.ref (own_at ((p1 &&& (2147483647 : Int32)) % (5 : Int32)) a1 a2 a3 a4 a5)), .val (.int (1 : Int32))] []))
    refine Go.step (fun t kk => XS.iconst X5.here hx rfl (hb hby at_31) kk) ?_
    show Go p e below s _ _ _ (T5.setTop (mkF m 32 #[.val (.int p1), .val (.int ((p1 &&& (2147483647 : Int32)) % (5 : Int32))), .val (.ref (own_at ((p1 &&& (2147483647 : Int32)) % (5 : Int32)) a1 a2 a3 a4 a5)), .val (.int (1 : Int32))] [(.int (1 : Int32))]))
    refine Go.step (fun t kk => XS.goto X5.here hx rfl (pc0 := 32) (pc' := 36) rfl (hb hby at_32) (by decide) (by decide) kk) ?_
    show Go p e below s _ _ _ (T5.setTop (mkF m 36 #[.val (.int p1), .val (.int ((p1 &&& (2147483647 : Int32)) % (5 : Int32))), .val (.ref (own_at ((p1 &&& (2147483647 : Int32)) % (5 : Int32)) a1 a2 a3 a4 a5)), .val (.int (1 : Int32))] [(.int (1 : Int32))]))
    exact Go.retN X5 hx hlk (t := .boolean) hret (by simp) (hb hby at_36) (show _ ∧ _ from ⟨rfl, N5⟩) (by decide) (by decide)
set_option maxRecDepth 65536 in
set_option maxHeartbeats 40000000 in
theorem comes_1 {Post : Tables → Env → Array Value → State → Outcome → State → Prop} (hpost : ∀ tb e args s v u, (limb_1_1.after args s (.returned v) u = true ∧ limb_1_2.after args s (.returned v) u = true ∧ True) → FrameEnd s (.returned v) u (Jvm.fieldLocs frame_1_writes args s ++ Jvm.arrayLocs frame_1_arrays args s ++ Jvm.staticLocs frame_1_statics s) 0 0 → Post tb e args s (.returned v) u) :
    ArmFor flags0 classFile x code maxLocals ret World_1 tables_1 room_1 Calls_1 rest_1 Pre_1 Post := by
  intro l hfl _ _ p e ha hc hk s m args below hf hA hF happ hP
  obtain ⟨hcalls, hrest, hpre⟩ := hP
  obtain ⟨-, -, -, hnamed, -, -, -, hat⟩ := (Spec.applies_iff hf).mp happ
  obtain ⟨hg, hn⟩ := and_e (Cond.before_iff.mp (show (Jvm.Cond.and given_1 narrow_1).before args s = true from hpre))
  obtain ⟨hcount, r0⟩ := and_e hg
  have g0 := r0
  obtain ⟨w0, rfl⟩ : ∃ w0 : Value, args = #[w0] := by
    have hs : args.size = 1 := by simpa [Cond.value, given_1] using hcount
    obtain ⟨L⟩ := args
    match L, hs with
    | [w0], _ => exact ⟨w0, rfl⟩
  have hw := fun d (hd : d ∈ tables_1) => atoms_spec (ws := Jvm.Cond.code x code maxLocals ret :: tables_1) hat d (List.mem_cons_of_mem _ hd)
  obtain ⟨i0, ea0⟩ := is_v g0
  obtain rfl : w0 = (.int i0) := Option.some.inj ea0
  obtain ⟨q0, t0⟩ := and_e hn
  obtain ⟨q1, t1⟩ := and_e t0
  obtain ⟨q2, t2⟩ := and_e t1
  obtain ⟨q3, t3⟩ := and_e t2
  obtain ⟨q4, t4⟩ := and_e t3
  obtain ⟨q5, t5⟩ := and_e t4
  obtain ⟨q6, t6⟩ := and_e t5
  obtain ⟨q7, t7⟩ := and_e t6
  obtain ⟨q8, t8⟩ := and_e t7
  have q9 := t8
  obtain ⟨a1, ev_a1⟩ := exa_v q0
  have E_a1 := Exa.start ev_a1 q0
  have S_a1 := Sta.start ev_a1 (Or.inr ⟨(hw _ (List.mem_of_getElem? (i := 6) rfl)), (hw _ (List.mem_of_getElem? (i := 7) rfl))⟩)
  obtain ⟨a4, ev_a4⟩ := exa_v q1
  have E_a4 := Exa.start ev_a4 q1
  have S_a4 := Sta.start ev_a4 (Or.inr ⟨(hw _ (List.mem_of_getElem? (i := 6) rfl)), (hw _ (List.mem_of_getElem? (i := 14) rfl))⟩)
  obtain ⟨a5, ev_a5⟩ := exa_v q4
  have E_a5 := Exa.start ev_a5 q4
  have S_a5 := Sta.start ev_a5 (Or.inr ⟨(hw _ (List.mem_of_getElem? (i := 6) rfl)), (hw _ (List.mem_of_getElem? (i := 16) rfl))⟩)
  obtain ⟨a2, ev_a2⟩ := exa_v q6
  have E_a2 := Exa.start ev_a2 q6
  have S_a2 := Sta.start ev_a2 (Or.inr ⟨(hw _ (List.mem_of_getElem? (i := 6) rfl)), (hw _ (List.mem_of_getElem? (i := 19) rfl))⟩)
  obtain ⟨a3, ev_a3⟩ := exa_v q8
  have E_a3 := Exa.start ev_a3 q8
  have S_a3 := Sta.start ev_a3 (Or.inr ⟨(hw _ (List.mem_of_getElem? (i := 6) rfl)), (hw _ (List.mem_of_getElem? (i := 22) rfl))⟩)
  have F_a1_ordinal := own_fldI ev_a1 q2
  have F_a4_ordinal := own_fldI ev_a4 q3
  have F_a5_ordinal := own_fldI ev_a5 q5
  have F_a2_ordinal := own_fldI ev_a2 q7
  have F_a3_ordinal := own_fldI ev_a3 q9
  obtain ⟨n, o, h1, h2, h3, _, L, rfl, ⟨rfl, N⟩, hq⟩ := rm_law l s _ hw i0 a1 a2 a3 a4 a5 s.heap s.heap.size S_a1 S_a2 S_a3 S_a4 S_a5 E_a1 E_a2 E_a3 E_a4 E_a5 F_a1_ordinal F_a2_ordinal F_a3_ordinal F_a4_ordinal F_a5_ordinal tables_1 p e ha hc hk s m _ below hf ((Spec.applies_iff_loose hf).mp happ).1 ⟨rfl, State.Warmed39.refl s, rfl⟩ trivial
  refine ⟨n, _, h1, h2, h3, hpost _ _ _ _ _ _ ⟨Cond.after_iff.mpr rfl, Cond.after_iff.mpr (eq_i res_at (Term.int_eval (1)) rfl), trivial⟩ ⟨hq.1, hq.2.1, (hq.2.2.sift fun y hy => Or.inr (N y hy)).mono (by decide) (by decide)⟩⟩
theorem main_1_1 : Claimed_1_1 := comes_1 fun _ _ _ _ _ _ h hF => ⟨h.1, hF⟩
theorem main_1_2 : Claimed_1_2 := comes_1 fun _ _ _ _ _ _ h hF => ⟨h.2.1, hF⟩
end Jvm.Pilot.@@N@@
namespace Jvm.Pilot.@@N@@
open Jvm Jvm.ClassFile Sem Op Lib Jvm.Free Jvm.Stand Jvm.Pilot.@@N@@.Jvm.D
/-! MADE BY PROGRAM (witnessworld.py) out of the Statement's table words and the real class files: 12 classes; the members and pool entries that the words name. The judged class is class 1, her method 1. -/
namespace start1
open Jvm.ClassFile
def u (s : String) : CpInfo := .utf8 (stringToUtf16 s)
/-- a pool by its gaps: so many unusable entries, then the entry; so many at the end -/
def gap : Nat → List CpInfo → List CpInfo
  | 0, r => r
  | n + 1, r => .unusable :: gap n r
def poolList (es : List (Nat × CpInfo)) (last : Nat) : List CpInfo := es.foldr (fun e r => gap e.1 (e.2 :: r)) (gap last [])
def pool (es : List (Nat × CpInfo)) (last : Nat) : Array CpInfo := ⟨poolList es last⟩
def fileOf (pool : Array CpInfo) (this : Nat) (attrs : Array Attribute := #[]) (ms : Array MethodInfo := #[]) (fl : Nat := 33) (sup : Nat := 0) (ifs : Array Nat := #[]) (fds : Array FieldInfo := #[]) : ClassFile where
  minorVersion := 0
  majorVersion := 65
  constantPool := pool
  accessFlags := fl
  thisClass := this
  superClass := sup
  interfaces := ifs
  fields := fds
  methods := ms
  attributes := attrs
def plain (name : String) (sup : Option ClassId) : Class where
  name := name
  kind := .ordinary
  loader := none
  accessFlags := 33
  super := sup
  interfaces := #[]
  cf := none
  fields := #[]
  methods := #[]
  instanceTypes := #[]
  staticTypes := #[]
  resolved := #[]
  callSites := []
  init := .initialized
  statics := none
  mirror := none

def pool0 : Array CpInfo := pool [(5, u "<init>"), (0, u "()V"), (1, .class_ 10), (1, u "java/lang/Object")] 113

def k0m0 : Method := { name := "<init>", desc := "()V", sig := { parameters := [], returnType := none }, accessFlags := 1, code := none }
/-- java/lang/Object -/
def k0 : Class := { plain "java/lang/Object" none with
  accessFlags := 33
  interfaces := #[]
  cf := some (fileOf pool0 8 #[] #[{ accessFlags := 1, nameIndex := 5, descriptorIndex := 6, attributes := #[] }] 33 0 #[] #[])
  fields := #[]
  methods := #[k0m0]
  instanceTypes := #[]
  staticTypes := #[]
  resolved := Array.replicate 124 none
  statics := none }

def pool1 : Array CpInfo := pool [(2, .class_ 4), (1, u "java/lang/Object"), (0, u "<init>"), (0, u "()V"), (0, .integer 2147483647), (0, .methodref 9 10), (0, .class_ 11), (0, .nameAndType 12 13), (0, u "com/example/godwit/godwit/billing/CollectionStageHasReachedFinalPinLaw"), (0, u "stageAt"), (0, u "(I)Lcom/example/godwit/godwit/billing/CollectionStage;"), (0, .methodref 15 16), (0, .class_ 17), (0, .nameAndType 18 19), (0, u "com/example/godwit/godwit/billing/CollectionStage"), (0, u "hasReachedFinal"), (0, u "()Z"), (0, .fieldref 15 21), (0, .nameAndType 22 23), (0, u "UNPAID"), (0, u "Lcom/example/godwit/godwit/billing/CollectionStage;"), (0, .fieldref 15 25), (0, .nameAndType 26 23), (0, u "FIRST"), (0, .fieldref 15 28), (0, .nameAndType 29 23), (0, u "SECOND"), (0, .fieldref 15 31), (0, .nameAndType 32 23), (0, u "FINAL"), (0, .fieldref 15 34), (0, .nameAndType 35 23), (0, u "COLLECTIONS"), (2, u "law"), (0, u "(I)Z")] 3

def k1m0 : Method := { name := "<init>", desc := "()V", sig := { parameters := [], returnType := none }, accessFlags := 1, code := none }
def k1c1 : Code := { maxStack := 2, maxLocals := 4, code := code, exceptionTable := #[], attributes := #[] }
def k1m1 : Method := { name := "law", desc := "(I)Z", sig := { parameters := [.int], returnType := some .boolean }, accessFlags := 9, code := some k1c1 }
def k1c2 : Code := { maxStack := 2, maxLocals := 1, code := method_3_code, exceptionTable := #[], attributes := #[] }
def k1m2 : Method := { name := "stageAt", desc := "(I)Lcom/example/godwit/godwit/billing/CollectionStage;", sig := { parameters := [.int], returnType := some (.object "com/example/godwit/godwit/billing/CollectionStage") }, accessFlags := 10, code := some k1c2 }
/-- com/example/godwit/godwit/billing/CollectionStageHasReachedFinalPinLaw -/
def k1 : Class := { plain "com/example/godwit/godwit/billing/CollectionStageHasReachedFinalPinLaw" (some 0) with
  accessFlags := 49
  interfaces := #[]
  cf := some (fileOf pool1 9 #[] #[{ accessFlags := 1, nameIndex := 5, descriptorIndex := 6, attributes := #[] }, { accessFlags := 9, nameIndex := 38, descriptorIndex := 39, attributes := #[] }, { accessFlags := 10, nameIndex := 12, descriptorIndex := 13, attributes := #[] }] 49 2 #[] #[])
  fields := #[]
  methods := #[k1m0, k1m1, k1m2]
  instanceTypes := #[]
  staticTypes := #[]
  resolved := Array.replicate 43 none
  statics := none }

def pool2 : Array CpInfo := pool [(1, .class_ 2), (0, u "java/lang/constant/Constable"), (0, .class_ 4), (0, u "java/lang/Object")] 6

/-- java/lang/constant/Constable -/
def k2 : Class := { plain "java/lang/constant/Constable" (some 0) with
  accessFlags := 1537
  interfaces := #[]
  cf := some (fileOf pool2 1 #[] #[] 1537 3 #[] #[])
  fields := #[]
  methods := #[]
  instanceTypes := #[]
  staticTypes := #[]
  resolved := Array.replicate 11 none
  statics := none }

def pool3 : Array CpInfo := pool [(1, .class_ 2), (0, u "java/lang/Comparable"), (0, .class_ 4), (0, u "java/lang/Object")] 7

/-- java/lang/Comparable -/
def k3 : Class := { plain "java/lang/Comparable" (some 0) with
  accessFlags := 1537
  interfaces := #[]
  cf := some (fileOf pool3 1 #[] #[] 1537 3 #[] #[])
  fields := #[]
  methods := #[]
  instanceTypes := #[]
  staticTypes := #[]
  resolved := Array.replicate 12 none
  statics := none }

def pool4 : Array CpInfo := pool [(1, .class_ 2), (0, u "java/io/Serializable"), (0, .class_ 4), (0, u "java/lang/Object")] 2

/-- java/io/Serializable -/
def k4 : Class := { plain "java/io/Serializable" (some 0) with
  accessFlags := 1537
  interfaces := #[]
  cf := some (fileOf pool4 1 #[] #[] 1537 3 #[] #[])
  fields := #[]
  methods := #[]
  instanceTypes := #[]
  staticTypes := #[]
  resolved := Array.replicate 7 none
  statics := none }

def pool5 : Array CpInfo := pool [(2, .class_ 4), (1, u "java/lang/Enum"), (0, u "name"), (0, u "Ljava/lang/String;"), (2, u "ordinal"), (0, u "I"), (1, .class_ 14), (1, u "java/lang/Object"), (4, u "hash"), (86, .class_ 108), (1, u "java/lang/Enum$EnumDesc"), (2, .class_ 112), (0, u "java/lang/constant/Constable"), (0, .class_ 114), (0, u "java/lang/Comparable"), (0, .class_ 116), (0, u "java/io/Serializable")] 87

/-- java/lang/Enum -/
def k5 : Class := { plain "java/lang/Enum" (some 0) with
  accessFlags := 1057
  interfaces := #[2, 3, 4]
  cf := some (fileOf pool5 2 #[.nestMembers #[106]] #[] 1057 12 #[111, 113, 115] #[{ accessFlags := 18, nameIndex := 5, descriptorIndex := 6, attributes := #[] }, { accessFlags := 18, nameIndex := 9, descriptorIndex := 10, attributes := #[] }, { accessFlags := 2, nameIndex := 19, descriptorIndex := 10, attributes := #[] }])
  fields := #[{ name := "name", type := (.object "java/lang/String"), accessFlags := 18, slot := 0, constantValue := 0 }, { name := "ordinal", type := .int, accessFlags := 18, slot := 1, constantValue := 0 }, { name := "hash", type := .int, accessFlags := 2, slot := 2, constantValue := 0 }]
  methods := #[]
  instanceTypes := #[(.object "java/lang/String"), .int, .int]
  staticTypes := #[]
  resolved := Array.replicate 204 none
  statics := none }

def pool6 : Array CpInfo := pool [(1, .class_ 2), (0, u "com/example/godwit/godwit/billing/CollectionStage"), (2, u "UNPAID"), (0, u "Lcom/example/godwit/godwit/billing/CollectionStage;"), (2, u "FIRST"), (2, u "SECOND"), (0, .fieldref 1 14), (0, .nameAndType 15 6), (0, u "FINAL"), (0, .fieldref 1 17), (0, .nameAndType 18 6), (0, u "COLLECTIONS"), (2, u "$VALUES"), (0, u "[Lcom/example/godwit/godwit/billing/CollectionStage;"), (6, .class_ 31), (1, u "java/lang/Enum"), (68, u "hasReachedFinal"), (0, u "()Z")] 4

def k6c0 : Code := { maxStack := 2, maxLocals := 1, code := prog_22_method_7_code, exceptionTable := #[], attributes := #[] }
def k6m0 : Method := { name := "hasReachedFinal", desc := "()Z", sig := { parameters := [], returnType := some .boolean }, accessFlags := 1, code := some k6c0 }
/-- com/example/godwit/godwit/billing/CollectionStage -/
def k6 : Class := { plain "com/example/godwit/godwit/billing/CollectionStage" (some 5) with
  accessFlags := 16433
  interfaces := #[]
  cf := some (fileOf pool6 1 #[] #[{ accessFlags := 1, nameIndex := 100, descriptorIndex := 101, attributes := #[] }] 16433 29 #[] #[{ accessFlags := 16409, nameIndex := 5, descriptorIndex := 6, attributes := #[] }, { accessFlags := 16409, nameIndex := 9, descriptorIndex := 6, attributes := #[] }, { accessFlags := 16409, nameIndex := 12, descriptorIndex := 6, attributes := #[] }, { accessFlags := 16409, nameIndex := 15, descriptorIndex := 6, attributes := #[] }, { accessFlags := 16409, nameIndex := 18, descriptorIndex := 6, attributes := #[] }, { accessFlags := 4122, nameIndex := 21, descriptorIndex := 22, attributes := #[] }])
  fields := #[{ name := "UNPAID", type := (.object "com/example/godwit/godwit/billing/CollectionStage"), accessFlags := 16409, slot := 0, constantValue := 0 }, { name := "FIRST", type := (.object "com/example/godwit/godwit/billing/CollectionStage"), accessFlags := 16409, slot := 1, constantValue := 0 }, { name := "SECOND", type := (.object "com/example/godwit/godwit/billing/CollectionStage"), accessFlags := 16409, slot := 2, constantValue := 0 }, { name := "FINAL", type := (.object "com/example/godwit/godwit/billing/CollectionStage"), accessFlags := 16409, slot := 3, constantValue := 0 }, { name := "COLLECTIONS", type := (.object "com/example/godwit/godwit/billing/CollectionStage"), accessFlags := 16409, slot := 4, constantValue := 0 }, { name := "$VALUES", type := (.array (.object "com/example/godwit/godwit/billing/CollectionStage")), accessFlags := 4122, slot := 5, constantValue := 0 }]
  methods := #[k6m0]
  instanceTypes := #[(.object "java/lang/String"), .int, .int]
  staticTypes := #[(.object "com/example/godwit/godwit/billing/CollectionStage"), (.object "com/example/godwit/godwit/billing/CollectionStage"), (.object "com/example/godwit/godwit/billing/CollectionStage"), (.object "com/example/godwit/godwit/billing/CollectionStage"), (.object "com/example/godwit/godwit/billing/CollectionStage"), (.array (.object "com/example/godwit/godwit/billing/CollectionStage"))]
  resolved := Array.replicate 106 none
  statics := some 0 }

def pool7 : Array CpInfo := pool [(1, u "java/lang/Cloneable"), (0, .class_ 1), (0, u "java/lang/Object"), (0, .class_ 3)] 3

/-- java/lang/Cloneable -/
def k7 : Class := { plain "java/lang/Cloneable" (some 0) with
  accessFlags := 1537
  interfaces := #[]
  cf := some (fileOf pool7 2 #[] #[] 1537 4 #[] #[])
  fields := #[]
  methods := #[]
  instanceTypes := #[]
  staticTypes := #[]
  resolved := Array.replicate 8 none
  statics := none }

/-- the primitive byte -/
def k8 : Class := { plain "byte" none with kind := .primitive 'B', accessFlags := 0x411 }
/-- [B -/
def k9 : Class := { plain "[B" (some 0) with kind := .array 8 .byte, interfaces := #[7, 4], accessFlags := 1041 }

/-- the primitive int -/
def k10 : Class := { plain "int" none with kind := .primitive 'I', accessFlags := 0x411 }
/-- [I -/
def k11 : Class := { plain "[I" (some 0) with kind := .array 10 .int, interfaces := #[7, 4], accessFlags := 1041 }

def heap : Heap := #[{ cls := 6, slots := #[.ref 1, .ref 2, .ref 3, .ref 4, .ref 5, .null], vm := .statics 6 },
  { cls := 6, slots := #[.null, .int 0, .int 0], vm := .none },
  { cls := 6, slots := #[.null, .int 1, .int 0], vm := .none },
  { cls := 6, slots := #[.null, .int 2, .int 0], vm := .none },
  { cls := 6, slots := #[.null, .int 3, .int 0], vm := .none },
  { cls := 6, slots := #[.null, .int 4, .int 0], vm := .none }]
def classes : Array Class := #[k0, k1, k2, k3, k4, k5, k6, k7, k8, k9, k10, k11]
def interned : List (Array UInt16 × Addr) := []
def slotsUsed : Nat := 21
def theMethod : MethodId := ⟨1, 1⟩
def args0 : Array Value := #[.int 5]
def aboutOver (below : List Frame) : State where
  vm := { classes := classes, interned := interned.toArray }
  heap := heap
  slotsUsed := slotsUsed
  threads := #[{ frames := .invoking theMethod args0 :: below }]
def below0 : List Frame := [.native { method := ⟨0, 0⟩, args := #[] }]
def about1 : State := aboutOver below0
def p0 : Program := .bare "" "" ""
def e0 : Env := launch0.env 0 0 0
theorem w_frames : about1.frames = Frame.invoking theMethod args0 :: below0 := rfl
set_option maxRecDepth 65536 in
theorem w_args : argsFit about1.vm theMethod args0 = true := by decide +kernel
set_option maxRecDepth 65536 in
theorem w_heap : heapFits about1 = true := by decide +kernel
set_option maxRecDepth 65536 in
theorem w_runnable : about1.curStatus? = some .runnable := by decide +kernel
set_option maxRecDepth 65536 in
theorem w_alone : about1.alone = true := by decide +kernel
set_option maxRecDepth 65536 in
theorem w_named : about1.methodNamed? x = some theMethod := by decide +kernel
set_option maxRecDepth 65536 in
theorem w_hears : about1.hears theMethod below0 = true := by decide +kernel
set_option maxRecDepth 65536 in
theorem w_ripe : about1.ripe theMethod args0 below0 = true := by decide +kernel
theorem w_running : about1.status = .running := rfl
set_option maxRecDepth 65536 in
theorem w_room : about1.hasRoom e0.platform room_1 = true :=
  launch0.hasRoom_least _ room_1 (by decide +kernel) (by decide +kernel) (by decide +kernel) (by decide +kernel) (by decide +kernel) (by decide +kernel)
theorem allAtoms_all (ts : List Jvm.Cond) (a : Array Jvm.Value) (st : Jvm.State) : (allAtoms ts).before a st = ts.all (fun c => c.before a st) := by
  induction ts with
  | nil => rfl
  | cons c t ih =>
    show (Jvm.Cond.and c (allAtoms t)).before a st = _
    rw [Jvm.Cond.before_and, ih, List.all_cons]
def words1 : List Jvm.Cond := Jvm.Cond.code x code maxLocals ret :: tables_1
/-- a 'code' word, met by the world's own term for the bytes: nothing is compared byte by byte -/
theorem code_word {y : MethodName} {bytes : ByteArray} {mx : Nat} {rt : Option FieldType} {a : Array Value} {s : State} {m : MethodId} {meth : Method} {c : Code} (h1 : s.methodNamed? y = some m) (h2 : s.vm.method? m = some meth) (h3 : meth.code = some c) (h4 : c.code = bytes)
    (h5 : (c.maxLocals == mx && c.exceptionTable.isEmpty && decide (c.maxStack ≤ mostOperands) && decide (meth.sig.returnType = rt) && !meth.locks && decide (parseMethodDescriptor y.desc = some meth.sig)) = true) : (Jvm.Cond.code y bytes mx rt).before a s = true := by
  simp only [Bool.and_eq_true, beq_iff_eq, Bool.not_eq_true', decide_eq_true_eq] at h5
  obtain ⟨⟨⟨⟨⟨g1, g2⟩, g3⟩, g4⟩, g5⟩, g6⟩ := h5
  simp [Cond.before, Cond.holds, Cond.value, h1, h2, h3, h4, g1, g2, g3, g4, g5, g6]
def isCode : Jvm.Cond → Bool
  | .code _ _ _ _ => true
  | _ => false
theorem all_split {L : List Jvm.Cond} {P : Jvm.Cond → Bool} (h1 : L.all (fun c => isCode c || P c) = true) (h2 : ∀ c ∈ L.filter isCode, P c = true) : L.all P = true := by
  refine List.all_eq_true.mpr fun c hc => ?_
  have h := List.all_eq_true.mp h1 c hc
  rcases Bool.eq_false_or_eq_true (isCode c) with hi | hi
  · exact h2 c (List.mem_filter.mpr ⟨hc, hi⟩)
  · simpa [hi] using h
set_option maxRecDepth 65536 in
theorem w_c0 : (Jvm.Cond.code x code maxLocals ret).before args0 about1 = true := code_word (m := ⟨1, 1⟩) (meth := k1m1) (c := k1c1) (by decide +kernel) rfl rfl rfl (by decide +kernel)
set_option maxRecDepth 65536 in
theorem w_c1 : (Jvm.Cond.code ({ cls := "com/example/godwit/godwit/billing/CollectionStageHasReachedFinalPinLaw", name := "stageAt", desc := "(I)Lcom/example/godwit/godwit/billing/CollectionStage;" } : Jvm.MethodName) method_3_code (1 : Nat) (Option.some (Jvm.ClassFile.FieldType.object "com/example/godwit/godwit/billing/CollectionStage"))).before args0 about1 = true := code_word (m := ⟨1, 2⟩) (meth := k1m2) (c := k1c2) (by decide +kernel) rfl rfl rfl (by decide +kernel)
set_option maxRecDepth 65536 in
theorem w_c2 : (Jvm.Cond.code ({ cls := "com/example/godwit/godwit/billing/CollectionStage", name := "hasReachedFinal", desc := "()Z" } : Jvm.MethodName) prog_22_method_7_code (1 : Nat) (Option.some Jvm.ClassFile.FieldType.boolean)).before args0 about1 = true := code_word (m := ⟨6, 0⟩) (meth := k6m0) (c := k6c0) (by decide +kernel) rfl rfl rfl (by decide +kernel)
def codes1 : List Jvm.Cond := [Jvm.Cond.code x code maxLocals ret, Jvm.Cond.code ({ cls := "com/example/godwit/godwit/billing/CollectionStageHasReachedFinalPinLaw", name := "stageAt", desc := "(I)Lcom/example/godwit/godwit/billing/CollectionStage;" } : Jvm.MethodName) method_3_code (1 : Nat) (Option.some (Jvm.ClassFile.FieldType.object "com/example/godwit/godwit/billing/CollectionStage")), Jvm.Cond.code ({ cls := "com/example/godwit/godwit/billing/CollectionStage", name := "hasReachedFinal", desc := "()Z" } : Jvm.MethodName) prog_22_method_7_code (1 : Nat) (Option.some Jvm.ClassFile.FieldType.boolean)]
set_option maxRecDepth 65536 in
theorem codes_eq : words1.filter isCode = codes1 := rfl
theorem w_codes : ∀ c ∈ words1.filter isCode, c.before args0 about1 = true := by
  rw [codes_eq]
  intro c hc
  simp only [codes1, List.mem_cons, List.not_mem_nil, or_false] at hc
  rcases hc with rfl | rfl | rfl
  · exact w_c0
  · exact w_c1
  · exact w_c2
set_option maxRecDepth 65536 in
theorem w_t1 : words1.all (fun c => isCode c || c.before args0 about1) = true := by decide +kernel
theorem w_tables : (allAtoms (Jvm.Cond.code x code maxLocals ret :: tables_1)).before args0 about1 = true := by
  rw [allAtoms_all]
  show words1.all (fun c => c.before args0 about1) = true
  refine all_split ?_ w_codes
  rw [w_t1]
set_option maxRecDepth 65536 in
theorem w_case : (Jvm.Cond.and given_1 narrow_1).before args0 about1 = true := by decide +kernel
theorem w_applies : (headSpec (Jvm.Cond.code x code maxLocals ret :: tables_1) room_1).applies x e0.platform about1 = true :=
  (Spec.applies_iff w_frames).mpr ⟨w_running, w_runnable, w_alone, w_named, w_hears, w_ripe, w_room, w_tables⟩
theorem atStart : AtStart classFile x code maxLocals ret World_1 tables_1 room_1 Calls_1 rest_1 Pre_1 launch0 p0 e0 about1 theMethod args0 below0 :=
  ⟨lists_1, trivial, launch0.admits_env _ _ _, launch0.least_env, fairChoices_fair.cas, fairChoices_fair.clock, w_frames, w_args, w_heap, w_applies, trivial, trivial, w_case⟩
end start1
theorem witness_1 : WitnessClaimed_1 := ⟨start1.p0, start1.e0, start1.about1, start1.theMethod, start1.args0, start1.below0, start1.atStart⟩
end Jvm.Pilot.@@N@@
