import JvmDerived
import JvmDerived.Pilot.@@N@@Statement
import JvmDerived.Pilot.@@N@@Code
set_option linter.unusedVariables false
set_option linter.unusedSimpArgs false
namespace Jvm.Pilot.@@N@@
open Jvm Jvm.ClassFile Sem Op Lib Jvm.Free Jvm.Stand Jvm.LawKit Jvm.RoadKit Bundle Jvm.Pilot.@@N@@.Jvm.D
section OwnKit
variable {p : Program} {l : Launch} {e : Env} {R : Room} {s : State} {m : MethodId} {args : Array Value} {below : List Frame} {meth : Method} {c : Code} {T : State} {locs : List Loc} {cells slots : Nat} {Z : State} {a0 : Array Value} {h : Heap} {Q : Option Value → Heap → List Loc → Prop} {k n : Nat}
/-- from the state a the run comes to its end, and Q holds there -/
def Go (p : Program) (e : Env) (below : List Frame) (s : State) (Q : Option Value → Heap → List Loc → Prop) (k n : Nat) (a : State) : Prop :=
  ∃ t o, Steps p.tables e below a t ∧ t.status = .running ∧ Ended t below o ∧ ∃ v L, o = .returned v ∧ Q v t.heap L ∧ FrameEnd s o t L k n
theorem Go.step {a b : State} (st : ∀ t, Steps p.tables e below b t → Steps p.tables e below a t) (g : Go p e below s Q k n b) : Go p e below s Q k n a := by
  obtain ⟨t, o, h1, h2⟩ := g
  exact ⟨t, o, st t h1, h2⟩
theorem Go.out (X : Stand p l e R s m args below meth c T locs cells slots) (hx : p.tables.exec = Jvm.exec) (hlk : meth.locks = false) {pc : Nat} {Ls : Array Slot} {w : Value} {t : FieldType} {i : Instr} {rest : List Value} (hret : meth.sig.returnType = some t) (hn : narrow t w = w)
    (hi : (i = .ireturn ∧ (t = .int ∨ t = .boolean ∨ t = .byte ∨ t = .char ∨ t = .short) ∧ ∃ z, w = .int z) ∨ (i = .lreturn ∧ t = .long ∧ ∃ z, w = .long z) ∨ (i = .dreturn ∧ t = .double ∧ ∃ z, w = .double z) ∨ (i = .freturn ∧ t = .float ∧ ∃ z, w = .float z) ∨ (i = .areturn ∧ t.isReference = true ∧ w.isRef = true))
    (hd : decode c.code pc = .ok (i, 1)) (hq : Q (some w) T.heap locs) (hk : cells ≤ k) (hl : slots ≤ n) : Go p e below s Q k n (T.setTop (mkF m pc Ls (w :: rest))) := by
  obtain ⟨fs, hr, hrun, hended, hW, hsame⟩ := X.leave (v := some w) (fun h => by rw [hret] at h; cases h) hlk
  exact ⟨_, _, retOut X hx hret hn hi hd hr, hrun, hended, _, _, rfl, hq, ⟨_, rfl⟩, hW, hsame.mono hk hl⟩
theorem Go.retI (X : Stand p l e R s m args below meth c T locs cells slots) (hx : p.tables.exec = Jvm.exec) (hlk : meth.locks = false) {pc : Nat} {Ls : Array Slot} {z : Int32} {rest : List Value} (hret : meth.sig.returnType = some .int) (hd : decode c.code pc = .ok (.ireturn, 1)) (hq : Q (some (.int z)) T.heap locs) (hk : cells ≤ k) (hl : slots ≤ n) : Go p e below s Q k n (T.setTop (mkF m pc Ls (.int z :: rest))) :=
  Go.out X hx hlk hret rfl (Or.inl ⟨rfl, Or.inl rfl, z, rfl⟩) hd hq hk hl
theorem Go.retJ (X : Stand p l e R s m args below meth c T locs cells slots) (hx : p.tables.exec = Jvm.exec) (hlk : meth.locks = false) {pc : Nat} {Ls : Array Slot} {z : Int64} {rest : List Value} (hret : meth.sig.returnType = some .long) (hd : decode c.code pc = .ok (.lreturn, 1)) (hq : Q (some (.long z)) T.heap locs) (hk : cells ≤ k) (hl : slots ≤ n) : Go p e below s Q k n (T.setTop (mkF m pc Ls (.long z :: rest))) :=
  Go.out X hx hlk hret rfl (Or.inr (Or.inl ⟨rfl, rfl, z, rfl⟩)) hd hq hk hl
theorem own_narrow_ref {t : FieldType} {w : Value} (ht : t.isReference = true) : narrow t w = w := by cases t <;> first | (cases ht; done) | rfl | (cases w <;> rfl)
theorem Go.retA (X : Stand p l e R s m args below meth c T locs cells slots) (hx : p.tables.exec = Jvm.exec) (hlk : meth.locks = false) {pc : Nat} {Ls : Array Slot} {w : Value} {t : FieldType} {rest : List Value} (hret : meth.sig.returnType = some t) (ht : t.isReference = true) (hw : w.isRef = true) (hd : decode c.code pc = .ok (.areturn, 1)) (hq : Q (some w) T.heap locs) (hk : cells ≤ k) (hl : slots ≤ n) : Go p e below s Q k n (T.setTop (mkF m pc Ls (w :: rest))) :=
  Go.out X hx hlk hret (own_narrow_ref ht) (Or.inr (Or.inr (Or.inr (Or.inr ⟨rfl, ht, hw⟩)))) hd hq hk hl
theorem Go.retN (X : Stand p l e R s m args below meth c T locs cells slots) (hx : p.tables.exec = Jvm.exec) (hlk : meth.locks = false) {pc : Nat} {Ls : Array Slot} {z : Int32} {t : FieldType} {rest : List Value} (hret : meth.sig.returnType = some t) (ht : t = .boolean ∨ t = .byte ∨ t = .char ∨ t = .short) (hd : decode c.code pc = .ok (.ireturn, 1)) (hq : Q (some (.int (nar t z))) T.heap locs) (hk : cells ≤ k) (hl : slots ≤ n) : Go p e below s Q k n (T.setTop (mkF m pc Ls (.int z :: rest))) := by
  obtain ⟨fs, hr, hrun, hended, hW, hsame⟩ := X.leave (v := some (.int (nar t z))) (fun h => by rw [hret] at h; cases h) hlk
  exact ⟨_, _, Jvm.RoadKit.retN X hx hret ht hd hr, hrun, hended, _, _, rfl, hq, ⟨_, rfl⟩, hW, hsame.mono hk hl⟩
theorem Go.retV (X : Stand p l e R s m args below meth c T locs cells slots) (hx : p.tables.exec = Jvm.exec) (hlk : meth.locks = false) {pc : Nat} {Ls : Array Slot} (hret : meth.sig.returnType = none) (hd : decode c.code pc = .ok (.return_, 1)) (hq : Q none T.heap locs) (hk : cells ≤ k) (hl : slots ≤ n) : Go p e below s Q k n (T.setTop (mkF m pc Ls [])) := by
  obtain ⟨fs, hr, hrun, hended, hW, hsame⟩ := X.leave (v := none) (fun _ => rfl) hlk
  exact ⟨_, _, X.returnOut hx hret hd hr, hrun, hended, _, _, rfl, hq, ⟨_, rfl⟩, hW, hsame.mono hk hl⟩
theorem own_decT {x y : Value} (q : x = y) : decide (x = y) = true := decide_eq_true q
theorem own_decF {x y : Value} (q : ¬ x = y) : decide (x = y) = false := decide_eq_false q
/-- a body's contract: called with as' over the heap h it returns, and Q holds at the end -/
def Con (l : Launch) (Z : State) (y : MethodName) (bytes : ByteArray) (maxL : Nat) (ret : Option FieldType) (rm : Room) (as' : Array Value) (h : Heap) (Q : Option Value → Heap → List Loc → Prop) : Prop :=
  ∀ ws : List Jvm.Cond, MetFree l y (head1 (Jvm.Cond.code y bytes maxL ret :: ws) rm) (fun a U => a = as' ∧ Z.Warmed39 U.vm ∧ U.heap = h) (fun _ _ _ _ _ => True) (fun _ U o U' => ∃ v L, o = .returned v ∧ Q v U'.heap L ∧ FrameEnd U o U' L rm.cells rm.slots)
theorem Con.of {y : MethodName} {bytes : ByteArray} {maxL : Nat} {ret : Option FieldType} {rm : Room} {as' : Array Value} (hy : plainName y.cls = true)
    (body : ∀ (p : Program) (e : Env) (s : State) (m : MethodId) (below : List Frame) (meth : Method) (c : Code) (T : State),
      Stand p l e rm s m as' below meth c T [] 0 0 → p.tables.exec = Jvm.exec → c.code = bytes → c.maxLocals = maxL → meth.sig.returnType = ret → meth.locks = false →
      s.vm.findClass y.cls = some m.cls → meth.name = y.name → Z.Warmed39 s.vm → T.heap = h → Go p e below s Q rm.cells rm.slots (T.setTop (entryFrame m as' maxL))) : Con l Z y bytes maxL ret rm as' h Q := by
  intro ws
  refine MetFree.of_bodySF (plainFor_of_name hy) hisR ?_
  intro p e s m args below meth c s₁ Bd hml hP hK
  obtain ⟨rfl, hZ, hh⟩ := hP
  exact body p e s m below meth c s₁ (Stand.of_body Bd) Bd.exec Bd.bytes hml Bd.returns Bd.notSynchronized (findClass_of_methodNamed Bd.named) (name_of_methodNamed Bd.named Bd.method).1 hZ (by rw [← hh, Bd.state]; rfl)
theorem Go.callS (X : Stand p l e R s m args below meth c T locs cells slots) (hx : p.tables.exec = Jvm.exec) (hZ : Z.Warmed39 s.vm) {own : String} {index : Nat} {y : MethodName} {bytes : ByteArray} {maxL : Nat} {ret : Option FieldType} {rm : Room} {Qc : Option Value → Heap → List Loc → Prop}
    (hown : s.vm.findClass own = some m.cls) (w1 : (Jvm.Cond.methodLink own index y).before a0 Z = true) (w2 : (Jvm.Cond.static y).before a0 Z = true) (w3 : (Jvm.Cond.initialized y.cls).before a0 Z = true) (w4 : (Jvm.Cond.code y bytes maxL ret).before a0 Z = true) (hy : y.cls ≠ "java/lang/invoke/MethodHandle" ∧ y.cls ≠ "java/lang/invoke/VarHandle")
    (eT : T.heap = h) (argsL rest : List Value) (W : Nat) (con : Con l Z y bytes maxL ret rm argsL.toArray h Qc)
    (hf : rm.frames + 1 ≤ R.frames) (hl : W + (maxL + 11) + rm.locals ≤ R.locals) (hc : cells + rm.cells ≤ R.cells) (hs : slots + rm.slots ≤ R.slots)
    {pc : Nat} {Ls : Array Slot} {stk : List Value} (hsize : Ls.size = c.maxLocals) (hlen : ∀ sig, parseMethodDescriptor y.desc = some sig → argsL.length = sig.parameters.length) (hstk : stk = argsL.reverse ++ rest) (hW : (rest.map fun v => v.category).sum ≤ W)
    (hd : decode c.code pc = .ok (.invokestatic index, 3))
    (k1 : ∀ (T' : State) (v : Option Value) (Lc : List Loc), Stand p l e R s m args below meth c T' (locs ++ Lc) (cells + rm.cells) (slots + rm.slots) → Qc v T'.heap Lc → Go p e below s Q k n (T'.setTop (mkF m (pc + 3) Ls (v.toList ++ rest)))) :
    Go p e below s Q k n (T.setTop (mkF m pc Ls stk)) := by
  subst hstk
  obtain ⟨v, _, ⟨T', L', c', n'⟩, -, X', ⟨Lc, hQ, l', y', z'⟩, st⟩ := Jvm.LawKit.callS X hx (y := y) hown (mvT hZ w1) (mvT hZ w2) (mvT hZ w3) (mvT hZ w4) hy (backOf (W := W) (con []) hZ w4 w3 hf hl) (g := mkF m pc Ls (argsL.reverse ++ rest)) rfl hsize (argsL := argsL) (rest := rest) hlen rfl (by show 2 * 0 + _ ≤ _; rw [Nat.mul_zero, Nat.zero_add]; exact hW) hd (fun _ _ => ⟨rfl, eT, hc, hs⟩)
  dsimp only [Pt.U, Pt.locs, Pt.cells, Pt.slots] at X' l' y' z' st hQ
  subst l' y' z'
  exact Go.step st (k1 T' v Lc X' hQ)
theorem Go.callV (X : Stand p l e R s m args below meth c T locs cells slots) (hx : p.tables.exec = Jvm.exec) (hZ : Z.Warmed39 s.vm) {own C : String} {index : Nat} {y : MethodName} {bytes : ByteArray} {maxL : Nat} {ret : Option FieldType} {rm : Room} {Qc : Option Value → Heap → List Loc → Prop}
    (hown : s.vm.findClass own = some m.cls) (w1 : (Jvm.Cond.methodLink own index y).before a0 Z = true) (w2 : (Jvm.Cond.declares y).before a0 Z = true) (w3 : (Jvm.Cond.selects C y y).before a0 Z = true) (w4 : (Jvm.Cond.instanceMethod y).before a0 Z = true) (w5 : (Jvm.Cond.initialized y.cls).before a0 Z = true) (w6 : (Jvm.Cond.code y bytes maxL ret).before a0 Z = true) (hy : y.cls ≠ "java/lang/invoke/MethodHandle" ∧ y.cls ≠ "java/lang/invoke/VarHandle")
    (eT : T.heap = h) {b : Addr} (E : Exa Z h b C) (argsL rest : List Value) (W : Nat) (con : Con l Z y bytes maxL ret rm (.ref b :: argsL).toArray h Qc)
    (hf : rm.frames + 1 ≤ R.frames) (hl : W + (maxL + 11) + rm.locals ≤ R.locals) (hc : cells + rm.cells ≤ R.cells) (hs : slots + rm.slots ≤ R.slots)
    {pc : Nat} {Ls : Array Slot} {stk : List Value} (hsize : Ls.size = c.maxLocals) (hlen : ∀ sig, parseMethodDescriptor y.desc = some sig → argsL.length = sig.parameters.length) (hstk : stk = argsL.reverse ++ .ref b :: rest) (hW : (rest.map fun v => v.category).sum ≤ W)
    (hd : decode c.code pc = .ok (.invokevirtual index, 3))
    (k1 : ∀ (T' : State) (v : Option Value) (Lc : List Loc), Stand p l e R s m args below meth c T' (locs ++ Lc) (cells + rm.cells) (slots + rm.slots) → Qc v T'.heap Lc → Go p e below s Q k n (T'.setTop (mkF m (pc + 3) Ls (v.toList ++ rest)))) :
    Go p e below s Q k n (T.setTop (mkF m pc Ls stk)) := by
  subst hstk
  obtain ⟨cq, kq, qa, qb, qc⟩ := isOf hZ eT E
  obtain ⟨v, _, ⟨T', L', c', n'⟩, -, X', ⟨Lc, hQ, l', y', z'⟩, st⟩ := X.virtualBack hx (y := y) (z := y) hown (mvT hZ w1) (mvT hZ w2) (notFace_of_selects (args := #[]) (mvT hZ w3)) (mvT hZ w3) (mvT hZ w4) hy (backOf (W := W) (con []) hZ w6 w5 hf hl) qa qc (g := mkF m pc Ls (argsL.reverse ++ .ref b :: rest)) rfl hsize (Steps.refl _) (argsL := argsL) (rest := rest) hlen rfl (by show 2 * 0 + _ ≤ _; rw [Nat.mul_zero, Nat.zero_add]; exact hW) hd (fun _ _ => ⟨rfl, eT, hc, hs⟩)
  dsimp only [Pt.U, Pt.locs, Pt.cells, Pt.slots] at X' l' y' z' st hQ
  subst l' y' z'
  exact Go.step (fun t kk => st.trans kk) (k1 T' v Lc X' hQ)
theorem Go.callI (X : Stand p l e R s m args below meth c T locs cells slots) (hx : p.tables.exec = Jvm.exec) (hZ : Z.Warmed39 s.vm) {own : String} {index : Nat} {y : MethodName} {bytes : ByteArray} {maxL : Nat} {rm : Room} {Qc : Option Value → Heap → List Loc → Prop} (hy1 : y.name = "<init>")
    (hown : s.vm.findClass own = some m.cls) (w1 : (Jvm.Cond.methodLink own index y).before a0 Z = true) (w2 : (Jvm.Cond.instanceMethod y).before a0 Z = true) (w3 : (Jvm.Cond.initialized y.cls).before a0 Z = true) (w4 : (Jvm.Cond.code y bytes maxL none).before a0 Z = true) (hy : y.cls ≠ "java/lang/invoke/MethodHandle" ∧ y.cls ≠ "java/lang/invoke/VarHandle")
    (eT : T.heap = h) {b : Addr} (argsL rest : List Value) (W : Nat) (con : Con l Z y bytes maxL none rm (.ref b :: argsL).toArray h Qc)
    (hf : rm.frames + 1 ≤ R.frames) (hl : W + (maxL + 11) + rm.locals ≤ R.locals) (hc : cells + rm.cells ≤ R.cells) (hs : slots + rm.slots ≤ R.slots)
    {pc : Nat} {Ls : Array Slot} {stk : List Value} (hsize : Ls.size = c.maxLocals) (hlen : ∀ sig, parseMethodDescriptor y.desc = some sig → argsL.length = sig.parameters.length) (hstk : stk = argsL.reverse ++ .ref b :: rest) (hW : (rest.map fun v => v.category).sum ≤ W)
    (hd : decode c.code pc = .ok (.invokespecial index, 3))
    (k1 : ∀ (T' : State) (v : Option Value) (Lc : List Loc), Stand p l e R s m args below meth c T' (locs ++ Lc) (cells + rm.cells) (slots + rm.slots) → Qc v T'.heap Lc → Go p e below s Q k n (T'.setTop (mkF m (pc + 3) Ls (v.toList ++ rest)))) :
    Go p e below s Q k n (T.setTop (mkF m pc Ls stk)) := by
  subst hstk
  obtain ⟨v, _, ⟨T', L', c', n'⟩, -, X', ⟨Lc, hQ, l', y', z'⟩, st⟩ := X.specialBack hx (y := y) hy1 hown (mvT hZ w1) (mvT hZ w2) (mvT hZ w4) hy (backOf (W := W) (con []) hZ w4 w3 hf hl) (g := mkF m pc Ls (argsL.reverse ++ .ref b :: rest)) rfl hsize (Steps.refl _) (a := b) (argsL := argsL) (rest := rest) hlen rfl (by show 2 * 0 + _ ≤ _; rw [Nat.mul_zero, Nat.zero_add]; exact hW) hd (fun _ _ => ⟨rfl, eT, hc, hs⟩)
  dsimp only [Pt.U, Pt.locs, Pt.cells, Pt.slots] at X' l' y' z' st hQ
  subst l' y' z'
  exact Go.step (fun t kk => st.trans kk) (k1 T' v Lc X' hQ)
end OwnKit
theorem own_ext_trans {h0 h1 h2 : Heap} (E : Ext h0 h1) (F : Ext h1 h2) : Ext h0 h2 := ⟨Nat.le_trans E.1 F.1, fun a c q => F.2 a c (E.2 a c q)⟩
theorem own_ext_refl (h0 : Heap) : Ext h0 h0 := ⟨Nat.le_refl _, fun _ _ q => q⟩
theorem own_ext_keep {h0 h1 h2 : Heap} {ws : List Addr} (E : Ext h0 h1) (K : Keep h1 h2 ws) (hw : ∀ x ∈ ws, h0.size ≤ x) : Ext h0 h2 := ⟨Nat.le_trans E.1 K.1, fun a c q => K.2.1 a c (E.2 a c q) fun hm => absurd (Array.getElem?_eq_some_iff.mp q).1 (Nat.not_lt.mpr (hw a hm))⟩
theorem own_ext_wr {h0 h1 h2 : Heap} {a : Addr} {sl : Nat} {v : Value} (E : Ext h0 h1) (W : Wr h1 h2 a sl v) (q : h0.size ≤ a) : Ext h0 h2 := own_ext_keep E (Keep.of_wr W) (allS q all0)
theorem own_ne_lt {a b : Addr} {n : Nat} (p : a < n) (q : n ≤ b) : a ≠ b := Nat.ne_of_lt (Nat.lt_of_lt_of_le p q)
theorem own_len {args : Array Value} {s : State} {t : Term} {a : Addr} {c : Cell} {ty : FieldType} {z : Int32} (ev : t.eval args s none [] s = some (.ref a)) (A : Arr s s.heap a c ty) (hq : (Jvm.Cond.eq (.length t) (.int z)).value args s none s [] = some true) : c.slots.size < 2 ^ 31 ∧ c.slots.size.toInt32 = z := by
  obtain ⟨x, y, hx, hy, -, hk⟩ := cmp_v (Or.inl hq)
  obtain rfl : y = .int z := (Option.some.inj hy).symm
  obtain ⟨q, rfl⟩ := hk
  have e := gotT (Cond.eq_ints hx (Term.int_eval z)) hq
  subst e
  have h1 := Arr.fin (Vm.Alike.refl _) A
  simp only [Term.eval, ev, h1, Option.bind_eq_bind, Option.bind_some] at hx
  split at hx
  · rename_i hl
    exact ⟨hl, by injection hx with hx; injection hx⟩
  · cases hx
theorem own_elem {args : Array Value} {s : State} {t u : Term} {a b : Addr} {c : Cell} {ty : FieldType} {i : Int32} (ev : t.eval args s none [] s = some (.ref a)) (A : Arr s s.heap a c ty) (eu : u.eval args s none [] s = some (.ref b)) (hq : (Jvm.Cond.eq (.elem t (.int i)) u).value args s none s [] = some true) : c.slots[i.toNatClampNeg]? = some (.ref b) := by
  obtain ⟨x, y, hx, hy, hk, hk2⟩ := cmp_v (Or.inl hq)
  cases eu.symm.trans hy
  obtain ⟨c', h1, h2, h3⟩ := elem_at hx ev (Term.int_eval i)
  cases A.1.symm.trans h1
  have hr : x.isRef = true := hk2.2
  have e := gotT (eq_R hx eu hr rfl) hq
  rw [e] at h3; exact h3
theorem own_cell {Z T : State} {h : Heap} {a : Addr} {c : Cell} {ty : FieldType} (eT : T.heap = h) (A : Arr Z h a c ty) : T.heap[a]? = some c := by rw [eT]; exact A.1
theorem own_fldI {args : Array Value} {s : State} {t : Term} {a : Addr} {C n d : String} {z : Int32} (ev : t.eval args s none [] s = some (.ref a)) (hq : (Jvm.Cond.eq (.field t C n d) (.int z)).value args s none s [] = some true) : Fld s s.heap a C n d (.int z) := by
  obtain ⟨x, y, hx, hy, -, hk⟩ := cmp_v (Or.inl hq)
  obtain rfl : y = .int z := (Option.some.inj hy).symm
  obtain ⟨q, rfl⟩ := hk
  have e := gotT (Cond.eq_ints hx (Term.int_eval z)) hq
  subst e
  exact Fld.start (by rw [← fld_at (args := args) (first := s) (o := none) (idx := []) ev]; exact hx)
theorem own_fldJ {args : Array Value} {s : State} {t : Term} {a : Addr} {C n d : String} {z : Int64} (ev : t.eval args s none [] s = some (.ref a)) (hq : (Jvm.Cond.eq (.field t C n d) (.long z)).value args s none s [] = some true) : Fld s s.heap a C n d (.long z) := by
  obtain ⟨x, y, hx, hy, -, hk⟩ := cmp_v (Or.inl hq)
  obtain rfl : y = .long z := (Option.some.inj hy).symm
  obtain ⟨q, rfl⟩ := hk
  have e := gotT (eq_L hx (long_at z)) hq
  subst e
  exact Fld.start (by rw [← fld_at (args := args) (first := s) (o := none) (idx := []) ev]; exact hx)
def own_fin (b f g : Addr) : Int32 := if b = f then 1 else if b = g then 1 else 0
theorem own_pn0 : plainName "com/example/godwit/godwit/billing/InvoiceStatus" = true := by first | (simp [plainName, overriddenIn]; done) | decide +kernel
theorem own_d_isC_0 : decode prog_34_method_6_code 0 = .ok (.aload_n 0, 1) := by decide +kernel
theorem own_d_isC_1 : decode prog_34_method_6_code 1 = .ok (.getstatic 13, 3) := by decide +kernel
theorem own_d_isC_4 : decode prog_34_method_6_code 4 = .ok (.if_acmp .eq 10, 3) := by decide +kernel
theorem own_d_isC_7 : decode prog_34_method_6_code 7 = .ok (.aload_n 0, 1) := by decide +kernel
theorem own_d_isC_8 : decode prog_34_method_6_code 8 = .ok (.getstatic 16, 3) := by decide +kernel
theorem own_d_isC_11 : decode prog_34_method_6_code 11 = .ok (.if_acmp .ne 7, 3) := by decide +kernel
theorem own_d_isC_14 : decode prog_34_method_6_code 14 = .ok (.iconst 1, 1) := by decide +kernel
theorem own_d_isC_15 : decode prog_34_method_6_code 15 = .ok (.goto 4, 3) := by decide +kernel
theorem own_d_isC_18 : decode prog_34_method_6_code 18 = .ok (.iconst 0, 1) := by decide +kernel
theorem own_d_isC_19 : decode prog_34_method_6_code 19 = .ok (.ireturn, 1) := by decide +kernel
theorem own_ef_isC (m : MethodId) (b : Addr) : entryFrame m #[(.ref b)] 1 = mkF m 0 #[.val (.ref b)] [] := by first | (simp [entryFrame, mkF, argsToLocals, Value.category, maxLocals]; done) | rfl
set_option maxRecDepth 65536 in
set_option maxHeartbeats 40000000 in
theorem rm_isC (l : Launch) (Z : State) (a0 : Array Value) (hw : ∀ d ∈ tables_1, d.before a0 Z = true) (b : Addr) (a4 : Addr) (a5 : Addr) (z : Int32) (h0 : Heap) (n0 : Nat) (S_a4 : Sta Z h0 "com/example/godwit/godwit/billing/InvoiceStatus" "CLOSED" "Lcom/example/godwit/godwit/billing/InvoiceStatus;" (.ref a4)) (S_a5 : Sta Z h0 "com/example/godwit/godwit/billing/InvoiceStatus" "CANCELLED" "Lcom/example/godwit/godwit/billing/InvoiceStatus;" (.ref a5)) (hz : own_fin b a4 a5 = z) :
    Con l Z (⟨"com/example/godwit/godwit/billing/InvoiceStatus", "isClosed", "()Z"⟩ : MethodName) prog_34_method_6_code 1 (some .boolean) ({ frames := 0, cells := 0, slots := 0, locals := 0 } : Room) #[(.ref b)] h0 (fun v h L => v = some (.int z) ∧ L = [] ∧ h = h0) := by
  refine Con.of own_pn0 ?_
  intro p e s m below meth c T0 X0 hx hby hml hret hlk hown0 hnm hZ e0
  have hown : s.vm.findClass "com/example/godwit/godwit/billing/InvoiceStatus" = some m.cls := hown0
  have N0 := Fr.nil n0
  refine Go.step (fun t kk => castTop (own_ef_isC m b) kk) ?_
  show Go p e below s _ _ _ (T0.setTop (mkF m 0 #[.val (.ref b)] []))
  refine Go.step (fun t kk => XS.aloadN X0.here hx rfl (hb hby own_d_isC_0) rfl rfl kk) ?_
  show Go p e below s _ _ _ (T0.setTop (mkF m 1 #[.val (.ref b)] [(.ref b)]))
  obtain ⟨T1, X1, e1, st1⟩ := getS (host := "") X0 hx hZ hown (hw _ (List.mem_of_getElem? (i := 9) rfl)) Via.refl e0 S_a4 (g := (mkF m 1 #[.val (.ref b)] [(.ref b)])) rfl (hb hby own_d_isC_1)
  refine Go.step st1 ?_
  show Go p e below s _ _ _ (T1.setTop (mkF m 4 #[.val (.ref b)] [(.ref a4), (.ref b)]))
  by_cases hc4_2 : b = a4
  · refine Go.step (fun t kk => acmp X1 hx rfl (cd := .eq) (x := (.ref b)) (y := (.ref a4)) rfl rfl (pc0 := 4) (pc' := 14) (same := true) rfl (hb hby own_d_isC_4) rfl (own_decT (congrArg Value.ref hc4_2)) (by decide) (by decide) kk) ?_
    show Go p e below s _ _ _ (T1.setTop (mkF m 14 #[.val (.ref b)] []))
    refine Go.step (fun t kk => XS.iconst X1.here hx rfl (hb hby own_d_isC_14) kk) ?_
    show Go p e below s _ _ _ (T1.setTop (mkF m 15 #[.val (.ref b)] [(.int (1 : Int32))]))
    refine Go.step (fun t kk => XS.goto X1.here hx rfl (pc0 := 15) (pc' := 19) rfl (hb hby own_d_isC_15) (by decide) (by decide) kk) ?_
    show Go p e below s _ _ _ (T1.setTop (mkF m 19 #[.val (.ref b)] [(.int (1 : Int32))]))
    exact Go.retN X1 hx hlk (t := .boolean) hret (by simp) (hb hby own_d_isC_19) (show _ ∧ _ ∧ _ from ⟨by rw [← hz, show own_fin b a4 a5 = (1 : Int32) by simp [own_fin, hc4_2]]; rfl, rfl, e1⟩) (by decide) (by decide)
  · refine Go.step (fun t kk => acmp X1 hx rfl (cd := .eq) (x := (.ref b)) (y := (.ref a4)) rfl rfl (pc0 := 4) (pc' := 7) (same := false) rfl (hb hby own_d_isC_4) rfl (own_decF (fun q => hc4_2 (Value.ref.inj q))) (by decide) (by decide) kk) ?_
    show Go p e below s _ _ _ (T1.setTop (mkF m 7 #[.val (.ref b)] []))
    refine Go.step (fun t kk => XS.aloadN X1.here hx rfl (hb hby own_d_isC_7) rfl rfl kk) ?_
    show Go p e below s _ _ _ (T1.setTop (mkF m 8 #[.val (.ref b)] [(.ref b)]))
    obtain ⟨T3, X3, e3, st3⟩ := getS (host := "") X1 hx hZ hown (hw _ (List.mem_of_getElem? (i := 11) rfl)) Via.refl e1 S_a5 (g := (mkF m 8 #[.val (.ref b)] [(.ref b)])) rfl (hb hby own_d_isC_8)
    refine Go.step st3 ?_
    show Go p e below s _ _ _ (T3.setTop (mkF m 11 #[.val (.ref b)] [(.ref a5), (.ref b)]))
    by_cases hc11_4 : b = a5
    · refine Go.step (fun t kk => acmp X3 hx rfl (cd := .ne) (x := (.ref b)) (y := (.ref a5)) rfl rfl (pc0 := 11) (pc' := 14) (same := true) rfl (hb hby own_d_isC_11) rfl (own_decT (congrArg Value.ref hc11_4)) (by decide) (by decide) kk) ?_
      show Go p e below s _ _ _ (T3.setTop (mkF m 14 #[.val (.ref b)] []))
      refine Go.step (fun t kk => XS.iconst X3.here hx rfl (hb hby own_d_isC_14) kk) ?_
      show Go p e below s _ _ _ (T3.setTop (mkF m 15 #[.val (.ref b)] [(.int (1 : Int32))]))
      refine Go.step (fun t kk => XS.goto X3.here hx rfl (pc0 := 15) (pc' := 19) rfl (hb hby own_d_isC_15) (by decide) (by decide) kk) ?_
      show Go p e below s _ _ _ (T3.setTop (mkF m 19 #[.val (.ref b)] [(.int (1 : Int32))]))
      exact Go.retN X3 hx hlk (t := .boolean) hret (by simp) (hb hby own_d_isC_19) (show _ ∧ _ ∧ _ from ⟨by rw [← hz, show own_fin b a4 a5 = (1 : Int32) by simp [own_fin, hc4_2, hc11_4]]; rfl, rfl, e3⟩) (by decide) (by decide)
    · refine Go.step (fun t kk => acmp X3 hx rfl (cd := .ne) (x := (.ref b)) (y := (.ref a5)) rfl rfl (pc0 := 11) (pc' := 18) (same := false) rfl (hb hby own_d_isC_11) rfl (own_decF (fun q => hc11_4 (Value.ref.inj q))) (by decide) (by decide) kk) ?_
      show Go p e below s _ _ _ (T3.setTop (mkF m 18 #[.val (.ref b)] []))
      refine Go.step (fun t kk => XS.iconst X3.here hx rfl (hb hby own_d_isC_18) kk) ?_
      show Go p e below s _ _ _ (T3.setTop (mkF m 19 #[.val (.ref b)] [(.int (0 : Int32))]))
      exact Go.retN X3 hx hlk (t := .boolean) hret (by simp) (hb hby own_d_isC_19) (show _ ∧ _ ∧ _ from ⟨by rw [← hz, show own_fin b a4 a5 = (0 : Int32) by simp [own_fin, hc4_2, hc11_4]]; rfl, rfl, e3⟩) (by decide) (by decide)
theorem own_pn1 : plainName "com/example/godwit/godwit/billing/Money" = true := by first | (simp [plainName, overriddenIn]; done) | decide +kernel
theorem own_d_ini_0 : decode prog_42_method_1_code 0 = .ok (.aload_n 0, 1) := by decide +kernel
theorem own_d_ini_1 : decode prog_42_method_1_code 1 = .ok (.invokespecial 1, 3) := by decide +kernel
theorem own_d_ini_4 : decode prog_42_method_1_code 4 = .ok (.aload_n 0, 1) := by decide +kernel
theorem own_d_ini_5 : decode prog_42_method_1_code 5 = .ok (.lload_n 1, 1) := by decide +kernel
theorem own_d_ini_6 : decode prog_42_method_1_code 6 = .ok (.putfield 7, 3) := by decide +kernel
theorem own_d_ini_9 : decode prog_42_method_1_code 9 = .ok (.return_, 1) := by decide +kernel
theorem own_ef_ini (m : MethodId) (b : Addr) (q : Int64) : entryFrame m #[(.ref b), (.long q)] 3 = mkF m 0 #[.val (.ref b), .val (.long q), .second] [] := by first | (simp [entryFrame, mkF, argsToLocals, Value.category, maxLocals]; done) | rfl
set_option maxRecDepth 65536 in
set_option maxHeartbeats 40000000 in
theorem rm_ini (l : Launch) (Z : State) (a0 : Array Value) (hw : ∀ d ∈ tables_1, d.before a0 Z = true) (b : Addr) (q : Int64) (h0 : Heap) (n0 : Nat) (F0 : Fld Z h0 b "com/example/godwit/godwit/billing/Money" "cents" "J" (.long 0)) (E0 : Exa Z h0 b "com/example/godwit/godwit/billing/Money") (gb : n0 ≤ b) :
    Con l Z (⟨"com/example/godwit/godwit/billing/Money", "<init>", "(J)V"⟩ : MethodName) prog_42_method_1_code 3 none ({ frames := 1, cells := 0, slots := 0, locals := 12 } : Room) #[(.ref b), (.long q)] h0 (fun v h L => v = none ∧ Fr n0 L ∧ Keep h0 h [b] ∧ Fld Z h b "com/example/godwit/godwit/billing/Money" "cents" "J" (.long q)) := by
  refine Con.of own_pn1 ?_
  intro p e s m below meth c T0 X0 hx hby hml hret hlk hown0 hnm hZ e0
  have hown : s.vm.findClass "com/example/godwit/godwit/billing/Money" = some m.cls := hown0
  have N0 := Fr.nil n0
  refine Go.step (fun t kk => castTop (own_ef_ini m b q) kk) ?_
  show Go p e below s _ _ _ (T0.setTop (mkF m 0 #[.val (.ref b), .val (.long q), .second] []))
  refine Go.step (fun t kk => XS.aloadN X0.here hx rfl (hb hby own_d_ini_0) rfl rfl kk) ?_
  show Go p e below s _ _ _ (T0.setTop (mkF m 1 #[.val (.ref b), .val (.long q), .second] [(.ref b)]))
  obtain ⟨T1, X1, e1, st1⟩ := initO X0 hx hZ hown (hw _ (List.mem_of_getElem? (i := 22) rfl)) (hw _ (List.mem_of_getElem? (i := 23) rfl)) (hw _ (List.mem_of_getElem? (i := 24) rfl)) e0 (g := (mkF m 1 #[.val (.ref b), .val (.long q), .second] [(.ref b)])) rfl (by rw [hml]; rfl) rfl (hb hby own_d_ini_1) (by decide) (W := 0) (by show 2 * 0 + _ ≤ _; exact Nat.le_of_eq rfl) (by decide)
  refine Go.step st1 ?_
  show Go p e below s _ _ _ (T1.setTop (mkF m 4 #[.val (.ref b), .val (.long q), .second] []))
  refine Go.step (fun t kk => XS.aloadN X1.here hx rfl (hb hby own_d_ini_4) rfl rfl kk) ?_
  show Go p e below s _ _ _ (T1.setTop (mkF m 5 #[.val (.ref b), .val (.long q), .second] [(.ref b)]))
  refine Go.step (fun t kk => XS.lloadN X1.here hx rfl (hb hby own_d_ini_5) rfl kk) ?_
  show Go p e below s _ _ _ (T1.setTop (mkF m 6 #[.val (.ref b), .val (.long q), .second] [(.long q), (.ref b)]))
  obtain ⟨T2, h2, X2, e2, W2, st2⟩ := putF X1 hx hZ hown (host := "") (Or.inl (hw _ (List.mem_of_getElem? (i := 25) rfl))) Via.refl e1 F0 E0 (Or.inr ⟨(hw _ (List.mem_of_getElem? (i := 26) rfl)), rfl, hnm⟩) (hw _ (List.mem_of_getElem? (i := 18) rfl)) (ty := .long) (by decide +kernel) rfl rfl (g := (mkF m 6 #[.val (.ref b), .val (.long q), .second] [(.long q), (.ref b)])) rfl rfl (hb hby own_d_ini_6)
  have N2 := Fr.snoc X2 N0 gb
  refine Go.step st2 ?_
  show Go p e below s _ _ _ (T2.setTop (mkF m 9 #[.val (.ref b), .val (.long q), .second] []))
  exact Go.retV X2 hx hlk hret (hb hby own_d_ini_9) (by rw [e2]; exact ⟨rfl, N2, (Keep.wr (Keep.refl h0 [b]) W2 (Or.inl (List.mem_of_getElem? (i := 0) rfl))), (Fld.same W2 F0)⟩) (by decide) (by decide)
theorem own_pd0 : parseMethodDescriptor "(J)V" = some ⟨[.long], none⟩ := by decide +kernel
theorem own_d_ofC_0 : decode prog_42_method_2_code 0 = .ok (.new 8, 3) := by decide +kernel
theorem own_d_ofC_3 : decode prog_42_method_2_code 3 = .ok (.dup, 1) := by decide +kernel
theorem own_d_ofC_4 : decode prog_42_method_2_code 4 = .ok (.lload_n 0, 1) := by decide +kernel
theorem own_d_ofC_5 : decode prog_42_method_2_code 5 = .ok (.invokespecial 13, 3) := by decide +kernel
theorem own_d_ofC_8 : decode prog_42_method_2_code 8 = .ok (.areturn, 1) := by decide +kernel
theorem own_ef_ofC (m : MethodId) (q : Int64) : entryFrame m #[(.long q)] 2 = mkF m 0 #[.val (.long q), .second] [] := by first | (simp [entryFrame, mkF, argsToLocals, Value.category, maxLocals]; done) | rfl
set_option maxRecDepth 65536 in
set_option maxHeartbeats 40000000 in
theorem rm_ofC (l : Launch) (Z : State) (a0 : Array Value) (hw : ∀ d ∈ tables_1, d.before a0 Z = true) (q : Int64) (h0 : Heap) (n0 : Nat) (Z0 : n0 ≤ h0.size) :
    Con l Z (⟨"com/example/godwit/godwit/billing/Money", "ofCents", "(J)Lcom/example/godwit/godwit/billing/Money;"⟩ : MethodName) prog_42_method_2_code 2 (some (.object "com/example/godwit/godwit/billing/Money")) ({ frames := 2, cells := 1, slots := 1, locals := 30 } : Room) #[(.long q)] h0 (fun v h L => v = some (.ref h0.size) ∧ Fr n0 L ∧ Ext h0 h) := by
  refine Con.of own_pn1 ?_
  intro p e s m below meth c T0 X0 hx hby hml hret hlk hown0 hnm hZ e0
  have hown : s.vm.findClass "com/example/godwit/godwit/billing/Money" = some m.cls := hown0
  have N0 := Fr.nil n0
  refine Go.step (fun t kk => castTop (own_ef_ofC m q) kk) ?_
  show Go p e below s _ _ _ (T0.setTop (mkF m 0 #[.val (.long q), .second] []))
  obtain ⟨T1, h1, X1, e1, E1, A1, D1, -, st1⟩ := newO X0 hx hZ hown (hw _ (List.mem_of_getElem? (i := 17) rfl)) (hw _ (List.mem_of_getElem? (i := 18) rfl)) (hw _ (List.mem_of_getElem? (i := 15) rfl)) e0 (g := (mkF m 0 #[.val (.long q), .second] [])) rfl (hb hby own_d_ofC_0) (by decide) (by decide)
  obtain ⟨a1, g1⟩ : ∃ z, z = h0.size := ⟨_, rfl⟩
  rw [← g1] at A1 D1 st1
  have ge1 : n0 ≤ a1 := Nat.le_trans Z0 (Nat.le_of_eq g1.symm)
  refine Go.step st1 ?_
  have F1_cents : Fld Z h1 a1 "com/example/godwit/godwit/billing/Money" "cents" "J" (.long (0 : Int64)) := D1 (Or.inr (hw _ (List.mem_of_getElem? (i := 26) rfl))) (ty := .long) (by decide +kernel)
  show Go p e below s _ _ _ (T1.setTop (mkF m 3 #[.val (.long q), .second] [(.ref a1)]))
  refine Go.step (fun t kk => XS.dup X1.here hx rfl (hb hby own_d_ofC_3) rfl rfl kk) ?_
  show Go p e below s _ _ _ (T1.setTop (mkF m 4 #[.val (.long q), .second] [(.ref a1), (.ref a1)]))
  refine Go.step (fun t kk => XS.lloadN X1.here hx rfl (hb hby own_d_ofC_4) rfl kk) ?_
  show Go p e below s _ _ _ (T1.setTop (mkF m 5 #[.val (.long q), .second] [(.long q), (.ref a1), (.ref a1)]))
  refine Go.callI X1 hx hZ rfl hown (hw _ (List.mem_of_getElem? (i := 19) rfl)) (hw _ (List.mem_of_getElem? (i := 20) rfl)) (hw _ (List.mem_of_getElem? (i := 15) rfl)) (hw _ (List.mem_of_getElem? (i := 21) rfl)) (by decide) e1 [(.long q)] [(.ref a1)] 1 (rm_ini l Z a0 hw a1 q h1 n0 F1_cents A1 ge1) (by decide) (by decide) (by decide) (by decide) (by rw [hml]; rfl) (lenOf own_pd0 rfl) rfl (Nat.le_of_eq rfl) (hb hby own_d_ofC_5) ?_
  intro T2 v2 L2 X2 hQ2
  obtain ⟨rfl, Nq2, K2, Fq2⟩ := hQ2
  have N2 := Fr.app N0 Nq2
  show Go p e below s _ _ _ (T2.setTop (mkF m 8 #[.val (.long q), .second] [(.ref a1)]))
  exact Go.retA X2 hx hlk hret rfl rfl (hb hby own_d_ofC_8) (show _ ∧ _ ∧ _ from ⟨by rw [g1], N2, (own_ext_keep (own_ext_trans (own_ext_refl h0) E1) K2 (allS (Nat.le_of_eq g1.symm) all0))⟩) (by decide) (by decide)
theorem own_d_due_0 : decode prog_34_method_8_code 0 = .ok (.aload_n 0, 1) := by decide +kernel
theorem own_d_due_1 : decode prog_34_method_8_code 1 = .ok (.getstatic 3, 3) := by decide +kernel
theorem own_d_due_4 : decode prog_34_method_8_code 4 = .ok (.if_acmp .ne 7, 3) := by decide +kernel
theorem own_d_due_11 : decode prog_34_method_8_code 11 = .ok (.getstatic 61, 3) := by decide +kernel
theorem own_d_due_14 : decode prog_34_method_8_code 14 = .ok (.areturn, 1) := by decide +kernel
theorem own_ef_due (m : MethodId) (b : Addr) (mo : Addr) : entryFrame m #[(.ref b), (.ref mo)] 2 = mkF m 0 #[.val (.ref b), .val (.ref mo)] [] := by first | (simp [entryFrame, mkF, argsToLocals, Value.category, maxLocals]; done) | rfl
set_option maxRecDepth 65536 in
set_option maxHeartbeats 40000000 in
theorem rm_due (l : Launch) (Z : State) (a0 : Array Value) (hw : ∀ d ∈ tables_1, d.before a0 Z = true) (b : Addr) (mo : Addr) (a1 : Addr) (az : Addr) (h0 : Heap) (n0 : Nat) (S_a1 : Sta Z h0 "com/example/godwit/godwit/billing/InvoiceStatus" "OPEN" "Lcom/example/godwit/godwit/billing/InvoiceStatus;" (.ref a1)) (S_az : Sta Z h0 "com/example/godwit/godwit/billing/Money" "ZERO" "Lcom/example/godwit/godwit/billing/Money;" (.ref az)) (hne : ¬ b = a1) :
    Con l Z (⟨"com/example/godwit/godwit/billing/InvoiceStatus", "due", "(Lcom/example/godwit/godwit/billing/Money;)Lcom/example/godwit/godwit/billing/Money;"⟩ : MethodName) prog_34_method_8_code 2 (some (.object "com/example/godwit/godwit/billing/Money")) ({ frames := 0, cells := 0, slots := 0, locals := 0 } : Room) #[(.ref b), (.ref mo)] h0 (fun v h L => v = some (.ref az) ∧ L = [] ∧ h = h0) := by
  refine Con.of own_pn0 ?_
  intro p e s m below meth c T0 X0 hx hby hml hret hlk hown0 hnm hZ e0
  have hown : s.vm.findClass "com/example/godwit/godwit/billing/InvoiceStatus" = some m.cls := hown0
  have N0 := Fr.nil n0
  refine Go.step (fun t kk => castTop (own_ef_due m b mo) kk) ?_
  show Go p e below s _ _ _ (T0.setTop (mkF m 0 #[.val (.ref b), .val (.ref mo)] []))
  refine Go.step (fun t kk => XS.aloadN X0.here hx rfl (hb hby own_d_due_0) rfl rfl kk) ?_
  show Go p e below s _ _ _ (T0.setTop (mkF m 1 #[.val (.ref b), .val (.ref mo)] [(.ref b)]))
  obtain ⟨T1, X1, e1, st1⟩ := getS (host := "") X0 hx hZ hown (hw _ (List.mem_of_getElem? (i := 35) rfl)) Via.refl e0 S_a1 (g := (mkF m 1 #[.val (.ref b), .val (.ref mo)] [(.ref b)])) rfl (hb hby own_d_due_1)
  refine Go.step st1 ?_
  show Go p e below s _ _ _ (T1.setTop (mkF m 4 #[.val (.ref b), .val (.ref mo)] [(.ref a1), (.ref b)]))
  have hc4_2 : ¬ (b = a1) := hne
  refine Go.step (fun t kk => acmp X1 hx rfl (cd := .ne) (x := (.ref b)) (y := (.ref a1)) rfl rfl (pc0 := 4) (pc' := 11) (same := false) rfl (hb hby own_d_due_4) rfl (own_decF (fun q => hc4_2 (Value.ref.inj q))) (by decide) (by decide) kk) ?_
  show Go p e below s _ _ _ (T1.setTop (mkF m 11 #[.val (.ref b), .val (.ref mo)] []))
  obtain ⟨T3, X3, e3, st3⟩ := getS (host := "") X1 hx hZ hown (hw _ (List.mem_of_getElem? (i := 36) rfl)) Via.refl e1 S_az (g := (mkF m 11 #[.val (.ref b), .val (.ref mo)] [])) rfl (hb hby own_d_due_11)
  refine Go.step st3 ?_
  show Go p e below s _ _ _ (T3.setTop (mkF m 14 #[.val (.ref b), .val (.ref mo)] [(.ref az)]))
  exact Go.retA X3 hx hlk hret rfl rfl (hb hby own_d_due_14) (show _ ∧ _ ∧ _ from ⟨rfl, rfl, e3⟩) (by decide) (by decide)
theorem own_d_cen_0 : decode prog_42_method_4_code 0 = .ok (.aload_n 0, 1) := by decide +kernel
theorem own_d_cen_1 : decode prog_42_method_4_code 1 = .ok (.getfield 7, 3) := by decide +kernel
theorem own_d_cen_4 : decode prog_42_method_4_code 4 = .ok (.lreturn, 1) := by decide +kernel
theorem own_ef_cen (m : MethodId) (b : Addr) : entryFrame m #[(.ref b)] 1 = mkF m 0 #[.val (.ref b)] [] := by first | (simp [entryFrame, mkF, argsToLocals, Value.category, maxLocals]; done) | rfl
set_option maxRecDepth 65536 in
set_option maxHeartbeats 40000000 in
theorem rm_cen (l : Launch) (Z : State) (a0 : Array Value) (hw : ∀ d ∈ tables_1, d.before a0 Z = true) (b : Addr) (q : Int64) (h0 : Heap) (n0 : Nat) (F0 : Fld Z h0 b "com/example/godwit/godwit/billing/Money" "cents" "J" (.long q)) :
    Con l Z (⟨"com/example/godwit/godwit/billing/Money", "cents", "()J"⟩ : MethodName) prog_42_method_4_code 1 (some .long) ({ frames := 0, cells := 0, slots := 0, locals := 0 } : Room) #[(.ref b)] h0 (fun v h L => v = some (.long q) ∧ L = [] ∧ h = h0) := by
  refine Con.of own_pn1 ?_
  intro p e s m below meth c T0 X0 hx hby hml hret hlk hown0 hnm hZ e0
  have hown : s.vm.findClass "com/example/godwit/godwit/billing/Money" = some m.cls := hown0
  have N0 := Fr.nil n0
  refine Go.step (fun t kk => castTop (own_ef_cen m b) kk) ?_
  show Go p e below s _ _ _ (T0.setTop (mkF m 0 #[.val (.ref b)] []))
  refine Go.step (fun t kk => XS.aloadN X0.here hx rfl (hb hby own_d_cen_0) rfl rfl kk) ?_
  show Go p e below s _ _ _ (T0.setTop (mkF m 1 #[.val (.ref b)] [(.ref b)]))
  obtain ⟨T1, X1, e1, st1⟩ := getF X0 hx hZ hown (host := "") (Or.inl (hw _ (List.mem_of_getElem? (i := 25) rfl))) Via.refl e0 F0 (g := (mkF m 1 #[.val (.ref b)] [(.ref b)])) rfl rfl (hb hby own_d_cen_1)
  refine Go.step st1 ?_
  show Go p e below s _ _ _ (T1.setTop (mkF m 4 #[.val (.ref b)] [(.long q)]))
  exact Go.retJ X1 hx hlk hret (hb hby own_d_cen_4) (show _ ∧ _ ∧ _ from ⟨rfl, rfl, e1⟩) (by decide) (by decide)
theorem own_pn2 : plainName "com/example/godwit/godwit/billing/InvoiceStatusIsClosedPinLaw" = true := by first | (simp [plainName, overriddenIn]; done) | decide +kernel
theorem own_pd1 : parseMethodDescriptor "()Z" = some ⟨[], (some .boolean)⟩ := by decide +kernel
theorem own_pd2 : parseMethodDescriptor "(J)Lcom/example/godwit/godwit/billing/Money;" = some ⟨[.long], (some (.object "com/example/godwit/godwit/billing/Money"))⟩ := by decide +kernel
theorem own_pd3 : parseMethodDescriptor "(Lcom/example/godwit/godwit/billing/Money;)Lcom/example/godwit/godwit/billing/Money;" = some ⟨[(.object "com/example/godwit/godwit/billing/Money")], (some (.object "com/example/godwit/godwit/billing/Money"))⟩ := by decide +kernel
theorem own_pd4 : parseMethodDescriptor "()J" = some ⟨[], (some .long)⟩ := by decide +kernel
theorem own_ef_law (m : MethodId) (p1 : Int32) (q2 : Int64) : entryFrame m #[(.int p1), (.long q2)] maxLocals = mkF m 0 #[.val (.int p1), .val (.long q2), .second, .unset, .unset, .unset, .unset, .unset] [] := by first | (simp [entryFrame, mkF, argsToLocals, Value.category, maxLocals]; done) | rfl
set_option maxRecDepth 65536 in
set_option maxHeartbeats 40000000 in
theorem rm_law (l : Launch) (Z : State) (a0 : Array Value) (hw : ∀ d ∈ tables_1, d.before a0 Z = true) (p1 : Int32) (q2 : Int64) (a1 : Addr) (a2 : Addr) (a3 : Addr) (a4 : Addr) (a5 : Addr) (az : Addr) (h0 : Heap) (n0 : Nat) (S_a1 : Sta Z h0 "com/example/godwit/godwit/billing/InvoiceStatus" "OPEN" "Lcom/example/godwit/godwit/billing/InvoiceStatus;" (.ref a1)) (S_a2 : Sta Z h0 "com/example/godwit/godwit/billing/InvoiceStatus" "PAID" "Lcom/example/godwit/godwit/billing/InvoiceStatus;" (.ref a2)) (S_a3 : Sta Z h0 "com/example/godwit/godwit/billing/InvoiceStatus" "SUPERSEDED" "Lcom/example/godwit/godwit/billing/InvoiceStatus;" (.ref a3)) (S_a4 : Sta Z h0 "com/example/godwit/godwit/billing/InvoiceStatus" "CLOSED" "Lcom/example/godwit/godwit/billing/InvoiceStatus;" (.ref a4)) (S_a5 : Sta Z h0 "com/example/godwit/godwit/billing/InvoiceStatus" "CANCELLED" "Lcom/example/godwit/godwit/billing/InvoiceStatus;" (.ref a5)) (E_a1 : Exa Z h0 a1 "com/example/godwit/godwit/billing/InvoiceStatus") (E_a2 : Exa Z h0 a2 "com/example/godwit/godwit/billing/InvoiceStatus") (E_a3 : Exa Z h0 a3 "com/example/godwit/godwit/billing/InvoiceStatus") (E_a4 : Exa Z h0 a4 "com/example/godwit/godwit/billing/InvoiceStatus") (E_a5 : Exa Z h0 a5 "com/example/godwit/godwit/billing/InvoiceStatus") (F_a1_ordinal : Fld Z h0 a1 "java/lang/Enum" "ordinal" "I" (.int 0)) (F_a2_ordinal : Fld Z h0 a2 "java/lang/Enum" "ordinal" "I" (.int 1)) (F_a3_ordinal : Fld Z h0 a3 "java/lang/Enum" "ordinal" "I" (.int 2)) (F_a4_ordinal : Fld Z h0 a4 "java/lang/Enum" "ordinal" "I" (.int 3)) (F_a5_ordinal : Fld Z h0 a5 "java/lang/Enum" "ordinal" "I" (.int 4)) (S_az : Sta Z h0 "com/example/godwit/godwit/billing/Money" "ZERO" "Lcom/example/godwit/godwit/billing/Money;" (.ref az)) (E_az : Exa Z h0 az "com/example/godwit/godwit/billing/Money") (F_az_cents : Fld Z h0 az "com/example/godwit/godwit/billing/Money" "cents" "J" (.long 0)) (Z0 : n0 ≤ h0.size) :
    Con l Z x code maxLocals ret room_1 #[(.int p1), (.long q2)] h0 (fun v h L => v = some (.int 1) ∧ Fr n0 L) := by
  refine Con.of own_pn2 ?_
  intro p e s m below meth c T0 X0 hx hby hml hret hlk hown0 hnm hZ e0
  have hown : s.vm.findClass "com/example/godwit/godwit/billing/InvoiceStatusIsClosedPinLaw" = some m.cls := hown0
  have N0 := Fr.nil n0
  refine Go.step (fun t kk => castTop (own_ef_law m p1 q2) kk) ?_
  have na1_4 : ¬ a1 = a4 := Fld.ne F_a1_ordinal F_a4_ordinal (fun q => absurd (Value.int.inj q) (by decide))
  have na1_5 : ¬ a1 = a5 := Fld.ne F_a1_ordinal F_a5_ordinal (fun q => absurd (Value.int.inj q) (by decide))
  have na2_4 : ¬ a2 = a4 := Fld.ne F_a2_ordinal F_a4_ordinal (fun q => absurd (Value.int.inj q) (by decide))
  have na2_5 : ¬ a2 = a5 := Fld.ne F_a2_ordinal F_a5_ordinal (fun q => absurd (Value.int.inj q) (by decide))
  have na3_4 : ¬ a3 = a4 := Fld.ne F_a3_ordinal F_a4_ordinal (fun q => absurd (Value.int.inj q) (by decide))
  have na3_5 : ¬ a3 = a5 := Fld.ne F_a3_ordinal F_a5_ordinal (fun q => absurd (Value.int.inj q) (by decide))
  have na4_1 : ¬ a4 = a1 := Fld.ne F_a4_ordinal F_a1_ordinal (fun q => absurd (Value.int.inj q) (by decide))
  have na5_1 : ¬ a5 = a1 := Fld.ne F_a5_ordinal F_a1_ordinal (fun q => absurd (Value.int.inj q) (by decide))
  have hf_a1 : own_fin a1 a4 a5 = 0 := by simp [own_fin, na1_4, na1_5]
  have hf_a2 : own_fin a2 a4 a5 = 0 := by simp [own_fin, na2_4, na2_5]
  have hf_a3 : own_fin a3 a4 a5 = 0 := by simp [own_fin, na3_4, na3_5]
  have hf_a4 : own_fin a4 a4 a5 = 1 := by simp [own_fin]
  have hf_a5 : own_fin a5 a4 a5 = 1 := by simp [own_fin]
  show Go p e below s _ _ _ (T0.setTop (mkF m 0 #[.val (.int p1), .val (.long q2), .second, .unset, .unset, .unset, .unset, .unset] []))
  refine Go.step (fun t kk => XS.iloadN X0.here hx rfl (hb hby at_0) rfl kk) ?_
  show Go p e below s _ _ _ (T0.setTop (mkF m 1 #[.val (.int p1), .val (.long q2), .second, .unset, .unset, .unset, .unset, .unset] [(.int p1)]))
  refine Go.step (X0.ldcInt hx hown (mvT hZ (hw _ (List.mem_of_getElem? (i := 0) rfl))) (g := (mkF m 1 #[.val (.int p1), .val (.long q2), .second, .unset, .unset, .unset, .unset, .unset] [(.int p1)])) rfl (hb hby at_1)) ?_
  show Go p e below s _ _ _ (T0.setTop (mkF m 3 #[.val (.int p1), .val (.long q2), .second, .unset, .unset, .unset, .unset, .unset] [(.int (2147483647 : Int32)), (.int p1)]))
  refine Go.step (fun t kk => XS.iand X0.here hx rfl (hb hby at_3) rfl kk) ?_
  show Go p e below s _ _ _ (T0.setTop (mkF m 4 #[.val (.int p1), .val (.long q2), .second, .unset, .unset, .unset, .unset, .unset] [(.int (p1 &&& (2147483647 : Int32)))]))
  refine Go.step (fun t kk => XS.iconst X0.here hx rfl (hb hby at_4) kk) ?_
  show Go p e below s _ _ _ (T0.setTop (mkF m 5 #[.val (.int p1), .val (.long q2), .second, .unset, .unset, .unset, .unset, .unset] [(.int (5 : Int32)), (.int (p1 &&& (2147483647 : Int32)))]))
  refine Go.step (fun t kk => iremM X0 hx rfl (hb hby at_5) rfl (by decide) kk) ?_
  show Go p e below s _ _ _ (T0.setTop (mkF m 6 #[.val (.int p1), .val (.long q2), .second, .unset, .unset, .unset, .unset, .unset] [(.int ((p1 &&& (2147483647 : Int32)) % (5 : Int32)))]))
  refine Go.step (fun t kk => XS.istoreN X0.here hx rfl (hb hby at_6) rfl (l' := #[.val (.int p1), .val (.long q2), .second, .val (.int ((p1 &&& (2147483647 : Int32)) % (5 : Int32))), .unset, .unset, .unset, .unset]) rfl kk) ?_
  show Go p e below s _ _ _ (T0.setTop (mkF m 7 #[.val (.int p1), .val (.long q2), .second, .val (.int ((p1 &&& (2147483647 : Int32)) % (5 : Int32))), .unset, .unset, .unset, .unset] []))
  refine Go.step (fun t kk => XS.iloadN X0.here hx rfl (hb hby at_7) rfl kk) ?_
  show Go p e below s _ _ _ (T0.setTop (mkF m 8 #[.val (.int p1), .val (.long q2), .second, .val (.int ((p1 &&& (2147483647 : Int32)) % (5 : Int32))), .unset, .unset, .unset, .unset] [(.int ((p1 &&& (2147483647 : Int32)) % (5 : Int32)))]))
  by_cases hc8_1 : ((p1 &&& (2147483647 : Int32)) % (5 : Int32)) = (0 : Int32)
  · refine Go.step (fun t kk => XS.ifNo X0.here hx rfl (hb hby at_8) rfl ((if0 _ _).trans (teq hc8_1).2) kk) ?_
    show Go p e below s _ _ _ (T0.setTop (mkF m 11 #[.val (.int p1), .val (.long q2), .second, .val (.int ((p1 &&& (2147483647 : Int32)) % (5 : Int32))), .unset, .unset, .unset, .unset] []))
    obtain ⟨T2, X2, e2, st2⟩ := getS (host := "") X0 hx hZ hown (hw _ (List.mem_of_getElem? (i := 1) rfl)) Via.refl e0 S_a1 (g := (mkF m 11 #[.val (.int p1), .val (.long q2), .second, .val (.int ((p1 &&& (2147483647 : Int32)) % (5 : Int32))), .unset, .unset, .unset, .unset] [])) rfl (hb hby at_11)
    refine Go.step st2 ?_
    show Go p e below s _ _ _ (T2.setTop (mkF m 14 #[.val (.int p1), .val (.long q2), .second, .val (.int ((p1 &&& (2147483647 : Int32)) % (5 : Int32))), .unset, .unset, .unset, .unset] [(.ref a1)]))
    refine Go.step (fun t kk => XS.astore X2.here hx rfl (hb hby at_14) rfl rfl (l' := #[.val (.int p1), .val (.long q2), .second, .val (.int ((p1 &&& (2147483647 : Int32)) % (5 : Int32))), .val (.ref a1), .unset, .unset, .unset]) rfl kk) ?_
    show Go p e below s _ _ _ (T2.setTop (mkF m 16 #[.val (.int p1), .val (.long q2), .second, .val (.int ((p1 &&& (2147483647 : Int32)) % (5 : Int32))), .val (.ref a1), .unset, .unset, .unset] []))
    refine Go.step (fun t kk => XS.iconst X2.here hx rfl (hb hby at_16) kk) ?_
    show Go p e below s _ _ _ (T2.setTop (mkF m 17 #[.val (.int p1), .val (.long q2), .second, .val (.int ((p1 &&& (2147483647 : Int32)) % (5 : Int32))), .val (.ref a1), .unset, .unset, .unset] [(.int (0 : Int32))]))
    refine Go.step (fun t kk => XS.istore X2.here hx rfl (hb hby at_17) rfl (l' := #[.val (.int p1), .val (.long q2), .second, .val (.int ((p1 &&& (2147483647 : Int32)) % (5 : Int32))), .val (.ref a1), .val (.int (0 : Int32)), .unset, .unset]) rfl kk) ?_
    show Go p e below s _ _ _ (T2.setTop (mkF m 19 #[.val (.int p1), .val (.long q2), .second, .val (.int ((p1 &&& (2147483647 : Int32)) % (5 : Int32))), .val (.ref a1), .val (.int (0 : Int32)), .unset, .unset] []))
    refine Go.step (fun t kk => XS.goto X2.here hx rfl (pc0 := 19) (pc' := 78) rfl (hb hby at_19) (by decide) (by decide) kk) ?_
    show Go p e below s _ _ _ (T2.setTop (mkF m 78 #[.val (.int p1), .val (.long q2), .second, .val (.int ((p1 &&& (2147483647 : Int32)) % (5 : Int32))), .val (.ref a1), .val (.int (0 : Int32)), .unset, .unset] []))
    refine Go.step (fun t kk => XS.aload X2.here hx rfl (hb hby at_78) rfl rfl kk) ?_
    show Go p e below s _ _ _ (T2.setTop (mkF m 80 #[.val (.int p1), .val (.long q2), .second, .val (.int ((p1 &&& (2147483647 : Int32)) % (5 : Int32))), .val (.ref a1), .val (.int (0 : Int32)), .unset, .unset] [(.ref a1)]))
    refine Go.callV X2 hx hZ hown (hw _ (List.mem_of_getElem? (i := 4) rfl)) (hw _ (List.mem_of_getElem? (i := 5) rfl)) (hw _ (List.mem_of_getElem? (i := 7) rfl)) (hw _ (List.mem_of_getElem? (i := 6) rfl)) (hw _ (List.mem_of_getElem? (i := 2) rfl)) (hw _ (List.mem_of_getElem? (i := 8) rfl)) (by decide) e2 E_a1 [] [] 0 (rm_isC l Z a0 hw a1 a4 a5 0 h0 n0 S_a4 S_a5 hf_a1) (by decide) (by decide) (by decide) (by decide) (by rw [hml]; rfl) (lenOf own_pd1 rfl) rfl (Nat.le_of_eq rfl) (hb hby at_80) ?_
    intro T3 v3 L3 X3 hQ3
    obtain ⟨rfl, rfl, e3⟩ := hQ3
    have N3 := Fr.app N0 (Fr.nil n0)
    show Go p e below s _ _ _ (T3.setTop (mkF m 83 #[.val (.int p1), .val (.long q2), .second, .val (.int ((p1 &&& (2147483647 : Int32)) % (5 : Int32))), .val (.ref a1), .val (.int (0 : Int32)), .unset, .unset] [(.int (0 : Int32))]))
    refine Go.step (fun t kk => XS.istore X3.here hx rfl (hb hby at_83) rfl (l' := #[.val (.int p1), .val (.long q2), .second, .val (.int ((p1 &&& (2147483647 : Int32)) % (5 : Int32))), .val (.ref a1), .val (.int (0 : Int32)), .val (.int (0 : Int32)), .unset]) rfl kk) ?_
    show Go p e below s _ _ _ (T3.setTop (mkF m 85 #[.val (.int p1), .val (.long q2), .second, .val (.int ((p1 &&& (2147483647 : Int32)) % (5 : Int32))), .val (.ref a1), .val (.int (0 : Int32)), .val (.int (0 : Int32)), .unset] []))
    refine Go.step (fun t kk => XS.iload X3.here hx rfl (hb hby at_85) rfl kk) ?_
    show Go p e below s _ _ _ (T3.setTop (mkF m 87 #[.val (.int p1), .val (.long q2), .second, .val (.int ((p1 &&& (2147483647 : Int32)) % (5 : Int32))), .val (.ref a1), .val (.int (0 : Int32)), .val (.int (0 : Int32)), .unset] [(.int (0 : Int32))]))
    refine Go.step (fun t kk => XS.iload X3.here hx rfl (hb hby at_87) rfl kk) ?_
    show Go p e below s _ _ _ (T3.setTop (mkF m 89 #[.val (.int p1), .val (.long q2), .second, .val (.int ((p1 &&& (2147483647 : Int32)) % (5 : Int32))), .val (.ref a1), .val (.int (0 : Int32)), .val (.int (0 : Int32)), .unset] [(.int (0 : Int32)), (.int (0 : Int32))]))
    have hc89_4 : (0 : Int32) = (0 : Int32) := rfl
    refine Go.step (fun t kk => XS.icmpYes X3.here hx rfl (pc0 := 89) (pc' := 94) rfl (hb hby at_89) rfl (teq hc89_4).1 (by decide) (by decide) kk) ?_
    show Go p e below s _ _ _ (T3.setTop (mkF m 94 #[.val (.int p1), .val (.long q2), .second, .val (.int ((p1 &&& (2147483647 : Int32)) % (5 : Int32))), .val (.ref a1), .val (.int (0 : Int32)), .val (.int (0 : Int32)), .unset] []))
    refine Go.step (fun t kk => XS.lloadN X3.here hx rfl (hb hby at_94) rfl kk) ?_
    show Go p e below s _ _ _ (T3.setTop (mkF m 95 #[.val (.int p1), .val (.long q2), .second, .val (.int ((p1 &&& (2147483647 : Int32)) % (5 : Int32))), .val (.ref a1), .val (.int (0 : Int32)), .val (.int (0 : Int32)), .unset] [(.long q2)]))
    refine Go.callS X3 hx hZ hown (hw _ (List.mem_of_getElem? (i := 13) rfl)) (hw _ (List.mem_of_getElem? (i := 14) rfl)) (hw _ (List.mem_of_getElem? (i := 15) rfl)) (hw _ (List.mem_of_getElem? (i := 16) rfl)) (by decide) e3 [(.long q2)] [] 0 (rm_ofC l Z a0 hw q2 h0 n0 Z0) (by decide) (by decide) (by decide) (by decide) (by rw [hml]; rfl) (lenOf own_pd2 rfl) rfl (Nat.le_of_eq rfl) (hb hby at_95) ?_
    intro T5 v5 L5 X5 hQ5
    obtain ⟨rfl, Nq5, E5⟩ := hQ5
    have N5 := Fr.app N3 Nq5
    show Go p e below s _ _ _ (T5.setTop (mkF m 98 #[.val (.int p1), .val (.long q2), .second, .val (.int ((p1 &&& (2147483647 : Int32)) % (5 : Int32))), .val (.ref a1), .val (.int (0 : Int32)), .val (.int (0 : Int32)), .unset] [(.ref h0.size)]))
    refine Go.step (fun t kk => XS.astore X5.here hx rfl (hb hby at_98) rfl rfl (l' := #[.val (.int p1), .val (.long q2), .second, .val (.int ((p1 &&& (2147483647 : Int32)) % (5 : Int32))), .val (.ref a1), .val (.int (0 : Int32)), .val (.int (0 : Int32)), .val (.ref h0.size)]) rfl kk) ?_
    show Go p e below s _ _ _ (T5.setTop (mkF m 100 #[.val (.int p1), .val (.long q2), .second, .val (.int ((p1 &&& (2147483647 : Int32)) % (5 : Int32))), .val (.ref a1), .val (.int (0 : Int32)), .val (.int (0 : Int32)), .val (.ref h0.size)] []))
    refine Go.step (fun t kk => XS.iload X5.here hx rfl (hb hby at_100) rfl kk) ?_
    show Go p e below s _ _ _ (T5.setTop (mkF m 102 #[.val (.int p1), .val (.long q2), .second, .val (.int ((p1 &&& (2147483647 : Int32)) % (5 : Int32))), .val (.ref a1), .val (.int (0 : Int32)), .val (.int (0 : Int32)), .val (.ref h0.size)] [(.int (0 : Int32))]))
    have hc102_6 : (0 : Int32) = (0 : Int32) := rfl
    refine Go.step (fun t kk => XS.ifYes X5.here hx rfl (pc0 := 102) (pc' := 122) rfl (hb hby at_102) rfl ((if0 _ _).trans (teq hc102_6).1) (by decide) (by decide) kk) ?_
    show Go p e below s _ _ _ (T5.setTop (mkF m 122 #[.val (.int p1), .val (.long q2), .second, .val (.int ((p1 &&& (2147483647 : Int32)) % (5 : Int32))), .val (.ref a1), .val (.int (0 : Int32)), .val (.int (0 : Int32)), .val (.ref h0.size)] []))
    refine Go.step (fun t kk => XS.iconst X5.here hx rfl (hb hby at_122) kk) ?_
    show Go p e below s _ _ _ (T5.setTop (mkF m 123 #[.val (.int p1), .val (.long q2), .second, .val (.int ((p1 &&& (2147483647 : Int32)) % (5 : Int32))), .val (.ref a1), .val (.int (0 : Int32)), .val (.int (0 : Int32)), .val (.ref h0.size)] [(.int (1 : Int32))]))
    exact Go.retN X5 hx hlk (t := .boolean) hret (by simp) (hb hby at_123) (show _ ∧ _ from ⟨rfl, N5⟩) (by decide) (by decide)
  · refine Go.step (fun t kk => XS.ifYes X0.here hx rfl (pc0 := 8) (pc' := 22) rfl (hb hby at_8) rfl ((if0 _ _).trans (feq hc8_1).2) (by decide) (by decide) kk) ?_
    show Go p e below s _ _ _ (T0.setTop (mkF m 22 #[.val (.int p1), .val (.long q2), .second, .val (.int ((p1 &&& (2147483647 : Int32)) % (5 : Int32))), .unset, .unset, .unset, .unset] []))
    refine Go.step (fun t kk => XS.iloadN X0.here hx rfl (hb hby at_22) rfl kk) ?_
    show Go p e below s _ _ _ (T0.setTop (mkF m 23 #[.val (.int p1), .val (.long q2), .second, .val (.int ((p1 &&& (2147483647 : Int32)) % (5 : Int32))), .unset, .unset, .unset, .unset] [(.int ((p1 &&& (2147483647 : Int32)) % (5 : Int32)))]))
    refine Go.step (fun t kk => XS.iconst X0.here hx rfl (hb hby at_23) kk) ?_
    show Go p e below s _ _ _ (T0.setTop (mkF m 24 #[.val (.int p1), .val (.long q2), .second, .val (.int ((p1 &&& (2147483647 : Int32)) % (5 : Int32))), .unset, .unset, .unset, .unset] [(.int (1 : Int32)), (.int ((p1 &&& (2147483647 : Int32)) % (5 : Int32)))]))
    by_cases hc24_7 : ((p1 &&& (2147483647 : Int32)) % (5 : Int32)) = (1 : Int32)
    · refine Go.step (fun t kk => XS.icmpNo X0.here hx rfl (hb hby at_24) rfl (teq hc24_7).2 kk) ?_
      show Go p e below s _ _ _ (T0.setTop (mkF m 27 #[.val (.int p1), .val (.long q2), .second, .val (.int ((p1 &&& (2147483647 : Int32)) % (5 : Int32))), .unset, .unset, .unset, .unset] []))
      obtain ⟨T8, X8, e8, st8⟩ := getS (host := "") X0 hx hZ hown (hw _ (List.mem_of_getElem? (i := 27) rfl)) Via.refl e0 S_a2 (g := (mkF m 27 #[.val (.int p1), .val (.long q2), .second, .val (.int ((p1 &&& (2147483647 : Int32)) % (5 : Int32))), .unset, .unset, .unset, .unset] [])) rfl (hb hby at_27)
      refine Go.step st8 ?_
      show Go p e below s _ _ _ (T8.setTop (mkF m 30 #[.val (.int p1), .val (.long q2), .second, .val (.int ((p1 &&& (2147483647 : Int32)) % (5 : Int32))), .unset, .unset, .unset, .unset] [(.ref a2)]))
      refine Go.step (fun t kk => XS.astore X8.here hx rfl (hb hby at_30) rfl rfl (l' := #[.val (.int p1), .val (.long q2), .second, .val (.int ((p1 &&& (2147483647 : Int32)) % (5 : Int32))), .val (.ref a2), .unset, .unset, .unset]) rfl kk) ?_
      show Go p e below s _ _ _ (T8.setTop (mkF m 32 #[.val (.int p1), .val (.long q2), .second, .val (.int ((p1 &&& (2147483647 : Int32)) % (5 : Int32))), .val (.ref a2), .unset, .unset, .unset] []))
      refine Go.step (fun t kk => XS.iconst X8.here hx rfl (hb hby at_32) kk) ?_
      show Go p e below s _ _ _ (T8.setTop (mkF m 33 #[.val (.int p1), .val (.long q2), .second, .val (.int ((p1 &&& (2147483647 : Int32)) % (5 : Int32))), .val (.ref a2), .unset, .unset, .unset] [(.int (0 : Int32))]))
      refine Go.step (fun t kk => XS.istore X8.here hx rfl (hb hby at_33) rfl (l' := #[.val (.int p1), .val (.long q2), .second, .val (.int ((p1 &&& (2147483647 : Int32)) % (5 : Int32))), .val (.ref a2), .val (.int (0 : Int32)), .unset, .unset]) rfl kk) ?_
      show Go p e below s _ _ _ (T8.setTop (mkF m 35 #[.val (.int p1), .val (.long q2), .second, .val (.int ((p1 &&& (2147483647 : Int32)) % (5 : Int32))), .val (.ref a2), .val (.int (0 : Int32)), .unset, .unset] []))
      refine Go.step (fun t kk => XS.goto X8.here hx rfl (pc0 := 35) (pc' := 78) rfl (hb hby at_35) (by decide) (by decide) kk) ?_
      show Go p e below s _ _ _ (T8.setTop (mkF m 78 #[.val (.int p1), .val (.long q2), .second, .val (.int ((p1 &&& (2147483647 : Int32)) % (5 : Int32))), .val (.ref a2), .val (.int (0 : Int32)), .unset, .unset] []))
      refine Go.step (fun t kk => XS.aload X8.here hx rfl (hb hby at_78) rfl rfl kk) ?_
      show Go p e below s _ _ _ (T8.setTop (mkF m 80 #[.val (.int p1), .val (.long q2), .second, .val (.int ((p1 &&& (2147483647 : Int32)) % (5 : Int32))), .val (.ref a2), .val (.int (0 : Int32)), .unset, .unset] [(.ref a2)]))
      refine Go.callV X8 hx hZ hown (hw _ (List.mem_of_getElem? (i := 4) rfl)) (hw _ (List.mem_of_getElem? (i := 5) rfl)) (hw _ (List.mem_of_getElem? (i := 7) rfl)) (hw _ (List.mem_of_getElem? (i := 6) rfl)) (hw _ (List.mem_of_getElem? (i := 2) rfl)) (hw _ (List.mem_of_getElem? (i := 8) rfl)) (by decide) e8 E_a2 [] [] 0 (rm_isC l Z a0 hw a2 a4 a5 0 h0 n0 S_a4 S_a5 hf_a2) (by decide) (by decide) (by decide) (by decide) (by rw [hml]; rfl) (lenOf own_pd1 rfl) rfl (Nat.le_of_eq rfl) (hb hby at_80) ?_
      intro T9 v9 L9 X9 hQ9
      obtain ⟨rfl, rfl, e9⟩ := hQ9
      have N9 := Fr.app N0 (Fr.nil n0)
      show Go p e below s _ _ _ (T9.setTop (mkF m 83 #[.val (.int p1), .val (.long q2), .second, .val (.int ((p1 &&& (2147483647 : Int32)) % (5 : Int32))), .val (.ref a2), .val (.int (0 : Int32)), .unset, .unset] [(.int (0 : Int32))]))
      refine Go.step (fun t kk => XS.istore X9.here hx rfl (hb hby at_83) rfl (l' := #[.val (.int p1), .val (.long q2), .second, .val (.int ((p1 &&& (2147483647 : Int32)) % (5 : Int32))), .val (.ref a2), .val (.int (0 : Int32)), .val (.int (0 : Int32)), .unset]) rfl kk) ?_
      show Go p e below s _ _ _ (T9.setTop (mkF m 85 #[.val (.int p1), .val (.long q2), .second, .val (.int ((p1 &&& (2147483647 : Int32)) % (5 : Int32))), .val (.ref a2), .val (.int (0 : Int32)), .val (.int (0 : Int32)), .unset] []))
      refine Go.step (fun t kk => XS.iload X9.here hx rfl (hb hby at_85) rfl kk) ?_
      show Go p e below s _ _ _ (T9.setTop (mkF m 87 #[.val (.int p1), .val (.long q2), .second, .val (.int ((p1 &&& (2147483647 : Int32)) % (5 : Int32))), .val (.ref a2), .val (.int (0 : Int32)), .val (.int (0 : Int32)), .unset] [(.int (0 : Int32))]))
      refine Go.step (fun t kk => XS.iload X9.here hx rfl (hb hby at_87) rfl kk) ?_
      show Go p e below s _ _ _ (T9.setTop (mkF m 89 #[.val (.int p1), .val (.long q2), .second, .val (.int ((p1 &&& (2147483647 : Int32)) % (5 : Int32))), .val (.ref a2), .val (.int (0 : Int32)), .val (.int (0 : Int32)), .unset] [(.int (0 : Int32)), (.int (0 : Int32))]))
      have hc89_10 : (0 : Int32) = (0 : Int32) := rfl
      refine Go.step (fun t kk => XS.icmpYes X9.here hx rfl (pc0 := 89) (pc' := 94) rfl (hb hby at_89) rfl (teq hc89_10).1 (by decide) (by decide) kk) ?_
      show Go p e below s _ _ _ (T9.setTop (mkF m 94 #[.val (.int p1), .val (.long q2), .second, .val (.int ((p1 &&& (2147483647 : Int32)) % (5 : Int32))), .val (.ref a2), .val (.int (0 : Int32)), .val (.int (0 : Int32)), .unset] []))
      refine Go.step (fun t kk => XS.lloadN X9.here hx rfl (hb hby at_94) rfl kk) ?_
      show Go p e below s _ _ _ (T9.setTop (mkF m 95 #[.val (.int p1), .val (.long q2), .second, .val (.int ((p1 &&& (2147483647 : Int32)) % (5 : Int32))), .val (.ref a2), .val (.int (0 : Int32)), .val (.int (0 : Int32)), .unset] [(.long q2)]))
      refine Go.callS X9 hx hZ hown (hw _ (List.mem_of_getElem? (i := 13) rfl)) (hw _ (List.mem_of_getElem? (i := 14) rfl)) (hw _ (List.mem_of_getElem? (i := 15) rfl)) (hw _ (List.mem_of_getElem? (i := 16) rfl)) (by decide) e9 [(.long q2)] [] 0 (rm_ofC l Z a0 hw q2 h0 n0 Z0) (by decide) (by decide) (by decide) (by decide) (by rw [hml]; rfl) (lenOf own_pd2 rfl) rfl (Nat.le_of_eq rfl) (hb hby at_95) ?_
      intro T11 v11 L11 X11 hQ11
      obtain ⟨rfl, Nq11, E11⟩ := hQ11
      have N11 := Fr.app N9 Nq11
      show Go p e below s _ _ _ (T11.setTop (mkF m 98 #[.val (.int p1), .val (.long q2), .second, .val (.int ((p1 &&& (2147483647 : Int32)) % (5 : Int32))), .val (.ref a2), .val (.int (0 : Int32)), .val (.int (0 : Int32)), .unset] [(.ref h0.size)]))
      refine Go.step (fun t kk => XS.astore X11.here hx rfl (hb hby at_98) rfl rfl (l' := #[.val (.int p1), .val (.long q2), .second, .val (.int ((p1 &&& (2147483647 : Int32)) % (5 : Int32))), .val (.ref a2), .val (.int (0 : Int32)), .val (.int (0 : Int32)), .val (.ref h0.size)]) rfl kk) ?_
      show Go p e below s _ _ _ (T11.setTop (mkF m 100 #[.val (.int p1), .val (.long q2), .second, .val (.int ((p1 &&& (2147483647 : Int32)) % (5 : Int32))), .val (.ref a2), .val (.int (0 : Int32)), .val (.int (0 : Int32)), .val (.ref h0.size)] []))
      refine Go.step (fun t kk => XS.iload X11.here hx rfl (hb hby at_100) rfl kk) ?_
      show Go p e below s _ _ _ (T11.setTop (mkF m 102 #[.val (.int p1), .val (.long q2), .second, .val (.int ((p1 &&& (2147483647 : Int32)) % (5 : Int32))), .val (.ref a2), .val (.int (0 : Int32)), .val (.int (0 : Int32)), .val (.ref h0.size)] [(.int (0 : Int32))]))
      have hc102_12 : (0 : Int32) = (0 : Int32) := rfl
      refine Go.step (fun t kk => XS.ifYes X11.here hx rfl (pc0 := 102) (pc' := 122) rfl (hb hby at_102) rfl ((if0 _ _).trans (teq hc102_12).1) (by decide) (by decide) kk) ?_
      show Go p e below s _ _ _ (T11.setTop (mkF m 122 #[.val (.int p1), .val (.long q2), .second, .val (.int ((p1 &&& (2147483647 : Int32)) % (5 : Int32))), .val (.ref a2), .val (.int (0 : Int32)), .val (.int (0 : Int32)), .val (.ref h0.size)] []))
      refine Go.step (fun t kk => XS.iconst X11.here hx rfl (hb hby at_122) kk) ?_
      show Go p e below s _ _ _ (T11.setTop (mkF m 123 #[.val (.int p1), .val (.long q2), .second, .val (.int ((p1 &&& (2147483647 : Int32)) % (5 : Int32))), .val (.ref a2), .val (.int (0 : Int32)), .val (.int (0 : Int32)), .val (.ref h0.size)] [(.int (1 : Int32))]))
      exact Go.retN X11 hx hlk (t := .boolean) hret (by simp) (hb hby at_123) (show _ ∧ _ from ⟨rfl, N11⟩) (by decide) (by decide)
    · refine Go.step (fun t kk => XS.icmpYes X0.here hx rfl (pc0 := 24) (pc' := 38) rfl (hb hby at_24) rfl (feq hc24_7).2 (by decide) (by decide) kk) ?_
      show Go p e below s _ _ _ (T0.setTop (mkF m 38 #[.val (.int p1), .val (.long q2), .second, .val (.int ((p1 &&& (2147483647 : Int32)) % (5 : Int32))), .unset, .unset, .unset, .unset] []))
      refine Go.step (fun t kk => XS.iloadN X0.here hx rfl (hb hby at_38) rfl kk) ?_
      show Go p e below s _ _ _ (T0.setTop (mkF m 39 #[.val (.int p1), .val (.long q2), .second, .val (.int ((p1 &&& (2147483647 : Int32)) % (5 : Int32))), .unset, .unset, .unset, .unset] [(.int ((p1 &&& (2147483647 : Int32)) % (5 : Int32)))]))
      refine Go.step (fun t kk => XS.iconst X0.here hx rfl (hb hby at_39) kk) ?_
      show Go p e below s _ _ _ (T0.setTop (mkF m 40 #[.val (.int p1), .val (.long q2), .second, .val (.int ((p1 &&& (2147483647 : Int32)) % (5 : Int32))), .unset, .unset, .unset, .unset] [(.int (2 : Int32)), (.int ((p1 &&& (2147483647 : Int32)) % (5 : Int32)))]))
      by_cases hc40_13 : ((p1 &&& (2147483647 : Int32)) % (5 : Int32)) = (2 : Int32)
      · refine Go.step (fun t kk => XS.icmpNo X0.here hx rfl (hb hby at_40) rfl (teq hc40_13).2 kk) ?_
        show Go p e below s _ _ _ (T0.setTop (mkF m 43 #[.val (.int p1), .val (.long q2), .second, .val (.int ((p1 &&& (2147483647 : Int32)) % (5 : Int32))), .unset, .unset, .unset, .unset] []))
        obtain ⟨T14, X14, e14, st14⟩ := getS (host := "") X0 hx hZ hown (hw _ (List.mem_of_getElem? (i := 44) rfl)) Via.refl e0 S_a3 (g := (mkF m 43 #[.val (.int p1), .val (.long q2), .second, .val (.int ((p1 &&& (2147483647 : Int32)) % (5 : Int32))), .unset, .unset, .unset, .unset] [])) rfl (hb hby at_43)
        refine Go.step st14 ?_
        show Go p e below s _ _ _ (T14.setTop (mkF m 46 #[.val (.int p1), .val (.long q2), .second, .val (.int ((p1 &&& (2147483647 : Int32)) % (5 : Int32))), .unset, .unset, .unset, .unset] [(.ref a3)]))
        refine Go.step (fun t kk => XS.astore X14.here hx rfl (hb hby at_46) rfl rfl (l' := #[.val (.int p1), .val (.long q2), .second, .val (.int ((p1 &&& (2147483647 : Int32)) % (5 : Int32))), .val (.ref a3), .unset, .unset, .unset]) rfl kk) ?_
        show Go p e below s _ _ _ (T14.setTop (mkF m 48 #[.val (.int p1), .val (.long q2), .second, .val (.int ((p1 &&& (2147483647 : Int32)) % (5 : Int32))), .val (.ref a3), .unset, .unset, .unset] []))
        refine Go.step (fun t kk => XS.iconst X14.here hx rfl (hb hby at_48) kk) ?_
        show Go p e below s _ _ _ (T14.setTop (mkF m 49 #[.val (.int p1), .val (.long q2), .second, .val (.int ((p1 &&& (2147483647 : Int32)) % (5 : Int32))), .val (.ref a3), .unset, .unset, .unset] [(.int (0 : Int32))]))
        refine Go.step (fun t kk => XS.istore X14.here hx rfl (hb hby at_49) rfl (l' := #[.val (.int p1), .val (.long q2), .second, .val (.int ((p1 &&& (2147483647 : Int32)) % (5 : Int32))), .val (.ref a3), .val (.int (0 : Int32)), .unset, .unset]) rfl kk) ?_
        show Go p e below s _ _ _ (T14.setTop (mkF m 51 #[.val (.int p1), .val (.long q2), .second, .val (.int ((p1 &&& (2147483647 : Int32)) % (5 : Int32))), .val (.ref a3), .val (.int (0 : Int32)), .unset, .unset] []))
        refine Go.step (fun t kk => XS.goto X14.here hx rfl (pc0 := 51) (pc' := 78) rfl (hb hby at_51) (by decide) (by decide) kk) ?_
        show Go p e below s _ _ _ (T14.setTop (mkF m 78 #[.val (.int p1), .val (.long q2), .second, .val (.int ((p1 &&& (2147483647 : Int32)) % (5 : Int32))), .val (.ref a3), .val (.int (0 : Int32)), .unset, .unset] []))
        refine Go.step (fun t kk => XS.aload X14.here hx rfl (hb hby at_78) rfl rfl kk) ?_
        show Go p e below s _ _ _ (T14.setTop (mkF m 80 #[.val (.int p1), .val (.long q2), .second, .val (.int ((p1 &&& (2147483647 : Int32)) % (5 : Int32))), .val (.ref a3), .val (.int (0 : Int32)), .unset, .unset] [(.ref a3)]))
        refine Go.callV X14 hx hZ hown (hw _ (List.mem_of_getElem? (i := 4) rfl)) (hw _ (List.mem_of_getElem? (i := 5) rfl)) (hw _ (List.mem_of_getElem? (i := 7) rfl)) (hw _ (List.mem_of_getElem? (i := 6) rfl)) (hw _ (List.mem_of_getElem? (i := 2) rfl)) (hw _ (List.mem_of_getElem? (i := 8) rfl)) (by decide) e14 E_a3 [] [] 0 (rm_isC l Z a0 hw a3 a4 a5 0 h0 n0 S_a4 S_a5 hf_a3) (by decide) (by decide) (by decide) (by decide) (by rw [hml]; rfl) (lenOf own_pd1 rfl) rfl (Nat.le_of_eq rfl) (hb hby at_80) ?_
        intro T15 v15 L15 X15 hQ15
        obtain ⟨rfl, rfl, e15⟩ := hQ15
        have N15 := Fr.app N0 (Fr.nil n0)
        show Go p e below s _ _ _ (T15.setTop (mkF m 83 #[.val (.int p1), .val (.long q2), .second, .val (.int ((p1 &&& (2147483647 : Int32)) % (5 : Int32))), .val (.ref a3), .val (.int (0 : Int32)), .unset, .unset] [(.int (0 : Int32))]))
        refine Go.step (fun t kk => XS.istore X15.here hx rfl (hb hby at_83) rfl (l' := #[.val (.int p1), .val (.long q2), .second, .val (.int ((p1 &&& (2147483647 : Int32)) % (5 : Int32))), .val (.ref a3), .val (.int (0 : Int32)), .val (.int (0 : Int32)), .unset]) rfl kk) ?_
        show Go p e below s _ _ _ (T15.setTop (mkF m 85 #[.val (.int p1), .val (.long q2), .second, .val (.int ((p1 &&& (2147483647 : Int32)) % (5 : Int32))), .val (.ref a3), .val (.int (0 : Int32)), .val (.int (0 : Int32)), .unset] []))
        refine Go.step (fun t kk => XS.iload X15.here hx rfl (hb hby at_85) rfl kk) ?_
        show Go p e below s _ _ _ (T15.setTop (mkF m 87 #[.val (.int p1), .val (.long q2), .second, .val (.int ((p1 &&& (2147483647 : Int32)) % (5 : Int32))), .val (.ref a3), .val (.int (0 : Int32)), .val (.int (0 : Int32)), .unset] [(.int (0 : Int32))]))
        refine Go.step (fun t kk => XS.iload X15.here hx rfl (hb hby at_87) rfl kk) ?_
        show Go p e below s _ _ _ (T15.setTop (mkF m 89 #[.val (.int p1), .val (.long q2), .second, .val (.int ((p1 &&& (2147483647 : Int32)) % (5 : Int32))), .val (.ref a3), .val (.int (0 : Int32)), .val (.int (0 : Int32)), .unset] [(.int (0 : Int32)), (.int (0 : Int32))]))
        have hc89_16 : (0 : Int32) = (0 : Int32) := rfl
        refine Go.step (fun t kk => XS.icmpYes X15.here hx rfl (pc0 := 89) (pc' := 94) rfl (hb hby at_89) rfl (teq hc89_16).1 (by decide) (by decide) kk) ?_
        show Go p e below s _ _ _ (T15.setTop (mkF m 94 #[.val (.int p1), .val (.long q2), .second, .val (.int ((p1 &&& (2147483647 : Int32)) % (5 : Int32))), .val (.ref a3), .val (.int (0 : Int32)), .val (.int (0 : Int32)), .unset] []))
        refine Go.step (fun t kk => XS.lloadN X15.here hx rfl (hb hby at_94) rfl kk) ?_
        show Go p e below s _ _ _ (T15.setTop (mkF m 95 #[.val (.int p1), .val (.long q2), .second, .val (.int ((p1 &&& (2147483647 : Int32)) % (5 : Int32))), .val (.ref a3), .val (.int (0 : Int32)), .val (.int (0 : Int32)), .unset] [(.long q2)]))
        refine Go.callS X15 hx hZ hown (hw _ (List.mem_of_getElem? (i := 13) rfl)) (hw _ (List.mem_of_getElem? (i := 14) rfl)) (hw _ (List.mem_of_getElem? (i := 15) rfl)) (hw _ (List.mem_of_getElem? (i := 16) rfl)) (by decide) e15 [(.long q2)] [] 0 (rm_ofC l Z a0 hw q2 h0 n0 Z0) (by decide) (by decide) (by decide) (by decide) (by rw [hml]; rfl) (lenOf own_pd2 rfl) rfl (Nat.le_of_eq rfl) (hb hby at_95) ?_
        intro T17 v17 L17 X17 hQ17
        obtain ⟨rfl, Nq17, E17⟩ := hQ17
        have N17 := Fr.app N15 Nq17
        show Go p e below s _ _ _ (T17.setTop (mkF m 98 #[.val (.int p1), .val (.long q2), .second, .val (.int ((p1 &&& (2147483647 : Int32)) % (5 : Int32))), .val (.ref a3), .val (.int (0 : Int32)), .val (.int (0 : Int32)), .unset] [(.ref h0.size)]))
        refine Go.step (fun t kk => XS.astore X17.here hx rfl (hb hby at_98) rfl rfl (l' := #[.val (.int p1), .val (.long q2), .second, .val (.int ((p1 &&& (2147483647 : Int32)) % (5 : Int32))), .val (.ref a3), .val (.int (0 : Int32)), .val (.int (0 : Int32)), .val (.ref h0.size)]) rfl kk) ?_
        show Go p e below s _ _ _ (T17.setTop (mkF m 100 #[.val (.int p1), .val (.long q2), .second, .val (.int ((p1 &&& (2147483647 : Int32)) % (5 : Int32))), .val (.ref a3), .val (.int (0 : Int32)), .val (.int (0 : Int32)), .val (.ref h0.size)] []))
        refine Go.step (fun t kk => XS.iload X17.here hx rfl (hb hby at_100) rfl kk) ?_
        show Go p e below s _ _ _ (T17.setTop (mkF m 102 #[.val (.int p1), .val (.long q2), .second, .val (.int ((p1 &&& (2147483647 : Int32)) % (5 : Int32))), .val (.ref a3), .val (.int (0 : Int32)), .val (.int (0 : Int32)), .val (.ref h0.size)] [(.int (0 : Int32))]))
        have hc102_18 : (0 : Int32) = (0 : Int32) := rfl
        refine Go.step (fun t kk => XS.ifYes X17.here hx rfl (pc0 := 102) (pc' := 122) rfl (hb hby at_102) rfl ((if0 _ _).trans (teq hc102_18).1) (by decide) (by decide) kk) ?_
        show Go p e below s _ _ _ (T17.setTop (mkF m 122 #[.val (.int p1), .val (.long q2), .second, .val (.int ((p1 &&& (2147483647 : Int32)) % (5 : Int32))), .val (.ref a3), .val (.int (0 : Int32)), .val (.int (0 : Int32)), .val (.ref h0.size)] []))
        refine Go.step (fun t kk => XS.iconst X17.here hx rfl (hb hby at_122) kk) ?_
        show Go p e below s _ _ _ (T17.setTop (mkF m 123 #[.val (.int p1), .val (.long q2), .second, .val (.int ((p1 &&& (2147483647 : Int32)) % (5 : Int32))), .val (.ref a3), .val (.int (0 : Int32)), .val (.int (0 : Int32)), .val (.ref h0.size)] [(.int (1 : Int32))]))
        exact Go.retN X17 hx hlk (t := .boolean) hret (by simp) (hb hby at_123) (show _ ∧ _ from ⟨rfl, N17⟩) (by decide) (by decide)
      · refine Go.step (fun t kk => XS.icmpYes X0.here hx rfl (pc0 := 40) (pc' := 54) rfl (hb hby at_40) rfl (feq hc40_13).2 (by decide) (by decide) kk) ?_
        show Go p e below s _ _ _ (T0.setTop (mkF m 54 #[.val (.int p1), .val (.long q2), .second, .val (.int ((p1 &&& (2147483647 : Int32)) % (5 : Int32))), .unset, .unset, .unset, .unset] []))
        refine Go.step (fun t kk => XS.iloadN X0.here hx rfl (hb hby at_54) rfl kk) ?_
        show Go p e below s _ _ _ (T0.setTop (mkF m 55 #[.val (.int p1), .val (.long q2), .second, .val (.int ((p1 &&& (2147483647 : Int32)) % (5 : Int32))), .unset, .unset, .unset, .unset] [(.int ((p1 &&& (2147483647 : Int32)) % (5 : Int32)))]))
        refine Go.step (fun t kk => XS.iconst X0.here hx rfl (hb hby at_55) kk) ?_
        show Go p e below s _ _ _ (T0.setTop (mkF m 56 #[.val (.int p1), .val (.long q2), .second, .val (.int ((p1 &&& (2147483647 : Int32)) % (5 : Int32))), .unset, .unset, .unset, .unset] [(.int (3 : Int32)), (.int ((p1 &&& (2147483647 : Int32)) % (5 : Int32)))]))
        by_cases hc56_19 : ((p1 &&& (2147483647 : Int32)) % (5 : Int32)) = (3 : Int32)
        · refine Go.step (fun t kk => XS.icmpNo X0.here hx rfl (hb hby at_56) rfl (teq hc56_19).2 kk) ?_
          show Go p e below s _ _ _ (T0.setTop (mkF m 59 #[.val (.int p1), .val (.long q2), .second, .val (.int ((p1 &&& (2147483647 : Int32)) % (5 : Int32))), .unset, .unset, .unset, .unset] []))
          obtain ⟨T20, X20, e20, st20⟩ := getS (host := "") X0 hx hZ hown (hw _ (List.mem_of_getElem? (i := 43) rfl)) Via.refl e0 S_a4 (g := (mkF m 59 #[.val (.int p1), .val (.long q2), .second, .val (.int ((p1 &&& (2147483647 : Int32)) % (5 : Int32))), .unset, .unset, .unset, .unset] [])) rfl (hb hby at_59)
          refine Go.step st20 ?_
          show Go p e below s _ _ _ (T20.setTop (mkF m 62 #[.val (.int p1), .val (.long q2), .second, .val (.int ((p1 &&& (2147483647 : Int32)) % (5 : Int32))), .unset, .unset, .unset, .unset] [(.ref a4)]))
          refine Go.step (fun t kk => XS.astore X20.here hx rfl (hb hby at_62) rfl rfl (l' := #[.val (.int p1), .val (.long q2), .second, .val (.int ((p1 &&& (2147483647 : Int32)) % (5 : Int32))), .val (.ref a4), .unset, .unset, .unset]) rfl kk) ?_
          show Go p e below s _ _ _ (T20.setTop (mkF m 64 #[.val (.int p1), .val (.long q2), .second, .val (.int ((p1 &&& (2147483647 : Int32)) % (5 : Int32))), .val (.ref a4), .unset, .unset, .unset] []))
          refine Go.step (fun t kk => XS.iconst X20.here hx rfl (hb hby at_64) kk) ?_
          show Go p e below s _ _ _ (T20.setTop (mkF m 65 #[.val (.int p1), .val (.long q2), .second, .val (.int ((p1 &&& (2147483647 : Int32)) % (5 : Int32))), .val (.ref a4), .unset, .unset, .unset] [(.int (1 : Int32))]))
          refine Go.step (fun t kk => XS.istore X20.here hx rfl (hb hby at_65) rfl (l' := #[.val (.int p1), .val (.long q2), .second, .val (.int ((p1 &&& (2147483647 : Int32)) % (5 : Int32))), .val (.ref a4), .val (.int (1 : Int32)), .unset, .unset]) rfl kk) ?_
          show Go p e below s _ _ _ (T20.setTop (mkF m 67 #[.val (.int p1), .val (.long q2), .second, .val (.int ((p1 &&& (2147483647 : Int32)) % (5 : Int32))), .val (.ref a4), .val (.int (1 : Int32)), .unset, .unset] []))
          refine Go.step (fun t kk => XS.goto X20.here hx rfl (pc0 := 67) (pc' := 78) rfl (hb hby at_67) (by decide) (by decide) kk) ?_
          show Go p e below s _ _ _ (T20.setTop (mkF m 78 #[.val (.int p1), .val (.long q2), .second, .val (.int ((p1 &&& (2147483647 : Int32)) % (5 : Int32))), .val (.ref a4), .val (.int (1 : Int32)), .unset, .unset] []))
          refine Go.step (fun t kk => XS.aload X20.here hx rfl (hb hby at_78) rfl rfl kk) ?_
          show Go p e below s _ _ _ (T20.setTop (mkF m 80 #[.val (.int p1), .val (.long q2), .second, .val (.int ((p1 &&& (2147483647 : Int32)) % (5 : Int32))), .val (.ref a4), .val (.int (1 : Int32)), .unset, .unset] [(.ref a4)]))
          refine Go.callV X20 hx hZ hown (hw _ (List.mem_of_getElem? (i := 4) rfl)) (hw _ (List.mem_of_getElem? (i := 5) rfl)) (hw _ (List.mem_of_getElem? (i := 7) rfl)) (hw _ (List.mem_of_getElem? (i := 6) rfl)) (hw _ (List.mem_of_getElem? (i := 2) rfl)) (hw _ (List.mem_of_getElem? (i := 8) rfl)) (by decide) e20 E_a4 [] [] 0 (rm_isC l Z a0 hw a4 a4 a5 1 h0 n0 S_a4 S_a5 hf_a4) (by decide) (by decide) (by decide) (by decide) (by rw [hml]; rfl) (lenOf own_pd1 rfl) rfl (Nat.le_of_eq rfl) (hb hby at_80) ?_
          intro T21 v21 L21 X21 hQ21
          obtain ⟨rfl, rfl, e21⟩ := hQ21
          have N21 := Fr.app N0 (Fr.nil n0)
          show Go p e below s _ _ _ (T21.setTop (mkF m 83 #[.val (.int p1), .val (.long q2), .second, .val (.int ((p1 &&& (2147483647 : Int32)) % (5 : Int32))), .val (.ref a4), .val (.int (1 : Int32)), .unset, .unset] [(.int (1 : Int32))]))
          refine Go.step (fun t kk => XS.istore X21.here hx rfl (hb hby at_83) rfl (l' := #[.val (.int p1), .val (.long q2), .second, .val (.int ((p1 &&& (2147483647 : Int32)) % (5 : Int32))), .val (.ref a4), .val (.int (1 : Int32)), .val (.int (1 : Int32)), .unset]) rfl kk) ?_
          show Go p e below s _ _ _ (T21.setTop (mkF m 85 #[.val (.int p1), .val (.long q2), .second, .val (.int ((p1 &&& (2147483647 : Int32)) % (5 : Int32))), .val (.ref a4), .val (.int (1 : Int32)), .val (.int (1 : Int32)), .unset] []))
          refine Go.step (fun t kk => XS.iload X21.here hx rfl (hb hby at_85) rfl kk) ?_
          show Go p e below s _ _ _ (T21.setTop (mkF m 87 #[.val (.int p1), .val (.long q2), .second, .val (.int ((p1 &&& (2147483647 : Int32)) % (5 : Int32))), .val (.ref a4), .val (.int (1 : Int32)), .val (.int (1 : Int32)), .unset] [(.int (1 : Int32))]))
          refine Go.step (fun t kk => XS.iload X21.here hx rfl (hb hby at_87) rfl kk) ?_
          show Go p e below s _ _ _ (T21.setTop (mkF m 89 #[.val (.int p1), .val (.long q2), .second, .val (.int ((p1 &&& (2147483647 : Int32)) % (5 : Int32))), .val (.ref a4), .val (.int (1 : Int32)), .val (.int (1 : Int32)), .unset] [(.int (1 : Int32)), (.int (1 : Int32))]))
          have hc89_22 : (1 : Int32) = (1 : Int32) := rfl
          refine Go.step (fun t kk => XS.icmpYes X21.here hx rfl (pc0 := 89) (pc' := 94) rfl (hb hby at_89) rfl (teq hc89_22).1 (by decide) (by decide) kk) ?_
          show Go p e below s _ _ _ (T21.setTop (mkF m 94 #[.val (.int p1), .val (.long q2), .second, .val (.int ((p1 &&& (2147483647 : Int32)) % (5 : Int32))), .val (.ref a4), .val (.int (1 : Int32)), .val (.int (1 : Int32)), .unset] []))
          refine Go.step (fun t kk => XS.lloadN X21.here hx rfl (hb hby at_94) rfl kk) ?_
          show Go p e below s _ _ _ (T21.setTop (mkF m 95 #[.val (.int p1), .val (.long q2), .second, .val (.int ((p1 &&& (2147483647 : Int32)) % (5 : Int32))), .val (.ref a4), .val (.int (1 : Int32)), .val (.int (1 : Int32)), .unset] [(.long q2)]))
          refine Go.callS X21 hx hZ hown (hw _ (List.mem_of_getElem? (i := 13) rfl)) (hw _ (List.mem_of_getElem? (i := 14) rfl)) (hw _ (List.mem_of_getElem? (i := 15) rfl)) (hw _ (List.mem_of_getElem? (i := 16) rfl)) (by decide) e21 [(.long q2)] [] 0 (rm_ofC l Z a0 hw q2 h0 n0 Z0) (by decide) (by decide) (by decide) (by decide) (by rw [hml]; rfl) (lenOf own_pd2 rfl) rfl (Nat.le_of_eq rfl) (hb hby at_95) ?_
          intro T23 v23 L23 X23 hQ23
          obtain ⟨rfl, Nq23, E23⟩ := hQ23
          have N23 := Fr.app N21 Nq23
          show Go p e below s _ _ _ (T23.setTop (mkF m 98 #[.val (.int p1), .val (.long q2), .second, .val (.int ((p1 &&& (2147483647 : Int32)) % (5 : Int32))), .val (.ref a4), .val (.int (1 : Int32)), .val (.int (1 : Int32)), .unset] [(.ref h0.size)]))
          refine Go.step (fun t kk => XS.astore X23.here hx rfl (hb hby at_98) rfl rfl (l' := #[.val (.int p1), .val (.long q2), .second, .val (.int ((p1 &&& (2147483647 : Int32)) % (5 : Int32))), .val (.ref a4), .val (.int (1 : Int32)), .val (.int (1 : Int32)), .val (.ref h0.size)]) rfl kk) ?_
          show Go p e below s _ _ _ (T23.setTop (mkF m 100 #[.val (.int p1), .val (.long q2), .second, .val (.int ((p1 &&& (2147483647 : Int32)) % (5 : Int32))), .val (.ref a4), .val (.int (1 : Int32)), .val (.int (1 : Int32)), .val (.ref h0.size)] []))
          refine Go.step (fun t kk => XS.iload X23.here hx rfl (hb hby at_100) rfl kk) ?_
          show Go p e below s _ _ _ (T23.setTop (mkF m 102 #[.val (.int p1), .val (.long q2), .second, .val (.int ((p1 &&& (2147483647 : Int32)) % (5 : Int32))), .val (.ref a4), .val (.int (1 : Int32)), .val (.int (1 : Int32)), .val (.ref h0.size)] [(.int (1 : Int32))]))
          have hc102_24 : ¬ ((1 : Int32) = (0 : Int32)) := by decide
          refine Go.step (fun t kk => XS.ifNo X23.here hx rfl (hb hby at_102) rfl ((if0 _ _).trans (feq hc102_24).1) kk) ?_
          show Go p e below s _ _ _ (T23.setTop (mkF m 105 #[.val (.int p1), .val (.long q2), .second, .val (.int ((p1 &&& (2147483647 : Int32)) % (5 : Int32))), .val (.ref a4), .val (.int (1 : Int32)), .val (.int (1 : Int32)), .val (.ref h0.size)] []))
          refine Go.step (fun t kk => XS.aload X23.here hx rfl (hb hby at_105) rfl rfl kk) ?_
          show Go p e below s _ _ _ (T23.setTop (mkF m 107 #[.val (.int p1), .val (.long q2), .second, .val (.int ((p1 &&& (2147483647 : Int32)) % (5 : Int32))), .val (.ref a4), .val (.int (1 : Int32)), .val (.int (1 : Int32)), .val (.ref h0.size)] [(.ref a4)]))
          refine Go.step (fun t kk => XS.aload X23.here hx rfl (hb hby at_107) rfl rfl kk) ?_
          show Go p e below s _ _ _ (T23.setTop (mkF m 109 #[.val (.int p1), .val (.long q2), .second, .val (.int ((p1 &&& (2147483647 : Int32)) % (5 : Int32))), .val (.ref a4), .val (.int (1 : Int32)), .val (.int (1 : Int32)), .val (.ref h0.size)] [(.ref h0.size), (.ref a4)]))
          refine Go.callV X23 hx hZ hown (hw _ (List.mem_of_getElem? (i := 30) rfl)) (hw _ (List.mem_of_getElem? (i := 31) rfl)) (hw _ (List.mem_of_getElem? (i := 33) rfl)) (hw _ (List.mem_of_getElem? (i := 32) rfl)) (hw _ (List.mem_of_getElem? (i := 2) rfl)) (hw _ (List.mem_of_getElem? (i := 34) rfl)) (by decide) rfl (Exa.ext E23 E_a4) [(.ref h0.size)] [] 0 (rm_due l Z a0 hw a4 h0.size a1 az T23.heap n0 (Sta.ext E23 S_a1) (Sta.ext E23 S_az) na4_1) (by decide) (by decide) (by decide) (by decide) (by rw [hml]; rfl) (lenOf own_pd3 rfl) rfl (Nat.le_of_eq rfl) (hb hby at_109) ?_
          intro T25 v25 L25 X25 hQ25
          obtain ⟨rfl, rfl, e25⟩ := hQ25
          have N25 := Fr.app N23 (Fr.nil n0)
          show Go p e below s _ _ _ (T25.setTop (mkF m 112 #[.val (.int p1), .val (.long q2), .second, .val (.int ((p1 &&& (2147483647 : Int32)) % (5 : Int32))), .val (.ref a4), .val (.int (1 : Int32)), .val (.int (1 : Int32)), .val (.ref h0.size)] [(.ref az)]))
          refine Go.callV X25 hx hZ hown (hw _ (List.mem_of_getElem? (i := 38) rfl)) (hw _ (List.mem_of_getElem? (i := 39) rfl)) (hw _ (List.mem_of_getElem? (i := 41) rfl)) (hw _ (List.mem_of_getElem? (i := 40) rfl)) (hw _ (List.mem_of_getElem? (i := 15) rfl)) (hw _ (List.mem_of_getElem? (i := 42) rfl)) (by decide) e25 (Exa.ext E23 E_az) [] [] 0 (rm_cen l Z a0 hw az 0 T23.heap n0 (Fld.ext E23 F_az_cents)) (by decide) (by decide) (by decide) (by decide) (by rw [hml]; rfl) (lenOf own_pd4 rfl) rfl (Nat.le_of_eq rfl) (hb hby at_112) ?_
          intro T26 v26 L26 X26 hQ26
          obtain ⟨rfl, rfl, e26⟩ := hQ26
          have N26 := Fr.app N25 (Fr.nil n0)
          show Go p e below s _ _ _ (T26.setTop (mkF m 115 #[.val (.int p1), .val (.long q2), .second, .val (.int ((p1 &&& (2147483647 : Int32)) % (5 : Int32))), .val (.ref a4), .val (.int (1 : Int32)), .val (.int (1 : Int32)), .val (.ref h0.size)] [(.long (0 : Int64))]))
          refine Go.step (fun t kk => XS.lconst X26.here hx rfl (hb hby at_115) kk) ?_
          show Go p e below s _ _ _ (T26.setTop (mkF m 116 #[.val (.int p1), .val (.long q2), .second, .val (.int ((p1 &&& (2147483647 : Int32)) % (5 : Int32))), .val (.ref a4), .val (.int (1 : Int32)), .val (.int (1 : Int32)), .val (.ref h0.size)] [(.long (0 : Int64)), (.long (0 : Int64))]))
          refine Go.step (fun t kk => XS.lcmp X26.here hx rfl (hb hby at_116) rfl kk) ?_
          show Go p e below s _ _ _ (T26.setTop (mkF m 117 #[.val (.int p1), .val (.long q2), .second, .val (.int ((p1 &&& (2147483647 : Int32)) % (5 : Int32))), .val (.ref a4), .val (.int (1 : Int32)), .val (.int (1 : Int32)), .val (.ref h0.size)] [(.int (lcmpW (0 : Int64) (0 : Int64)))]))
          have hc117_27 : (lcmpW (0 : Int64) (0 : Int64)) = (0 : Int32) := (lw_eq _ _).mpr rfl
          refine Go.step (fun t kk => XS.ifYes X26.here hx rfl (pc0 := 117) (pc' := 122) rfl (hb hby at_117) rfl ((if0 _ _).trans (teq hc117_27).1) (by decide) (by decide) kk) ?_
          show Go p e below s _ _ _ (T26.setTop (mkF m 122 #[.val (.int p1), .val (.long q2), .second, .val (.int ((p1 &&& (2147483647 : Int32)) % (5 : Int32))), .val (.ref a4), .val (.int (1 : Int32)), .val (.int (1 : Int32)), .val (.ref h0.size)] []))
          refine Go.step (fun t kk => XS.iconst X26.here hx rfl (hb hby at_122) kk) ?_
          show Go p e below s _ _ _ (T26.setTop (mkF m 123 #[.val (.int p1), .val (.long q2), .second, .val (.int ((p1 &&& (2147483647 : Int32)) % (5 : Int32))), .val (.ref a4), .val (.int (1 : Int32)), .val (.int (1 : Int32)), .val (.ref h0.size)] [(.int (1 : Int32))]))
          exact Go.retN X26 hx hlk (t := .boolean) hret (by simp) (hb hby at_123) (show _ ∧ _ from ⟨rfl, N26⟩) (by decide) (by decide)
        · refine Go.step (fun t kk => XS.icmpYes X0.here hx rfl (pc0 := 56) (pc' := 70) rfl (hb hby at_56) rfl (feq hc56_19).2 (by decide) (by decide) kk) ?_
          show Go p e below s _ _ _ (T0.setTop (mkF m 70 #[.val (.int p1), .val (.long q2), .second, .val (.int ((p1 &&& (2147483647 : Int32)) % (5 : Int32))), .unset, .unset, .unset, .unset] []))
          obtain ⟨T28, X28, e28, st28⟩ := getS (host := "") X0 hx hZ hown (hw _ (List.mem_of_getElem? (i := 29) rfl)) Via.refl e0 S_a5 (g := (mkF m 70 #[.val (.int p1), .val (.long q2), .second, .val (.int ((p1 &&& (2147483647 : Int32)) % (5 : Int32))), .unset, .unset, .unset, .unset] [])) rfl (hb hby at_70)
          refine Go.step st28 ?_
          show Go p e below s _ _ _ (T28.setTop (mkF m 73 #[.val (.int p1), .val (.long q2), .second, .val (.int ((p1 &&& (2147483647 : Int32)) % (5 : Int32))), .unset, .unset, .unset, .unset] [(.ref a5)]))
          refine Go.step (fun t kk => XS.astore X28.here hx rfl (hb hby at_73) rfl rfl (l' := #[.val (.int p1), .val (.long q2), .second, .val (.int ((p1 &&& (2147483647 : Int32)) % (5 : Int32))), .val (.ref a5), .unset, .unset, .unset]) rfl kk) ?_
          show Go p e below s _ _ _ (T28.setTop (mkF m 75 #[.val (.int p1), .val (.long q2), .second, .val (.int ((p1 &&& (2147483647 : Int32)) % (5 : Int32))), .val (.ref a5), .unset, .unset, .unset] []))
          refine Go.step (fun t kk => XS.iconst X28.here hx rfl (hb hby at_75) kk) ?_
          show Go p e below s _ _ _ (T28.setTop (mkF m 76 #[.val (.int p1), .val (.long q2), .second, .val (.int ((p1 &&& (2147483647 : Int32)) % (5 : Int32))), .val (.ref a5), .unset, .unset, .unset] [(.int (1 : Int32))]))
          refine Go.step (fun t kk => XS.istore X28.here hx rfl (hb hby at_76) rfl (l' := #[.val (.int p1), .val (.long q2), .second, .val (.int ((p1 &&& (2147483647 : Int32)) % (5 : Int32))), .val (.ref a5), .val (.int (1 : Int32)), .unset, .unset]) rfl kk) ?_
          show Go p e below s _ _ _ (T28.setTop (mkF m 78 #[.val (.int p1), .val (.long q2), .second, .val (.int ((p1 &&& (2147483647 : Int32)) % (5 : Int32))), .val (.ref a5), .val (.int (1 : Int32)), .unset, .unset] []))
          refine Go.step (fun t kk => XS.aload X28.here hx rfl (hb hby at_78) rfl rfl kk) ?_
          show Go p e below s _ _ _ (T28.setTop (mkF m 80 #[.val (.int p1), .val (.long q2), .second, .val (.int ((p1 &&& (2147483647 : Int32)) % (5 : Int32))), .val (.ref a5), .val (.int (1 : Int32)), .unset, .unset] [(.ref a5)]))
          refine Go.callV X28 hx hZ hown (hw _ (List.mem_of_getElem? (i := 4) rfl)) (hw _ (List.mem_of_getElem? (i := 5) rfl)) (hw _ (List.mem_of_getElem? (i := 7) rfl)) (hw _ (List.mem_of_getElem? (i := 6) rfl)) (hw _ (List.mem_of_getElem? (i := 2) rfl)) (hw _ (List.mem_of_getElem? (i := 8) rfl)) (by decide) e28 E_a5 [] [] 0 (rm_isC l Z a0 hw a5 a4 a5 1 h0 n0 S_a4 S_a5 hf_a5) (by decide) (by decide) (by decide) (by decide) (by rw [hml]; rfl) (lenOf own_pd1 rfl) rfl (Nat.le_of_eq rfl) (hb hby at_80) ?_
          intro T29 v29 L29 X29 hQ29
          obtain ⟨rfl, rfl, e29⟩ := hQ29
          have N29 := Fr.app N0 (Fr.nil n0)
          show Go p e below s _ _ _ (T29.setTop (mkF m 83 #[.val (.int p1), .val (.long q2), .second, .val (.int ((p1 &&& (2147483647 : Int32)) % (5 : Int32))), .val (.ref a5), .val (.int (1 : Int32)), .unset, .unset] [(.int (1 : Int32))]))
          refine Go.step (fun t kk => XS.istore X29.here hx rfl (hb hby at_83) rfl (l' := #[.val (.int p1), .val (.long q2), .second, .val (.int ((p1 &&& (2147483647 : Int32)) % (5 : Int32))), .val (.ref a5), .val (.int (1 : Int32)), .val (.int (1 : Int32)), .unset]) rfl kk) ?_
          show Go p e below s _ _ _ (T29.setTop (mkF m 85 #[.val (.int p1), .val (.long q2), .second, .val (.int ((p1 &&& (2147483647 : Int32)) % (5 : Int32))), .val (.ref a5), .val (.int (1 : Int32)), .val (.int (1 : Int32)), .unset] []))
          refine Go.step (fun t kk => XS.iload X29.here hx rfl (hb hby at_85) rfl kk) ?_
          show Go p e below s _ _ _ (T29.setTop (mkF m 87 #[.val (.int p1), .val (.long q2), .second, .val (.int ((p1 &&& (2147483647 : Int32)) % (5 : Int32))), .val (.ref a5), .val (.int (1 : Int32)), .val (.int (1 : Int32)), .unset] [(.int (1 : Int32))]))
          refine Go.step (fun t kk => XS.iload X29.here hx rfl (hb hby at_87) rfl kk) ?_
          show Go p e below s _ _ _ (T29.setTop (mkF m 89 #[.val (.int p1), .val (.long q2), .second, .val (.int ((p1 &&& (2147483647 : Int32)) % (5 : Int32))), .val (.ref a5), .val (.int (1 : Int32)), .val (.int (1 : Int32)), .unset] [(.int (1 : Int32)), (.int (1 : Int32))]))
          have hc89_30 : (1 : Int32) = (1 : Int32) := rfl
          refine Go.step (fun t kk => XS.icmpYes X29.here hx rfl (pc0 := 89) (pc' := 94) rfl (hb hby at_89) rfl (teq hc89_30).1 (by decide) (by decide) kk) ?_
          show Go p e below s _ _ _ (T29.setTop (mkF m 94 #[.val (.int p1), .val (.long q2), .second, .val (.int ((p1 &&& (2147483647 : Int32)) % (5 : Int32))), .val (.ref a5), .val (.int (1 : Int32)), .val (.int (1 : Int32)), .unset] []))
          refine Go.step (fun t kk => XS.lloadN X29.here hx rfl (hb hby at_94) rfl kk) ?_
          show Go p e below s _ _ _ (T29.setTop (mkF m 95 #[.val (.int p1), .val (.long q2), .second, .val (.int ((p1 &&& (2147483647 : Int32)) % (5 : Int32))), .val (.ref a5), .val (.int (1 : Int32)), .val (.int (1 : Int32)), .unset] [(.long q2)]))
          refine Go.callS X29 hx hZ hown (hw _ (List.mem_of_getElem? (i := 13) rfl)) (hw _ (List.mem_of_getElem? (i := 14) rfl)) (hw _ (List.mem_of_getElem? (i := 15) rfl)) (hw _ (List.mem_of_getElem? (i := 16) rfl)) (by decide) e29 [(.long q2)] [] 0 (rm_ofC l Z a0 hw q2 h0 n0 Z0) (by decide) (by decide) (by decide) (by decide) (by rw [hml]; rfl) (lenOf own_pd2 rfl) rfl (Nat.le_of_eq rfl) (hb hby at_95) ?_
          intro T31 v31 L31 X31 hQ31
          obtain ⟨rfl, Nq31, E31⟩ := hQ31
          have N31 := Fr.app N29 Nq31
          show Go p e below s _ _ _ (T31.setTop (mkF m 98 #[.val (.int p1), .val (.long q2), .second, .val (.int ((p1 &&& (2147483647 : Int32)) % (5 : Int32))), .val (.ref a5), .val (.int (1 : Int32)), .val (.int (1 : Int32)), .unset] [(.ref h0.size)]))
          refine Go.step (fun t kk => XS.astore X31.here hx rfl (hb hby at_98) rfl rfl (l' := #[.val (.int p1), .val (.long q2), .second, .val (.int ((p1 &&& (2147483647 : Int32)) % (5 : Int32))), .val (.ref a5), .val (.int (1 : Int32)), .val (.int (1 : Int32)), .val (.ref h0.size)]) rfl kk) ?_
          show Go p e below s _ _ _ (T31.setTop (mkF m 100 #[.val (.int p1), .val (.long q2), .second, .val (.int ((p1 &&& (2147483647 : Int32)) % (5 : Int32))), .val (.ref a5), .val (.int (1 : Int32)), .val (.int (1 : Int32)), .val (.ref h0.size)] []))
          refine Go.step (fun t kk => XS.iload X31.here hx rfl (hb hby at_100) rfl kk) ?_
          show Go p e below s _ _ _ (T31.setTop (mkF m 102 #[.val (.int p1), .val (.long q2), .second, .val (.int ((p1 &&& (2147483647 : Int32)) % (5 : Int32))), .val (.ref a5), .val (.int (1 : Int32)), .val (.int (1 : Int32)), .val (.ref h0.size)] [(.int (1 : Int32))]))
          have hc102_32 : ¬ ((1 : Int32) = (0 : Int32)) := by decide
          refine Go.step (fun t kk => XS.ifNo X31.here hx rfl (hb hby at_102) rfl ((if0 _ _).trans (feq hc102_32).1) kk) ?_
          show Go p e below s _ _ _ (T31.setTop (mkF m 105 #[.val (.int p1), .val (.long q2), .second, .val (.int ((p1 &&& (2147483647 : Int32)) % (5 : Int32))), .val (.ref a5), .val (.int (1 : Int32)), .val (.int (1 : Int32)), .val (.ref h0.size)] []))
          refine Go.step (fun t kk => XS.aload X31.here hx rfl (hb hby at_105) rfl rfl kk) ?_
          show Go p e below s _ _ _ (T31.setTop (mkF m 107 #[.val (.int p1), .val (.long q2), .second, .val (.int ((p1 &&& (2147483647 : Int32)) % (5 : Int32))), .val (.ref a5), .val (.int (1 : Int32)), .val (.int (1 : Int32)), .val (.ref h0.size)] [(.ref a5)]))
          refine Go.step (fun t kk => XS.aload X31.here hx rfl (hb hby at_107) rfl rfl kk) ?_
          show Go p e below s _ _ _ (T31.setTop (mkF m 109 #[.val (.int p1), .val (.long q2), .second, .val (.int ((p1 &&& (2147483647 : Int32)) % (5 : Int32))), .val (.ref a5), .val (.int (1 : Int32)), .val (.int (1 : Int32)), .val (.ref h0.size)] [(.ref h0.size), (.ref a5)]))
          refine Go.callV X31 hx hZ hown (hw _ (List.mem_of_getElem? (i := 30) rfl)) (hw _ (List.mem_of_getElem? (i := 31) rfl)) (hw _ (List.mem_of_getElem? (i := 33) rfl)) (hw _ (List.mem_of_getElem? (i := 32) rfl)) (hw _ (List.mem_of_getElem? (i := 2) rfl)) (hw _ (List.mem_of_getElem? (i := 34) rfl)) (by decide) rfl (Exa.ext E31 E_a5) [(.ref h0.size)] [] 0 (rm_due l Z a0 hw a5 h0.size a1 az T31.heap n0 (Sta.ext E31 S_a1) (Sta.ext E31 S_az) na5_1) (by decide) (by decide) (by decide) (by decide) (by rw [hml]; rfl) (lenOf own_pd3 rfl) rfl (Nat.le_of_eq rfl) (hb hby at_109) ?_
          intro T33 v33 L33 X33 hQ33
          obtain ⟨rfl, rfl, e33⟩ := hQ33
          have N33 := Fr.app N31 (Fr.nil n0)
          show Go p e below s _ _ _ (T33.setTop (mkF m 112 #[.val (.int p1), .val (.long q2), .second, .val (.int ((p1 &&& (2147483647 : Int32)) % (5 : Int32))), .val (.ref a5), .val (.int (1 : Int32)), .val (.int (1 : Int32)), .val (.ref h0.size)] [(.ref az)]))
          refine Go.callV X33 hx hZ hown (hw _ (List.mem_of_getElem? (i := 38) rfl)) (hw _ (List.mem_of_getElem? (i := 39) rfl)) (hw _ (List.mem_of_getElem? (i := 41) rfl)) (hw _ (List.mem_of_getElem? (i := 40) rfl)) (hw _ (List.mem_of_getElem? (i := 15) rfl)) (hw _ (List.mem_of_getElem? (i := 42) rfl)) (by decide) e33 (Exa.ext E31 E_az) [] [] 0 (rm_cen l Z a0 hw az 0 T31.heap n0 (Fld.ext E31 F_az_cents)) (by decide) (by decide) (by decide) (by decide) (by rw [hml]; rfl) (lenOf own_pd4 rfl) rfl (Nat.le_of_eq rfl) (hb hby at_112) ?_
          intro T34 v34 L34 X34 hQ34
          obtain ⟨rfl, rfl, e34⟩ := hQ34
          have N34 := Fr.app N33 (Fr.nil n0)
          show Go p e below s _ _ _ (T34.setTop (mkF m 115 #[.val (.int p1), .val (.long q2), .second, .val (.int ((p1 &&& (2147483647 : Int32)) % (5 : Int32))), .val (.ref a5), .val (.int (1 : Int32)), .val (.int (1 : Int32)), .val (.ref h0.size)] [(.long (0 : Int64))]))
          refine Go.step (fun t kk => XS.lconst X34.here hx rfl (hb hby at_115) kk) ?_
          show Go p e below s _ _ _ (T34.setTop (mkF m 116 #[.val (.int p1), .val (.long q2), .second, .val (.int ((p1 &&& (2147483647 : Int32)) % (5 : Int32))), .val (.ref a5), .val (.int (1 : Int32)), .val (.int (1 : Int32)), .val (.ref h0.size)] [(.long (0 : Int64)), (.long (0 : Int64))]))
          refine Go.step (fun t kk => XS.lcmp X34.here hx rfl (hb hby at_116) rfl kk) ?_
          show Go p e below s _ _ _ (T34.setTop (mkF m 117 #[.val (.int p1), .val (.long q2), .second, .val (.int ((p1 &&& (2147483647 : Int32)) % (5 : Int32))), .val (.ref a5), .val (.int (1 : Int32)), .val (.int (1 : Int32)), .val (.ref h0.size)] [(.int (lcmpW (0 : Int64) (0 : Int64)))]))
          have hc117_35 : (lcmpW (0 : Int64) (0 : Int64)) = (0 : Int32) := (lw_eq _ _).mpr rfl
          refine Go.step (fun t kk => XS.ifYes X34.here hx rfl (pc0 := 117) (pc' := 122) rfl (hb hby at_117) rfl ((if0 _ _).trans (teq hc117_35).1) (by decide) (by decide) kk) ?_
          show Go p e below s _ _ _ (T34.setTop (mkF m 122 #[.val (.int p1), .val (.long q2), .second, .val (.int ((p1 &&& (2147483647 : Int32)) % (5 : Int32))), .val (.ref a5), .val (.int (1 : Int32)), .val (.int (1 : Int32)), .val (.ref h0.size)] []))
          refine Go.step (fun t kk => XS.iconst X34.here hx rfl (hb hby at_122) kk) ?_
          show Go p e below s _ _ _ (T34.setTop (mkF m 123 #[.val (.int p1), .val (.long q2), .second, .val (.int ((p1 &&& (2147483647 : Int32)) % (5 : Int32))), .val (.ref a5), .val (.int (1 : Int32)), .val (.int (1 : Int32)), .val (.ref h0.size)] [(.int (1 : Int32))]))
          exact Go.retN X34 hx hlk (t := .boolean) hret (by simp) (hb hby at_123) (show _ ∧ _ from ⟨rfl, N34⟩) (by decide) (by decide)
set_option maxRecDepth 65536 in
set_option maxHeartbeats 40000000 in
theorem comes_1 {Post : Tables → Env → Array Value → State → Outcome → State → Prop} (hpost : ∀ tb e args s v u, (limb_1_1.after args s (.returned v) u = true ∧ limb_1_2.after args s (.returned v) u = true ∧ True) → FrameEnd s (.returned v) u (Jvm.fieldLocs frame_1_writes args s ++ Jvm.arrayLocs frame_1_arrays args s ++ Jvm.staticLocs frame_1_statics s) 16 128 → Post tb e args s (.returned v) u) :
    ArmFor flags0 classFile x code maxLocals ret World_1 tables_1 room_1 Calls_1 rest_1 Pre_1 Post := by
  intro l hfl _ _ p e ha hc hk s m args below hf hA hF happ hP
  obtain ⟨hcalls, hrest, hpre⟩ := hP
  obtain ⟨-, -, -, hnamed, -, -, -, hat⟩ := (Spec.applies_iff hf).mp happ
  obtain ⟨hg, hn⟩ := and_e (Cond.before_iff.mp (show (Jvm.Cond.and given_1 narrow_1).before args s = true from hpre))
  obtain ⟨hcount, r0⟩ := and_e hg
  obtain ⟨g0, r1⟩ := and_e r0
  have g1 := r1
  obtain ⟨w0, w1, rfl⟩ : ∃ w0 w1 : Value, args = #[w0, w1] := by
    have hs : args.size = 2 := by simpa [Cond.value, given_1] using hcount
    obtain ⟨L⟩ := args
    match L, hs with
    | [w0, w1], _ => exact ⟨w0, w1, rfl⟩
  have hw := fun d (hd : d ∈ tables_1) => atoms_spec (ws := Jvm.Cond.code x code maxLocals ret :: tables_1) hat d (List.mem_cons_of_mem _ hd)
  obtain ⟨i0, ea0⟩ := is_v g0
  obtain rfl : w0 = (.int i0) := Option.some.inj ea0
  obtain ⟨i1, ea1⟩ := isL_v g1
  obtain rfl : w1 = (.long i1) := Option.some.inj ea1
  obtain ⟨q0, t0⟩ := and_e hn
  obtain ⟨q1, t1⟩ := and_e t0
  obtain ⟨q2, t2⟩ := and_e t1
  obtain ⟨q3, t3⟩ := and_e t2
  obtain ⟨q4, t4⟩ := and_e t3
  obtain ⟨q5, t5⟩ := and_e t4
  obtain ⟨q6, t6⟩ := and_e t5
  obtain ⟨q7, t7⟩ := and_e t6
  obtain ⟨q8, t8⟩ := and_e t7
  obtain ⟨q9, t9⟩ := and_e t8
  obtain ⟨q10, t10⟩ := and_e t9
  have q11 := t10
  obtain ⟨a1, ev_a1⟩ := exa_v q0
  have E_a1 := Exa.start ev_a1 q0
  have S_a1 := Sta.start ev_a1 (Or.inr ⟨(hw _ (List.mem_of_getElem? (i := 2) rfl)), (hw _ (List.mem_of_getElem? (i := 3) rfl))⟩)
  obtain ⟨a4, ev_a4⟩ := exa_v q1
  have E_a4 := Exa.start ev_a4 q1
  have S_a4 := Sta.start ev_a4 (Or.inr ⟨(hw _ (List.mem_of_getElem? (i := 2) rfl)), (hw _ (List.mem_of_getElem? (i := 10) rfl))⟩)
  obtain ⟨a5, ev_a5⟩ := exa_v q4
  have E_a5 := Exa.start ev_a5 q4
  have S_a5 := Sta.start ev_a5 (Or.inr ⟨(hw _ (List.mem_of_getElem? (i := 2) rfl)), (hw _ (List.mem_of_getElem? (i := 12) rfl))⟩)
  obtain ⟨a2, ev_a2⟩ := exa_v q6
  have E_a2 := Exa.start ev_a2 q6
  have S_a2 := Sta.start ev_a2 (Or.inr ⟨(hw _ (List.mem_of_getElem? (i := 2) rfl)), (hw _ (List.mem_of_getElem? (i := 28) rfl))⟩)
  obtain ⟨az, ev_az⟩ := exa_v q8
  have E_az := Exa.start ev_az q8
  have S_az := Sta.start ev_az (Or.inr ⟨(hw _ (List.mem_of_getElem? (i := 15) rfl)), (hw _ (List.mem_of_getElem? (i := 37) rfl))⟩)
  obtain ⟨a3, ev_a3⟩ := exa_v q10
  have E_a3 := Exa.start ev_a3 q10
  have S_a3 := Sta.start ev_a3 (Or.inr ⟨(hw _ (List.mem_of_getElem? (i := 2) rfl)), (hw _ (List.mem_of_getElem? (i := 45) rfl))⟩)
  have F_a1_ordinal := own_fldI ev_a1 q2
  have F_a4_ordinal := own_fldI ev_a4 q3
  have F_a5_ordinal := own_fldI ev_a5 q5
  have F_a2_ordinal := own_fldI ev_a2 q7
  have F_az_cents := own_fldJ ev_az q9
  have F_a3_ordinal := own_fldI ev_a3 q11
  obtain ⟨n, o, h1, h2, h3, _, L, rfl, ⟨rfl, N⟩, hq⟩ := rm_law l s _ hw i0 i1 a1 a2 a3 a4 a5 az s.heap s.heap.size S_a1 S_a2 S_a3 S_a4 S_a5 E_a1 E_a2 E_a3 E_a4 E_a5 F_a1_ordinal F_a2_ordinal F_a3_ordinal F_a4_ordinal F_a5_ordinal S_az E_az F_az_cents (Nat.le_refl _) tables_1 p e ha hc hk s m _ below hf ((Spec.applies_iff_loose hf).mp happ).1 ⟨rfl, State.Warmed39.refl s, rfl⟩ trivial
  refine ⟨n, _, h1, h2, h3, hpost _ _ _ _ _ _ ⟨Cond.after_iff.mpr rfl, Cond.after_iff.mpr (eq_i res_at (Term.int_eval (1)) rfl), trivial⟩ ⟨hq.1, hq.2.1, (hq.2.2.sift fun y hy => Or.inr (N y hy)).mono (by decide) (by decide)⟩⟩
theorem main_1_1 : Claimed_1_1 := comes_1 fun _ _ _ _ _ _ h hF => ⟨h.1, hF⟩
theorem main_1_2 : Claimed_1_2 := comes_1 fun _ _ _ _ _ _ h hF => ⟨h.2.1, hF⟩
end Jvm.Pilot.@@N@@
namespace Jvm.Pilot.@@N@@
open Jvm Jvm.ClassFile Sem Op Lib Jvm.Free Jvm.Stand Jvm.Pilot.@@N@@.Jvm.D
/-! MADE BY PROGRAM (witnessworld.py) out of the Statement's table words and the real class files: 13 classes; the members and pool entries that the words name. The judged class is class 1, her method 1. -/
namespace start1
open Jvm.ClassFile
def u (s : String) : CpInfo := .utf8 (stringToUtf16 s)
/-- a pool by its gaps: so many unusable entries, then the entry; so many at the end -/
def gap : Nat → List CpInfo → List CpInfo
  | 0, r => r
  | n + 1, r => .unusable :: gap n r
def poolList (es : List (Nat × CpInfo)) (last : Nat) : List CpInfo := es.foldr (fun e r => gap e.1 (e.2 :: r)) (gap last [])
def pool (es : List (Nat × CpInfo)) (last : Nat) : Array CpInfo := ⟨poolList es last⟩
def fileOf (pool : Array CpInfo) (this : Nat) (attrs : Array Attribute := #[]) (ms : Array MethodInfo := #[]) (fl : Nat := 33) (sup : Nat := 0) (ifs : Array Nat := #[]) (fds : Array FieldInfo := #[]) : ClassFile where
  minorVersion := 0
  majorVersion := 65
  constantPool := pool
  accessFlags := fl
  thisClass := this
  superClass := sup
  interfaces := ifs
  fields := fds
  methods := ms
  attributes := attrs
def plain (name : String) (sup : Option ClassId) : Class where
  name := name
  kind := .ordinary
  loader := none
  accessFlags := 33
  super := sup
  interfaces := #[]
  cf := none
  fields := #[]
  methods := #[]
  instanceTypes := #[]
  staticTypes := #[]
  resolved := #[]
  callSites := []
  init := .initialized
  statics := none
  mirror := none

def pool0 : Array CpInfo := pool [(5, u "<init>"), (0, u "()V"), (1, .class_ 10), (1, u "java/lang/Object")] 113

def k0c0 : Code := { maxStack := 0, maxLocals := 1, code := object_method_1_code, exceptionTable := #[], attributes := #[] }
def k0m0 : Method := { name := "<init>", desc := "()V", sig := { parameters := [], returnType := none }, accessFlags := 1, code := some k0c0 }
/-- java/lang/Object -/
def k0 : Class := { plain "java/lang/Object" none with
  accessFlags := 33
  interfaces := #[]
  cf := some (fileOf pool0 8 #[] #[{ accessFlags := 1, nameIndex := 5, descriptorIndex := 6, attributes := #[] }] 33 0 #[] #[])
  fields := #[]
  methods := #[k0m0]
  instanceTypes := #[]
  staticTypes := #[]
  resolved := Array.replicate 124 none
  statics := none }

def pool1 : Array CpInfo := pool [(2, .class_ 4), (1, u "java/lang/Object"), (0, u "<init>"), (0, u "()V"), (0, .integer 2147483647), (0, .fieldref 9 10), (0, .class_ 11), (0, .nameAndType 12 13), (0, u "com/example/godwit/godwit/billing/InvoiceStatus"), (0, u "OPEN"), (0, u "Lcom/example/godwit/godwit/billing/InvoiceStatus;"), (0, .fieldref 9 15), (0, .nameAndType 16 13), (0, u "PAID"), (0, .fieldref 9 18), (0, .nameAndType 19 13), (0, u "SUPERSEDED"), (0, .fieldref 9 21), (0, .nameAndType 22 13), (0, u "CLOSED"), (0, .fieldref 9 24), (0, .nameAndType 25 13), (0, u "CANCELLED"), (0, .methodref 9 27), (0, .nameAndType 28 29), (0, u "isClosed"), (0, u "()Z"), (0, .methodref 31 32), (0, .class_ 33), (0, .nameAndType 34 35), (0, u "com/example/godwit/godwit/billing/Money"), (0, u "ofCents"), (0, u "(J)Lcom/example/godwit/godwit/billing/Money;"), (0, .methodref 9 37), (0, .nameAndType 38 39), (0, u "due"), (0, u "(Lcom/example/godwit/godwit/billing/Money;)Lcom/example/godwit/godwit/billing/Money;"), (0, .methodref 31 41), (0, .nameAndType 42 43), (0, u "cents"), (0, u "()J"), (0, .class_ 45), (0, u "com/example/godwit/godwit/billing/InvoiceStatusIsClosedPinLaw"), (2, u "law"), (0, u "(IJ)Z")] 3

def k1m0 : Method := { name := "<init>", desc := "()V", sig := { parameters := [], returnType := none }, accessFlags := 2, code := none }
def k1c1 : Code := { maxStack := 4, maxLocals := 8, code := code, exceptionTable := #[], attributes := #[] }
def k1m1 : Method := { name := "law", desc := "(IJ)Z", sig := { parameters := [.int, .long], returnType := some .boolean }, accessFlags := 9, code := some k1c1 }
/-- com/example/godwit/godwit/billing/InvoiceStatusIsClosedPinLaw -/
def k1 : Class := { plain "com/example/godwit/godwit/billing/InvoiceStatusIsClosedPinLaw" (some 0) with
  accessFlags := 49
  interfaces := #[]
  cf := some (fileOf pool1 44 #[] #[{ accessFlags := 2, nameIndex := 5, descriptorIndex := 6, attributes := #[] }, { accessFlags := 9, nameIndex := 48, descriptorIndex := 49, attributes := #[] }] 49 2 #[] #[])
  fields := #[]
  methods := #[k1m0, k1m1]
  instanceTypes := #[]
  staticTypes := #[]
  resolved := Array.replicate 53 none
  statics := none }

def pool2 : Array CpInfo := pool [(1, .class_ 2), (0, u "java/lang/constant/Constable"), (0, .class_ 4), (0, u "java/lang/Object")] 6

/-- java/lang/constant/Constable -/
def k2 : Class := { plain "java/lang/constant/Constable" (some 0) with
  accessFlags := 1537
  interfaces := #[]
  cf := some (fileOf pool2 1 #[] #[] 1537 3 #[] #[])
  fields := #[]
  methods := #[]
  instanceTypes := #[]
  staticTypes := #[]
  resolved := Array.replicate 11 none
  statics := none }

def pool3 : Array CpInfo := pool [(1, .class_ 2), (0, u "java/lang/Comparable"), (0, .class_ 4), (0, u "java/lang/Object")] 7

/-- java/lang/Comparable -/
def k3 : Class := { plain "java/lang/Comparable" (some 0) with
  accessFlags := 1537
  interfaces := #[]
  cf := some (fileOf pool3 1 #[] #[] 1537 3 #[] #[])
  fields := #[]
  methods := #[]
  instanceTypes := #[]
  staticTypes := #[]
  resolved := Array.replicate 12 none
  statics := none }

def pool4 : Array CpInfo := pool [(1, .class_ 2), (0, u "java/io/Serializable"), (0, .class_ 4), (0, u "java/lang/Object")] 2

/-- java/io/Serializable -/
def k4 : Class := { plain "java/io/Serializable" (some 0) with
  accessFlags := 1537
  interfaces := #[]
  cf := some (fileOf pool4 1 #[] #[] 1537 3 #[] #[])
  fields := #[]
  methods := #[]
  instanceTypes := #[]
  staticTypes := #[]
  resolved := Array.replicate 7 none
  statics := none }

def pool5 : Array CpInfo := pool [(2, .class_ 4), (1, u "java/lang/Enum"), (0, u "name"), (0, u "Ljava/lang/String;"), (2, u "ordinal"), (0, u "I"), (1, .class_ 14), (1, u "java/lang/Object"), (4, u "hash"), (86, .class_ 108), (1, u "java/lang/Enum$EnumDesc"), (2, .class_ 112), (0, u "java/lang/constant/Constable"), (0, .class_ 114), (0, u "java/lang/Comparable"), (0, .class_ 116), (0, u "java/io/Serializable")] 87

/-- java/lang/Enum -/
def k5 : Class := { plain "java/lang/Enum" (some 0) with
  accessFlags := 1057
  interfaces := #[2, 3, 4]
  cf := some (fileOf pool5 2 #[.nestMembers #[106]] #[] 1057 12 #[111, 113, 115] #[{ accessFlags := 18, nameIndex := 5, descriptorIndex := 6, attributes := #[] }, { accessFlags := 18, nameIndex := 9, descriptorIndex := 10, attributes := #[] }, { accessFlags := 2, nameIndex := 19, descriptorIndex := 10, attributes := #[] }])
  fields := #[{ name := "name", type := (.object "java/lang/String"), accessFlags := 18, slot := 0, constantValue := 0 }, { name := "ordinal", type := .int, accessFlags := 18, slot := 1, constantValue := 0 }, { name := "hash", type := .int, accessFlags := 2, slot := 2, constantValue := 0 }]
  methods := #[]
  instanceTypes := #[(.object "java/lang/String"), .int, .int]
  staticTypes := #[]
  resolved := Array.replicate 204 none
  statics := none }

def pool6 : Array CpInfo := pool [(1, .class_ 2), (0, u "com/example/godwit/godwit/billing/InvoiceStatus"), (0, .fieldref 1 4), (0, .nameAndType 5 6), (0, u "OPEN"), (0, u "Lcom/example/godwit/godwit/billing/InvoiceStatus;"), (2, u "PAID"), (2, u "SUPERSEDED"), (0, .fieldref 1 14), (0, .nameAndType 15 6), (0, u "CLOSED"), (0, .fieldref 1 17), (0, .nameAndType 18 6), (0, u "CANCELLED"), (2, u "$VALUES"), (0, u "[Lcom/example/godwit/godwit/billing/InvoiceStatus;"), (6, .class_ 31), (1, u "java/lang/Enum"), (29, .fieldref 62 63), (0, .class_ 64), (0, .nameAndType 65 66), (0, u "com/example/godwit/godwit/billing/Money"), (0, u "ZERO"), (0, u "Lcom/example/godwit/godwit/billing/Money;"), (6, u "isClosed"), (0, u "()Z"), (38, u "due"), (0, u "(Lcom/example/godwit/godwit/billing/Money;)Lcom/example/godwit/godwit/billing/Money;")] 21

def k6c0 : Code := { maxStack := 2, maxLocals := 1, code := prog_34_method_6_code, exceptionTable := #[], attributes := #[] }
def k6m0 : Method := { name := "isClosed", desc := "()Z", sig := { parameters := [], returnType := some .boolean }, accessFlags := 1, code := some k6c0 }
def k6c1 : Code := { maxStack := 2, maxLocals := 2, code := prog_34_method_8_code, exceptionTable := #[], attributes := #[] }
def k6m1 : Method := { name := "due", desc := "(Lcom/example/godwit/godwit/billing/Money;)Lcom/example/godwit/godwit/billing/Money;", sig := { parameters := [(.object "com/example/godwit/godwit/billing/Money")], returnType := some (.object "com/example/godwit/godwit/billing/Money") }, accessFlags := 0, code := some k6c1 }
/-- com/example/godwit/godwit/billing/InvoiceStatus -/
def k6 : Class := { plain "com/example/godwit/godwit/billing/InvoiceStatus" (some 5) with
  accessFlags := 16433
  interfaces := #[]
  cf := some (fileOf pool6 1 #[] #[{ accessFlags := 1, nameIndex := 73, descriptorIndex := 74, attributes := #[] }, { accessFlags := 0, nameIndex := 113, descriptorIndex := 114, attributes := #[] }] 16433 29 #[] #[{ accessFlags := 16409, nameIndex := 5, descriptorIndex := 6, attributes := #[] }, { accessFlags := 16409, nameIndex := 9, descriptorIndex := 6, attributes := #[] }, { accessFlags := 16409, nameIndex := 12, descriptorIndex := 6, attributes := #[] }, { accessFlags := 16409, nameIndex := 15, descriptorIndex := 6, attributes := #[] }, { accessFlags := 16409, nameIndex := 18, descriptorIndex := 6, attributes := #[] }, { accessFlags := 4122, nameIndex := 21, descriptorIndex := 22, attributes := #[] }])
  fields := #[{ name := "OPEN", type := (.object "com/example/godwit/godwit/billing/InvoiceStatus"), accessFlags := 16409, slot := 0, constantValue := 0 }, { name := "PAID", type := (.object "com/example/godwit/godwit/billing/InvoiceStatus"), accessFlags := 16409, slot := 1, constantValue := 0 }, { name := "SUPERSEDED", type := (.object "com/example/godwit/godwit/billing/InvoiceStatus"), accessFlags := 16409, slot := 2, constantValue := 0 }, { name := "CLOSED", type := (.object "com/example/godwit/godwit/billing/InvoiceStatus"), accessFlags := 16409, slot := 3, constantValue := 0 }, { name := "CANCELLED", type := (.object "com/example/godwit/godwit/billing/InvoiceStatus"), accessFlags := 16409, slot := 4, constantValue := 0 }, { name := "$VALUES", type := (.array (.object "com/example/godwit/godwit/billing/InvoiceStatus")), accessFlags := 4122, slot := 5, constantValue := 0 }]
  methods := #[k6m0, k6m1]
  instanceTypes := #[(.object "java/lang/String"), .int, .int]
  staticTypes := #[(.object "com/example/godwit/godwit/billing/InvoiceStatus"), (.object "com/example/godwit/godwit/billing/InvoiceStatus"), (.object "com/example/godwit/godwit/billing/InvoiceStatus"), (.object "com/example/godwit/godwit/billing/InvoiceStatus"), (.object "com/example/godwit/godwit/billing/InvoiceStatus"), (.array (.object "com/example/godwit/godwit/billing/InvoiceStatus"))]
  resolved := Array.replicate 136 none
  statics := some 0 }

def pool7 : Array CpInfo := pool [(1, .methodref 2 3), (0, .class_ 4), (0, .nameAndType 5 6), (0, u "java/lang/Object"), (0, u "<init>"), (0, u "()V"), (0, .fieldref 8 9), (0, .class_ 10), (0, .nameAndType 11 12), (0, u "com/example/godwit/godwit/billing/Money"), (0, u "cents"), (0, u "J"), (0, .methodref 8 14), (0, .nameAndType 5 15), (0, u "(J)V"), (34, u "HUNDRED"), (0, u "Ljava/math/BigDecimal;"), (13, u "()J"), (51, u "ZERO"), (0, u "Lcom/example/godwit/godwit/billing/Money;"), (2, .class_ 122), (0, u "java/lang/Comparable"), (2, u "ofCents"), (0, u "(J)Lcom/example/godwit/godwit/billing/Money;")] 18

def k7c0 : Code := { maxStack := 3, maxLocals := 3, code := prog_42_method_1_code, exceptionTable := #[], attributes := #[] }
def k7m0 : Method := { name := "<init>", desc := "(J)V", sig := { parameters := [.long], returnType := none }, accessFlags := 2, code := some k7c0 }
def k7c1 : Code := { maxStack := 4, maxLocals := 2, code := prog_42_method_2_code, exceptionTable := #[], attributes := #[] }
def k7m1 : Method := { name := "ofCents", desc := "(J)Lcom/example/godwit/godwit/billing/Money;", sig := { parameters := [.long], returnType := some (.object "com/example/godwit/godwit/billing/Money") }, accessFlags := 9, code := some k7c1 }
def k7c2 : Code := { maxStack := 2, maxLocals := 1, code := prog_42_method_4_code, exceptionTable := #[], attributes := #[] }
def k7m2 : Method := { name := "cents", desc := "()J", sig := { parameters := [], returnType := some .long }, accessFlags := 1, code := some k7c2 }
/-- com/example/godwit/godwit/billing/Money -/
def k7 : Class := { plain "com/example/godwit/godwit/billing/Money" (some 0) with
  accessFlags := 33
  interfaces := #[3]
  cf := some (fileOf pool7 8 #[] #[{ accessFlags := 2, nameIndex := 5, descriptorIndex := 15, attributes := #[] }, { accessFlags := 9, nameIndex := 125, descriptorIndex := 126, attributes := #[] }, { accessFlags := 1, nameIndex := 11, descriptorIndex := 65, attributes := #[] }] 33 2 #[121] #[{ accessFlags := 25, nameIndex := 117, descriptorIndex := 118, attributes := #[] }, { accessFlags := 26, nameIndex := 50, descriptorIndex := 51, attributes := #[] }, { accessFlags := 18, nameIndex := 11, descriptorIndex := 12, attributes := #[] }])
  fields := #[{ name := "ZERO", type := (.object "com/example/godwit/godwit/billing/Money"), accessFlags := 25, slot := 0, constantValue := 0 }, { name := "HUNDRED", type := (.object "java/math/BigDecimal"), accessFlags := 26, slot := 1, constantValue := 0 }, { name := "cents", type := .long, accessFlags := 18, slot := 0, constantValue := 0 }]
  methods := #[k7m0, k7m1, k7m2]
  instanceTypes := #[.long]
  staticTypes := #[(.object "com/example/godwit/godwit/billing/Money"), (.object "java/math/BigDecimal")]
  resolved := Array.replicate 145 none
  statics := some 1 }

def pool8 : Array CpInfo := pool [(1, u "java/lang/Cloneable"), (0, .class_ 1), (0, u "java/lang/Object"), (0, .class_ 3)] 3

/-- java/lang/Cloneable -/
def k8 : Class := { plain "java/lang/Cloneable" (some 0) with
  accessFlags := 1537
  interfaces := #[]
  cf := some (fileOf pool8 2 #[] #[] 1537 4 #[] #[])
  fields := #[]
  methods := #[]
  instanceTypes := #[]
  staticTypes := #[]
  resolved := Array.replicate 8 none
  statics := none }

/-- the primitive byte -/
def k9 : Class := { plain "byte" none with kind := .primitive 'B', accessFlags := 0x411 }
/-- [B -/
def k10 : Class := { plain "[B" (some 0) with kind := .array 9 .byte, interfaces := #[8, 4], accessFlags := 1041 }

/-- the primitive int -/
def k11 : Class := { plain "int" none with kind := .primitive 'I', accessFlags := 0x411 }
/-- [I -/
def k12 : Class := { plain "[I" (some 0) with kind := .array 11 .int, interfaces := #[8, 4], accessFlags := 1041 }

def heap : Heap := #[{ cls := 6, slots := #[.ref 2, .ref 3, .ref 4, .ref 5, .ref 6, .null], vm := .statics 6 },
  { cls := 7, slots := #[.ref 7, .null], vm := .statics 7 },
  { cls := 6, slots := #[.null, .int 0, .int 0], vm := .none },
  { cls := 6, slots := #[.null, .int 1, .int 0], vm := .none },
  { cls := 6, slots := #[.null, .int 2, .int 0], vm := .none },
  { cls := 6, slots := #[.null, .int 3, .int 0], vm := .none },
  { cls := 6, slots := #[.null, .int 4, .int 0], vm := .none },
  { cls := 7, slots := #[.long 0], vm := .none }]
def classes : Array Class := #[k0, k1, k2, k3, k4, k5, k6, k7, k8, k9, k10, k11, k12]
def interned : List (Array UInt16 × Addr) := []
def slotsUsed : Nat := 24
def theMethod : MethodId := ⟨1, 1⟩
def args0 : Array Value := #[.int 5, .long 3]
def aboutOver (below : List Frame) : State where
  vm := { classes := classes, interned := interned.toArray }
  heap := heap
  slotsUsed := slotsUsed
  threads := #[{ frames := .invoking theMethod args0 :: below }]
def below0 : List Frame := [.native { method := ⟨0, 0⟩, args := #[] }]
def about1 : State := aboutOver below0
def p0 : Program := .bare "" "" ""
def e0 : Env := launch0.env 0 0 0
theorem w_frames : about1.frames = Frame.invoking theMethod args0 :: below0 := rfl
set_option maxRecDepth 65536 in
theorem w_args : argsFit about1.vm theMethod args0 = true := by decide +kernel
set_option maxRecDepth 65536 in
theorem w_heap : heapFits about1 = true := by decide +kernel
set_option maxRecDepth 65536 in
theorem w_runnable : about1.curStatus? = some .runnable := by decide +kernel
set_option maxRecDepth 65536 in
theorem w_alone : about1.alone = true := by decide +kernel
set_option maxRecDepth 65536 in
theorem w_named : about1.methodNamed? x = some theMethod := by decide +kernel
set_option maxRecDepth 65536 in
theorem w_hears : about1.hears theMethod below0 = true := by decide +kernel
set_option maxRecDepth 65536 in
theorem w_ripe : about1.ripe theMethod args0 below0 = true := by decide +kernel
theorem w_running : about1.status = .running := rfl
set_option maxRecDepth 65536 in
theorem w_room : about1.hasRoom e0.platform room_1 = true :=
  launch0.hasRoom_least _ room_1 (by decide +kernel) (by decide +kernel) (by decide +kernel) (by decide +kernel) (by decide +kernel) (by decide +kernel)
theorem allAtoms_all (ts : List Jvm.Cond) (a : Array Jvm.Value) (st : Jvm.State) : (allAtoms ts).before a st = ts.all (fun c => c.before a st) := by
  induction ts with
  | nil => rfl
  | cons c t ih =>
    show (Jvm.Cond.and c (allAtoms t)).before a st = _
    rw [Jvm.Cond.before_and, ih, List.all_cons]
def words1 : List Jvm.Cond := Jvm.Cond.code x code maxLocals ret :: tables_1
/-- a 'code' word, met by the world's own term for the bytes: nothing is compared byte by byte -/
theorem code_word {y : MethodName} {bytes : ByteArray} {mx : Nat} {rt : Option FieldType} {a : Array Value} {s : State} {m : MethodId} {meth : Method} {c : Code} (h1 : s.methodNamed? y = some m) (h2 : s.vm.method? m = some meth) (h3 : meth.code = some c) (h4 : c.code = bytes)
    (h5 : (c.maxLocals == mx && c.exceptionTable.isEmpty && decide (c.maxStack ≤ mostOperands) && decide (meth.sig.returnType = rt) && !meth.locks && decide (parseMethodDescriptor y.desc = some meth.sig)) = true) : (Jvm.Cond.code y bytes mx rt).before a s = true := by
  simp only [Bool.and_eq_true, beq_iff_eq, Bool.not_eq_true', decide_eq_true_eq] at h5
  obtain ⟨⟨⟨⟨⟨g1, g2⟩, g3⟩, g4⟩, g5⟩, g6⟩ := h5
  simp [Cond.before, Cond.holds, Cond.value, h1, h2, h3, h4, g1, g2, g3, g4, g5, g6]
def isCode : Jvm.Cond → Bool
  | .code _ _ _ _ => true
  | _ => false
theorem all_split {L : List Jvm.Cond} {P : Jvm.Cond → Bool} (h1 : L.all (fun c => isCode c || P c) = true) (h2 : ∀ c ∈ L.filter isCode, P c = true) : L.all P = true := by
  refine List.all_eq_true.mpr fun c hc => ?_
  have h := List.all_eq_true.mp h1 c hc
  rcases Bool.eq_false_or_eq_true (isCode c) with hi | hi
  · exact h2 c (List.mem_filter.mpr ⟨hc, hi⟩)
  · simpa [hi] using h
set_option maxRecDepth 65536 in
theorem w_c0 : (Jvm.Cond.code x code maxLocals ret).before args0 about1 = true := code_word (m := ⟨1, 1⟩) (meth := k1m1) (c := k1c1) (by decide +kernel) rfl rfl rfl (by decide +kernel)
set_option maxRecDepth 65536 in
theorem w_c1 : (Jvm.Cond.code ({ cls := "com/example/godwit/godwit/billing/InvoiceStatus", name := "isClosed", desc := "()Z" } : Jvm.MethodName) prog_34_method_6_code (1 : Nat) (Option.some Jvm.ClassFile.FieldType.boolean)).before args0 about1 = true := code_word (m := ⟨6, 0⟩) (meth := k6m0) (c := k6c0) (by decide +kernel) rfl rfl rfl (by decide +kernel)
set_option maxRecDepth 65536 in
theorem w_c2 : (Jvm.Cond.code ({ cls := "com/example/godwit/godwit/billing/Money", name := "ofCents", desc := "(J)Lcom/example/godwit/godwit/billing/Money;" } : Jvm.MethodName) prog_42_method_2_code (2 : Nat) (Option.some (Jvm.ClassFile.FieldType.object "com/example/godwit/godwit/billing/Money"))).before args0 about1 = true := code_word (m := ⟨7, 1⟩) (meth := k7m1) (c := k7c1) (by decide +kernel) rfl rfl rfl (by decide +kernel)
set_option maxRecDepth 65536 in
theorem w_c3 : (Jvm.Cond.code ({ cls := "com/example/godwit/godwit/billing/Money", name := "<init>", desc := "(J)V" } : Jvm.MethodName) prog_42_method_1_code (3 : Nat) (Option.none : Option Jvm.ClassFile.FieldType)).before args0 about1 = true := code_word (m := ⟨7, 0⟩) (meth := k7m0) (c := k7c0) (by decide +kernel) rfl rfl rfl (by decide +kernel)
set_option maxRecDepth 65536 in
theorem w_c4 : (Jvm.Cond.code ({ cls := "java/lang/Object", name := "<init>", desc := "()V" } : Jvm.MethodName) object_method_1_code (1 : Nat) (Option.none : Option Jvm.ClassFile.FieldType)).before args0 about1 = true := code_word (m := ⟨0, 0⟩) (meth := k0m0) (c := k0c0) (by decide +kernel) rfl rfl rfl (by decide +kernel)
set_option maxRecDepth 65536 in
theorem w_c5 : (Jvm.Cond.code ({ cls := "com/example/godwit/godwit/billing/InvoiceStatus", name := "due", desc := "(Lcom/example/godwit/godwit/billing/Money;)Lcom/example/godwit/godwit/billing/Money;" } : Jvm.MethodName) prog_34_method_8_code (2 : Nat) (Option.some (Jvm.ClassFile.FieldType.object "com/example/godwit/godwit/billing/Money"))).before args0 about1 = true := code_word (m := ⟨6, 1⟩) (meth := k6m1) (c := k6c1) (by decide +kernel) rfl rfl rfl (by decide +kernel)
set_option maxRecDepth 65536 in
theorem w_c6 : (Jvm.Cond.code ({ cls := "com/example/godwit/godwit/billing/Money", name := "cents", desc := "()J" } : Jvm.MethodName) prog_42_method_4_code (1 : Nat) (Option.some Jvm.ClassFile.FieldType.long)).before args0 about1 = true := code_word (m := ⟨7, 2⟩) (meth := k7m2) (c := k7c2) (by decide +kernel) rfl rfl rfl (by decide +kernel)
def codes1 : List Jvm.Cond := [Jvm.Cond.code x code maxLocals ret, Jvm.Cond.code ({ cls := "com/example/godwit/godwit/billing/InvoiceStatus", name := "isClosed", desc := "()Z" } : Jvm.MethodName) prog_34_method_6_code (1 : Nat) (Option.some Jvm.ClassFile.FieldType.boolean), Jvm.Cond.code ({ cls := "com/example/godwit/godwit/billing/Money", name := "ofCents", desc := "(J)Lcom/example/godwit/godwit/billing/Money;" } : Jvm.MethodName) prog_42_method_2_code (2 : Nat) (Option.some (Jvm.ClassFile.FieldType.object "com/example/godwit/godwit/billing/Money")), Jvm.Cond.code ({ cls := "com/example/godwit/godwit/billing/Money", name := "<init>", desc := "(J)V" } : Jvm.MethodName) prog_42_method_1_code (3 : Nat) (Option.none : Option Jvm.ClassFile.FieldType), Jvm.Cond.code ({ cls := "java/lang/Object", name := "<init>", desc := "()V" } : Jvm.MethodName) object_method_1_code (1 : Nat) (Option.none : Option Jvm.ClassFile.FieldType), Jvm.Cond.code ({ cls := "com/example/godwit/godwit/billing/InvoiceStatus", name := "due", desc := "(Lcom/example/godwit/godwit/billing/Money;)Lcom/example/godwit/godwit/billing/Money;" } : Jvm.MethodName) prog_34_method_8_code (2 : Nat) (Option.some (Jvm.ClassFile.FieldType.object "com/example/godwit/godwit/billing/Money")), Jvm.Cond.code ({ cls := "com/example/godwit/godwit/billing/Money", name := "cents", desc := "()J" } : Jvm.MethodName) prog_42_method_4_code (1 : Nat) (Option.some Jvm.ClassFile.FieldType.long)]
set_option maxRecDepth 65536 in
theorem codes_eq : words1.filter isCode = codes1 := rfl
theorem w_codes : ∀ c ∈ words1.filter isCode, c.before args0 about1 = true := by
  rw [codes_eq]
  intro c hc
  simp only [codes1, List.mem_cons, List.not_mem_nil, or_false] at hc
  rcases hc with rfl | rfl | rfl | rfl | rfl | rfl | rfl
  · exact w_c0
  · exact w_c1
  · exact w_c2
  · exact w_c3
  · exact w_c4
  · exact w_c5
  · exact w_c6
set_option maxRecDepth 65536 in
theorem w_t1 : (words1.take 24).all (fun c => isCode c || c.before args0 about1) = true := by decide +kernel
set_option maxRecDepth 65536 in
theorem w_t2 : (words1.drop 24).all (fun c => isCode c || c.before args0 about1) = true := by decide +kernel
theorem w_tables : (allAtoms (Jvm.Cond.code x code maxLocals ret :: tables_1)).before args0 about1 = true := by
  rw [allAtoms_all]
  show words1.all (fun c => c.before args0 about1) = true
  refine all_split ?_ w_codes
  rw [← List.take_append_drop 24 words1, List.all_append, w_t1, w_t2]
  rfl
set_option maxRecDepth 65536 in
theorem w_case : (Jvm.Cond.and given_1 narrow_1).before args0 about1 = true := by decide +kernel
theorem w_applies : (headSpec (Jvm.Cond.code x code maxLocals ret :: tables_1) room_1).applies x e0.platform about1 = true :=
  (Spec.applies_iff w_frames).mpr ⟨w_running, w_runnable, w_alone, w_named, w_hears, w_ripe, w_room, w_tables⟩
theorem atStart : AtStart classFile x code maxLocals ret World_1 tables_1 room_1 Calls_1 rest_1 Pre_1 launch0 p0 e0 about1 theMethod args0 below0 :=
  ⟨lists_1, trivial, launch0.admits_env _ _ _, launch0.least_env, fairChoices_fair.cas, fairChoices_fair.clock, w_frames, w_args, w_heap, w_applies, trivial, trivial, w_case⟩
end start1
theorem witness_1 : WitnessClaimed_1 := ⟨start1.p0, start1.e0, start1.about1, start1.theMethod, start1.args0, start1.below0, start1.atStart⟩
end Jvm.Pilot.@@N@@
