import JvmDerived
import JvmDerived.Pilot.@@N@@Statement
import JvmDerived.Pilot.@@N@@Code
set_option linter.unusedVariables false
set_option linter.unusedSimpArgs false
namespace Jvm.Pilot.@@N@@
open Jvm Jvm.ClassFile Sem Op Lib Jvm.Free Jvm.Stand Jvm.LawKit Jvm.RoadKit Bundle Jvm.Pilot.@@N@@.Jvm.D
section OwnKit
variable {p : Program} {l : Launch} {e : Env} {R : Room} {s : State} {m : MethodId} {args : Array Value} {below : List Frame} {meth : Method} {c : Code} {T : State} {locs : List Loc} {cells slots : Nat} {Z : State} {a0 : Array Value} {h : Heap} {Q : Option Value → Heap → List Loc → Prop} {k n : Nat}
/-- from the state a the run comes to its end, and Q holds there -/
def Go (p : Program) (e : Env) (below : List Frame) (s : State) (Q : Option Value → Heap → List Loc → Prop) (k n : Nat) (a : State) : Prop :=
  ∃ t o, Steps p.tables e below a t ∧ t.status = .running ∧ Ended t below o ∧ ∃ v L, o = .returned v ∧ Q v t.heap L ∧ FrameEnd s o t L k n
theorem Go.step {a b : State} (st : ∀ t, Steps p.tables e below b t → Steps p.tables e below a t) (g : Go p e below s Q k n b) : Go p e below s Q k n a := by
  obtain ⟨t, o, h1, h2⟩ := g
  exact ⟨t, o, st t h1, h2⟩
theorem Go.out (X : Stand p l e R s m args below meth c T locs cells slots) (hx : p.tables.exec = Jvm.exec) (hlk : meth.locks = false) {pc : Nat} {Ls : Array Slot} {w : Value} {t : FieldType} {i : Instr} {rest : List Value} (hret : meth.sig.returnType = some t) (hn : narrow t w = w)
    (hi : (i = .ireturn ∧ (t = .int ∨ t = .boolean ∨ t = .byte ∨ t = .char ∨ t = .short) ∧ ∃ z, w = .int z) ∨ (i = .lreturn ∧ t = .long ∧ ∃ z, w = .long z) ∨ (i = .dreturn ∧ t = .double ∧ ∃ z, w = .double z) ∨ (i = .freturn ∧ t = .float ∧ ∃ z, w = .float z) ∨ (i = .areturn ∧ t.isReference = true ∧ w.isRef = true))
    (hd : decode c.code pc = .ok (i, 1)) (hq : Q (some w) T.heap locs) (hk : cells ≤ k) (hl : slots ≤ n) : Go p e below s Q k n (T.setTop (mkF m pc Ls (w :: rest))) := by
  obtain ⟨fs, hr, hrun, hended, hW, hsame⟩ := X.leave (v := some w) (fun h => by rw [hret] at h; cases h) hlk
  exact ⟨_, _, retOut X hx hret hn hi hd hr, hrun, hended, _, _, rfl, hq, ⟨_, rfl⟩, hW, hsame.mono hk hl⟩
theorem Go.retI (X : Stand p l e R s m args below meth c T locs cells slots) (hx : p.tables.exec = Jvm.exec) (hlk : meth.locks = false) {pc : Nat} {Ls : Array Slot} {z : Int32} {rest : List Value} (hret : meth.sig.returnType = some .int) (hd : decode c.code pc = .ok (.ireturn, 1)) (hq : Q (some (.int z)) T.heap locs) (hk : cells ≤ k) (hl : slots ≤ n) : Go p e below s Q k n (T.setTop (mkF m pc Ls (.int z :: rest))) :=
  Go.out X hx hlk hret rfl (Or.inl ⟨rfl, Or.inl rfl, z, rfl⟩) hd hq hk hl
theorem Go.retJ (X : Stand p l e R s m args below meth c T locs cells slots) (hx : p.tables.exec = Jvm.exec) (hlk : meth.locks = false) {pc : Nat} {Ls : Array Slot} {z : Int64} {rest : List Value} (hret : meth.sig.returnType = some .long) (hd : decode c.code pc = .ok (.lreturn, 1)) (hq : Q (some (.long z)) T.heap locs) (hk : cells ≤ k) (hl : slots ≤ n) : Go p e below s Q k n (T.setTop (mkF m pc Ls (.long z :: rest))) :=
  Go.out X hx hlk hret rfl (Or.inr (Or.inl ⟨rfl, rfl, z, rfl⟩)) hd hq hk hl
theorem own_narrow_ref {t : FieldType} {w : Value} (ht : t.isReference = true) : narrow t w = w := by cases t <;> first | (cases ht; done) | rfl | (cases w <;> rfl)
theorem Go.retA (X : Stand p l e R s m args below meth c T locs cells slots) (hx : p.tables.exec = Jvm.exec) (hlk : meth.locks = false) {pc : Nat} {Ls : Array Slot} {w : Value} {t : FieldType} {rest : List Value} (hret : meth.sig.returnType = some t) (ht : t.isReference = true) (hw : w.isRef = true) (hd : decode c.code pc = .ok (.areturn, 1)) (hq : Q (some w) T.heap locs) (hk : cells ≤ k) (hl : slots ≤ n) : Go p e below s Q k n (T.setTop (mkF m pc Ls (w :: rest))) :=
  Go.out X hx hlk hret (own_narrow_ref ht) (Or.inr (Or.inr (Or.inr (Or.inr ⟨rfl, ht, hw⟩)))) hd hq hk hl
theorem Go.retN (X : Stand p l e R s m args below meth c T locs cells slots) (hx : p.tables.exec = Jvm.exec) (hlk : meth.locks = false) {pc : Nat} {Ls : Array Slot} {z : Int32} {t : FieldType} {rest : List Value} (hret : meth.sig.returnType = some t) (ht : t = .boolean ∨ t = .byte ∨ t = .char ∨ t = .short) (hd : decode c.code pc = .ok (.ireturn, 1)) (hq : Q (some (.int (nar t z))) T.heap locs) (hk : cells ≤ k) (hl : slots ≤ n) : Go p e below s Q k n (T.setTop (mkF m pc Ls (.int z :: rest))) := by
  obtain ⟨fs, hr, hrun, hended, hW, hsame⟩ := X.leave (v := some (.int (nar t z))) (fun h => by rw [hret] at h; cases h) hlk
  exact ⟨_, _, Jvm.RoadKit.retN X hx hret ht hd hr, hrun, hended, _, _, rfl, hq, ⟨_, rfl⟩, hW, hsame.mono hk hl⟩
theorem Go.retV (X : Stand p l e R s m args below meth c T locs cells slots) (hx : p.tables.exec = Jvm.exec) (hlk : meth.locks = false) {pc : Nat} {Ls : Array Slot} (hret : meth.sig.returnType = none) (hd : decode c.code pc = .ok (.return_, 1)) (hq : Q none T.heap locs) (hk : cells ≤ k) (hl : slots ≤ n) : Go p e below s Q k n (T.setTop (mkF m pc Ls [])) := by
  obtain ⟨fs, hr, hrun, hended, hW, hsame⟩ := X.leave (v := none) (fun _ => rfl) hlk
  exact ⟨_, _, X.returnOut hx hret hd hr, hrun, hended, _, _, rfl, hq, ⟨_, rfl⟩, hW, hsame.mono hk hl⟩
theorem own_decT {x y : Value} (q : x = y) : decide (x = y) = true := decide_eq_true q
theorem own_decF {x y : Value} (q : ¬ x = y) : decide (x = y) = false := decide_eq_false q
/-- a body's contract: called with as' over the heap h it returns, and Q holds at the end -/
def Con (l : Launch) (Z : State) (y : MethodName) (bytes : ByteArray) (maxL : Nat) (ret : Option FieldType) (rm : Room) (as' : Array Value) (h : Heap) (Q : Option Value → Heap → List Loc → Prop) : Prop :=
  ∀ ws : List Jvm.Cond, MetFree l y (head1 (Jvm.Cond.code y bytes maxL ret :: ws) rm) (fun a U => a = as' ∧ Z.Warmed39 U.vm ∧ U.heap = h) (fun _ _ _ _ _ => True) (fun _ U o U' => ∃ v L, o = .returned v ∧ Q v U'.heap L ∧ FrameEnd U o U' L rm.cells rm.slots)
theorem Con.of {y : MethodName} {bytes : ByteArray} {maxL : Nat} {ret : Option FieldType} {rm : Room} {as' : Array Value} (hy : plainName y.cls = true)
    (body : ∀ (p : Program) (e : Env) (s : State) (m : MethodId) (below : List Frame) (meth : Method) (c : Code) (T : State),
      Stand p l e rm s m as' below meth c T [] 0 0 → p.tables.exec = Jvm.exec → c.code = bytes → c.maxLocals = maxL → meth.sig.returnType = ret → meth.locks = false →
      s.vm.findClass y.cls = some m.cls → meth.name = y.name → Z.Warmed39 s.vm → T.heap = h → Go p e below s Q rm.cells rm.slots (T.setTop (entryFrame m as' maxL))) : Con l Z y bytes maxL ret rm as' h Q := by
  intro ws
  refine MetFree.of_bodySF (plainFor_of_name hy) hisR ?_
  intro p e s m args below meth c s₁ Bd hml hP hK
  obtain ⟨rfl, hZ, hh⟩ := hP
  exact body p e s m below meth c s₁ (Stand.of_body Bd) Bd.exec Bd.bytes hml Bd.returns Bd.notSynchronized (findClass_of_methodNamed Bd.named) (name_of_methodNamed Bd.named Bd.method).1 hZ (by rw [← hh, Bd.state]; rfl)
theorem Go.callS (X : Stand p l e R s m args below meth c T locs cells slots) (hx : p.tables.exec = Jvm.exec) (hZ : Z.Warmed39 s.vm) {own : String} {index : Nat} {y : MethodName} {bytes : ByteArray} {maxL : Nat} {ret : Option FieldType} {rm : Room} {Qc : Option Value → Heap → List Loc → Prop}
    (hown : s.vm.findClass own = some m.cls) (w1 : (Jvm.Cond.methodLink own index y).before a0 Z = true) (w2 : (Jvm.Cond.static y).before a0 Z = true) (w3 : (Jvm.Cond.initialized y.cls).before a0 Z = true) (w4 : (Jvm.Cond.code y bytes maxL ret).before a0 Z = true) (hy : y.cls ≠ "java/lang/invoke/MethodHandle" ∧ y.cls ≠ "java/lang/invoke/VarHandle")
    (eT : T.heap = h) (argsL rest : List Value) (W : Nat) (con : Con l Z y bytes maxL ret rm argsL.toArray h Qc)
    (hf : rm.frames + 1 ≤ R.frames) (hl : W + (maxL + 11) + rm.locals ≤ R.locals) (hc : cells + rm.cells ≤ R.cells) (hs : slots + rm.slots ≤ R.slots)
    {pc : Nat} {Ls : Array Slot} {stk : List Value} (hsize : Ls.size = c.maxLocals) (hlen : ∀ sig, parseMethodDescriptor y.desc = some sig → argsL.length = sig.parameters.length) (hstk : stk = argsL.reverse ++ rest) (hW : (rest.map fun v => v.category).sum ≤ W)
    (hd : decode c.code pc = .ok (.invokestatic index, 3))
    (k1 : ∀ (T' : State) (v : Option Value) (Lc : List Loc), Stand p l e R s m args below meth c T' (locs ++ Lc) (cells + rm.cells) (slots + rm.slots) → Qc v T'.heap Lc → Go p e below s Q k n (T'.setTop (mkF m (pc + 3) Ls (v.toList ++ rest)))) :
    Go p e below s Q k n (T.setTop (mkF m pc Ls stk)) := by
  subst hstk
  obtain ⟨v, _, ⟨T', L', c', n'⟩, -, X', ⟨Lc, hQ, l', y', z'⟩, st⟩ := Jvm.LawKit.callS X hx (y := y) hown (mvT hZ w1) (mvT hZ w2) (mvT hZ w3) (mvT hZ w4) hy (backOf (W := W) (con []) hZ w4 w3 hf hl) (g := mkF m pc Ls (argsL.reverse ++ rest)) rfl hsize (argsL := argsL) (rest := rest) hlen rfl (by show 2 * 0 + _ ≤ _; rw [Nat.mul_zero, Nat.zero_add]; exact hW) hd (fun _ _ => ⟨rfl, eT, hc, hs⟩)
  dsimp only [Pt.U, Pt.locs, Pt.cells, Pt.slots] at X' l' y' z' st hQ
  subst l' y' z'
  exact Go.step st (k1 T' v Lc X' hQ)
theorem Go.callV (X : Stand p l e R s m args below meth c T locs cells slots) (hx : p.tables.exec = Jvm.exec) (hZ : Z.Warmed39 s.vm) {own C : String} {index : Nat} {y : MethodName} {bytes : ByteArray} {maxL : Nat} {ret : Option FieldType} {rm : Room} {Qc : Option Value → Heap → List Loc → Prop}
    (hown : s.vm.findClass own = some m.cls) (w1 : (Jvm.Cond.methodLink own index y).before a0 Z = true) (w2 : (Jvm.Cond.declares y).before a0 Z = true) (w3 : (Jvm.Cond.selects C y y).before a0 Z = true) (w4 : (Jvm.Cond.instanceMethod y).before a0 Z = true) (w5 : (Jvm.Cond.initialized y.cls).before a0 Z = true) (w6 : (Jvm.Cond.code y bytes maxL ret).before a0 Z = true) (hy : y.cls ≠ "java/lang/invoke/MethodHandle" ∧ y.cls ≠ "java/lang/invoke/VarHandle")
    (eT : T.heap = h) {b : Addr} (E : Exa Z h b C) (argsL rest : List Value) (W : Nat) (con : Con l Z y bytes maxL ret rm (.ref b :: argsL).toArray h Qc)
    (hf : rm.frames + 1 ≤ R.frames) (hl : W + (maxL + 11) + rm.locals ≤ R.locals) (hc : cells + rm.cells ≤ R.cells) (hs : slots + rm.slots ≤ R.slots)
    {pc : Nat} {Ls : Array Slot} {stk : List Value} (hsize : Ls.size = c.maxLocals) (hlen : ∀ sig, parseMethodDescriptor y.desc = some sig → argsL.length = sig.parameters.length) (hstk : stk = argsL.reverse ++ .ref b :: rest) (hW : (rest.map fun v => v.category).sum ≤ W)
    (hd : decode c.code pc = .ok (.invokevirtual index, 3))
    (k1 : ∀ (T' : State) (v : Option Value) (Lc : List Loc), Stand p l e R s m args below meth c T' (locs ++ Lc) (cells + rm.cells) (slots + rm.slots) → Qc v T'.heap Lc → Go p e below s Q k n (T'.setTop (mkF m (pc + 3) Ls (v.toList ++ rest)))) :
    Go p e below s Q k n (T.setTop (mkF m pc Ls stk)) := by
  subst hstk
  obtain ⟨cq, kq, qa, qb, qc⟩ := isOf hZ eT E
  obtain ⟨v, _, ⟨T', L', c', n'⟩, -, X', ⟨Lc, hQ, l', y', z'⟩, st⟩ := X.virtualBack hx (y := y) (z := y) hown (mvT hZ w1) (mvT hZ w2) (notFace_of_selects (args := #[]) (mvT hZ w3)) (mvT hZ w3) (mvT hZ w4) hy (backOf (W := W) (con []) hZ w6 w5 hf hl) qa qc (g := mkF m pc Ls (argsL.reverse ++ .ref b :: rest)) rfl hsize (Steps.refl _) (argsL := argsL) (rest := rest) hlen rfl (by show 2 * 0 + _ ≤ _; rw [Nat.mul_zero, Nat.zero_add]; exact hW) hd (fun _ _ => ⟨rfl, eT, hc, hs⟩)
  dsimp only [Pt.U, Pt.locs, Pt.cells, Pt.slots] at X' l' y' z' st hQ
  subst l' y' z'
  exact Go.step (fun t kk => st.trans kk) (k1 T' v Lc X' hQ)
theorem Go.callI (X : Stand p l e R s m args below meth c T locs cells slots) (hx : p.tables.exec = Jvm.exec) (hZ : Z.Warmed39 s.vm) {own : String} {index : Nat} {y : MethodName} {bytes : ByteArray} {maxL : Nat} {rm : Room} {Qc : Option Value → Heap → List Loc → Prop} (hy1 : y.name = "<init>")
    (hown : s.vm.findClass own = some m.cls) (w1 : (Jvm.Cond.methodLink own index y).before a0 Z = true) (w2 : (Jvm.Cond.instanceMethod y).before a0 Z = true) (w3 : (Jvm.Cond.initialized y.cls).before a0 Z = true) (w4 : (Jvm.Cond.code y bytes maxL none).before a0 Z = true) (hy : y.cls ≠ "java/lang/invoke/MethodHandle" ∧ y.cls ≠ "java/lang/invoke/VarHandle")
    (eT : T.heap = h) {b : Addr} (argsL rest : List Value) (W : Nat) (con : Con l Z y bytes maxL none rm (.ref b :: argsL).toArray h Qc)
    (hf : rm.frames + 1 ≤ R.frames) (hl : W + (maxL + 11) + rm.locals ≤ R.locals) (hc : cells + rm.cells ≤ R.cells) (hs : slots + rm.slots ≤ R.slots)
    {pc : Nat} {Ls : Array Slot} {stk : List Value} (hsize : Ls.size = c.maxLocals) (hlen : ∀ sig, parseMethodDescriptor y.desc = some sig → argsL.length = sig.parameters.length) (hstk : stk = argsL.reverse ++ .ref b :: rest) (hW : (rest.map fun v => v.category).sum ≤ W)
    (hd : decode c.code pc = .ok (.invokespecial index, 3))
    (k1 : ∀ (T' : State) (v : Option Value) (Lc : List Loc), Stand p l e R s m args below meth c T' (locs ++ Lc) (cells + rm.cells) (slots + rm.slots) → Qc v T'.heap Lc → Go p e below s Q k n (T'.setTop (mkF m (pc + 3) Ls (v.toList ++ rest)))) :
    Go p e below s Q k n (T.setTop (mkF m pc Ls stk)) := by
  subst hstk
  obtain ⟨v, _, ⟨T', L', c', n'⟩, -, X', ⟨Lc, hQ, l', y', z'⟩, st⟩ := X.specialBack hx (y := y) hy1 hown (mvT hZ w1) (mvT hZ w2) (mvT hZ w4) hy (backOf (W := W) (con []) hZ w4 w3 hf hl) (g := mkF m pc Ls (argsL.reverse ++ .ref b :: rest)) rfl hsize (Steps.refl _) (a := b) (argsL := argsL) (rest := rest) hlen rfl (by show 2 * 0 + _ ≤ _; rw [Nat.mul_zero, Nat.zero_add]; exact hW) hd (fun _ _ => ⟨rfl, eT, hc, hs⟩)
  dsimp only [Pt.U, Pt.locs, Pt.cells, Pt.slots] at X' l' y' z' st hQ
  subst l' y' z'
  exact Go.step (fun t kk => st.trans kk) (k1 T' v Lc X' hQ)
end OwnKit
theorem own_ext_trans {h0 h1 h2 : Heap} (E : Ext h0 h1) (F : Ext h1 h2) : Ext h0 h2 := ⟨Nat.le_trans E.1 F.1, fun a c q => F.2 a c (E.2 a c q)⟩
theorem own_ext_refl (h0 : Heap) : Ext h0 h0 := ⟨Nat.le_refl _, fun _ _ q => q⟩
theorem own_ext_keep {h0 h1 h2 : Heap} {ws : List Addr} (E : Ext h0 h1) (K : Keep h1 h2 ws) (hw : ∀ x ∈ ws, h0.size ≤ x) : Ext h0 h2 := ⟨Nat.le_trans E.1 K.1, fun a c q => K.2.1 a c (E.2 a c q) fun hm => absurd (Array.getElem?_eq_some_iff.mp q).1 (Nat.not_lt.mpr (hw a hm))⟩
theorem own_ext_wr {h0 h1 h2 : Heap} {a : Addr} {sl : Nat} {v : Value} (E : Ext h0 h1) (W : Wr h1 h2 a sl v) (q : h0.size ≤ a) : Ext h0 h2 := own_ext_keep E (Keep.of_wr W) (allS q all0)
theorem own_ne_lt {a b : Addr} {n : Nat} (p : a < n) (q : n ≤ b) : a ≠ b := Nat.ne_of_lt (Nat.lt_of_lt_of_le p q)
theorem own_len {args : Array Value} {s : State} {t : Term} {a : Addr} {c : Cell} {ty : FieldType} {z : Int32} (ev : t.eval args s none [] s = some (.ref a)) (A : Arr s s.heap a c ty) (hq : (Jvm.Cond.eq (.length t) (.int z)).value args s none s [] = some true) : c.slots.size < 2 ^ 31 ∧ c.slots.size.toInt32 = z := by
  obtain ⟨x, y, hx, hy, -, hk⟩ := cmp_v (Or.inl hq)
  obtain rfl : y = .int z := (Option.some.inj hy).symm
  obtain ⟨q, rfl⟩ := hk
  have e := gotT (Cond.eq_ints hx (Term.int_eval z)) hq
  subst e
  have h1 := Arr.fin (Vm.Alike.refl _) A
  simp only [Term.eval, ev, h1, Option.bind_eq_bind, Option.bind_some] at hx
  split at hx
  · rename_i hl
    exact ⟨hl, by injection hx with hx; injection hx⟩
  · cases hx
theorem own_elem {args : Array Value} {s : State} {t u : Term} {a b : Addr} {c : Cell} {ty : FieldType} {i : Int32} (ev : t.eval args s none [] s = some (.ref a)) (A : Arr s s.heap a c ty) (eu : u.eval args s none [] s = some (.ref b)) (hq : (Jvm.Cond.eq (.elem t (.int i)) u).value args s none s [] = some true) : c.slots[i.toNatClampNeg]? = some (.ref b) := by
  obtain ⟨x, y, hx, hy, hk, hk2⟩ := cmp_v (Or.inl hq)
  cases eu.symm.trans hy
  obtain ⟨c', h1, h2, h3⟩ := elem_at hx ev (Term.int_eval i)
  cases A.1.symm.trans h1
  have hr : x.isRef = true := hk2.2
  have e := gotT (eq_R hx eu hr rfl) hq
  rw [e] at h3; exact h3
theorem own_cell {Z T : State} {h : Heap} {a : Addr} {c : Cell} {ty : FieldType} (eT : T.heap = h) (A : Arr Z h a c ty) : T.heap[a]? = some c := by rw [eT]; exact A.1
theorem own_fldI {args : Array Value} {s : State} {t : Term} {a : Addr} {C n d : String} {z : Int32} (ev : t.eval args s none [] s = some (.ref a)) (hq : (Jvm.Cond.eq (.field t C n d) (.int z)).value args s none s [] = some true) : Fld s s.heap a C n d (.int z) := by
  obtain ⟨x, y, hx, hy, -, hk⟩ := cmp_v (Or.inl hq)
  obtain rfl : y = .int z := (Option.some.inj hy).symm
  obtain ⟨q, rfl⟩ := hk
  have e := gotT (Cond.eq_ints hx (Term.int_eval z)) hq
  subst e
  exact Fld.start (by rw [← fld_at (args := args) (first := s) (o := none) (idx := []) ev]; exact hx)
theorem own_fldJ {args : Array Value} {s : State} {t : Term} {a : Addr} {C n d : String} {z : Int64} (ev : t.eval args s none [] s = some (.ref a)) (hq : (Jvm.Cond.eq (.field t C n d) (.long z)).value args s none s [] = some true) : Fld s s.heap a C n d (.long z) := by
  obtain ⟨x, y, hx, hy, -, hk⟩ := cmp_v (Or.inl hq)
  obtain rfl : y = .long z := (Option.some.inj hy).symm
  obtain ⟨q, rfl⟩ := hk
  have e := gotT (eq_L hx (long_at z)) hq
  subst e
  exact Fld.start (by rw [← fld_at (args := args) (first := s) (o := none) (idx := []) ev]; exact hx)
theorem own_pn0 : plainName "com/example/pubsume/pubsume/common/SubscriptionType" = true := by first | (simp [plainName, overriddenIn]; done) | decide +kernel
theorem own_d_al_0 : decode prog_31_method_6_code 0 = .ok (.aload_n 0, 1) := by decide +kernel
theorem own_d_al_1 : decode prog_31_method_6_code 1 = .ok (.getfield 39, 3) := by decide +kernel
theorem own_d_al_4 : decode prog_31_method_6_code 4 = .ok (.ifCond .ne 7, 3) := by decide +kernel
theorem own_d_al_7 : decode prog_31_method_6_code 7 = .ok (.iconst 1, 1) := by decide +kernel
theorem own_d_al_8 : decode prog_31_method_6_code 8 = .ok (.goto 4, 3) := by decide +kernel
theorem own_d_al_11 : decode prog_31_method_6_code 11 = .ok (.iconst 0, 1) := by decide +kernel
theorem own_d_al_12 : decode prog_31_method_6_code 12 = .ok (.ireturn, 1) := by decide +kernel
theorem own_ef_al (m : MethodId) (b : Addr) : entryFrame m #[(.ref b)] 1 = mkF m 0 #[.val (.ref b)] [] := by first | (simp [entryFrame, mkF, argsToLocals, Value.category, maxLocals]; done) | rfl
set_option maxRecDepth 65536 in
set_option maxHeartbeats 40000000 in
theorem rm_al (l : Launch) (Z : State) (a0 : Array Value) (hw : ∀ d ∈ tables_1, d.before a0 Z = true) (b : Addr) (z : Int32) (h0 : Heap) (n0 : Nat) (F_b : Fld Z h0 b "com/example/pubsume/pubsume/common/SubscriptionType" "sharesMessages" "Z" (.int z)) :
    Con l Z (⟨"com/example/pubsume/pubsume/common/SubscriptionType", "allowsCumulativeAck", "()Z"⟩ : MethodName) prog_31_method_6_code 1 (some .boolean) ({ frames := 0, cells := 0, slots := 0, locals := 0 } : Room) #[(.ref b)] h0 (fun v h L => v = some (.int (if z = 0 then 1 else 0)) ∧ L = [] ∧ h = h0) := by
  refine Con.of own_pn0 ?_
  intro p e s m below meth c T0 X0 hx hby hml hret hlk hown0 hnm hZ e0
  have hown : s.vm.findClass "com/example/pubsume/pubsume/common/SubscriptionType" = some m.cls := hown0
  have N0 := Fr.nil n0
  refine Go.step (fun t kk => castTop (own_ef_al m b) kk) ?_
  show Go p e below s _ _ _ (T0.setTop (mkF m 0 #[.val (.ref b)] []))
  refine Go.step (fun t kk => XS.aloadN X0.here hx rfl (hb hby own_d_al_0) rfl rfl kk) ?_
  show Go p e below s _ _ _ (T0.setTop (mkF m 1 #[.val (.ref b)] [(.ref b)]))
  obtain ⟨T1, X1, e1, st1⟩ := getF X0 hx hZ hown (host := "") (Or.inl (hw _ (List.mem_of_getElem? (i := 8) rfl))) Via.refl e0 F_b (g := (mkF m 1 #[.val (.ref b)] [(.ref b)])) rfl rfl (hb hby own_d_al_1)
  refine Go.step st1 ?_
  show Go p e below s _ _ _ (T1.setTop (mkF m 4 #[.val (.ref b)] [(.int z)]))
  by_cases hc4_2 : z = (0 : Int32)
  · refine Go.step (fun t kk => XS.ifNo X1.here hx rfl (hb hby own_d_al_4) rfl ((if0 _ _).trans (teq hc4_2).2) kk) ?_
    show Go p e below s _ _ _ (T1.setTop (mkF m 7 #[.val (.ref b)] []))
    refine Go.step (fun t kk => XS.iconst X1.here hx rfl (hb hby own_d_al_7) kk) ?_
    show Go p e below s _ _ _ (T1.setTop (mkF m 8 #[.val (.ref b)] [(.int (1 : Int32))]))
    refine Go.step (fun t kk => XS.goto X1.here hx rfl (pc0 := 8) (pc' := 12) rfl (hb hby own_d_al_8) (by decide) (by decide) kk) ?_
    show Go p e below s _ _ _ (T1.setTop (mkF m 12 #[.val (.ref b)] [(.int (1 : Int32))]))
    exact Go.retN X1 hx hlk (t := .boolean) hret (by simp) (hb hby own_d_al_12) (show _ ∧ _ ∧ _ from ⟨by rw [if_pos hc4_2]; rfl, rfl, e1⟩) (by decide) (by decide)
  · refine Go.step (fun t kk => XS.ifYes X1.here hx rfl (pc0 := 4) (pc' := 11) rfl (hb hby own_d_al_4) rfl ((if0 _ _).trans (feq hc4_2).2) (by decide) (by decide) kk) ?_
    show Go p e below s _ _ _ (T1.setTop (mkF m 11 #[.val (.ref b)] []))
    refine Go.step (fun t kk => XS.iconst X1.here hx rfl (hb hby own_d_al_11) kk) ?_
    show Go p e below s _ _ _ (T1.setTop (mkF m 12 #[.val (.ref b)] [(.int (0 : Int32))]))
    exact Go.retN X1 hx hlk (t := .boolean) hret (by simp) (hb hby own_d_al_12) (show _ ∧ _ ∧ _ from ⟨by rw [if_neg hc4_2]; rfl, rfl, e1⟩) (by decide) (by decide)
theorem own_d_sh_0 : decode prog_31_method_5_code 0 = .ok (.aload_n 0, 1) := by decide +kernel
theorem own_d_sh_1 : decode prog_31_method_5_code 1 = .ok (.getfield 39, 3) := by decide +kernel
theorem own_d_sh_4 : decode prog_31_method_5_code 4 = .ok (.ireturn, 1) := by decide +kernel
theorem own_ef_sh (m : MethodId) (b : Addr) : entryFrame m #[(.ref b)] 1 = mkF m 0 #[.val (.ref b)] [] := by first | (simp [entryFrame, mkF, argsToLocals, Value.category, maxLocals]; done) | rfl
set_option maxRecDepth 65536 in
set_option maxHeartbeats 40000000 in
theorem rm_sh (l : Launch) (Z : State) (a0 : Array Value) (hw : ∀ d ∈ tables_1, d.before a0 Z = true) (b : Addr) (z : Int32) (h0 : Heap) (n0 : Nat) (F_b : Fld Z h0 b "com/example/pubsume/pubsume/common/SubscriptionType" "sharesMessages" "Z" (.int z)) :
    Con l Z (⟨"com/example/pubsume/pubsume/common/SubscriptionType", "sharesMessages", "()Z"⟩ : MethodName) prog_31_method_5_code 1 (some .boolean) ({ frames := 0, cells := 0, slots := 0, locals := 0 } : Room) #[(.ref b)] h0 (fun v h L => v = some (.int (nar .boolean z)) ∧ L = [] ∧ h = h0) := by
  refine Con.of own_pn0 ?_
  intro p e s m below meth c T0 X0 hx hby hml hret hlk hown0 hnm hZ e0
  have hown : s.vm.findClass "com/example/pubsume/pubsume/common/SubscriptionType" = some m.cls := hown0
  have N0 := Fr.nil n0
  refine Go.step (fun t kk => castTop (own_ef_sh m b) kk) ?_
  show Go p e below s _ _ _ (T0.setTop (mkF m 0 #[.val (.ref b)] []))
  refine Go.step (fun t kk => XS.aloadN X0.here hx rfl (hb hby own_d_sh_0) rfl rfl kk) ?_
  show Go p e below s _ _ _ (T0.setTop (mkF m 1 #[.val (.ref b)] [(.ref b)]))
  obtain ⟨T1, X1, e1, st1⟩ := getF X0 hx hZ hown (host := "") (Or.inl (hw _ (List.mem_of_getElem? (i := 8) rfl))) Via.refl e0 F_b (g := (mkF m 1 #[.val (.ref b)] [(.ref b)])) rfl rfl (hb hby own_d_sh_1)
  refine Go.step st1 ?_
  show Go p e below s _ _ _ (T1.setTop (mkF m 4 #[.val (.ref b)] [(.int z)]))
  exact Go.retN X1 hx hlk (t := .boolean) hret (by simp) (hb hby own_d_sh_4) (show _ ∧ _ ∧ _ from ⟨rfl, rfl, e1⟩) (by decide) (by decide)
theorem own_pn1 : plainName "com/example/pubsume/pubsume/common/SubscriptionTypeAllowsCumulativeAckPinLaw" = true := by first | (simp [plainName, overriddenIn]; done) | decide +kernel
theorem own_pd0 : parseMethodDescriptor "()Z" = some ⟨[], (some .boolean)⟩ := by decide +kernel
theorem own_ef_law (m : MethodId) (p1 : Int32) : entryFrame m #[(.int p1)] maxLocals = mkF m 0 #[.val (.int p1), .unset, .unset, .unset, .unset] [] := by first | (simp [entryFrame, mkF, argsToLocals, Value.category, maxLocals]; done) | rfl
set_option maxRecDepth 65536 in
set_option maxHeartbeats 40000000 in
theorem rm_law (l : Launch) (Z : State) (a0 : Array Value) (hw : ∀ d ∈ tables_1, d.before a0 Z = true) (p1 : Int32) (a1 : Addr) (a2 : Addr) (a3 : Addr) (a4 : Addr) (h0 : Heap) (n0 : Nat) (S_a1 : Sta Z h0 "com/example/pubsume/pubsume/common/SubscriptionType" "Exclusive" "Lcom/example/pubsume/pubsume/common/SubscriptionType;" (.ref a1)) (S_a2 : Sta Z h0 "com/example/pubsume/pubsume/common/SubscriptionType" "Shared" "Lcom/example/pubsume/pubsume/common/SubscriptionType;" (.ref a2)) (S_a3 : Sta Z h0 "com/example/pubsume/pubsume/common/SubscriptionType" "Failover" "Lcom/example/pubsume/pubsume/common/SubscriptionType;" (.ref a3)) (S_a4 : Sta Z h0 "com/example/pubsume/pubsume/common/SubscriptionType" "Key_Shared" "Lcom/example/pubsume/pubsume/common/SubscriptionType;" (.ref a4)) (E_a1 : Exa Z h0 a1 "com/example/pubsume/pubsume/common/SubscriptionType") (E_a2 : Exa Z h0 a2 "com/example/pubsume/pubsume/common/SubscriptionType") (E_a3 : Exa Z h0 a3 "com/example/pubsume/pubsume/common/SubscriptionType") (E_a4 : Exa Z h0 a4 "com/example/pubsume/pubsume/common/SubscriptionType") (F_a1_sharesMessages : Fld Z h0 a1 "com/example/pubsume/pubsume/common/SubscriptionType" "sharesMessages" "Z" (.int 0)) (F_a2_sharesMessages : Fld Z h0 a2 "com/example/pubsume/pubsume/common/SubscriptionType" "sharesMessages" "Z" (.int 1)) (F_a3_sharesMessages : Fld Z h0 a3 "com/example/pubsume/pubsume/common/SubscriptionType" "sharesMessages" "Z" (.int 0)) (F_a4_sharesMessages : Fld Z h0 a4 "com/example/pubsume/pubsume/common/SubscriptionType" "sharesMessages" "Z" (.int 1)) :
    Con l Z x code maxLocals ret room_1 #[(.int p1)] h0 (fun v h L => v = some (.int 1) ∧ Fr n0 L) := by
  refine Con.of own_pn1 ?_
  intro p e s m below meth c T0 X0 hx hby hml hret hlk hown0 hnm hZ e0
  have hown : s.vm.findClass "com/example/pubsume/pubsume/common/SubscriptionTypeAllowsCumulativeAckPinLaw" = some m.cls := hown0
  have N0 := Fr.nil n0
  refine Go.step (fun t kk => castTop (own_ef_law m p1) kk) ?_
  show Go p e below s _ _ _ (T0.setTop (mkF m 0 #[.val (.int p1), .unset, .unset, .unset, .unset] []))
  refine Go.step (fun t kk => XS.iloadN X0.here hx rfl (hb hby at_0) rfl kk) ?_
  show Go p e below s _ _ _ (T0.setTop (mkF m 1 #[.val (.int p1), .unset, .unset, .unset, .unset] [(.int p1)]))
  refine Go.step (fun t kk => XS.iconst X0.here hx rfl (hb hby at_1) kk) ?_
  show Go p e below s _ _ _ (T0.setTop (mkF m 2 #[.val (.int p1), .unset, .unset, .unset, .unset] [(.int (3 : Int32)), (.int p1)]))
  refine Go.step (fun t kk => XS.iand X0.here hx rfl (hb hby at_2) rfl kk) ?_
  show Go p e below s _ _ _ (T0.setTop (mkF m 3 #[.val (.int p1), .unset, .unset, .unset, .unset] [(.int (p1 &&& (3 : Int32)))]))
  refine Go.step (fun t kk => XS.istoreN X0.here hx rfl (hb hby at_3) rfl (l' := #[.val (.int p1), .val (.int (p1 &&& (3 : Int32))), .unset, .unset, .unset]) rfl kk) ?_
  show Go p e below s _ _ _ (T0.setTop (mkF m 4 #[.val (.int p1), .val (.int (p1 &&& (3 : Int32))), .unset, .unset, .unset] []))
  refine Go.step (fun t kk => XS.iloadN X0.here hx rfl (hb hby at_4) rfl kk) ?_
  show Go p e below s _ _ _ (T0.setTop (mkF m 5 #[.val (.int p1), .val (.int (p1 &&& (3 : Int32))), .unset, .unset, .unset] [(.int (p1 &&& (3 : Int32)))]))
  by_cases hc5_1 : (p1 &&& (3 : Int32)) = (0 : Int32)
  · refine Go.step (fun t kk => XS.ifNo X0.here hx rfl (hb hby at_5) rfl ((if0 _ _).trans (teq hc5_1).2) kk) ?_
    show Go p e below s _ _ _ (T0.setTop (mkF m 8 #[.val (.int p1), .val (.int (p1 &&& (3 : Int32))), .unset, .unset, .unset] []))
    obtain ⟨T2, X2, e2, st2⟩ := getS (host := "") X0 hx hZ hown (hw _ (List.mem_of_getElem? (i := 0) rfl)) Via.refl e0 S_a1 (g := (mkF m 8 #[.val (.int p1), .val (.int (p1 &&& (3 : Int32))), .unset, .unset, .unset] [])) rfl (hb hby at_8)
    refine Go.step st2 ?_
    show Go p e below s _ _ _ (T2.setTop (mkF m 11 #[.val (.int p1), .val (.int (p1 &&& (3 : Int32))), .unset, .unset, .unset] [(.ref a1)]))
    refine Go.step (fun t kk => XS.astoreN X2.here hx rfl (hb hby at_11) rfl rfl (l' := #[.val (.int p1), .val (.int (p1 &&& (3 : Int32))), .val (.ref a1), .unset, .unset]) rfl kk) ?_
    show Go p e below s _ _ _ (T2.setTop (mkF m 12 #[.val (.int p1), .val (.int (p1 &&& (3 : Int32))), .val (.ref a1), .unset, .unset] []))
    refine Go.step (fun t kk => XS.iconst X2.here hx rfl (hb hby at_12) kk) ?_
    show Go p e below s _ _ _ (T2.setTop (mkF m 13 #[.val (.int p1), .val (.int (p1 &&& (3 : Int32))), .val (.ref a1), .unset, .unset] [(.int (1 : Int32))]))
    refine Go.step (fun t kk => XS.istoreN X2.here hx rfl (hb hby at_13) rfl (l' := #[.val (.int p1), .val (.int (p1 &&& (3 : Int32))), .val (.ref a1), .val (.int (1 : Int32)), .unset]) rfl kk) ?_
    show Go p e below s _ _ _ (T2.setTop (mkF m 14 #[.val (.int p1), .val (.int (p1 &&& (3 : Int32))), .val (.ref a1), .val (.int (1 : Int32)), .unset] []))
    refine Go.step (fun t kk => XS.goto X2.here hx rfl (pc0 := 14) (pc' := 51) rfl (hb hby at_14) (by decide) (by decide) kk) ?_
    show Go p e below s _ _ _ (T2.setTop (mkF m 51 #[.val (.int p1), .val (.int (p1 &&& (3 : Int32))), .val (.ref a1), .val (.int (1 : Int32)), .unset] []))
    refine Go.step (fun t kk => XS.aloadN X2.here hx rfl (hb hby at_51) rfl rfl kk) ?_
    show Go p e below s _ _ _ (T2.setTop (mkF m 52 #[.val (.int p1), .val (.int (p1 &&& (3 : Int32))), .val (.ref a1), .val (.int (1 : Int32)), .unset] [(.ref a1)]))
    refine Go.callV X2 hx hZ hown (hw _ (List.mem_of_getElem? (i := 3) rfl)) (hw _ (List.mem_of_getElem? (i := 4) rfl)) (hw _ (List.mem_of_getElem? (i := 6) rfl)) (hw _ (List.mem_of_getElem? (i := 5) rfl)) (hw _ (List.mem_of_getElem? (i := 1) rfl)) (hw _ (List.mem_of_getElem? (i := 7) rfl)) (by decide) e2 E_a1 [] [] 0 (rm_al l Z a0 hw a1 0 h0 n0 F_a1_sharesMessages) (by decide) (by decide) (by decide) (by decide) (by rw [hml]; rfl) (lenOf own_pd0 rfl) rfl (Nat.le_of_eq rfl) (hb hby at_52) ?_
    intro T3 v3 L3 X3 hQ3
    obtain ⟨rfl, rfl, e3⟩ := hQ3
    have N3 := Fr.app N0 (Fr.nil n0)
    show Go p e below s _ _ _ (T3.setTop (mkF m 55 #[.val (.int p1), .val (.int (p1 &&& (3 : Int32))), .val (.ref a1), .val (.int (1 : Int32)), .unset] [(.int (1 : Int32))]))
    refine Go.step (fun t kk => XS.istore X3.here hx rfl (hb hby at_55) rfl (l' := #[.val (.int p1), .val (.int (p1 &&& (3 : Int32))), .val (.ref a1), .val (.int (1 : Int32)), .val (.int (1 : Int32))]) rfl kk) ?_
    show Go p e below s _ _ _ (T3.setTop (mkF m 57 #[.val (.int p1), .val (.int (p1 &&& (3 : Int32))), .val (.ref a1), .val (.int (1 : Int32)), .val (.int (1 : Int32))] []))
    refine Go.step (fun t kk => XS.iload X3.here hx rfl (hb hby at_57) rfl kk) ?_
    show Go p e below s _ _ _ (T3.setTop (mkF m 59 #[.val (.int p1), .val (.int (p1 &&& (3 : Int32))), .val (.ref a1), .val (.int (1 : Int32)), .val (.int (1 : Int32))] [(.int (1 : Int32))]))
    refine Go.step (fun t kk => XS.iloadN X3.here hx rfl (hb hby at_59) rfl kk) ?_
    show Go p e below s _ _ _ (T3.setTop (mkF m 60 #[.val (.int p1), .val (.int (p1 &&& (3 : Int32))), .val (.ref a1), .val (.int (1 : Int32)), .val (.int (1 : Int32))] [(.int (1 : Int32)), (.int (1 : Int32))]))
    have hc60_4 : (1 : Int32) = (1 : Int32) := rfl
    refine Go.step (fun t kk => XS.icmpNo X3.here hx rfl (hb hby at_60) rfl (teq hc60_4).2 kk) ?_
    show Go p e below s _ _ _ (T3.setTop (mkF m 63 #[.val (.int p1), .val (.int (p1 &&& (3 : Int32))), .val (.ref a1), .val (.int (1 : Int32)), .val (.int (1 : Int32))] []))
    refine Go.step (fun t kk => XS.iload X3.here hx rfl (hb hby at_63) rfl kk) ?_
    show Go p e below s _ _ _ (T3.setTop (mkF m 65 #[.val (.int p1), .val (.int (p1 &&& (3 : Int32))), .val (.ref a1), .val (.int (1 : Int32)), .val (.int (1 : Int32))] [(.int (1 : Int32))]))
    refine Go.step (fun t kk => XS.aloadN X3.here hx rfl (hb hby at_65) rfl rfl kk) ?_
    show Go p e below s _ _ _ (T3.setTop (mkF m 66 #[.val (.int p1), .val (.int (p1 &&& (3 : Int32))), .val (.ref a1), .val (.int (1 : Int32)), .val (.int (1 : Int32))] [(.ref a1), (.int (1 : Int32))]))
    refine Go.callV X3 hx hZ hown (hw _ (List.mem_of_getElem? (i := 10) rfl)) (hw _ (List.mem_of_getElem? (i := 11) rfl)) (hw _ (List.mem_of_getElem? (i := 13) rfl)) (hw _ (List.mem_of_getElem? (i := 12) rfl)) (hw _ (List.mem_of_getElem? (i := 1) rfl)) (hw _ (List.mem_of_getElem? (i := 14) rfl)) (by decide) e3 E_a1 [] [(.int (1 : Int32))] 1 (rm_sh l Z a0 hw a1 0 h0 n0 F_a1_sharesMessages) (by decide) (by decide) (by decide) (by decide) (by rw [hml]; rfl) (lenOf own_pd0 rfl) rfl (Nat.le_of_eq rfl) (hb hby at_66) ?_
    intro T5 v5 L5 X5 hQ5
    obtain ⟨rfl, rfl, e5⟩ := hQ5
    have N5 := Fr.app N3 (Fr.nil n0)
    show Go p e below s _ _ _ (T5.setTop (mkF m 69 #[.val (.int p1), .val (.int (p1 &&& (3 : Int32))), .val (.ref a1), .val (.int (1 : Int32)), .val (.int (1 : Int32))] [(.int (0 : Int32)), (.int (1 : Int32))]))
    have hc69_6 : ¬ ((1 : Int32) = (0 : Int32)) := by decide
    refine Go.step (fun t kk => XS.icmpNo X5.here hx rfl (hb hby at_69) rfl (feq hc69_6).1 kk) ?_
    show Go p e below s _ _ _ (T5.setTop (mkF m 72 #[.val (.int p1), .val (.int (p1 &&& (3 : Int32))), .val (.ref a1), .val (.int (1 : Int32)), .val (.int (1 : Int32))] []))
    refine Go.step (fun t kk => XS.iconst X5.here hx rfl (hb hby at_72) kk) ?_
    show Go p e below s _ _ _ (T5.setTop (mkF m 73 #[.val (.int p1), .val (.int (p1 &&& (3 : Int32))), .val (.ref a1), .val (.int (1 : Int32)), .val (.int (1 : Int32))] [(.int (1 : Int32))]))
    refine Go.step (fun t kk => XS.goto X5.here hx rfl (pc0 := 73) (pc' := 77) rfl (hb hby at_73) (by decide) (by decide) kk) ?_
    show Go p e below s _ _ _ (T5.setTop (mkF m 77 #[.val (.int p1), .val (.int (p1 &&& (3 : Int32))), .val (.ref a1), .val (.int (1 : Int32)), .val (.int (1 : Int32))] [(.int (1 : Int32))]))
    exact Go.retN X5 hx hlk (t := .boolean) hret (by simp) (hb hby at_77) (show _ ∧ _ from ⟨rfl, N5⟩) (by decide) (by decide)
  · refine Go.step (fun t kk => XS.ifYes X0.here hx rfl (pc0 := 5) (pc' := 17) rfl (hb hby at_5) rfl ((if0 _ _).trans (feq hc5_1).2) (by decide) (by decide) kk) ?_
    show Go p e below s _ _ _ (T0.setTop (mkF m 17 #[.val (.int p1), .val (.int (p1 &&& (3 : Int32))), .unset, .unset, .unset] []))
    refine Go.step (fun t kk => XS.iloadN X0.here hx rfl (hb hby at_17) rfl kk) ?_
    show Go p e below s _ _ _ (T0.setTop (mkF m 18 #[.val (.int p1), .val (.int (p1 &&& (3 : Int32))), .unset, .unset, .unset] [(.int (p1 &&& (3 : Int32)))]))
    refine Go.step (fun t kk => XS.iconst X0.here hx rfl (hb hby at_18) kk) ?_
    show Go p e below s _ _ _ (T0.setTop (mkF m 19 #[.val (.int p1), .val (.int (p1 &&& (3 : Int32))), .unset, .unset, .unset] [(.int (1 : Int32)), (.int (p1 &&& (3 : Int32)))]))
    by_cases hc19_7 : (p1 &&& (3 : Int32)) = (1 : Int32)
    · refine Go.step (fun t kk => XS.icmpNo X0.here hx rfl (hb hby at_19) rfl (teq hc19_7).2 kk) ?_
      show Go p e below s _ _ _ (T0.setTop (mkF m 22 #[.val (.int p1), .val (.int (p1 &&& (3 : Int32))), .unset, .unset, .unset] []))
      obtain ⟨T8, X8, e8, st8⟩ := getS (host := "") X0 hx hZ hown (hw _ (List.mem_of_getElem? (i := 19) rfl)) Via.refl e0 S_a2 (g := (mkF m 22 #[.val (.int p1), .val (.int (p1 &&& (3 : Int32))), .unset, .unset, .unset] [])) rfl (hb hby at_22)
      refine Go.step st8 ?_
      show Go p e below s _ _ _ (T8.setTop (mkF m 25 #[.val (.int p1), .val (.int (p1 &&& (3 : Int32))), .unset, .unset, .unset] [(.ref a2)]))
      refine Go.step (fun t kk => XS.astoreN X8.here hx rfl (hb hby at_25) rfl rfl (l' := #[.val (.int p1), .val (.int (p1 &&& (3 : Int32))), .val (.ref a2), .unset, .unset]) rfl kk) ?_
      show Go p e below s _ _ _ (T8.setTop (mkF m 26 #[.val (.int p1), .val (.int (p1 &&& (3 : Int32))), .val (.ref a2), .unset, .unset] []))
      refine Go.step (fun t kk => XS.iconst X8.here hx rfl (hb hby at_26) kk) ?_
      show Go p e below s _ _ _ (T8.setTop (mkF m 27 #[.val (.int p1), .val (.int (p1 &&& (3 : Int32))), .val (.ref a2), .unset, .unset] [(.int (0 : Int32))]))
      refine Go.step (fun t kk => XS.istoreN X8.here hx rfl (hb hby at_27) rfl (l' := #[.val (.int p1), .val (.int (p1 &&& (3 : Int32))), .val (.ref a2), .val (.int (0 : Int32)), .unset]) rfl kk) ?_
      show Go p e below s _ _ _ (T8.setTop (mkF m 28 #[.val (.int p1), .val (.int (p1 &&& (3 : Int32))), .val (.ref a2), .val (.int (0 : Int32)), .unset] []))
      refine Go.step (fun t kk => XS.goto X8.here hx rfl (pc0 := 28) (pc' := 51) rfl (hb hby at_28) (by decide) (by decide) kk) ?_
      show Go p e below s _ _ _ (T8.setTop (mkF m 51 #[.val (.int p1), .val (.int (p1 &&& (3 : Int32))), .val (.ref a2), .val (.int (0 : Int32)), .unset] []))
      refine Go.step (fun t kk => XS.aloadN X8.here hx rfl (hb hby at_51) rfl rfl kk) ?_
      show Go p e below s _ _ _ (T8.setTop (mkF m 52 #[.val (.int p1), .val (.int (p1 &&& (3 : Int32))), .val (.ref a2), .val (.int (0 : Int32)), .unset] [(.ref a2)]))
      refine Go.callV X8 hx hZ hown (hw _ (List.mem_of_getElem? (i := 3) rfl)) (hw _ (List.mem_of_getElem? (i := 4) rfl)) (hw _ (List.mem_of_getElem? (i := 6) rfl)) (hw _ (List.mem_of_getElem? (i := 5) rfl)) (hw _ (List.mem_of_getElem? (i := 1) rfl)) (hw _ (List.mem_of_getElem? (i := 7) rfl)) (by decide) e8 E_a2 [] [] 0 (rm_al l Z a0 hw a2 1 h0 n0 F_a2_sharesMessages) (by decide) (by decide) (by decide) (by decide) (by rw [hml]; rfl) (lenOf own_pd0 rfl) rfl (Nat.le_of_eq rfl) (hb hby at_52) ?_
      intro T9 v9 L9 X9 hQ9
      obtain ⟨rfl, rfl, e9⟩ := hQ9
      have N9 := Fr.app N0 (Fr.nil n0)
      show Go p e below s _ _ _ (T9.setTop (mkF m 55 #[.val (.int p1), .val (.int (p1 &&& (3 : Int32))), .val (.ref a2), .val (.int (0 : Int32)), .unset] [(.int (0 : Int32))]))
      refine Go.step (fun t kk => XS.istore X9.here hx rfl (hb hby at_55) rfl (l' := #[.val (.int p1), .val (.int (p1 &&& (3 : Int32))), .val (.ref a2), .val (.int (0 : Int32)), .val (.int (0 : Int32))]) rfl kk) ?_
      show Go p e below s _ _ _ (T9.setTop (mkF m 57 #[.val (.int p1), .val (.int (p1 &&& (3 : Int32))), .val (.ref a2), .val (.int (0 : Int32)), .val (.int (0 : Int32))] []))
      refine Go.step (fun t kk => XS.iload X9.here hx rfl (hb hby at_57) rfl kk) ?_
      show Go p e below s _ _ _ (T9.setTop (mkF m 59 #[.val (.int p1), .val (.int (p1 &&& (3 : Int32))), .val (.ref a2), .val (.int (0 : Int32)), .val (.int (0 : Int32))] [(.int (0 : Int32))]))
      refine Go.step (fun t kk => XS.iloadN X9.here hx rfl (hb hby at_59) rfl kk) ?_
      show Go p e below s _ _ _ (T9.setTop (mkF m 60 #[.val (.int p1), .val (.int (p1 &&& (3 : Int32))), .val (.ref a2), .val (.int (0 : Int32)), .val (.int (0 : Int32))] [(.int (0 : Int32)), (.int (0 : Int32))]))
      have hc60_10 : (0 : Int32) = (0 : Int32) := rfl
      refine Go.step (fun t kk => XS.icmpNo X9.here hx rfl (hb hby at_60) rfl (teq hc60_10).2 kk) ?_
      show Go p e below s _ _ _ (T9.setTop (mkF m 63 #[.val (.int p1), .val (.int (p1 &&& (3 : Int32))), .val (.ref a2), .val (.int (0 : Int32)), .val (.int (0 : Int32))] []))
      refine Go.step (fun t kk => XS.iload X9.here hx rfl (hb hby at_63) rfl kk) ?_
      show Go p e below s _ _ _ (T9.setTop (mkF m 65 #[.val (.int p1), .val (.int (p1 &&& (3 : Int32))), .val (.ref a2), .val (.int (0 : Int32)), .val (.int (0 : Int32))] [(.int (0 : Int32))]))
      refine Go.step (fun t kk => XS.aloadN X9.here hx rfl (hb hby at_65) rfl rfl kk) ?_
      show Go p e below s _ _ _ (T9.setTop (mkF m 66 #[.val (.int p1), .val (.int (p1 &&& (3 : Int32))), .val (.ref a2), .val (.int (0 : Int32)), .val (.int (0 : Int32))] [(.ref a2), (.int (0 : Int32))]))
      refine Go.callV X9 hx hZ hown (hw _ (List.mem_of_getElem? (i := 10) rfl)) (hw _ (List.mem_of_getElem? (i := 11) rfl)) (hw _ (List.mem_of_getElem? (i := 13) rfl)) (hw _ (List.mem_of_getElem? (i := 12) rfl)) (hw _ (List.mem_of_getElem? (i := 1) rfl)) (hw _ (List.mem_of_getElem? (i := 14) rfl)) (by decide) e9 E_a2 [] [(.int (0 : Int32))] 1 (rm_sh l Z a0 hw a2 1 h0 n0 F_a2_sharesMessages) (by decide) (by decide) (by decide) (by decide) (by rw [hml]; rfl) (lenOf own_pd0 rfl) rfl (Nat.le_of_eq rfl) (hb hby at_66) ?_
      intro T11 v11 L11 X11 hQ11
      obtain ⟨rfl, rfl, e11⟩ := hQ11
      have N11 := Fr.app N9 (Fr.nil n0)
      show Go p e below s _ _ _ (T11.setTop (mkF m 69 #[.val (.int p1), .val (.int (p1 &&& (3 : Int32))), .val (.ref a2), .val (.int (0 : Int32)), .val (.int (0 : Int32))] [(.int (1 : Int32)), (.int (0 : Int32))]))
      have hc69_12 : ¬ ((0 : Int32) = (1 : Int32)) := by decide
      refine Go.step (fun t kk => XS.icmpNo X11.here hx rfl (hb hby at_69) rfl (feq hc69_12).1 kk) ?_
      show Go p e below s _ _ _ (T11.setTop (mkF m 72 #[.val (.int p1), .val (.int (p1 &&& (3 : Int32))), .val (.ref a2), .val (.int (0 : Int32)), .val (.int (0 : Int32))] []))
      refine Go.step (fun t kk => XS.iconst X11.here hx rfl (hb hby at_72) kk) ?_
      show Go p e below s _ _ _ (T11.setTop (mkF m 73 #[.val (.int p1), .val (.int (p1 &&& (3 : Int32))), .val (.ref a2), .val (.int (0 : Int32)), .val (.int (0 : Int32))] [(.int (1 : Int32))]))
      refine Go.step (fun t kk => XS.goto X11.here hx rfl (pc0 := 73) (pc' := 77) rfl (hb hby at_73) (by decide) (by decide) kk) ?_
      show Go p e below s _ _ _ (T11.setTop (mkF m 77 #[.val (.int p1), .val (.int (p1 &&& (3 : Int32))), .val (.ref a2), .val (.int (0 : Int32)), .val (.int (0 : Int32))] [(.int (1 : Int32))]))
      exact Go.retN X11 hx hlk (t := .boolean) hret (by simp) (hb hby at_77) (show _ ∧ _ from ⟨rfl, N11⟩) (by decide) (by decide)
    · refine Go.step (fun t kk => XS.icmpYes X0.here hx rfl (pc0 := 19) (pc' := 31) rfl (hb hby at_19) rfl (feq hc19_7).2 (by decide) (by decide) kk) ?_
      show Go p e below s _ _ _ (T0.setTop (mkF m 31 #[.val (.int p1), .val (.int (p1 &&& (3 : Int32))), .unset, .unset, .unset] []))
      refine Go.step (fun t kk => XS.iloadN X0.here hx rfl (hb hby at_31) rfl kk) ?_
      show Go p e below s _ _ _ (T0.setTop (mkF m 32 #[.val (.int p1), .val (.int (p1 &&& (3 : Int32))), .unset, .unset, .unset] [(.int (p1 &&& (3 : Int32)))]))
      refine Go.step (fun t kk => XS.iconst X0.here hx rfl (hb hby at_32) kk) ?_
      show Go p e below s _ _ _ (T0.setTop (mkF m 33 #[.val (.int p1), .val (.int (p1 &&& (3 : Int32))), .unset, .unset, .unset] [(.int (2 : Int32)), (.int (p1 &&& (3 : Int32)))]))
      by_cases hc33_13 : (p1 &&& (3 : Int32)) = (2 : Int32)
      · refine Go.step (fun t kk => XS.icmpNo X0.here hx rfl (hb hby at_33) rfl (teq hc33_13).2 kk) ?_
        show Go p e below s _ _ _ (T0.setTop (mkF m 36 #[.val (.int p1), .val (.int (p1 &&& (3 : Int32))), .unset, .unset, .unset] []))
        obtain ⟨T14, X14, e14, st14⟩ := getS (host := "") X0 hx hZ hown (hw _ (List.mem_of_getElem? (i := 17) rfl)) Via.refl e0 S_a3 (g := (mkF m 36 #[.val (.int p1), .val (.int (p1 &&& (3 : Int32))), .unset, .unset, .unset] [])) rfl (hb hby at_36)
        refine Go.step st14 ?_
        show Go p e below s _ _ _ (T14.setTop (mkF m 39 #[.val (.int p1), .val (.int (p1 &&& (3 : Int32))), .unset, .unset, .unset] [(.ref a3)]))
        refine Go.step (fun t kk => XS.astoreN X14.here hx rfl (hb hby at_39) rfl rfl (l' := #[.val (.int p1), .val (.int (p1 &&& (3 : Int32))), .val (.ref a3), .unset, .unset]) rfl kk) ?_
        show Go p e below s _ _ _ (T14.setTop (mkF m 40 #[.val (.int p1), .val (.int (p1 &&& (3 : Int32))), .val (.ref a3), .unset, .unset] []))
        refine Go.step (fun t kk => XS.iconst X14.here hx rfl (hb hby at_40) kk) ?_
        show Go p e below s _ _ _ (T14.setTop (mkF m 41 #[.val (.int p1), .val (.int (p1 &&& (3 : Int32))), .val (.ref a3), .unset, .unset] [(.int (1 : Int32))]))
        refine Go.step (fun t kk => XS.istoreN X14.here hx rfl (hb hby at_41) rfl (l' := #[.val (.int p1), .val (.int (p1 &&& (3 : Int32))), .val (.ref a3), .val (.int (1 : Int32)), .unset]) rfl kk) ?_
        show Go p e below s _ _ _ (T14.setTop (mkF m 42 #[.val (.int p1), .val (.int (p1 &&& (3 : Int32))), .val (.ref a3), .val (.int (1 : Int32)), .unset] []))
        refine Go.step (fun t kk => XS.goto X14.here hx rfl (pc0 := 42) (pc' := 51) rfl (hb hby at_42) (by decide) (by decide) kk) ?_
        show Go p e below s _ _ _ (T14.setTop (mkF m 51 #[.val (.int p1), .val (.int (p1 &&& (3 : Int32))), .val (.ref a3), .val (.int (1 : Int32)), .unset] []))
        refine Go.step (fun t kk => XS.aloadN X14.here hx rfl (hb hby at_51) rfl rfl kk) ?_
        show Go p e below s _ _ _ (T14.setTop (mkF m 52 #[.val (.int p1), .val (.int (p1 &&& (3 : Int32))), .val (.ref a3), .val (.int (1 : Int32)), .unset] [(.ref a3)]))
        refine Go.callV X14 hx hZ hown (hw _ (List.mem_of_getElem? (i := 3) rfl)) (hw _ (List.mem_of_getElem? (i := 4) rfl)) (hw _ (List.mem_of_getElem? (i := 6) rfl)) (hw _ (List.mem_of_getElem? (i := 5) rfl)) (hw _ (List.mem_of_getElem? (i := 1) rfl)) (hw _ (List.mem_of_getElem? (i := 7) rfl)) (by decide) e14 E_a3 [] [] 0 (rm_al l Z a0 hw a3 0 h0 n0 F_a3_sharesMessages) (by decide) (by decide) (by decide) (by decide) (by rw [hml]; rfl) (lenOf own_pd0 rfl) rfl (Nat.le_of_eq rfl) (hb hby at_52) ?_
        intro T15 v15 L15 X15 hQ15
        obtain ⟨rfl, rfl, e15⟩ := hQ15
        have N15 := Fr.app N0 (Fr.nil n0)
        show Go p e below s _ _ _ (T15.setTop (mkF m 55 #[.val (.int p1), .val (.int (p1 &&& (3 : Int32))), .val (.ref a3), .val (.int (1 : Int32)), .unset] [(.int (1 : Int32))]))
        refine Go.step (fun t kk => XS.istore X15.here hx rfl (hb hby at_55) rfl (l' := #[.val (.int p1), .val (.int (p1 &&& (3 : Int32))), .val (.ref a3), .val (.int (1 : Int32)), .val (.int (1 : Int32))]) rfl kk) ?_
        show Go p e below s _ _ _ (T15.setTop (mkF m 57 #[.val (.int p1), .val (.int (p1 &&& (3 : Int32))), .val (.ref a3), .val (.int (1 : Int32)), .val (.int (1 : Int32))] []))
        refine Go.step (fun t kk => XS.iload X15.here hx rfl (hb hby at_57) rfl kk) ?_
        show Go p e below s _ _ _ (T15.setTop (mkF m 59 #[.val (.int p1), .val (.int (p1 &&& (3 : Int32))), .val (.ref a3), .val (.int (1 : Int32)), .val (.int (1 : Int32))] [(.int (1 : Int32))]))
        refine Go.step (fun t kk => XS.iloadN X15.here hx rfl (hb hby at_59) rfl kk) ?_
        show Go p e below s _ _ _ (T15.setTop (mkF m 60 #[.val (.int p1), .val (.int (p1 &&& (3 : Int32))), .val (.ref a3), .val (.int (1 : Int32)), .val (.int (1 : Int32))] [(.int (1 : Int32)), (.int (1 : Int32))]))
        have hc60_16 : (1 : Int32) = (1 : Int32) := rfl
        refine Go.step (fun t kk => XS.icmpNo X15.here hx rfl (hb hby at_60) rfl (teq hc60_16).2 kk) ?_
        show Go p e below s _ _ _ (T15.setTop (mkF m 63 #[.val (.int p1), .val (.int (p1 &&& (3 : Int32))), .val (.ref a3), .val (.int (1 : Int32)), .val (.int (1 : Int32))] []))
        refine Go.step (fun t kk => XS.iload X15.here hx rfl (hb hby at_63) rfl kk) ?_
        show Go p e below s _ _ _ (T15.setTop (mkF m 65 #[.val (.int p1), .val (.int (p1 &&& (3 : Int32))), .val (.ref a3), .val (.int (1 : Int32)), .val (.int (1 : Int32))] [(.int (1 : Int32))]))
        refine Go.step (fun t kk => XS.aloadN X15.here hx rfl (hb hby at_65) rfl rfl kk) ?_
        show Go p e below s _ _ _ (T15.setTop (mkF m 66 #[.val (.int p1), .val (.int (p1 &&& (3 : Int32))), .val (.ref a3), .val (.int (1 : Int32)), .val (.int (1 : Int32))] [(.ref a3), (.int (1 : Int32))]))
        refine Go.callV X15 hx hZ hown (hw _ (List.mem_of_getElem? (i := 10) rfl)) (hw _ (List.mem_of_getElem? (i := 11) rfl)) (hw _ (List.mem_of_getElem? (i := 13) rfl)) (hw _ (List.mem_of_getElem? (i := 12) rfl)) (hw _ (List.mem_of_getElem? (i := 1) rfl)) (hw _ (List.mem_of_getElem? (i := 14) rfl)) (by decide) e15 E_a3 [] [(.int (1 : Int32))] 1 (rm_sh l Z a0 hw a3 0 h0 n0 F_a3_sharesMessages) (by decide) (by decide) (by decide) (by decide) (by rw [hml]; rfl) (lenOf own_pd0 rfl) rfl (Nat.le_of_eq rfl) (hb hby at_66) ?_
        intro T17 v17 L17 X17 hQ17
        obtain ⟨rfl, rfl, e17⟩ := hQ17
        have N17 := Fr.app N15 (Fr.nil n0)
        show Go p e below s _ _ _ (T17.setTop (mkF m 69 #[.val (.int p1), .val (.int (p1 &&& (3 : Int32))), .val (.ref a3), .val (.int (1 : Int32)), .val (.int (1 : Int32))] [(.int (0 : Int32)), (.int (1 : Int32))]))
        have hc69_18 : ¬ ((1 : Int32) = (0 : Int32)) := by decide
        refine Go.step (fun t kk => XS.icmpNo X17.here hx rfl (hb hby at_69) rfl (feq hc69_18).1 kk) ?_
        show Go p e below s _ _ _ (T17.setTop (mkF m 72 #[.val (.int p1), .val (.int (p1 &&& (3 : Int32))), .val (.ref a3), .val (.int (1 : Int32)), .val (.int (1 : Int32))] []))
        refine Go.step (fun t kk => XS.iconst X17.here hx rfl (hb hby at_72) kk) ?_
        show Go p e below s _ _ _ (T17.setTop (mkF m 73 #[.val (.int p1), .val (.int (p1 &&& (3 : Int32))), .val (.ref a3), .val (.int (1 : Int32)), .val (.int (1 : Int32))] [(.int (1 : Int32))]))
        refine Go.step (fun t kk => XS.goto X17.here hx rfl (pc0 := 73) (pc' := 77) rfl (hb hby at_73) (by decide) (by decide) kk) ?_
        show Go p e below s _ _ _ (T17.setTop (mkF m 77 #[.val (.int p1), .val (.int (p1 &&& (3 : Int32))), .val (.ref a3), .val (.int (1 : Int32)), .val (.int (1 : Int32))] [(.int (1 : Int32))]))
        exact Go.retN X17 hx hlk (t := .boolean) hret (by simp) (hb hby at_77) (show _ ∧ _ from ⟨rfl, N17⟩) (by decide) (by decide)
      · refine Go.step (fun t kk => XS.icmpYes X0.here hx rfl (pc0 := 33) (pc' := 45) rfl (hb hby at_33) rfl (feq hc33_13).2 (by decide) (by decide) kk) ?_
        show Go p e below s _ _ _ (T0.setTop (mkF m 45 #[.val (.int p1), .val (.int (p1 &&& (3 : Int32))), .unset, .unset, .unset] []))
        obtain ⟨T19, X19, e19, st19⟩ := getS (host := "") X0 hx hZ hown (hw _ (List.mem_of_getElem? (i := 15) rfl)) Via.refl e0 S_a4 (g := (mkF m 45 #[.val (.int p1), .val (.int (p1 &&& (3 : Int32))), .unset, .unset, .unset] [])) rfl (hb hby at_45)
        refine Go.step st19 ?_
        show Go p e below s _ _ _ (T19.setTop (mkF m 48 #[.val (.int p1), .val (.int (p1 &&& (3 : Int32))), .unset, .unset, .unset] [(.ref a4)]))
        refine Go.step (fun t kk => XS.astoreN X19.here hx rfl (hb hby at_48) rfl rfl (l' := #[.val (.int p1), .val (.int (p1 &&& (3 : Int32))), .val (.ref a4), .unset, .unset]) rfl kk) ?_
        show Go p e below s _ _ _ (T19.setTop (mkF m 49 #[.val (.int p1), .val (.int (p1 &&& (3 : Int32))), .val (.ref a4), .unset, .unset] []))
        refine Go.step (fun t kk => XS.iconst X19.here hx rfl (hb hby at_49) kk) ?_
        show Go p e below s _ _ _ (T19.setTop (mkF m 50 #[.val (.int p1), .val (.int (p1 &&& (3 : Int32))), .val (.ref a4), .unset, .unset] [(.int (0 : Int32))]))
        refine Go.step (fun t kk => XS.istoreN X19.here hx rfl (hb hby at_50) rfl (l' := #[.val (.int p1), .val (.int (p1 &&& (3 : Int32))), .val (.ref a4), .val (.int (0 : Int32)), .unset]) rfl kk) ?_
        show Go p e below s _ _ _ (T19.setTop (mkF m 51 #[.val (.int p1), .val (.int (p1 &&& (3 : Int32))), .val (.ref a4), .val (.int (0 : Int32)), .unset] []))
        refine Go.step (fun t kk => XS.aloadN X19.here hx rfl (hb hby at_51) rfl rfl kk) ?_
        show Go p e below s _ _ _ (T19.setTop (mkF m 52 #[.val (.int p1), .val (.int (p1 &&& (3 : Int32))), .val (.ref a4), .val (.int (0 : Int32)), .unset] [(.ref a4)]))
        refine Go.callV X19 hx hZ hown (hw _ (List.mem_of_getElem? (i := 3) rfl)) (hw _ (List.mem_of_getElem? (i := 4) rfl)) (hw _ (List.mem_of_getElem? (i := 6) rfl)) (hw _ (List.mem_of_getElem? (i := 5) rfl)) (hw _ (List.mem_of_getElem? (i := 1) rfl)) (hw _ (List.mem_of_getElem? (i := 7) rfl)) (by decide) e19 E_a4 [] [] 0 (rm_al l Z a0 hw a4 1 h0 n0 F_a4_sharesMessages) (by decide) (by decide) (by decide) (by decide) (by rw [hml]; rfl) (lenOf own_pd0 rfl) rfl (Nat.le_of_eq rfl) (hb hby at_52) ?_
        intro T20 v20 L20 X20 hQ20
        obtain ⟨rfl, rfl, e20⟩ := hQ20
        have N20 := Fr.app N0 (Fr.nil n0)
        show Go p e below s _ _ _ (T20.setTop (mkF m 55 #[.val (.int p1), .val (.int (p1 &&& (3 : Int32))), .val (.ref a4), .val (.int (0 : Int32)), .unset] [(.int (0 : Int32))]))
        refine Go.step (fun t kk => XS.istore X20.here hx rfl (hb hby at_55) rfl (l' := #[.val (.int p1), .val (.int (p1 &&& (3 : Int32))), .val (.ref a4), .val (.int (0 : Int32)), .val (.int (0 : Int32))]) rfl kk) ?_
        show Go p e below s _ _ _ (T20.setTop (mkF m 57 #[.val (.int p1), .val (.int (p1 &&& (3 : Int32))), .val (.ref a4), .val (.int (0 : Int32)), .val (.int (0 : Int32))] []))
        refine Go.step (fun t kk => XS.iload X20.here hx rfl (hb hby at_57) rfl kk) ?_
        show Go p e below s _ _ _ (T20.setTop (mkF m 59 #[.val (.int p1), .val (.int (p1 &&& (3 : Int32))), .val (.ref a4), .val (.int (0 : Int32)), .val (.int (0 : Int32))] [(.int (0 : Int32))]))
        refine Go.step (fun t kk => XS.iloadN X20.here hx rfl (hb hby at_59) rfl kk) ?_
        show Go p e below s _ _ _ (T20.setTop (mkF m 60 #[.val (.int p1), .val (.int (p1 &&& (3 : Int32))), .val (.ref a4), .val (.int (0 : Int32)), .val (.int (0 : Int32))] [(.int (0 : Int32)), (.int (0 : Int32))]))
        have hc60_21 : (0 : Int32) = (0 : Int32) := rfl
        refine Go.step (fun t kk => XS.icmpNo X20.here hx rfl (hb hby at_60) rfl (teq hc60_21).2 kk) ?_
        show Go p e below s _ _ _ (T20.setTop (mkF m 63 #[.val (.int p1), .val (.int (p1 &&& (3 : Int32))), .val (.ref a4), .val (.int (0 : Int32)), .val (.int (0 : Int32))] []))
        refine Go.step (fun t kk => XS.iload X20.here hx rfl (hb hby at_63) rfl kk) ?_
        show Go p e below s _ _ _ (T20.setTop (mkF m 65 #[.val (.int p1), .val (.int (p1 &&& (3 : Int32))), .val (.ref a4), .val (.int (0 : Int32)), .val (.int (0 : Int32))] [(.int (0 : Int32))]))
        refine Go.step (fun t kk => XS.aloadN X20.here hx rfl (hb hby at_65) rfl rfl kk) ?_
        show Go p e below s _ _ _ (T20.setTop (mkF m 66 #[.val (.int p1), .val (.int (p1 &&& (3 : Int32))), .val (.ref a4), .val (.int (0 : Int32)), .val (.int (0 : Int32))] [(.ref a4), (.int (0 : Int32))]))
        refine Go.callV X20 hx hZ hown (hw _ (List.mem_of_getElem? (i := 10) rfl)) (hw _ (List.mem_of_getElem? (i := 11) rfl)) (hw _ (List.mem_of_getElem? (i := 13) rfl)) (hw _ (List.mem_of_getElem? (i := 12) rfl)) (hw _ (List.mem_of_getElem? (i := 1) rfl)) (hw _ (List.mem_of_getElem? (i := 14) rfl)) (by decide) e20 E_a4 [] [(.int (0 : Int32))] 1 (rm_sh l Z a0 hw a4 1 h0 n0 F_a4_sharesMessages) (by decide) (by decide) (by decide) (by decide) (by rw [hml]; rfl) (lenOf own_pd0 rfl) rfl (Nat.le_of_eq rfl) (hb hby at_66) ?_
        intro T22 v22 L22 X22 hQ22
        obtain ⟨rfl, rfl, e22⟩ := hQ22
        have N22 := Fr.app N20 (Fr.nil n0)
        show Go p e below s _ _ _ (T22.setTop (mkF m 69 #[.val (.int p1), .val (.int (p1 &&& (3 : Int32))), .val (.ref a4), .val (.int (0 : Int32)), .val (.int (0 : Int32))] [(.int (1 : Int32)), (.int (0 : Int32))]))
        have hc69_23 : ¬ ((0 : Int32) = (1 : Int32)) := by decide
        refine Go.step (fun t kk => XS.icmpNo X22.here hx rfl (hb hby at_69) rfl (feq hc69_23).1 kk) ?_
        show Go p e below s _ _ _ (T22.setTop (mkF m 72 #[.val (.int p1), .val (.int (p1 &&& (3 : Int32))), .val (.ref a4), .val (.int (0 : Int32)), .val (.int (0 : Int32))] []))
        refine Go.step (fun t kk => XS.iconst X22.here hx rfl (hb hby at_72) kk) ?_
        show Go p e below s _ _ _ (T22.setTop (mkF m 73 #[.val (.int p1), .val (.int (p1 &&& (3 : Int32))), .val (.ref a4), .val (.int (0 : Int32)), .val (.int (0 : Int32))] [(.int (1 : Int32))]))
        refine Go.step (fun t kk => XS.goto X22.here hx rfl (pc0 := 73) (pc' := 77) rfl (hb hby at_73) (by decide) (by decide) kk) ?_
        show Go p e below s _ _ _ (T22.setTop (mkF m 77 #[.val (.int p1), .val (.int (p1 &&& (3 : Int32))), .val (.ref a4), .val (.int (0 : Int32)), .val (.int (0 : Int32))] [(.int (1 : Int32))]))
        exact Go.retN X22 hx hlk (t := .boolean) hret (by simp) (hb hby at_77) (show _ ∧ _ from ⟨rfl, N22⟩) (by decide) (by decide)
set_option maxRecDepth 65536 in
set_option maxHeartbeats 40000000 in
theorem comes_1 {Post : Tables → Env → Array Value → State → Outcome → State → Prop} (hpost : ∀ tb e args s v u, (limb_1_1.after args s (.returned v) u = true ∧ limb_1_2.after args s (.returned v) u = true ∧ True) → FrameEnd s (.returned v) u (Jvm.fieldLocs frame_1_writes args s ++ Jvm.arrayLocs frame_1_arrays args s ++ Jvm.staticLocs frame_1_statics s) 0 0 → Post tb e args s (.returned v) u) :
    ArmFor flags0 classFile x code maxLocals ret World_1 tables_1 room_1 Calls_1 rest_1 Pre_1 Post := by
  intro l hfl _ _ p e ha hc hk s m args below hf hA hF happ hP
  obtain ⟨hcalls, hrest, hpre⟩ := hP
  obtain ⟨-, -, -, hnamed, -, -, -, hat⟩ := (Spec.applies_iff hf).mp happ
  obtain ⟨hg, hn⟩ := and_e (Cond.before_iff.mp (show (Jvm.Cond.and given_1 narrow_1).before args s = true from hpre))
  obtain ⟨hcount, r0⟩ := and_e hg
  have g0 := r0
  obtain ⟨w0, rfl⟩ : ∃ w0 : Value, args = #[w0] := by
    have hs : args.size = 1 := by simpa [Cond.value, given_1] using hcount
    obtain ⟨L⟩ := args
    match L, hs with
    | [w0], _ => exact ⟨w0, rfl⟩
  have hw := fun d (hd : d ∈ tables_1) => atoms_spec (ws := Jvm.Cond.code x code maxLocals ret :: tables_1) hat d (List.mem_cons_of_mem _ hd)
  obtain ⟨i0, ea0⟩ := is_v g0
  obtain rfl : w0 = (.int i0) := Option.some.inj ea0
  obtain ⟨q0, t0⟩ := and_e hn
  obtain ⟨q1, t1⟩ := and_e t0
  obtain ⟨q2, t2⟩ := and_e t1
  obtain ⟨q3, t3⟩ := and_e t2
  obtain ⟨q4, t4⟩ := and_e t3
  obtain ⟨q5, t5⟩ := and_e t4
  obtain ⟨q6, t6⟩ := and_e t5
  have q7 := t6
  obtain ⟨a1, ev_a1⟩ := exa_v q0
  have E_a1 := Exa.start ev_a1 q0
  have S_a1 := Sta.start ev_a1 (Or.inr ⟨(hw _ (List.mem_of_getElem? (i := 1) rfl)), (hw _ (List.mem_of_getElem? (i := 2) rfl))⟩)
  obtain ⟨a4, ev_a4⟩ := exa_v q2
  have E_a4 := Exa.start ev_a4 q2
  have S_a4 := Sta.start ev_a4 (Or.inr ⟨(hw _ (List.mem_of_getElem? (i := 1) rfl)), (hw _ (List.mem_of_getElem? (i := 16) rfl))⟩)
  obtain ⟨a3, ev_a3⟩ := exa_v q4
  have E_a3 := Exa.start ev_a3 q4
  have S_a3 := Sta.start ev_a3 (Or.inr ⟨(hw _ (List.mem_of_getElem? (i := 1) rfl)), (hw _ (List.mem_of_getElem? (i := 18) rfl))⟩)
  obtain ⟨a2, ev_a2⟩ := exa_v q6
  have E_a2 := Exa.start ev_a2 q6
  have S_a2 := Sta.start ev_a2 (Or.inr ⟨(hw _ (List.mem_of_getElem? (i := 1) rfl)), (hw _ (List.mem_of_getElem? (i := 20) rfl))⟩)
  have F_a1_sharesMessages := own_fldI ev_a1 q1
  have F_a4_sharesMessages := own_fldI ev_a4 q3
  have F_a3_sharesMessages := own_fldI ev_a3 q5
  have F_a2_sharesMessages := own_fldI ev_a2 q7
  obtain ⟨n, o, h1, h2, h3, _, L, rfl, ⟨rfl, N⟩, hq⟩ := rm_law l s _ hw i0 a1 a2 a3 a4 s.heap s.heap.size S_a1 S_a2 S_a3 S_a4 E_a1 E_a2 E_a3 E_a4 F_a1_sharesMessages F_a2_sharesMessages F_a3_sharesMessages F_a4_sharesMessages tables_1 p e ha hc hk s m _ below hf ((Spec.applies_iff_loose hf).mp happ).1 ⟨rfl, State.Warmed39.refl s, rfl⟩ trivial
  refine ⟨n, _, h1, h2, h3, hpost _ _ _ _ _ _ ⟨Cond.after_iff.mpr rfl, Cond.after_iff.mpr (eq_i res_at (Term.int_eval (1)) rfl), trivial⟩ ⟨hq.1, hq.2.1, (hq.2.2.sift fun y hy => Or.inr (N y hy)).mono (by decide) (by decide)⟩⟩
theorem main_1_1 : Claimed_1_1 := comes_1 fun _ _ _ _ _ _ h hF => ⟨h.1, hF⟩
theorem main_1_2 : Claimed_1_2 := comes_1 fun _ _ _ _ _ _ h hF => ⟨h.2.1, hF⟩
end Jvm.Pilot.@@N@@
namespace Jvm.Pilot.@@N@@
open Jvm Jvm.ClassFile Sem Op Lib Jvm.Free Jvm.Stand Jvm.Pilot.@@N@@.Jvm.D
/-! MADE BY PROGRAM (witnessworld.py) out of the Statement's table words and the real class files: 12 classes; the members and pool entries that the words name. The judged class is class 1, her method 1. -/
namespace start1
open Jvm.ClassFile
def u (s : String) : CpInfo := .utf8 (stringToUtf16 s)
/-- a pool by its gaps: so many unusable entries, then the entry; so many at the end -/
def gap : Nat → List CpInfo → List CpInfo
  | 0, r => r
  | n + 1, r => .unusable :: gap n r
def poolList (es : List (Nat × CpInfo)) (last : Nat) : List CpInfo := es.foldr (fun e r => gap e.1 (e.2 :: r)) (gap last [])
def pool (es : List (Nat × CpInfo)) (last : Nat) : Array CpInfo := ⟨poolList es last⟩
def fileOf (pool : Array CpInfo) (this : Nat) (attrs : Array Attribute := #[]) (ms : Array MethodInfo := #[]) (fl : Nat := 33) (sup : Nat := 0) (ifs : Array Nat := #[]) (fds : Array FieldInfo := #[]) : ClassFile where
  minorVersion := 0
  majorVersion := 65
  constantPool := pool
  accessFlags := fl
  thisClass := this
  superClass := sup
  interfaces := ifs
  fields := fds
  methods := ms
  attributes := attrs
def plain (name : String) (sup : Option ClassId) : Class where
  name := name
  kind := .ordinary
  loader := none
  accessFlags := 33
  super := sup
  interfaces := #[]
  cf := none
  fields := #[]
  methods := #[]
  instanceTypes := #[]
  staticTypes := #[]
  resolved := #[]
  callSites := []
  init := .initialized
  statics := none
  mirror := none

def pool0 : Array CpInfo := pool [(5, u "<init>"), (0, u "()V"), (1, .class_ 10), (1, u "java/lang/Object")] 113

def k0m0 : Method := { name := "<init>", desc := "()V", sig := { parameters := [], returnType := none }, accessFlags := 1, code := none }
/-- java/lang/Object -/
def k0 : Class := { plain "java/lang/Object" none with
  accessFlags := 33
  interfaces := #[]
  cf := some (fileOf pool0 8 #[] #[{ accessFlags := 1, nameIndex := 5, descriptorIndex := 6, attributes := #[] }] 33 0 #[] #[])
  fields := #[]
  methods := #[k0m0]
  instanceTypes := #[]
  staticTypes := #[]
  resolved := Array.replicate 124 none
  statics := none }

def pool1 : Array CpInfo := pool [(2, .class_ 4), (1, u "java/lang/Object"), (0, u "<init>"), (0, u "()V"), (0, .fieldref 8 9), (0, .class_ 10), (0, .nameAndType 11 12), (0, u "com/example/pubsume/pubsume/common/SubscriptionType"), (0, u "Exclusive"), (0, u "Lcom/example/pubsume/pubsume/common/SubscriptionType;"), (0, .fieldref 8 14), (0, .nameAndType 15 12), (0, u "Shared"), (0, .fieldref 8 17), (0, .nameAndType 18 12), (0, u "Failover"), (0, .fieldref 8 20), (0, .nameAndType 21 12), (0, u "Key_Shared"), (0, .methodref 8 23), (0, .nameAndType 24 25), (0, u "allowsCumulativeAck"), (0, u "()Z"), (0, .methodref 8 27), (0, .nameAndType 28 25), (0, u "sharesMessages"), (0, .class_ 30), (0, u "com/example/pubsume/pubsume/common/SubscriptionTypeAllowsCumulativeAckPinLaw"), (2, u "law"), (0, u "(I)Z")] 3

def k1m0 : Method := { name := "<init>", desc := "()V", sig := { parameters := [], returnType := none }, accessFlags := 2, code := none }
def k1c1 : Code := { maxStack := 2, maxLocals := 5, code := code, exceptionTable := #[], attributes := #[] }
def k1m1 : Method := { name := "law", desc := "(I)Z", sig := { parameters := [.int], returnType := some .boolean }, accessFlags := 9, code := some k1c1 }
/-- com/example/pubsume/pubsume/common/SubscriptionTypeAllowsCumulativeAckPinLaw -/
def k1 : Class := { plain "com/example/pubsume/pubsume/common/SubscriptionTypeAllowsCumulativeAckPinLaw" (some 0) with
  accessFlags := 49
  interfaces := #[]
  cf := some (fileOf pool1 29 #[] #[{ accessFlags := 2, nameIndex := 5, descriptorIndex := 6, attributes := #[] }, { accessFlags := 9, nameIndex := 33, descriptorIndex := 34, attributes := #[] }] 49 2 #[] #[])
  fields := #[]
  methods := #[k1m0, k1m1]
  instanceTypes := #[]
  staticTypes := #[]
  resolved := Array.replicate 38 none
  statics := none }

def pool2 : Array CpInfo := pool [(1, .class_ 2), (0, u "java/lang/constant/Constable"), (0, .class_ 4), (0, u "java/lang/Object")] 6

/-- java/lang/constant/Constable -/
def k2 : Class := { plain "java/lang/constant/Constable" (some 0) with
  accessFlags := 1537
  interfaces := #[]
  cf := some (fileOf pool2 1 #[] #[] 1537 3 #[] #[])
  fields := #[]
  methods := #[]
  instanceTypes := #[]
  staticTypes := #[]
  resolved := Array.replicate 11 none
  statics := none }

def pool3 : Array CpInfo := pool [(1, .class_ 2), (0, u "java/lang/Comparable"), (0, .class_ 4), (0, u "java/lang/Object")] 7

/-- java/lang/Comparable -/
def k3 : Class := { plain "java/lang/Comparable" (some 0) with
  accessFlags := 1537
  interfaces := #[]
  cf := some (fileOf pool3 1 #[] #[] 1537 3 #[] #[])
  fields := #[]
  methods := #[]
  instanceTypes := #[]
  staticTypes := #[]
  resolved := Array.replicate 12 none
  statics := none }

def pool4 : Array CpInfo := pool [(1, .class_ 2), (0, u "java/io/Serializable"), (0, .class_ 4), (0, u "java/lang/Object")] 2

/-- java/io/Serializable -/
def k4 : Class := { plain "java/io/Serializable" (some 0) with
  accessFlags := 1537
  interfaces := #[]
  cf := some (fileOf pool4 1 #[] #[] 1537 3 #[] #[])
  fields := #[]
  methods := #[]
  instanceTypes := #[]
  staticTypes := #[]
  resolved := Array.replicate 7 none
  statics := none }

def pool5 : Array CpInfo := pool [(2, .class_ 4), (1, u "java/lang/Enum"), (0, u "name"), (0, u "Ljava/lang/String;"), (2, u "ordinal"), (0, u "I"), (1, .class_ 14), (1, u "java/lang/Object"), (4, u "hash"), (86, .class_ 108), (1, u "java/lang/Enum$EnumDesc"), (2, .class_ 112), (0, u "java/lang/constant/Constable"), (0, .class_ 114), (0, u "java/lang/Comparable"), (0, .class_ 116), (0, u "java/io/Serializable")] 87

/-- java/lang/Enum -/
def k5 : Class := { plain "java/lang/Enum" (some 0) with
  accessFlags := 1057
  interfaces := #[2, 3, 4]
  cf := some (fileOf pool5 2 #[.nestMembers #[106]] #[] 1057 12 #[111, 113, 115] #[{ accessFlags := 18, nameIndex := 5, descriptorIndex := 6, attributes := #[] }, { accessFlags := 18, nameIndex := 9, descriptorIndex := 10, attributes := #[] }, { accessFlags := 2, nameIndex := 19, descriptorIndex := 10, attributes := #[] }])
  fields := #[{ name := "name", type := (.object "java/lang/String"), accessFlags := 18, slot := 0, constantValue := 0 }, { name := "ordinal", type := .int, accessFlags := 18, slot := 1, constantValue := 0 }, { name := "hash", type := .int, accessFlags := 2, slot := 2, constantValue := 0 }]
  methods := #[]
  instanceTypes := #[(.object "java/lang/String"), .int, .int]
  staticTypes := #[]
  resolved := Array.replicate 204 none
  statics := none }

def pool6 : Array CpInfo := pool [(1, .class_ 2), (0, u "com/example/pubsume/pubsume/common/SubscriptionType"), (2, u "Exclusive"), (0, u "Lcom/example/pubsume/pubsume/common/SubscriptionType;"), (2, u "Shared"), (2, u "Failover"), (2, u "Key_Shared"), (2, u "$VALUES"), (0, u "[Lcom/example/pubsume/pubsume/common/SubscriptionType;"), (6, .class_ 28), (1, u "java/lang/Enum"), (8, u "code"), (0, u "I"), (0, .fieldref 1 40), (0, .nameAndType 41 42), (0, u "sharesMessages"), (0, u "Z"), (30, u "()Z"), (0, u "allowsCumulativeAck")] 23

def k6c0 : Code := { maxStack := 1, maxLocals := 1, code := prog_31_method_5_code, exceptionTable := #[], attributes := #[] }
def k6m0 : Method := { name := "sharesMessages", desc := "()Z", sig := { parameters := [], returnType := some .boolean }, accessFlags := 1, code := some k6c0 }
def k6c1 : Code := { maxStack := 1, maxLocals := 1, code := prog_31_method_6_code, exceptionTable := #[], attributes := #[] }
def k6m1 : Method := { name := "allowsCumulativeAck", desc := "()Z", sig := { parameters := [], returnType := some .boolean }, accessFlags := 1, code := some k6c1 }
/-- com/example/pubsume/pubsume/common/SubscriptionType -/
def k6 : Class := { plain "com/example/pubsume/pubsume/common/SubscriptionType" (some 5) with
  accessFlags := 16433
  interfaces := #[]
  cf := some (fileOf pool6 1 #[] #[{ accessFlags := 1, nameIndex := 41, descriptorIndex := 73, attributes := #[] }, { accessFlags := 1, nameIndex := 74, descriptorIndex := 73, attributes := #[] }] 16433 26 #[] #[{ accessFlags := 16409, nameIndex := 5, descriptorIndex := 6, attributes := #[] }, { accessFlags := 16409, nameIndex := 9, descriptorIndex := 6, attributes := #[] }, { accessFlags := 16409, nameIndex := 12, descriptorIndex := 6, attributes := #[] }, { accessFlags := 16409, nameIndex := 15, descriptorIndex := 6, attributes := #[] }, { accessFlags := 18, nameIndex := 37, descriptorIndex := 38, attributes := #[] }, { accessFlags := 18, nameIndex := 41, descriptorIndex := 42, attributes := #[] }, { accessFlags := 4122, nameIndex := 18, descriptorIndex := 19, attributes := #[] }])
  fields := #[{ name := "Exclusive", type := (.object "com/example/pubsume/pubsume/common/SubscriptionType"), accessFlags := 16409, slot := 0, constantValue := 0 }, { name := "Shared", type := (.object "com/example/pubsume/pubsume/common/SubscriptionType"), accessFlags := 16409, slot := 1, constantValue := 0 }, { name := "Failover", type := (.object "com/example/pubsume/pubsume/common/SubscriptionType"), accessFlags := 16409, slot := 2, constantValue := 0 }, { name := "Key_Shared", type := (.object "com/example/pubsume/pubsume/common/SubscriptionType"), accessFlags := 16409, slot := 3, constantValue := 0 }, { name := "code", type := .int, accessFlags := 18, slot := 3, constantValue := 0 }, { name := "sharesMessages", type := .boolean, accessFlags := 18, slot := 4, constantValue := 0 }, { name := "$VALUES", type := (.array (.object "com/example/pubsume/pubsume/common/SubscriptionType")), accessFlags := 4122, slot := 4, constantValue := 0 }]
  methods := #[k6m0, k6m1]
  instanceTypes := #[(.object "java/lang/String"), .int, .int, .int, .boolean]
  staticTypes := #[(.object "com/example/pubsume/pubsume/common/SubscriptionType"), (.object "com/example/pubsume/pubsume/common/SubscriptionType"), (.object "com/example/pubsume/pubsume/common/SubscriptionType"), (.object "com/example/pubsume/pubsume/common/SubscriptionType"), (.array (.object "com/example/pubsume/pubsume/common/SubscriptionType"))]
  resolved := Array.replicate 98 none
  statics := some 0 }

def pool7 : Array CpInfo := pool [(1, u "java/lang/Cloneable"), (0, .class_ 1), (0, u "java/lang/Object"), (0, .class_ 3)] 3

/-- java/lang/Cloneable -/
def k7 : Class := { plain "java/lang/Cloneable" (some 0) with
  accessFlags := 1537
  interfaces := #[]
  cf := some (fileOf pool7 2 #[] #[] 1537 4 #[] #[])
  fields := #[]
  methods := #[]
  instanceTypes := #[]
  staticTypes := #[]
  resolved := Array.replicate 8 none
  statics := none }

/-- the primitive byte -/
def k8 : Class := { plain "byte" none with kind := .primitive 'B', accessFlags := 0x411 }
/-- [B -/
def k9 : Class := { plain "[B" (some 0) with kind := .array 8 .byte, interfaces := #[7, 4], accessFlags := 1041 }

/-- the primitive int -/
def k10 : Class := { plain "int" none with kind := .primitive 'I', accessFlags := 0x411 }
/-- [I -/
def k11 : Class := { plain "[I" (some 0) with kind := .array 10 .int, interfaces := #[7, 4], accessFlags := 1041 }

def heap : Heap := #[{ cls := 6, slots := #[.ref 1, .ref 2, .ref 3, .ref 4, .null], vm := .statics 6 },
  { cls := 6, slots := #[.null, .int 0, .int 0, .int 0, .int 0], vm := .none },
  { cls := 6, slots := #[.null, .int 1, .int 0, .int 1, .int 1], vm := .none },
  { cls := 6, slots := #[.null, .int 2, .int 0, .int 2, .int 0], vm := .none },
  { cls := 6, slots := #[.null, .int 3, .int 0, .int 3, .int 1], vm := .none }]
def classes : Array Class := #[k0, k1, k2, k3, k4, k5, k6, k7, k8, k9, k10, k11]
def interned : List (Array UInt16 × Addr) := []
def slotsUsed : Nat := 25
def theMethod : MethodId := ⟨1, 1⟩
def args0 : Array Value := #[.int 5]
def aboutOver (below : List Frame) : State where
  vm := { classes := classes, interned := interned.toArray }
  heap := heap
  slotsUsed := slotsUsed
  threads := #[{ frames := .invoking theMethod args0 :: below }]
def below0 : List Frame := [.native { method := ⟨0, 0⟩, args := #[] }]
def about1 : State := aboutOver below0
def p0 : Program := .bare "" "" ""
def e0 : Env := launch0.env 0 0 0
theorem w_frames : about1.frames = Frame.invoking theMethod args0 :: below0 := rfl
set_option maxRecDepth 65536 in
theorem w_args : argsFit about1.vm theMethod args0 = true := by decide +kernel
set_option maxRecDepth 65536 in
theorem w_heap : heapFits about1 = true := by decide +kernel
set_option maxRecDepth 65536 in
theorem w_runnable : about1.curStatus? = some .runnable := by decide +kernel
set_option maxRecDepth 65536 in
theorem w_alone : about1.alone = true := by decide +kernel
set_option maxRecDepth 65536 in
theorem w_named : about1.methodNamed? x = some theMethod := by decide +kernel
set_option maxRecDepth 65536 in
theorem w_hears : about1.hears theMethod below0 = true := by decide +kernel
set_option maxRecDepth 65536 in
theorem w_ripe : about1.ripe theMethod args0 below0 = true := by decide +kernel
theorem w_running : about1.status = .running := rfl
set_option maxRecDepth 65536 in
theorem w_room : about1.hasRoom e0.platform room_1 = true :=
  launch0.hasRoom_least _ room_1 (by decide +kernel) (by decide +kernel) (by decide +kernel) (by decide +kernel) (by decide +kernel) (by decide +kernel)
theorem allAtoms_all (ts : List Jvm.Cond) (a : Array Jvm.Value) (st : Jvm.State) : (allAtoms ts).before a st = ts.all (fun c => c.before a st) := by
  induction ts with
  | nil => rfl
  | cons c t ih =>
    show (Jvm.Cond.and c (allAtoms t)).before a st = _
    rw [Jvm.Cond.before_and, ih, List.all_cons]
def words1 : List Jvm.Cond := Jvm.Cond.code x code maxLocals ret :: tables_1
/-- a 'code' word, met by the world's own term for the bytes: nothing is compared byte by byte -/
theorem code_word {y : MethodName} {bytes : ByteArray} {mx : Nat} {rt : Option FieldType} {a : Array Value} {s : State} {m : MethodId} {meth : Method} {c : Code} (h1 : s.methodNamed? y = some m) (h2 : s.vm.method? m = some meth) (h3 : meth.code = some c) (h4 : c.code = bytes)
    (h5 : (c.maxLocals == mx && c.exceptionTable.isEmpty && decide (c.maxStack ≤ mostOperands) && decide (meth.sig.returnType = rt) && !meth.locks && decide (parseMethodDescriptor y.desc = some meth.sig)) = true) : (Jvm.Cond.code y bytes mx rt).before a s = true := by
  simp only [Bool.and_eq_true, beq_iff_eq, Bool.not_eq_true', decide_eq_true_eq] at h5
  obtain ⟨⟨⟨⟨⟨g1, g2⟩, g3⟩, g4⟩, g5⟩, g6⟩ := h5
  simp [Cond.before, Cond.holds, Cond.value, h1, h2, h3, h4, g1, g2, g3, g4, g5, g6]
def isCode : Jvm.Cond → Bool
  | .code _ _ _ _ => true
  | _ => false
theorem all_split {L : List Jvm.Cond} {P : Jvm.Cond → Bool} (h1 : L.all (fun c => isCode c || P c) = true) (h2 : ∀ c ∈ L.filter isCode, P c = true) : L.all P = true := by
  refine List.all_eq_true.mpr fun c hc => ?_
  have h := List.all_eq_true.mp h1 c hc
  rcases Bool.eq_false_or_eq_true (isCode c) with hi | hi
  · exact h2 c (List.mem_filter.mpr ⟨hc, hi⟩)
  · simpa [hi] using h
set_option maxRecDepth 65536 in
theorem w_c0 : (Jvm.Cond.code x code maxLocals ret).before args0 about1 = true := code_word (m := ⟨1, 1⟩) (meth := k1m1) (c := k1c1) (by decide +kernel) rfl rfl rfl (by decide +kernel)
set_option maxRecDepth 65536 in
theorem w_c1 : (Jvm.Cond.code ({ cls := "com/example/pubsume/pubsume/common/SubscriptionType", name := "allowsCumulativeAck", desc := "()Z" } : Jvm.MethodName) prog_31_method_6_code (1 : Nat) (Option.some Jvm.ClassFile.FieldType.boolean)).before args0 about1 = true := code_word (m := ⟨6, 1⟩) (meth := k6m1) (c := k6c1) (by decide +kernel) rfl rfl rfl (by decide +kernel)
set_option maxRecDepth 65536 in
theorem w_c2 : (Jvm.Cond.code ({ cls := "com/example/pubsume/pubsume/common/SubscriptionType", name := "sharesMessages", desc := "()Z" } : Jvm.MethodName) prog_31_method_5_code (1 : Nat) (Option.some Jvm.ClassFile.FieldType.boolean)).before args0 about1 = true := code_word (m := ⟨6, 0⟩) (meth := k6m0) (c := k6c0) (by decide +kernel) rfl rfl rfl (by decide +kernel)
def codes1 : List Jvm.Cond := [Jvm.Cond.code x code maxLocals ret, Jvm.Cond.code ({ cls := "com/example/pubsume/pubsume/common/SubscriptionType", name := "allowsCumulativeAck", desc := "()Z" } : Jvm.MethodName) prog_31_method_6_code (1 : Nat) (Option.some Jvm.ClassFile.FieldType.boolean), Jvm.Cond.code ({ cls := "com/example/pubsume/pubsume/common/SubscriptionType", name := "sharesMessages", desc := "()Z" } : Jvm.MethodName) prog_31_method_5_code (1 : Nat) (Option.some Jvm.ClassFile.FieldType.boolean)]
set_option maxRecDepth 65536 in
theorem codes_eq : words1.filter isCode = codes1 := rfl
theorem w_codes : ∀ c ∈ words1.filter isCode, c.before args0 about1 = true := by
  rw [codes_eq]
  intro c hc
  simp only [codes1, List.mem_cons, List.not_mem_nil, or_false] at hc
  rcases hc with rfl | rfl | rfl
  · exact w_c0
  · exact w_c1
  · exact w_c2
set_option maxRecDepth 65536 in
theorem w_t1 : words1.all (fun c => isCode c || c.before args0 about1) = true := by decide +kernel
theorem w_tables : (allAtoms (Jvm.Cond.code x code maxLocals ret :: tables_1)).before args0 about1 = true := by
  rw [allAtoms_all]
  show words1.all (fun c => c.before args0 about1) = true
  refine all_split ?_ w_codes
  rw [w_t1]
set_option maxRecDepth 65536 in
theorem w_case : (Jvm.Cond.and given_1 narrow_1).before args0 about1 = true := by decide +kernel
theorem w_applies : (headSpec (Jvm.Cond.code x code maxLocals ret :: tables_1) room_1).applies x e0.platform about1 = true :=
  (Spec.applies_iff w_frames).mpr ⟨w_running, w_runnable, w_alone, w_named, w_hears, w_ripe, w_room, w_tables⟩
theorem atStart : AtStart classFile x code maxLocals ret World_1 tables_1 room_1 Calls_1 rest_1 Pre_1 launch0 p0 e0 about1 theMethod args0 below0 :=
  ⟨lists_1, trivial, launch0.admits_env _ _ _, launch0.least_env, fairChoices_fair.cas, fairChoices_fair.clock, w_frames, w_args, w_heap, w_applies, trivial, trivial, w_case⟩
end start1
theorem witness_1 : WitnessClaimed_1 := ⟨start1.p0, start1.e0, start1.about1, start1.theMethod, start1.args0, start1.below0, start1.atStart⟩
end Jvm.Pilot.@@N@@
