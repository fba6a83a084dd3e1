import JvmDerived
import JvmDerived.Pilot.@@N@@Statement
import JvmDerived.Pilot.@@N@@Code
set_option linter.unusedVariables false
set_option linter.unusedSimpArgs false
namespace Jvm.Pilot.@@N@@
open Jvm Jvm.ClassFile Sem Op Lib Jvm.Free Jvm.Stand Jvm.LawKit Jvm.RoadKit Bundle Jvm.Pilot.@@N@@.Jvm.D
section OwnKit
variable {p : Program} {l : Launch} {e : Env} {R : Room} {s : State} {m : MethodId} {args : Array Value} {below : List Frame} {meth : Method} {c : Code} {T : State} {locs : List Loc} {cells slots : Nat} {Z : State} {a0 : Array Value} {h : Heap} {Q : Option Value → Heap → List Loc → Prop} {k n : Nat}
/-- from the state a the run comes to its end, and Q holds there -/
def Go (p : Program) (e : Env) (below : List Frame) (s : State) (Q : Option Value → Heap → List Loc → Prop) (k n : Nat) (a : State) : Prop :=
  ∃ t o, Steps p.tables e below a t ∧ t.status = .running ∧ Ended t below o ∧ ∃ v L, o = .returned v ∧ Q v t.heap L ∧ FrameEnd s o t L k n
theorem Go.step {a b : State} (st : ∀ t, Steps p.tables e below b t → Steps p.tables e below a t) (g : Go p e below s Q k n b) : Go p e below s Q k n a := by
  obtain ⟨t, o, h1, h2⟩ := g
  exact ⟨t, o, st t h1, h2⟩
theorem Go.out (X : Stand p l e R s m args below meth c T locs cells slots) (hx : p.tables.exec = Jvm.exec) (hlk : meth.locks = false) {pc : Nat} {Ls : Array Slot} {w : Value} {t : FieldType} {i : Instr} {rest : List Value} (hret : meth.sig.returnType = some t) (hn : narrow t w = w)
    (hi : (i = .ireturn ∧ (t = .int ∨ t = .boolean ∨ t = .byte ∨ t = .char ∨ t = .short) ∧ ∃ z, w = .int z) ∨ (i = .lreturn ∧ t = .long ∧ ∃ z, w = .long z) ∨ (i = .dreturn ∧ t = .double ∧ ∃ z, w = .double z) ∨ (i = .freturn ∧ t = .float ∧ ∃ z, w = .float z) ∨ (i = .areturn ∧ t.isReference = true ∧ w.isRef = true))
    (hd : decode c.code pc = .ok (i, 1)) (hq : Q (some w) T.heap locs) (hk : cells ≤ k) (hl : slots ≤ n) : Go p e below s Q k n (T.setTop (mkF m pc Ls (w :: rest))) := by
  obtain ⟨fs, hr, hrun, hended, hW, hsame⟩ := X.leave (v := some w) (fun h => by rw [hret] at h; cases h) hlk
  exact ⟨_, _, retOut X hx hret hn hi hd hr, hrun, hended, _, _, rfl, hq, ⟨_, rfl⟩, hW, hsame.mono hk hl⟩
theorem Go.retI (X : Stand p l e R s m args below meth c T locs cells slots) (hx : p.tables.exec = Jvm.exec) (hlk : meth.locks = false) {pc : Nat} {Ls : Array Slot} {z : Int32} {rest : List Value} (hret : meth.sig.returnType = some .int) (hd : decode c.code pc = .ok (.ireturn, 1)) (hq : Q (some (.int z)) T.heap locs) (hk : cells ≤ k) (hl : slots ≤ n) : Go p e below s Q k n (T.setTop (mkF m pc Ls (.int z :: rest))) :=
  Go.out X hx hlk hret rfl (Or.inl ⟨rfl, Or.inl rfl, z, rfl⟩) hd hq hk hl
theorem Go.retJ (X : Stand p l e R s m args below meth c T locs cells slots) (hx : p.tables.exec = Jvm.exec) (hlk : meth.locks = false) {pc : Nat} {Ls : Array Slot} {z : Int64} {rest : List Value} (hret : meth.sig.returnType = some .long) (hd : decode c.code pc = .ok (.lreturn, 1)) (hq : Q (some (.long z)) T.heap locs) (hk : cells ≤ k) (hl : slots ≤ n) : Go p e below s Q k n (T.setTop (mkF m pc Ls (.long z :: rest))) :=
  Go.out X hx hlk hret rfl (Or.inr (Or.inl ⟨rfl, rfl, z, rfl⟩)) hd hq hk hl
theorem own_narrow_ref {t : FieldType} {w : Value} (ht : t.isReference = true) : narrow t w = w := by cases t <;> first | (cases ht; done) | rfl | (cases w <;> rfl)
theorem Go.retA (X : Stand p l e R s m args below meth c T locs cells slots) (hx : p.tables.exec = Jvm.exec) (hlk : meth.locks = false) {pc : Nat} {Ls : Array Slot} {w : Value} {t : FieldType} {rest : List Value} (hret : meth.sig.returnType = some t) (ht : t.isReference = true) (hw : w.isRef = true) (hd : decode c.code pc = .ok (.areturn, 1)) (hq : Q (some w) T.heap locs) (hk : cells ≤ k) (hl : slots ≤ n) : Go p e below s Q k n (T.setTop (mkF m pc Ls (w :: rest))) :=
  Go.out X hx hlk hret (own_narrow_ref ht) (Or.inr (Or.inr (Or.inr (Or.inr ⟨rfl, ht, hw⟩)))) hd hq hk hl
theorem Go.retN (X : Stand p l e R s m args below meth c T locs cells slots) (hx : p.tables.exec = Jvm.exec) (hlk : meth.locks = false) {pc : Nat} {Ls : Array Slot} {z : Int32} {t : FieldType} {rest : List Value} (hret : meth.sig.returnType = some t) (ht : t = .boolean ∨ t = .byte ∨ t = .char ∨ t = .short) (hd : decode c.code pc = .ok (.ireturn, 1)) (hq : Q (some (.int (nar t z))) T.heap locs) (hk : cells ≤ k) (hl : slots ≤ n) : Go p e below s Q k n (T.setTop (mkF m pc Ls (.int z :: rest))) := by
  obtain ⟨fs, hr, hrun, hended, hW, hsame⟩ := X.leave (v := some (.int (nar t z))) (fun h => by rw [hret] at h; cases h) hlk
  exact ⟨_, _, Jvm.RoadKit.retN X hx hret ht hd hr, hrun, hended, _, _, rfl, hq, ⟨_, rfl⟩, hW, hsame.mono hk hl⟩
theorem Go.retV (X : Stand p l e R s m args below meth c T locs cells slots) (hx : p.tables.exec = Jvm.exec) (hlk : meth.locks = false) {pc : Nat} {Ls : Array Slot} (hret : meth.sig.returnType = none) (hd : decode c.code pc = .ok (.return_, 1)) (hq : Q none T.heap locs) (hk : cells ≤ k) (hl : slots ≤ n) : Go p e below s Q k n (T.setTop (mkF m pc Ls [])) := by
  obtain ⟨fs, hr, hrun, hended, hW, hsame⟩ := X.leave (v := none) (fun _ => rfl) hlk
  exact ⟨_, _, X.returnOut hx hret hd hr, hrun, hended, _, _, rfl, hq, ⟨_, rfl⟩, hW, hsame.mono hk hl⟩
theorem own_decT {x y : Value} (q : x = y) : decide (x = y) = true := decide_eq_true q
theorem own_decF {x y : Value} (q : ¬ x = y) : decide (x = y) = false := decide_eq_false q
/-- a body's contract: called with as' over the heap h it returns, and Q holds at the end -/
def Con (l : Launch) (Z : State) (y : MethodName) (bytes : ByteArray) (maxL : Nat) (ret : Option FieldType) (rm : Room) (as' : Array Value) (h : Heap) (Q : Option Value → Heap → List Loc → Prop) : Prop :=
  ∀ ws : List Jvm.Cond, MetFree l y (head1 (Jvm.Cond.code y bytes maxL ret :: ws) rm) (fun a U => a = as' ∧ Z.Warmed39 U.vm ∧ U.heap = h) (fun _ _ _ _ _ => True) (fun _ U o U' => ∃ v L, o = .returned v ∧ Q v U'.heap L ∧ FrameEnd U o U' L rm.cells rm.slots)
theorem Con.of {y : MethodName} {bytes : ByteArray} {maxL : Nat} {ret : Option FieldType} {rm : Room} {as' : Array Value} (hy : plainName y.cls = true)
    (body : ∀ (p : Program) (e : Env) (s : State) (m : MethodId) (below : List Frame) (meth : Method) (c : Code) (T : State),
      Stand p l e rm s m as' below meth c T [] 0 0 → p.tables.exec = Jvm.exec → c.code = bytes → c.maxLocals = maxL → meth.sig.returnType = ret → meth.locks = false →
      s.vm.findClass y.cls = some m.cls → meth.name = y.name → Z.Warmed39 s.vm → T.heap = h → Go p e below s Q rm.cells rm.slots (T.setTop (entryFrame m as' maxL))) : Con l Z y bytes maxL ret rm as' h Q := by
  intro ws
  refine MetFree.of_bodySF (plainFor_of_name hy) hisR ?_
  intro p e s m args below meth c s₁ Bd hml hP hK
  obtain ⟨rfl, hZ, hh⟩ := hP
  exact body p e s m below meth c s₁ (Stand.of_body Bd) Bd.exec Bd.bytes hml Bd.returns Bd.notSynchronized (findClass_of_methodNamed Bd.named) (name_of_methodNamed Bd.named Bd.method).1 hZ (by rw [← hh, Bd.state]; rfl)
theorem Go.callS (X : Stand p l e R s m args below meth c T locs cells slots) (hx : p.tables.exec = Jvm.exec) (hZ : Z.Warmed39 s.vm) {own : String} {index : Nat} {y : MethodName} {bytes : ByteArray} {maxL : Nat} {ret : Option FieldType} {rm : Room} {Qc : Option Value → Heap → List Loc → Prop}
    (hown : s.vm.findClass own = some m.cls) (w1 : (Jvm.Cond.methodLink own index y).before a0 Z = true) (w2 : (Jvm.Cond.static y).before a0 Z = true) (w3 : (Jvm.Cond.initialized y.cls).before a0 Z = true) (w4 : (Jvm.Cond.code y bytes maxL ret).before a0 Z = true) (hy : y.cls ≠ "java/lang/invoke/MethodHandle" ∧ y.cls ≠ "java/lang/invoke/VarHandle")
    (eT : T.heap = h) (argsL rest : List Value) (W : Nat) (con : Con l Z y bytes maxL ret rm argsL.toArray h Qc)
    (hf : rm.frames + 1 ≤ R.frames) (hl : W + (maxL + 11) + rm.locals ≤ R.locals) (hc : cells + rm.cells ≤ R.cells) (hs : slots + rm.slots ≤ R.slots)
    {pc : Nat} {Ls : Array Slot} {stk : List Value} (hsize : Ls.size = c.maxLocals) (hlen : ∀ sig, parseMethodDescriptor y.desc = some sig → argsL.length = sig.parameters.length) (hstk : stk = argsL.reverse ++ rest) (hW : (rest.map fun v => v.category).sum ≤ W)
    (hd : decode c.code pc = .ok (.invokestatic index, 3))
    (k1 : ∀ (T' : State) (v : Option Value) (Lc : List Loc), Stand p l e R s m args below meth c T' (locs ++ Lc) (cells + rm.cells) (slots + rm.slots) → Qc v T'.heap Lc → Go p e below s Q k n (T'.setTop (mkF m (pc + 3) Ls (v.toList ++ rest)))) :
    Go p e below s Q k n (T.setTop (mkF m pc Ls stk)) := by
  subst hstk
  obtain ⟨v, _, ⟨T', L', c', n'⟩, -, X', ⟨Lc, hQ, l', y', z'⟩, st⟩ := Jvm.LawKit.callS X hx (y := y) hown (mvT hZ w1) (mvT hZ w2) (mvT hZ w3) (mvT hZ w4) hy (backOf (W := W) (con []) hZ w4 w3 hf hl) (g := mkF m pc Ls (argsL.reverse ++ rest)) rfl hsize (argsL := argsL) (rest := rest) hlen rfl (by show 2 * 0 + _ ≤ _; rw [Nat.mul_zero, Nat.zero_add]; exact hW) hd (fun _ _ => ⟨rfl, eT, hc, hs⟩)
  dsimp only [Pt.U, Pt.locs, Pt.cells, Pt.slots] at X' l' y' z' st hQ
  subst l' y' z'
  exact Go.step st (k1 T' v Lc X' hQ)
theorem Go.callV (X : Stand p l e R s m args below meth c T locs cells slots) (hx : p.tables.exec = Jvm.exec) (hZ : Z.Warmed39 s.vm) {own C : String} {index : Nat} {y : MethodName} {bytes : ByteArray} {maxL : Nat} {ret : Option FieldType} {rm : Room} {Qc : Option Value → Heap → List Loc → Prop}
    (hown : s.vm.findClass own = some m.cls) (w1 : (Jvm.Cond.methodLink own index y).before a0 Z = true) (w2 : (Jvm.Cond.declares y).before a0 Z = true) (w3 : (Jvm.Cond.selects C y y).before a0 Z = true) (w4 : (Jvm.Cond.instanceMethod y).before a0 Z = true) (w5 : (Jvm.Cond.initialized y.cls).before a0 Z = true) (w6 : (Jvm.Cond.code y bytes maxL ret).before a0 Z = true) (hy : y.cls ≠ "java/lang/invoke/MethodHandle" ∧ y.cls ≠ "java/lang/invoke/VarHandle")
    (eT : T.heap = h) {b : Addr} (E : Exa Z h b C) (argsL rest : List Value) (W : Nat) (con : Con l Z y bytes maxL ret rm (.ref b :: argsL).toArray h Qc)
    (hf : rm.frames + 1 ≤ R.frames) (hl : W + (maxL + 11) + rm.locals ≤ R.locals) (hc : cells + rm.cells ≤ R.cells) (hs : slots + rm.slots ≤ R.slots)
    {pc : Nat} {Ls : Array Slot} {stk : List Value} (hsize : Ls.size = c.maxLocals) (hlen : ∀ sig, parseMethodDescriptor y.desc = some sig → argsL.length = sig.parameters.length) (hstk : stk = argsL.reverse ++ .ref b :: rest) (hW : (rest.map fun v => v.category).sum ≤ W)
    (hd : decode c.code pc = .ok (.invokevirtual index, 3))
    (k1 : ∀ (T' : State) (v : Option Value) (Lc : List Loc), Stand p l e R s m args below meth c T' (locs ++ Lc) (cells + rm.cells) (slots + rm.slots) → Qc v T'.heap Lc → Go p e below s Q k n (T'.setTop (mkF m (pc + 3) Ls (v.toList ++ rest)))) :
    Go p e below s Q k n (T.setTop (mkF m pc Ls stk)) := by
  subst hstk
  obtain ⟨cq, kq, qa, qb, qc⟩ := isOf hZ eT E
  obtain ⟨v, _, ⟨T', L', c', n'⟩, -, X', ⟨Lc, hQ, l', y', z'⟩, st⟩ := X.virtualBack hx (y := y) (z := y) hown (mvT hZ w1) (mvT hZ w2) (notFace_of_selects (args := #[]) (mvT hZ w3)) (mvT hZ w3) (mvT hZ w4) hy (backOf (W := W) (con []) hZ w6 w5 hf hl) qa qc (g := mkF m pc Ls (argsL.reverse ++ .ref b :: rest)) rfl hsize (Steps.refl _) (argsL := argsL) (rest := rest) hlen rfl (by show 2 * 0 + _ ≤ _; rw [Nat.mul_zero, Nat.zero_add]; exact hW) hd (fun _ _ => ⟨rfl, eT, hc, hs⟩)
  dsimp only [Pt.U, Pt.locs, Pt.cells, Pt.slots] at X' l' y' z' st hQ
  subst l' y' z'
  exact Go.step (fun t kk => st.trans kk) (k1 T' v Lc X' hQ)
theorem Go.callI (X : Stand p l e R s m args below meth c T locs cells slots) (hx : p.tables.exec = Jvm.exec) (hZ : Z.Warmed39 s.vm) {own : String} {index : Nat} {y : MethodName} {bytes : ByteArray} {maxL : Nat} {rm : Room} {Qc : Option Value → Heap → List Loc → Prop} (hy1 : y.name = "<init>")
    (hown : s.vm.findClass own = some m.cls) (w1 : (Jvm.Cond.methodLink own index y).before a0 Z = true) (w2 : (Jvm.Cond.instanceMethod y).before a0 Z = true) (w3 : (Jvm.Cond.initialized y.cls).before a0 Z = true) (w4 : (Jvm.Cond.code y bytes maxL none).before a0 Z = true) (hy : y.cls ≠ "java/lang/invoke/MethodHandle" ∧ y.cls ≠ "java/lang/invoke/VarHandle")
    (eT : T.heap = h) {b : Addr} (argsL rest : List Value) (W : Nat) (con : Con l Z y bytes maxL none rm (.ref b :: argsL).toArray h Qc)
    (hf : rm.frames + 1 ≤ R.frames) (hl : W + (maxL + 11) + rm.locals ≤ R.locals) (hc : cells + rm.cells ≤ R.cells) (hs : slots + rm.slots ≤ R.slots)
    {pc : Nat} {Ls : Array Slot} {stk : List Value} (hsize : Ls.size = c.maxLocals) (hlen : ∀ sig, parseMethodDescriptor y.desc = some sig → argsL.length = sig.parameters.length) (hstk : stk = argsL.reverse ++ .ref b :: rest) (hW : (rest.map fun v => v.category).sum ≤ W)
    (hd : decode c.code pc = .ok (.invokespecial index, 3))
    (k1 : ∀ (T' : State) (v : Option Value) (Lc : List Loc), Stand p l e R s m args below meth c T' (locs ++ Lc) (cells + rm.cells) (slots + rm.slots) → Qc v T'.heap Lc → Go p e below s Q k n (T'.setTop (mkF m (pc + 3) Ls (v.toList ++ rest)))) :
    Go p e below s Q k n (T.setTop (mkF m pc Ls stk)) := by
  subst hstk
  obtain ⟨v, _, ⟨T', L', c', n'⟩, -, X', ⟨Lc, hQ, l', y', z'⟩, st⟩ := X.specialBack hx (y := y) hy1 hown (mvT hZ w1) (mvT hZ w2) (mvT hZ w4) hy (backOf (W := W) (con []) hZ w4 w3 hf hl) (g := mkF m pc Ls (argsL.reverse ++ .ref b :: rest)) rfl hsize (Steps.refl _) (a := b) (argsL := argsL) (rest := rest) hlen rfl (by show 2 * 0 + _ ≤ _; rw [Nat.mul_zero, Nat.zero_add]; exact hW) hd (fun _ _ => ⟨rfl, eT, hc, hs⟩)
  dsimp only [Pt.U, Pt.locs, Pt.cells, Pt.slots] at X' l' y' z' st hQ
  subst l' y' z'
  exact Go.step (fun t kk => st.trans kk) (k1 T' v Lc X' hQ)
end OwnKit
theorem own_ext_trans {h0 h1 h2 : Heap} (E : Ext h0 h1) (F : Ext h1 h2) : Ext h0 h2 := ⟨Nat.le_trans E.1 F.1, fun a c q => F.2 a c (E.2 a c q)⟩
theorem own_ext_refl (h0 : Heap) : Ext h0 h0 := ⟨Nat.le_refl _, fun _ _ q => q⟩
theorem own_ext_keep {h0 h1 h2 : Heap} {ws : List Addr} (E : Ext h0 h1) (K : Keep h1 h2 ws) (hw : ∀ x ∈ ws, h0.size ≤ x) : Ext h0 h2 := ⟨Nat.le_trans E.1 K.1, fun a c q => K.2.1 a c (E.2 a c q) fun hm => absurd (Array.getElem?_eq_some_iff.mp q).1 (Nat.not_lt.mpr (hw a hm))⟩
theorem own_ext_wr {h0 h1 h2 : Heap} {a : Addr} {sl : Nat} {v : Value} (E : Ext h0 h1) (W : Wr h1 h2 a sl v) (q : h0.size ≤ a) : Ext h0 h2 := own_ext_keep E (Keep.of_wr W) (allS q all0)
theorem own_ne_lt {a b : Addr} {n : Nat} (p : a < n) (q : n ≤ b) : a ≠ b := Nat.ne_of_lt (Nat.lt_of_lt_of_le p q)
theorem own_len {args : Array Value} {s : State} {t : Term} {a : Addr} {c : Cell} {ty : FieldType} {z : Int32} (ev : t.eval args s none [] s = some (.ref a)) (A : Arr s s.heap a c ty) (hq : (Jvm.Cond.eq (.length t) (.int z)).value args s none s [] = some true) : c.slots.size < 2 ^ 31 ∧ c.slots.size.toInt32 = z := by
  obtain ⟨x, y, hx, hy, -, hk⟩ := cmp_v (Or.inl hq)
  obtain rfl : y = .int z := (Option.some.inj hy).symm
  obtain ⟨q, rfl⟩ := hk
  have e := gotT (Cond.eq_ints hx (Term.int_eval z)) hq
  subst e
  have h1 := Arr.fin (Vm.Alike.refl _) A
  simp only [Term.eval, ev, h1, Option.bind_eq_bind, Option.bind_some] at hx
  split at hx
  · rename_i hl
    exact ⟨hl, by injection hx with hx; injection hx⟩
  · cases hx
theorem own_elem {args : Array Value} {s : State} {t u : Term} {a b : Addr} {c : Cell} {ty : FieldType} {i : Int32} (ev : t.eval args s none [] s = some (.ref a)) (A : Arr s s.heap a c ty) (eu : u.eval args s none [] s = some (.ref b)) (hq : (Jvm.Cond.eq (.elem t (.int i)) u).value args s none s [] = some true) : c.slots[i.toNatClampNeg]? = some (.ref b) := by
  obtain ⟨x, y, hx, hy, hk, hk2⟩ := cmp_v (Or.inl hq)
  cases eu.symm.trans hy
  obtain ⟨c', h1, h2, h3⟩ := elem_at hx ev (Term.int_eval i)
  cases A.1.symm.trans h1
  have hr : x.isRef = true := hk2.2
  have e := gotT (eq_R hx eu hr rfl) hq
  rw [e] at h3; exact h3
theorem own_cell {Z T : State} {h : Heap} {a : Addr} {c : Cell} {ty : FieldType} (eT : T.heap = h) (A : Arr Z h a c ty) : T.heap[a]? = some c := by rw [eT]; exact A.1
theorem own_fldI {args : Array Value} {s : State} {t : Term} {a : Addr} {C n d : String} {z : Int32} (ev : t.eval args s none [] s = some (.ref a)) (hq : (Jvm.Cond.eq (.field t C n d) (.int z)).value args s none s [] = some true) : Fld s s.heap a C n d (.int z) := by
  obtain ⟨x, y, hx, hy, -, hk⟩ := cmp_v (Or.inl hq)
  obtain rfl : y = .int z := (Option.some.inj hy).symm
  obtain ⟨q, rfl⟩ := hk
  have e := gotT (Cond.eq_ints hx (Term.int_eval z)) hq
  subst e
  exact Fld.start (by rw [← fld_at (args := args) (first := s) (o := none) (idx := []) ev]; exact hx)
theorem own_fldJ {args : Array Value} {s : State} {t : Term} {a : Addr} {C n d : String} {z : Int64} (ev : t.eval args s none [] s = some (.ref a)) (hq : (Jvm.Cond.eq (.field t C n d) (.long z)).value args s none s [] = some true) : Fld s s.heap a C n d (.long z) := by
  obtain ⟨x, y, hx, hy, -, hk⟩ := cmp_v (Or.inl hq)
  obtain rfl : y = .long z := (Option.some.inj hy).symm
  obtain ⟨q, rfl⟩ := hk
  have e := gotT (eq_L hx (long_at z)) hq
  subst e
  exact Fld.start (by rw [← fld_at (args := args) (first := s) (o := none) (idx := []) ev]; exact hx)
def own_of (z : Int32) (b0 b1 b2 b3 b4 b5 b6 b7 : Addr) : Addr := if (0 : Int32) = z then b0 else if (1 : Int32) = z then b1 else if (2 : Int32) = z then b2 else if (3 : Int32) = z then b3 else if (4 : Int32) = z then b4 else if (5 : Int32) = z then b5 else if (6 : Int32) = z then b6 else if (7 : Int32) = z then b7 else b0
def own_ex (z : Int32) (b0 b1 b2 b3 b4 b5 b6 b7 : Addr) : Addr := if z = (0 : Int32) then b0 else if z = (1 : Int32) then b1 else if z = (2 : Int32) then b2 else if z = (3 : Int32) then b3 else if z = (4 : Int32) then b4 else if z = (5 : Int32) then b5 else if z = (6 : Int32) then b6 else if z = (7 : Int32) then b7 else b0
theorem own_eq (z : Int32) (b0 b1 b2 b3 b4 b5 b6 b7 : Addr) : own_of z b0 b1 b2 b3 b4 b5 b6 b7 = own_ex z b0 b1 b2 b3 b4 b5 b6 b7 := by
  unfold own_of own_ex
  simp only [eq_comm (b := z)]
theorem own_pn0 : plainName "com/example/pubsume/pubsume/common/protocol/ErrorCode" = true := by first | (simp [plainName, overriddenIn]; done) | decide +kernel
theorem own_d_vals_0 : decode prog_51_method_1_code 0 = .ok (.getstatic 28, 3) := by decide +kernel
theorem own_d_vals_3 : decode prog_51_method_1_code 3 = .ok (.invokevirtual 32, 3) := by decide +kernel
theorem own_d_vals_6 : decode prog_51_method_1_code 6 = .ok (.checkcast 33, 3) := by decide +kernel
theorem own_d_vals_9 : decode prog_51_method_1_code 9 = .ok (.areturn, 1) := by decide +kernel
theorem own_ef_vals (m : MethodId)  : entryFrame m #[] 0 = mkF m 0 #[] [] := by first | (simp [entryFrame, mkF, argsToLocals, Value.category, maxLocals]; done) | rfl
set_option maxRecDepth 65536 in
set_option maxHeartbeats 40000000 in
theorem rm_vals (l : Launch) (Z : State) (a0 : Array Value) (hw : ∀ d ∈ tables_1, d.before a0 Z = true) (av : Addr) (kc : ClassId) (b0 : Addr) (b1 : Addr) (b2 : Addr) (b3 : Addr) (b4 : Addr) (b5 : Addr) (b6 : Addr) (b7 : Addr) (h0 : Heap) (n0 : Nat) (S_av : Sta Z h0 "com/example/pubsume/pubsume/common/protocol/ErrorCode" "$VALUES" "[Lcom/example/pubsume/pubsume/common/protocol/ErrorCode;" (.ref av)) (E_av : Exa Z h0 av "[Lcom/example/pubsume/pubsume/common/protocol/ErrorCode;") (AV : Arv Z h0 av kc (.object "com/example/pubsume/pubsume/common/protocol/ErrorCode") 8 [.ref b0, .ref b1, .ref b2, .ref b3, .ref b4, .ref b5, .ref b6, .ref b7] .null) :
    Con l Z (⟨"com/example/pubsume/pubsume/common/protocol/ErrorCode", "values", "()[Lcom/example/pubsume/pubsume/common/protocol/ErrorCode;"⟩ : MethodName) prog_51_method_1_code 0 (some (.array (.object "com/example/pubsume/pubsume/common/protocol/ErrorCode"))) ({ frames := 1, cells := 1, slots := 8, locals := 14 } : Room) #[] h0 (fun v h L => v = some (.ref h0.size) ∧ L = [] ∧ Ext h0 h ∧ Arv Z h h0.size kc (.object "com/example/pubsume/pubsume/common/protocol/ErrorCode") 8 [.ref b0, .ref b1, .ref b2, .ref b3, .ref b4, .ref b5, .ref b6, .ref b7] .null) := by
  refine Con.of own_pn0 ?_
  intro p e s m below meth c T0 X0 hx hby hml hret hlk hown0 hnm hZ e0
  have hown : s.vm.findClass "com/example/pubsume/pubsume/common/protocol/ErrorCode" = some m.cls := hown0
  have N0 := Fr.nil n0
  refine Go.step (fun t kk => castTop (own_ef_vals m ) kk) ?_
  show Go p e below s _ _ _ (T0.setTop (mkF m 0 #[] []))
  obtain ⟨T1, X1, e1, st1⟩ := getS (host := "") X0 hx hZ hown (hw _ (List.mem_of_getElem? (i := 7) rfl)) Via.refl e0 S_av (g := (mkF m 0 #[] [])) rfl (hb hby own_d_vals_0)
  refine Go.step st1 ?_
  show Go p e below s _ _ _ (T1.setTop (mkF m 3 #[] [(.ref av)]))
  obtain ⟨T2, h2, X2, e2, E2, A2, EA2, st2⟩ := cloneH X1 hx hZ hown (hw _ (List.mem_of_getElem? (i := 9) rfl)) (hw _ (List.mem_of_getElem? (i := 10) rfl)) (hw _ (List.mem_of_getElem? (i := 14) rfl)) (hw _ (List.mem_of_getElem? (i := 12) rfl)) (hw _ (List.mem_of_getElem? (i := 13) rfl)) (hw _ (List.mem_of_getElem? (i := 15) rfl)) e1 (Arv.arh AV) E_av (g := (mkF m 3 #[] [(.ref av)])) rfl (by rw [hml]; rfl) rfl (hb hby own_d_vals_3) (by decide) (W := 0) (cap := 8) (by show 2 * 0 + _ ≤ _; exact Nat.le_of_eq rfl) (by decide) (by decide) (by decide) (by decide)
  refine Go.step st2 ?_
  show Go p e below s _ _ _ (T2.setTop (mkF m 6 #[] [(.ref h0.size)]))
  obtain ⟨T3, X3, e3, st3⟩ := castY X2 hx hZ hown (hw _ (List.mem_of_getElem? (i := 25) rfl)) e2 (Ins.of_exa EA2 (hw _ (List.mem_of_getElem? (i := 26) rfl))) (g := (mkF m 6 #[] [(.ref h0.size)])) rfl rfl (hb hby own_d_vals_6)
  refine Go.step st3 ?_
  show Go p e below s _ _ _ (T3.setTop (mkF m 9 #[] [(.ref h0.size)]))
  exact Go.retA X3 hx hlk hret rfl rfl (hb hby own_d_vals_9) (by rw [e3]; exact ⟨rfl, rfl, E2, A2⟩) (by decide) (by decide)
theorem own_pd0 : parseMethodDescriptor "()[Lcom/example/pubsume/pubsume/common/protocol/ErrorCode;" = some ⟨[], (some (.array (.object "com/example/pubsume/pubsume/common/protocol/ErrorCode")))⟩ := by decide +kernel
theorem own_d_of_0 : decode prog_51_method_5_code 0 = .ok (.invokestatic 51, 3) := by decide +kernel
theorem own_d_of_3 : decode prog_51_method_5_code 3 = .ok (.astore_n 1, 1) := by decide +kernel
theorem own_d_of_4 : decode prog_51_method_5_code 4 = .ok (.aload_n 1, 1) := by decide +kernel
theorem own_d_of_5 : decode prog_51_method_5_code 5 = .ok (.arraylength, 1) := by decide +kernel
theorem own_d_of_6 : decode prog_51_method_5_code 6 = .ok (.istore_n 2, 1) := by decide +kernel
theorem own_d_of_7 : decode prog_51_method_5_code 7 = .ok (.iconst 0, 1) := by decide +kernel
theorem own_d_of_8 : decode prog_51_method_5_code 8 = .ok (.istore_n 3, 1) := by decide +kernel
theorem own_d_of_9 : decode prog_51_method_5_code 9 = .ok (.iload_n 3, 1) := by decide +kernel
theorem own_d_of_10 : decode prog_51_method_5_code 10 = .ok (.iload_n 2, 1) := by decide +kernel
theorem own_d_of_11 : decode prog_51_method_5_code 11 = .ok (.if_icmp .ge 26, 3) := by decide +kernel
theorem own_d_of_14 : decode prog_51_method_5_code 14 = .ok (.aload_n 1, 1) := by decide +kernel
theorem own_d_of_15 : decode prog_51_method_5_code 15 = .ok (.iload_n 3, 1) := by decide +kernel
theorem own_d_of_16 : decode prog_51_method_5_code 16 = .ok (.aaload, 1) := by decide +kernel
theorem own_d_of_17 : decode prog_51_method_5_code 17 = .ok (.astore 4, 2) := by decide +kernel
theorem own_d_of_19 : decode prog_51_method_5_code 19 = .ok (.aload 4, 2) := by decide +kernel
theorem own_d_of_21 : decode prog_51_method_5_code 21 = .ok (.getfield 47, 3) := by decide +kernel
theorem own_d_of_24 : decode prog_51_method_5_code 24 = .ok (.iload_n 0, 1) := by decide +kernel
theorem own_d_of_25 : decode prog_51_method_5_code 25 = .ok (.if_icmp .ne 6, 3) := by decide +kernel
theorem own_d_of_28 : decode prog_51_method_5_code 28 = .ok (.aload 4, 2) := by decide +kernel
theorem own_d_of_30 : decode prog_51_method_5_code 30 = .ok (.areturn, 1) := by decide +kernel
theorem own_d_of_31 : decode prog_51_method_5_code 31 = .ok (.iinc 3 1, 3) := by decide +kernel
theorem own_d_of_34 : decode prog_51_method_5_code 34 = .ok (.goto (-25), 3) := by decide +kernel
theorem own_d_of_37 : decode prog_51_method_5_code 37 = .ok (.getstatic 3, 3) := by decide +kernel
theorem own_d_of_40 : decode prog_51_method_5_code 40 = .ok (.areturn, 1) := by decide +kernel
theorem own_ef_of (m : MethodId) (p1 : Int32) : entryFrame m #[(.int p1)] 5 = mkF m 0 #[.val (.int p1), .unset, .unset, .unset, .unset] [] := by first | (simp [entryFrame, mkF, argsToLocals, Value.category, maxLocals]; done) | rfl
set_option maxRecDepth 65536 in
set_option maxHeartbeats 40000000 in
theorem rm_of (l : Launch) (Z : State) (a0 : Array Value) (hw : ∀ d ∈ tables_1, d.before a0 Z = true) (p1 : Int32) (av : Addr) (kc : ClassId) (b0 : Addr) (b1 : Addr) (b2 : Addr) (b3 : Addr) (b4 : Addr) (b5 : Addr) (b6 : Addr) (b7 : Addr) (h0 : Heap) (n0 : Nat) (S_av : Sta Z h0 "com/example/pubsume/pubsume/common/protocol/ErrorCode" "$VALUES" "[Lcom/example/pubsume/pubsume/common/protocol/ErrorCode;" (.ref av)) (E_av : Exa Z h0 av "[Lcom/example/pubsume/pubsume/common/protocol/ErrorCode;") (AV : Arv Z h0 av kc (.object "com/example/pubsume/pubsume/common/protocol/ErrorCode") 8 [.ref b0, .ref b1, .ref b2, .ref b3, .ref b4, .ref b5, .ref b6, .ref b7] .null) (S_b0 : Sta Z h0 "com/example/pubsume/pubsume/common/protocol/ErrorCode" "UnknownError" "Lcom/example/pubsume/pubsume/common/protocol/ErrorCode;" (.ref b0)) (F_b0_code : Fld Z h0 b0 "com/example/pubsume/pubsume/common/protocol/ErrorCode" "code" "I" (.int 0)) (F_b1_code : Fld Z h0 b1 "com/example/pubsume/pubsume/common/protocol/ErrorCode" "code" "I" (.int 1)) (F_b2_code : Fld Z h0 b2 "com/example/pubsume/pubsume/common/protocol/ErrorCode" "code" "I" (.int 2)) (F_b3_code : Fld Z h0 b3 "com/example/pubsume/pubsume/common/protocol/ErrorCode" "code" "I" (.int 3)) (F_b4_code : Fld Z h0 b4 "com/example/pubsume/pubsume/common/protocol/ErrorCode" "code" "I" (.int 4)) (F_b5_code : Fld Z h0 b5 "com/example/pubsume/pubsume/common/protocol/ErrorCode" "code" "I" (.int 5)) (F_b6_code : Fld Z h0 b6 "com/example/pubsume/pubsume/common/protocol/ErrorCode" "code" "I" (.int 6)) (F_b7_code : Fld Z h0 b7 "com/example/pubsume/pubsume/common/protocol/ErrorCode" "code" "I" (.int 7)) :
    Con l Z (⟨"com/example/pubsume/pubsume/common/protocol/ErrorCode", "ofCode", "(I)Lcom/example/pubsume/pubsume/common/protocol/ErrorCode;"⟩ : MethodName) prog_51_method_5_code 5 (some (.object "com/example/pubsume/pubsume/common/protocol/ErrorCode")) ({ frames := 2, cells := 1, slots := 8, locals := 40 } : Room) #[(.int p1)] h0 (fun v h L => v = some (.ref (own_of p1 b0 b1 b2 b3 b4 b5 b6 b7)) ∧ L = [] ∧ Ext h0 h) := by
  refine Con.of own_pn0 ?_
  intro p e s m below meth c T0 X0 hx hby hml hret hlk hown0 hnm hZ e0
  have hown : s.vm.findClass "com/example/pubsume/pubsume/common/protocol/ErrorCode" = some m.cls := hown0
  have N0 := Fr.nil n0
  refine Go.step (fun t kk => castTop (own_ef_of m p1) kk) ?_
  show Go p e below s _ _ _ (T0.setTop (mkF m 0 #[.val (.int p1), .unset, .unset, .unset, .unset] []))
  refine Go.callS X0 hx hZ hown (hw _ (List.mem_of_getElem? (i := 4) rfl)) (hw _ (List.mem_of_getElem? (i := 5) rfl)) (hw _ (List.mem_of_getElem? (i := 2) rfl)) (hw _ (List.mem_of_getElem? (i := 6) rfl)) (by decide) e0 [] [] 0 (rm_vals l Z a0 hw av kc b0 b1 b2 b3 b4 b5 b6 b7 h0 n0 S_av E_av AV) (by decide) (by decide) (by decide) (by decide) (by rw [hml]; rfl) (lenOf own_pd0 rfl) rfl (Nat.le_of_eq rfl) (hb hby own_d_of_0) ?_
  intro T1 v1 L1 X1 hQ1
  obtain ⟨rfl, rfl, E1, AN1⟩ := hQ1
  have N1 := Fr.app N0 (Fr.nil n0)
  obtain ⟨cl, Ar, hcls, hsz, -, hhas, -⟩ := AN1
  show Go p e below s _ _ _ (T1.setTop (mkF m 3 #[.val (.int p1), .unset, .unset, .unset, .unset] [(.ref h0.size)]))
  refine Go.step (fun t kk => XS.astoreN X1.here hx rfl (hb hby own_d_of_3) rfl rfl (l' := #[.val (.int p1), .val (.ref h0.size), .unset, .unset, .unset]) rfl kk) ?_
  show Go p e below s _ _ _ (T1.setTop (mkF m 4 #[.val (.int p1), .val (.ref h0.size), .unset, .unset, .unset] []))
  refine Go.step (fun t kk => XS.aloadN X1.here hx rfl (hb hby own_d_of_4) rfl rfl kk) ?_
  show Go p e below s _ _ _ (T1.setTop (mkF m 5 #[.val (.int p1), .val (.ref h0.size), .unset, .unset, .unset] [(.ref h0.size)]))
  refine Go.step (fun t kk => X1.arraylength hx (own_cell rfl Ar) (State.isArrayOf_alike hZ.alike Ar.2.1) (g := (mkF m 5 #[.val (.int p1), .val (.ref h0.size), .unset, .unset, .unset] [(.ref h0.size)])) rfl rfl (hb hby own_d_of_5) t kk) ?_
  rw [len_of hsz (by decide)]
  show Go p e below s _ _ _ (T1.setTop (mkF m 6 #[.val (.int p1), .val (.ref h0.size), .unset, .unset, .unset] [(.int (8 : Int32))]))
  refine Go.step (fun t kk => XS.istoreN X1.here hx rfl (hb hby own_d_of_6) rfl (l' := #[.val (.int p1), .val (.ref h0.size), .val (.int (8 : Int32)), .unset, .unset]) rfl kk) ?_
  show Go p e below s _ _ _ (T1.setTop (mkF m 7 #[.val (.int p1), .val (.ref h0.size), .val (.int (8 : Int32)), .unset, .unset] []))
  refine Go.step (fun t kk => XS.iconst X1.here hx rfl (hb hby own_d_of_7) kk) ?_
  show Go p e below s _ _ _ (T1.setTop (mkF m 8 #[.val (.int p1), .val (.ref h0.size), .val (.int (8 : Int32)), .unset, .unset] [(.int (0 : Int32))]))
  refine Go.step (fun t kk => XS.istoreN X1.here hx rfl (hb hby own_d_of_8) rfl (l' := #[.val (.int p1), .val (.ref h0.size), .val (.int (8 : Int32)), .val (.int (0 : Int32)), .unset]) rfl kk) ?_
  show Go p e below s _ _ _ (T1.setTop (mkF m 9 #[.val (.int p1), .val (.ref h0.size), .val (.int (8 : Int32)), .val (.int (0 : Int32)), .unset] []))
  refine Go.step (fun t kk => XS.iloadN X1.here hx rfl (hb hby own_d_of_9) rfl kk) ?_
  show Go p e below s _ _ _ (T1.setTop (mkF m 10 #[.val (.int p1), .val (.ref h0.size), .val (.int (8 : Int32)), .val (.int (0 : Int32)), .unset] [(.int (0 : Int32))]))
  refine Go.step (fun t kk => XS.iloadN X1.here hx rfl (hb hby own_d_of_10) rfl kk) ?_
  show Go p e below s _ _ _ (T1.setTop (mkF m 11 #[.val (.int p1), .val (.ref h0.size), .val (.int (8 : Int32)), .val (.int (0 : Int32)), .unset] [(.int (8 : Int32)), (.int (0 : Int32))]))
  have hc11_2 : (0 : Int32) < (8 : Int32) := by decide
  refine Go.step (fun t kk => XS.icmpNo X1.here hx rfl (hb hby own_d_of_11) rfl (tlt hc11_2).2.1 kk) ?_
  show Go p e below s _ _ _ (T1.setTop (mkF m 14 #[.val (.int p1), .val (.ref h0.size), .val (.int (8 : Int32)), .val (.int (0 : Int32)), .unset] []))
  refine Go.step (fun t kk => XS.aloadN X1.here hx rfl (hb hby own_d_of_14) rfl rfl kk) ?_
  show Go p e below s _ _ _ (T1.setTop (mkF m 15 #[.val (.int p1), .val (.ref h0.size), .val (.int (8 : Int32)), .val (.int (0 : Int32)), .unset] [(.ref h0.size)]))
  refine Go.step (fun t kk => XS.iloadN X1.here hx rfl (hb hby own_d_of_15) rfl kk) ?_
  show Go p e below s _ _ _ (T1.setTop (mkF m 16 #[.val (.int p1), .val (.ref h0.size), .val (.int (8 : Int32)), .val (.int (0 : Int32)), .unset] [(.int (0 : Int32)), (.ref h0.size)]))
  refine Go.step (fun t kk => X1.aaload hx (j := (0 : Int32)) (v := .ref b0) (own_cell rfl Ar) (State.isArrayOf_alike hZ.alike Ar.2.1) rfl Ar.2.2 (by rw [hsz]; decide) (hhas 0 (by rw [hsz]; decide)) (g := (mkF m 16 #[.val (.int p1), .val (.ref h0.size), .val (.int (8 : Int32)), .val (.int (0 : Int32)), .unset] [(.int (0 : Int32)), (.ref h0.size)])) rfl rfl (hb hby own_d_of_16) t kk) ?_
  show Go p e below s _ _ _ (T1.setTop (mkF m 17 #[.val (.int p1), .val (.ref h0.size), .val (.int (8 : Int32)), .val (.int (0 : Int32)), .unset] [(.ref b0)]))
  refine Go.step (fun t kk => XS.astore X1.here hx rfl (hb hby own_d_of_17) rfl rfl (l' := #[.val (.int p1), .val (.ref h0.size), .val (.int (8 : Int32)), .val (.int (0 : Int32)), .val (.ref b0)]) rfl kk) ?_
  show Go p e below s _ _ _ (T1.setTop (mkF m 19 #[.val (.int p1), .val (.ref h0.size), .val (.int (8 : Int32)), .val (.int (0 : Int32)), .val (.ref b0)] []))
  refine Go.step (fun t kk => XS.aload X1.here hx rfl (hb hby own_d_of_19) rfl rfl kk) ?_
  show Go p e below s _ _ _ (T1.setTop (mkF m 21 #[.val (.int p1), .val (.ref h0.size), .val (.int (8 : Int32)), .val (.int (0 : Int32)), .val (.ref b0)] [(.ref b0)]))
  obtain ⟨T3, X3, e3, st3⟩ := getF X1 hx hZ hown (host := "") (Or.inl (hw _ (List.mem_of_getElem? (i := 27) rfl))) Via.refl rfl (Fld.ext E1 F_b0_code) (g := (mkF m 21 #[.val (.int p1), .val (.ref h0.size), .val (.int (8 : Int32)), .val (.int (0 : Int32)), .val (.ref b0)] [(.ref b0)])) rfl rfl (hb hby own_d_of_21)
  refine Go.step st3 ?_
  show Go p e below s _ _ _ (T3.setTop (mkF m 24 #[.val (.int p1), .val (.ref h0.size), .val (.int (8 : Int32)), .val (.int (0 : Int32)), .val (.ref b0)] [(.int (0 : Int32))]))
  refine Go.step (fun t kk => XS.iloadN X3.here hx rfl (hb hby own_d_of_24) rfl kk) ?_
  show Go p e below s _ _ _ (T3.setTop (mkF m 25 #[.val (.int p1), .val (.ref h0.size), .val (.int (8 : Int32)), .val (.int (0 : Int32)), .val (.ref b0)] [(.int p1), (.int (0 : Int32))]))
  by_cases hc25_4 : (0 : Int32) = p1
  · refine Go.step (fun t kk => XS.icmpNo X3.here hx rfl (hb hby own_d_of_25) rfl (teq hc25_4).2 kk) ?_
    show Go p e below s _ _ _ (T3.setTop (mkF m 28 #[.val (.int p1), .val (.ref h0.size), .val (.int (8 : Int32)), .val (.int (0 : Int32)), .val (.ref b0)] []))
    refine Go.step (fun t kk => XS.aload X3.here hx rfl (hb hby own_d_of_28) rfl rfl kk) ?_
    show Go p e below s _ _ _ (T3.setTop (mkF m 30 #[.val (.int p1), .val (.ref h0.size), .val (.int (8 : Int32)), .val (.int (0 : Int32)), .val (.ref b0)] [(.ref b0)]))
    exact Go.retA X3 hx hlk hret rfl rfl (hb hby own_d_of_30) (by rw [e3]; exact ⟨by simp [own_of, hc25_4], rfl, (own_ext_trans (own_ext_refl h0) E1)⟩) (by decide) (by decide)
  · refine Go.step (fun t kk => XS.icmpYes X3.here hx rfl (pc0 := 25) (pc' := 31) rfl (hb hby own_d_of_25) rfl (feq hc25_4).2 (by decide) (by decide) kk) ?_
    show Go p e below s _ _ _ (T3.setTop (mkF m 31 #[.val (.int p1), .val (.ref h0.size), .val (.int (8 : Int32)), .val (.int (0 : Int32)), .val (.ref b0)] []))
    refine Go.step (fun t kk => XS.iinc X3.here hx rfl (hb hby own_d_of_31) rfl (l' := #[.val (.int p1), .val (.ref h0.size), .val (.int (8 : Int32)), .val (.int (1 : Int32)), .val (.ref b0)]) rfl kk) ?_
    show Go p e below s _ _ _ (T3.setTop (mkF m 34 #[.val (.int p1), .val (.ref h0.size), .val (.int (8 : Int32)), .val (.int (1 : Int32)), .val (.ref b0)] []))
    refine Go.step (fun t kk => XS.goto X3.here hx rfl (pc0 := 34) (pc' := 9) rfl (hb hby own_d_of_34) (by decide) (by decide) kk) ?_
    show Go p e below s _ _ _ (T3.setTop (mkF m 9 #[.val (.int p1), .val (.ref h0.size), .val (.int (8 : Int32)), .val (.int (1 : Int32)), .val (.ref b0)] []))
    refine Go.step (fun t kk => XS.iloadN X3.here hx rfl (hb hby own_d_of_9) rfl kk) ?_
    show Go p e below s _ _ _ (T3.setTop (mkF m 10 #[.val (.int p1), .val (.ref h0.size), .val (.int (8 : Int32)), .val (.int (1 : Int32)), .val (.ref b0)] [(.int (1 : Int32))]))
    refine Go.step (fun t kk => XS.iloadN X3.here hx rfl (hb hby own_d_of_10) rfl kk) ?_
    show Go p e below s _ _ _ (T3.setTop (mkF m 11 #[.val (.int p1), .val (.ref h0.size), .val (.int (8 : Int32)), .val (.int (1 : Int32)), .val (.ref b0)] [(.int (8 : Int32)), (.int (1 : Int32))]))
    have hc11_5 : (1 : Int32) < (8 : Int32) := by decide
    refine Go.step (fun t kk => XS.icmpNo X3.here hx rfl (hb hby own_d_of_11) rfl (tlt hc11_5).2.1 kk) ?_
    show Go p e below s _ _ _ (T3.setTop (mkF m 14 #[.val (.int p1), .val (.ref h0.size), .val (.int (8 : Int32)), .val (.int (1 : Int32)), .val (.ref b0)] []))
    refine Go.step (fun t kk => XS.aloadN X3.here hx rfl (hb hby own_d_of_14) rfl rfl kk) ?_
    show Go p e below s _ _ _ (T3.setTop (mkF m 15 #[.val (.int p1), .val (.ref h0.size), .val (.int (8 : Int32)), .val (.int (1 : Int32)), .val (.ref b0)] [(.ref h0.size)]))
    refine Go.step (fun t kk => XS.iloadN X3.here hx rfl (hb hby own_d_of_15) rfl kk) ?_
    show Go p e below s _ _ _ (T3.setTop (mkF m 16 #[.val (.int p1), .val (.ref h0.size), .val (.int (8 : Int32)), .val (.int (1 : Int32)), .val (.ref b0)] [(.int (1 : Int32)), (.ref h0.size)]))
    refine Go.step (fun t kk => X3.aaload hx (j := (1 : Int32)) (v := .ref b1) (own_cell e3 Ar) (State.isArrayOf_alike hZ.alike Ar.2.1) rfl Ar.2.2 (by rw [hsz]; decide) (hhas 1 (by rw [hsz]; decide)) (g := (mkF m 16 #[.val (.int p1), .val (.ref h0.size), .val (.int (8 : Int32)), .val (.int (1 : Int32)), .val (.ref b0)] [(.int (1 : Int32)), (.ref h0.size)])) rfl rfl (hb hby own_d_of_16) t kk) ?_
    show Go p e below s _ _ _ (T3.setTop (mkF m 17 #[.val (.int p1), .val (.ref h0.size), .val (.int (8 : Int32)), .val (.int (1 : Int32)), .val (.ref b0)] [(.ref b1)]))
    refine Go.step (fun t kk => XS.astore X3.here hx rfl (hb hby own_d_of_17) rfl rfl (l' := #[.val (.int p1), .val (.ref h0.size), .val (.int (8 : Int32)), .val (.int (1 : Int32)), .val (.ref b1)]) rfl kk) ?_
    show Go p e below s _ _ _ (T3.setTop (mkF m 19 #[.val (.int p1), .val (.ref h0.size), .val (.int (8 : Int32)), .val (.int (1 : Int32)), .val (.ref b1)] []))
    refine Go.step (fun t kk => XS.aload X3.here hx rfl (hb hby own_d_of_19) rfl rfl kk) ?_
    show Go p e below s _ _ _ (T3.setTop (mkF m 21 #[.val (.int p1), .val (.ref h0.size), .val (.int (8 : Int32)), .val (.int (1 : Int32)), .val (.ref b1)] [(.ref b1)]))
    obtain ⟨T6, X6, e6, st6⟩ := getF X3 hx hZ hown (host := "") (Or.inl (hw _ (List.mem_of_getElem? (i := 27) rfl))) Via.refl e3 (Fld.ext E1 F_b1_code) (g := (mkF m 21 #[.val (.int p1), .val (.ref h0.size), .val (.int (8 : Int32)), .val (.int (1 : Int32)), .val (.ref b1)] [(.ref b1)])) rfl rfl (hb hby own_d_of_21)
    refine Go.step st6 ?_
    show Go p e below s _ _ _ (T6.setTop (mkF m 24 #[.val (.int p1), .val (.ref h0.size), .val (.int (8 : Int32)), .val (.int (1 : Int32)), .val (.ref b1)] [(.int (1 : Int32))]))
    refine Go.step (fun t kk => XS.iloadN X6.here hx rfl (hb hby own_d_of_24) rfl kk) ?_
    show Go p e below s _ _ _ (T6.setTop (mkF m 25 #[.val (.int p1), .val (.ref h0.size), .val (.int (8 : Int32)), .val (.int (1 : Int32)), .val (.ref b1)] [(.int p1), (.int (1 : Int32))]))
    by_cases hc25_7 : (1 : Int32) = p1
    · refine Go.step (fun t kk => XS.icmpNo X6.here hx rfl (hb hby own_d_of_25) rfl (teq hc25_7).2 kk) ?_
      show Go p e below s _ _ _ (T6.setTop (mkF m 28 #[.val (.int p1), .val (.ref h0.size), .val (.int (8 : Int32)), .val (.int (1 : Int32)), .val (.ref b1)] []))
      refine Go.step (fun t kk => XS.aload X6.here hx rfl (hb hby own_d_of_28) rfl rfl kk) ?_
      show Go p e below s _ _ _ (T6.setTop (mkF m 30 #[.val (.int p1), .val (.ref h0.size), .val (.int (8 : Int32)), .val (.int (1 : Int32)), .val (.ref b1)] [(.ref b1)]))
      exact Go.retA X6 hx hlk hret rfl rfl (hb hby own_d_of_30) (by rw [e6]; exact ⟨by simp [own_of, hc25_4, hc25_7], rfl, (own_ext_trans (own_ext_refl h0) E1)⟩) (by decide) (by decide)
    · refine Go.step (fun t kk => XS.icmpYes X6.here hx rfl (pc0 := 25) (pc' := 31) rfl (hb hby own_d_of_25) rfl (feq hc25_7).2 (by decide) (by decide) kk) ?_
      show Go p e below s _ _ _ (T6.setTop (mkF m 31 #[.val (.int p1), .val (.ref h0.size), .val (.int (8 : Int32)), .val (.int (1 : Int32)), .val (.ref b1)] []))
      refine Go.step (fun t kk => XS.iinc X6.here hx rfl (hb hby own_d_of_31) rfl (l' := #[.val (.int p1), .val (.ref h0.size), .val (.int (8 : Int32)), .val (.int (2 : Int32)), .val (.ref b1)]) rfl kk) ?_
      show Go p e below s _ _ _ (T6.setTop (mkF m 34 #[.val (.int p1), .val (.ref h0.size), .val (.int (8 : Int32)), .val (.int (2 : Int32)), .val (.ref b1)] []))
      refine Go.step (fun t kk => XS.goto X6.here hx rfl (pc0 := 34) (pc' := 9) rfl (hb hby own_d_of_34) (by decide) (by decide) kk) ?_
      show Go p e below s _ _ _ (T6.setTop (mkF m 9 #[.val (.int p1), .val (.ref h0.size), .val (.int (8 : Int32)), .val (.int (2 : Int32)), .val (.ref b1)] []))
      refine Go.step (fun t kk => XS.iloadN X6.here hx rfl (hb hby own_d_of_9) rfl kk) ?_
      show Go p e below s _ _ _ (T6.setTop (mkF m 10 #[.val (.int p1), .val (.ref h0.size), .val (.int (8 : Int32)), .val (.int (2 : Int32)), .val (.ref b1)] [(.int (2 : Int32))]))
      refine Go.step (fun t kk => XS.iloadN X6.here hx rfl (hb hby own_d_of_10) rfl kk) ?_
      show Go p e below s _ _ _ (T6.setTop (mkF m 11 #[.val (.int p1), .val (.ref h0.size), .val (.int (8 : Int32)), .val (.int (2 : Int32)), .val (.ref b1)] [(.int (8 : Int32)), (.int (2 : Int32))]))
      have hc11_8 : (2 : Int32) < (8 : Int32) := by decide
      refine Go.step (fun t kk => XS.icmpNo X6.here hx rfl (hb hby own_d_of_11) rfl (tlt hc11_8).2.1 kk) ?_
      show Go p e below s _ _ _ (T6.setTop (mkF m 14 #[.val (.int p1), .val (.ref h0.size), .val (.int (8 : Int32)), .val (.int (2 : Int32)), .val (.ref b1)] []))
      refine Go.step (fun t kk => XS.aloadN X6.here hx rfl (hb hby own_d_of_14) rfl rfl kk) ?_
      show Go p e below s _ _ _ (T6.setTop (mkF m 15 #[.val (.int p1), .val (.ref h0.size), .val (.int (8 : Int32)), .val (.int (2 : Int32)), .val (.ref b1)] [(.ref h0.size)]))
      refine Go.step (fun t kk => XS.iloadN X6.here hx rfl (hb hby own_d_of_15) rfl kk) ?_
      show Go p e below s _ _ _ (T6.setTop (mkF m 16 #[.val (.int p1), .val (.ref h0.size), .val (.int (8 : Int32)), .val (.int (2 : Int32)), .val (.ref b1)] [(.int (2 : Int32)), (.ref h0.size)]))
      refine Go.step (fun t kk => X6.aaload hx (j := (2 : Int32)) (v := .ref b2) (own_cell e6 Ar) (State.isArrayOf_alike hZ.alike Ar.2.1) rfl Ar.2.2 (by rw [hsz]; decide) (hhas 2 (by rw [hsz]; decide)) (g := (mkF m 16 #[.val (.int p1), .val (.ref h0.size), .val (.int (8 : Int32)), .val (.int (2 : Int32)), .val (.ref b1)] [(.int (2 : Int32)), (.ref h0.size)])) rfl rfl (hb hby own_d_of_16) t kk) ?_
      show Go p e below s _ _ _ (T6.setTop (mkF m 17 #[.val (.int p1), .val (.ref h0.size), .val (.int (8 : Int32)), .val (.int (2 : Int32)), .val (.ref b1)] [(.ref b2)]))
      refine Go.step (fun t kk => XS.astore X6.here hx rfl (hb hby own_d_of_17) rfl rfl (l' := #[.val (.int p1), .val (.ref h0.size), .val (.int (8 : Int32)), .val (.int (2 : Int32)), .val (.ref b2)]) rfl kk) ?_
      show Go p e below s _ _ _ (T6.setTop (mkF m 19 #[.val (.int p1), .val (.ref h0.size), .val (.int (8 : Int32)), .val (.int (2 : Int32)), .val (.ref b2)] []))
      refine Go.step (fun t kk => XS.aload X6.here hx rfl (hb hby own_d_of_19) rfl rfl kk) ?_
      show Go p e below s _ _ _ (T6.setTop (mkF m 21 #[.val (.int p1), .val (.ref h0.size), .val (.int (8 : Int32)), .val (.int (2 : Int32)), .val (.ref b2)] [(.ref b2)]))
      obtain ⟨T9, X9, e9, st9⟩ := getF X6 hx hZ hown (host := "") (Or.inl (hw _ (List.mem_of_getElem? (i := 27) rfl))) Via.refl e6 (Fld.ext E1 F_b2_code) (g := (mkF m 21 #[.val (.int p1), .val (.ref h0.size), .val (.int (8 : Int32)), .val (.int (2 : Int32)), .val (.ref b2)] [(.ref b2)])) rfl rfl (hb hby own_d_of_21)
      refine Go.step st9 ?_
      show Go p e below s _ _ _ (T9.setTop (mkF m 24 #[.val (.int p1), .val (.ref h0.size), .val (.int (8 : Int32)), .val (.int (2 : Int32)), .val (.ref b2)] [(.int (2 : Int32))]))
      refine Go.step (fun t kk => XS.iloadN X9.here hx rfl (hb hby own_d_of_24) rfl kk) ?_
      show Go p e below s _ _ _ (T9.setTop (mkF m 25 #[.val (.int p1), .val (.ref h0.size), .val (.int (8 : Int32)), .val (.int (2 : Int32)), .val (.ref b2)] [(.int p1), (.int (2 : Int32))]))
      by_cases hc25_10 : (2 : Int32) = p1
      · refine Go.step (fun t kk => XS.icmpNo X9.here hx rfl (hb hby own_d_of_25) rfl (teq hc25_10).2 kk) ?_
        show Go p e below s _ _ _ (T9.setTop (mkF m 28 #[.val (.int p1), .val (.ref h0.size), .val (.int (8 : Int32)), .val (.int (2 : Int32)), .val (.ref b2)] []))
        refine Go.step (fun t kk => XS.aload X9.here hx rfl (hb hby own_d_of_28) rfl rfl kk) ?_
        show Go p e below s _ _ _ (T9.setTop (mkF m 30 #[.val (.int p1), .val (.ref h0.size), .val (.int (8 : Int32)), .val (.int (2 : Int32)), .val (.ref b2)] [(.ref b2)]))
        exact Go.retA X9 hx hlk hret rfl rfl (hb hby own_d_of_30) (by rw [e9]; exact ⟨by simp [own_of, hc25_4, hc25_7, hc25_10], rfl, (own_ext_trans (own_ext_refl h0) E1)⟩) (by decide) (by decide)
      · refine Go.step (fun t kk => XS.icmpYes X9.here hx rfl (pc0 := 25) (pc' := 31) rfl (hb hby own_d_of_25) rfl (feq hc25_10).2 (by decide) (by decide) kk) ?_
        show Go p e below s _ _ _ (T9.setTop (mkF m 31 #[.val (.int p1), .val (.ref h0.size), .val (.int (8 : Int32)), .val (.int (2 : Int32)), .val (.ref b2)] []))
        refine Go.step (fun t kk => XS.iinc X9.here hx rfl (hb hby own_d_of_31) rfl (l' := #[.val (.int p1), .val (.ref h0.size), .val (.int (8 : Int32)), .val (.int (3 : Int32)), .val (.ref b2)]) rfl kk) ?_
        show Go p e below s _ _ _ (T9.setTop (mkF m 34 #[.val (.int p1), .val (.ref h0.size), .val (.int (8 : Int32)), .val (.int (3 : Int32)), .val (.ref b2)] []))
        refine Go.step (fun t kk => XS.goto X9.here hx rfl (pc0 := 34) (pc' := 9) rfl (hb hby own_d_of_34) (by decide) (by decide) kk) ?_
        show Go p e below s _ _ _ (T9.setTop (mkF m 9 #[.val (.int p1), .val (.ref h0.size), .val (.int (8 : Int32)), .val (.int (3 : Int32)), .val (.ref b2)] []))
        refine Go.step (fun t kk => XS.iloadN X9.here hx rfl (hb hby own_d_of_9) rfl kk) ?_
        show Go p e below s _ _ _ (T9.setTop (mkF m 10 #[.val (.int p1), .val (.ref h0.size), .val (.int (8 : Int32)), .val (.int (3 : Int32)), .val (.ref b2)] [(.int (3 : Int32))]))
        refine Go.step (fun t kk => XS.iloadN X9.here hx rfl (hb hby own_d_of_10) rfl kk) ?_
        show Go p e below s _ _ _ (T9.setTop (mkF m 11 #[.val (.int p1), .val (.ref h0.size), .val (.int (8 : Int32)), .val (.int (3 : Int32)), .val (.ref b2)] [(.int (8 : Int32)), (.int (3 : Int32))]))
        have hc11_11 : (3 : Int32) < (8 : Int32) := by decide
        refine Go.step (fun t kk => XS.icmpNo X9.here hx rfl (hb hby own_d_of_11) rfl (tlt hc11_11).2.1 kk) ?_
        show Go p e below s _ _ _ (T9.setTop (mkF m 14 #[.val (.int p1), .val (.ref h0.size), .val (.int (8 : Int32)), .val (.int (3 : Int32)), .val (.ref b2)] []))
        refine Go.step (fun t kk => XS.aloadN X9.here hx rfl (hb hby own_d_of_14) rfl rfl kk) ?_
        show Go p e below s _ _ _ (T9.setTop (mkF m 15 #[.val (.int p1), .val (.ref h0.size), .val (.int (8 : Int32)), .val (.int (3 : Int32)), .val (.ref b2)] [(.ref h0.size)]))
        refine Go.step (fun t kk => XS.iloadN X9.here hx rfl (hb hby own_d_of_15) rfl kk) ?_
        show Go p e below s _ _ _ (T9.setTop (mkF m 16 #[.val (.int p1), .val (.ref h0.size), .val (.int (8 : Int32)), .val (.int (3 : Int32)), .val (.ref b2)] [(.int (3 : Int32)), (.ref h0.size)]))
        refine Go.step (fun t kk => X9.aaload hx (j := (3 : Int32)) (v := .ref b3) (own_cell e9 Ar) (State.isArrayOf_alike hZ.alike Ar.2.1) rfl Ar.2.2 (by rw [hsz]; decide) (hhas 3 (by rw [hsz]; decide)) (g := (mkF m 16 #[.val (.int p1), .val (.ref h0.size), .val (.int (8 : Int32)), .val (.int (3 : Int32)), .val (.ref b2)] [(.int (3 : Int32)), (.ref h0.size)])) rfl rfl (hb hby own_d_of_16) t kk) ?_
        show Go p e below s _ _ _ (T9.setTop (mkF m 17 #[.val (.int p1), .val (.ref h0.size), .val (.int (8 : Int32)), .val (.int (3 : Int32)), .val (.ref b2)] [(.ref b3)]))
        refine Go.step (fun t kk => XS.astore X9.here hx rfl (hb hby own_d_of_17) rfl rfl (l' := #[.val (.int p1), .val (.ref h0.size), .val (.int (8 : Int32)), .val (.int (3 : Int32)), .val (.ref b3)]) rfl kk) ?_
        show Go p e below s _ _ _ (T9.setTop (mkF m 19 #[.val (.int p1), .val (.ref h0.size), .val (.int (8 : Int32)), .val (.int (3 : Int32)), .val (.ref b3)] []))
        refine Go.step (fun t kk => XS.aload X9.here hx rfl (hb hby own_d_of_19) rfl rfl kk) ?_
        show Go p e below s _ _ _ (T9.setTop (mkF m 21 #[.val (.int p1), .val (.ref h0.size), .val (.int (8 : Int32)), .val (.int (3 : Int32)), .val (.ref b3)] [(.ref b3)]))
        obtain ⟨T12, X12, e12, st12⟩ := getF X9 hx hZ hown (host := "") (Or.inl (hw _ (List.mem_of_getElem? (i := 27) rfl))) Via.refl e9 (Fld.ext E1 F_b3_code) (g := (mkF m 21 #[.val (.int p1), .val (.ref h0.size), .val (.int (8 : Int32)), .val (.int (3 : Int32)), .val (.ref b3)] [(.ref b3)])) rfl rfl (hb hby own_d_of_21)
        refine Go.step st12 ?_
        show Go p e below s _ _ _ (T12.setTop (mkF m 24 #[.val (.int p1), .val (.ref h0.size), .val (.int (8 : Int32)), .val (.int (3 : Int32)), .val (.ref b3)] [(.int (3 : Int32))]))
        refine Go.step (fun t kk => XS.iloadN X12.here hx rfl (hb hby own_d_of_24) rfl kk) ?_
        show Go p e below s _ _ _ (T12.setTop (mkF m 25 #[.val (.int p1), .val (.ref h0.size), .val (.int (8 : Int32)), .val (.int (3 : Int32)), .val (.ref b3)] [(.int p1), (.int (3 : Int32))]))
        by_cases hc25_13 : (3 : Int32) = p1
        · refine Go.step (fun t kk => XS.icmpNo X12.here hx rfl (hb hby own_d_of_25) rfl (teq hc25_13).2 kk) ?_
          show Go p e below s _ _ _ (T12.setTop (mkF m 28 #[.val (.int p1), .val (.ref h0.size), .val (.int (8 : Int32)), .val (.int (3 : Int32)), .val (.ref b3)] []))
          refine Go.step (fun t kk => XS.aload X12.here hx rfl (hb hby own_d_of_28) rfl rfl kk) ?_
          show Go p e below s _ _ _ (T12.setTop (mkF m 30 #[.val (.int p1), .val (.ref h0.size), .val (.int (8 : Int32)), .val (.int (3 : Int32)), .val (.ref b3)] [(.ref b3)]))
          exact Go.retA X12 hx hlk hret rfl rfl (hb hby own_d_of_30) (by rw [e12]; exact ⟨by simp [own_of, hc25_4, hc25_7, hc25_10, hc25_13], rfl, (own_ext_trans (own_ext_refl h0) E1)⟩) (by decide) (by decide)
        · refine Go.step (fun t kk => XS.icmpYes X12.here hx rfl (pc0 := 25) (pc' := 31) rfl (hb hby own_d_of_25) rfl (feq hc25_13).2 (by decide) (by decide) kk) ?_
          show Go p e below s _ _ _ (T12.setTop (mkF m 31 #[.val (.int p1), .val (.ref h0.size), .val (.int (8 : Int32)), .val (.int (3 : Int32)), .val (.ref b3)] []))
          refine Go.step (fun t kk => XS.iinc X12.here hx rfl (hb hby own_d_of_31) rfl (l' := #[.val (.int p1), .val (.ref h0.size), .val (.int (8 : Int32)), .val (.int (4 : Int32)), .val (.ref b3)]) rfl kk) ?_
          show Go p e below s _ _ _ (T12.setTop (mkF m 34 #[.val (.int p1), .val (.ref h0.size), .val (.int (8 : Int32)), .val (.int (4 : Int32)), .val (.ref b3)] []))
          refine Go.step (fun t kk => XS.goto X12.here hx rfl (pc0 := 34) (pc' := 9) rfl (hb hby own_d_of_34) (by decide) (by decide) kk) ?_
          show Go p e below s _ _ _ (T12.setTop (mkF m 9 #[.val (.int p1), .val (.ref h0.size), .val (.int (8 : Int32)), .val (.int (4 : Int32)), .val (.ref b3)] []))
          refine Go.step (fun t kk => XS.iloadN X12.here hx rfl (hb hby own_d_of_9) rfl kk) ?_
          show Go p e below s _ _ _ (T12.setTop (mkF m 10 #[.val (.int p1), .val (.ref h0.size), .val (.int (8 : Int32)), .val (.int (4 : Int32)), .val (.ref b3)] [(.int (4 : Int32))]))
          refine Go.step (fun t kk => XS.iloadN X12.here hx rfl (hb hby own_d_of_10) rfl kk) ?_
          show Go p e below s _ _ _ (T12.setTop (mkF m 11 #[.val (.int p1), .val (.ref h0.size), .val (.int (8 : Int32)), .val (.int (4 : Int32)), .val (.ref b3)] [(.int (8 : Int32)), (.int (4 : Int32))]))
          have hc11_14 : (4 : Int32) < (8 : Int32) := by decide
          refine Go.step (fun t kk => XS.icmpNo X12.here hx rfl (hb hby own_d_of_11) rfl (tlt hc11_14).2.1 kk) ?_
          show Go p e below s _ _ _ (T12.setTop (mkF m 14 #[.val (.int p1), .val (.ref h0.size), .val (.int (8 : Int32)), .val (.int (4 : Int32)), .val (.ref b3)] []))
          refine Go.step (fun t kk => XS.aloadN X12.here hx rfl (hb hby own_d_of_14) rfl rfl kk) ?_
          show Go p e below s _ _ _ (T12.setTop (mkF m 15 #[.val (.int p1), .val (.ref h0.size), .val (.int (8 : Int32)), .val (.int (4 : Int32)), .val (.ref b3)] [(.ref h0.size)]))
          refine Go.step (fun t kk => XS.iloadN X12.here hx rfl (hb hby own_d_of_15) rfl kk) ?_
          show Go p e below s _ _ _ (T12.setTop (mkF m 16 #[.val (.int p1), .val (.ref h0.size), .val (.int (8 : Int32)), .val (.int (4 : Int32)), .val (.ref b3)] [(.int (4 : Int32)), (.ref h0.size)]))
          refine Go.step (fun t kk => X12.aaload hx (j := (4 : Int32)) (v := .ref b4) (own_cell e12 Ar) (State.isArrayOf_alike hZ.alike Ar.2.1) rfl Ar.2.2 (by rw [hsz]; decide) (hhas 4 (by rw [hsz]; decide)) (g := (mkF m 16 #[.val (.int p1), .val (.ref h0.size), .val (.int (8 : Int32)), .val (.int (4 : Int32)), .val (.ref b3)] [(.int (4 : Int32)), (.ref h0.size)])) rfl rfl (hb hby own_d_of_16) t kk) ?_
          show Go p e below s _ _ _ (T12.setTop (mkF m 17 #[.val (.int p1), .val (.ref h0.size), .val (.int (8 : Int32)), .val (.int (4 : Int32)), .val (.ref b3)] [(.ref b4)]))
          refine Go.step (fun t kk => XS.astore X12.here hx rfl (hb hby own_d_of_17) rfl rfl (l' := #[.val (.int p1), .val (.ref h0.size), .val (.int (8 : Int32)), .val (.int (4 : Int32)), .val (.ref b4)]) rfl kk) ?_
          show Go p e below s _ _ _ (T12.setTop (mkF m 19 #[.val (.int p1), .val (.ref h0.size), .val (.int (8 : Int32)), .val (.int (4 : Int32)), .val (.ref b4)] []))
          refine Go.step (fun t kk => XS.aload X12.here hx rfl (hb hby own_d_of_19) rfl rfl kk) ?_
          show Go p e below s _ _ _ (T12.setTop (mkF m 21 #[.val (.int p1), .val (.ref h0.size), .val (.int (8 : Int32)), .val (.int (4 : Int32)), .val (.ref b4)] [(.ref b4)]))
          obtain ⟨T15, X15, e15, st15⟩ := getF X12 hx hZ hown (host := "") (Or.inl (hw _ (List.mem_of_getElem? (i := 27) rfl))) Via.refl e12 (Fld.ext E1 F_b4_code) (g := (mkF m 21 #[.val (.int p1), .val (.ref h0.size), .val (.int (8 : Int32)), .val (.int (4 : Int32)), .val (.ref b4)] [(.ref b4)])) rfl rfl (hb hby own_d_of_21)
          refine Go.step st15 ?_
          show Go p e below s _ _ _ (T15.setTop (mkF m 24 #[.val (.int p1), .val (.ref h0.size), .val (.int (8 : Int32)), .val (.int (4 : Int32)), .val (.ref b4)] [(.int (4 : Int32))]))
          refine Go.step (fun t kk => XS.iloadN X15.here hx rfl (hb hby own_d_of_24) rfl kk) ?_
          show Go p e below s _ _ _ (T15.setTop (mkF m 25 #[.val (.int p1), .val (.ref h0.size), .val (.int (8 : Int32)), .val (.int (4 : Int32)), .val (.ref b4)] [(.int p1), (.int (4 : Int32))]))
          by_cases hc25_16 : (4 : Int32) = p1
          · refine Go.step (fun t kk => XS.icmpNo X15.here hx rfl (hb hby own_d_of_25) rfl (teq hc25_16).2 kk) ?_
            show Go p e below s _ _ _ (T15.setTop (mkF m 28 #[.val (.int p1), .val (.ref h0.size), .val (.int (8 : Int32)), .val (.int (4 : Int32)), .val (.ref b4)] []))
            refine Go.step (fun t kk => XS.aload X15.here hx rfl (hb hby own_d_of_28) rfl rfl kk) ?_
            show Go p e below s _ _ _ (T15.setTop (mkF m 30 #[.val (.int p1), .val (.ref h0.size), .val (.int (8 : Int32)), .val (.int (4 : Int32)), .val (.ref b4)] [(.ref b4)]))
            exact Go.retA X15 hx hlk hret rfl rfl (hb hby own_d_of_30) (by rw [e15]; exact ⟨by simp [own_of, hc25_4, hc25_7, hc25_10, hc25_13, hc25_16], rfl, (own_ext_trans (own_ext_refl h0) E1)⟩) (by decide) (by decide)
          · refine Go.step (fun t kk => XS.icmpYes X15.here hx rfl (pc0 := 25) (pc' := 31) rfl (hb hby own_d_of_25) rfl (feq hc25_16).2 (by decide) (by decide) kk) ?_
            show Go p e below s _ _ _ (T15.setTop (mkF m 31 #[.val (.int p1), .val (.ref h0.size), .val (.int (8 : Int32)), .val (.int (4 : Int32)), .val (.ref b4)] []))
            refine Go.step (fun t kk => XS.iinc X15.here hx rfl (hb hby own_d_of_31) rfl (l' := #[.val (.int p1), .val (.ref h0.size), .val (.int (8 : Int32)), .val (.int (5 : Int32)), .val (.ref b4)]) rfl kk) ?_
            show Go p e below s _ _ _ (T15.setTop (mkF m 34 #[.val (.int p1), .val (.ref h0.size), .val (.int (8 : Int32)), .val (.int (5 : Int32)), .val (.ref b4)] []))
            refine Go.step (fun t kk => XS.goto X15.here hx rfl (pc0 := 34) (pc' := 9) rfl (hb hby own_d_of_34) (by decide) (by decide) kk) ?_
            show Go p e below s _ _ _ (T15.setTop (mkF m 9 #[.val (.int p1), .val (.ref h0.size), .val (.int (8 : Int32)), .val (.int (5 : Int32)), .val (.ref b4)] []))
            refine Go.step (fun t kk => XS.iloadN X15.here hx rfl (hb hby own_d_of_9) rfl kk) ?_
            show Go p e below s _ _ _ (T15.setTop (mkF m 10 #[.val (.int p1), .val (.ref h0.size), .val (.int (8 : Int32)), .val (.int (5 : Int32)), .val (.ref b4)] [(.int (5 : Int32))]))
            refine Go.step (fun t kk => XS.iloadN X15.here hx rfl (hb hby own_d_of_10) rfl kk) ?_
            show Go p e below s _ _ _ (T15.setTop (mkF m 11 #[.val (.int p1), .val (.ref h0.size), .val (.int (8 : Int32)), .val (.int (5 : Int32)), .val (.ref b4)] [(.int (8 : Int32)), (.int (5 : Int32))]))
            have hc11_17 : (5 : Int32) < (8 : Int32) := by decide
            refine Go.step (fun t kk => XS.icmpNo X15.here hx rfl (hb hby own_d_of_11) rfl (tlt hc11_17).2.1 kk) ?_
            show Go p e below s _ _ _ (T15.setTop (mkF m 14 #[.val (.int p1), .val (.ref h0.size), .val (.int (8 : Int32)), .val (.int (5 : Int32)), .val (.ref b4)] []))
            refine Go.step (fun t kk => XS.aloadN X15.here hx rfl (hb hby own_d_of_14) rfl rfl kk) ?_
            show Go p e below s _ _ _ (T15.setTop (mkF m 15 #[.val (.int p1), .val (.ref h0.size), .val (.int (8 : Int32)), .val (.int (5 : Int32)), .val (.ref b4)] [(.ref h0.size)]))
            refine Go.step (fun t kk => XS.iloadN X15.here hx rfl (hb hby own_d_of_15) rfl kk) ?_
            show Go p e below s _ _ _ (T15.setTop (mkF m 16 #[.val (.int p1), .val (.ref h0.size), .val (.int (8 : Int32)), .val (.int (5 : Int32)), .val (.ref b4)] [(.int (5 : Int32)), (.ref h0.size)]))
            refine Go.step (fun t kk => X15.aaload hx (j := (5 : Int32)) (v := .ref b5) (own_cell e15 Ar) (State.isArrayOf_alike hZ.alike Ar.2.1) rfl Ar.2.2 (by rw [hsz]; decide) (hhas 5 (by rw [hsz]; decide)) (g := (mkF m 16 #[.val (.int p1), .val (.ref h0.size), .val (.int (8 : Int32)), .val (.int (5 : Int32)), .val (.ref b4)] [(.int (5 : Int32)), (.ref h0.size)])) rfl rfl (hb hby own_d_of_16) t kk) ?_
            show Go p e below s _ _ _ (T15.setTop (mkF m 17 #[.val (.int p1), .val (.ref h0.size), .val (.int (8 : Int32)), .val (.int (5 : Int32)), .val (.ref b4)] [(.ref b5)]))
            refine Go.step (fun t kk => XS.astore X15.here hx rfl (hb hby own_d_of_17) rfl rfl (l' := #[.val (.int p1), .val (.ref h0.size), .val (.int (8 : Int32)), .val (.int (5 : Int32)), .val (.ref b5)]) rfl kk) ?_
            show Go p e below s _ _ _ (T15.setTop (mkF m 19 #[.val (.int p1), .val (.ref h0.size), .val (.int (8 : Int32)), .val (.int (5 : Int32)), .val (.ref b5)] []))
            refine Go.step (fun t kk => XS.aload X15.here hx rfl (hb hby own_d_of_19) rfl rfl kk) ?_
            show Go p e below s _ _ _ (T15.setTop (mkF m 21 #[.val (.int p1), .val (.ref h0.size), .val (.int (8 : Int32)), .val (.int (5 : Int32)), .val (.ref b5)] [(.ref b5)]))
            obtain ⟨T18, X18, e18, st18⟩ := getF X15 hx hZ hown (host := "") (Or.inl (hw _ (List.mem_of_getElem? (i := 27) rfl))) Via.refl e15 (Fld.ext E1 F_b5_code) (g := (mkF m 21 #[.val (.int p1), .val (.ref h0.size), .val (.int (8 : Int32)), .val (.int (5 : Int32)), .val (.ref b5)] [(.ref b5)])) rfl rfl (hb hby own_d_of_21)
            refine Go.step st18 ?_
            show Go p e below s _ _ _ (T18.setTop (mkF m 24 #[.val (.int p1), .val (.ref h0.size), .val (.int (8 : Int32)), .val (.int (5 : Int32)), .val (.ref b5)] [(.int (5 : Int32))]))
            refine Go.step (fun t kk => XS.iloadN X18.here hx rfl (hb hby own_d_of_24) rfl kk) ?_
            show Go p e below s _ _ _ (T18.setTop (mkF m 25 #[.val (.int p1), .val (.ref h0.size), .val (.int (8 : Int32)), .val (.int (5 : Int32)), .val (.ref b5)] [(.int p1), (.int (5 : Int32))]))
            by_cases hc25_19 : (5 : Int32) = p1
            · refine Go.step (fun t kk => XS.icmpNo X18.here hx rfl (hb hby own_d_of_25) rfl (teq hc25_19).2 kk) ?_
              show Go p e below s _ _ _ (T18.setTop (mkF m 28 #[.val (.int p1), .val (.ref h0.size), .val (.int (8 : Int32)), .val (.int (5 : Int32)), .val (.ref b5)] []))
              refine Go.step (fun t kk => XS.aload X18.here hx rfl (hb hby own_d_of_28) rfl rfl kk) ?_
              show Go p e below s _ _ _ (T18.setTop (mkF m 30 #[.val (.int p1), .val (.ref h0.size), .val (.int (8 : Int32)), .val (.int (5 : Int32)), .val (.ref b5)] [(.ref b5)]))
              exact Go.retA X18 hx hlk hret rfl rfl (hb hby own_d_of_30) (by rw [e18]; exact ⟨by simp [own_of, hc25_4, hc25_7, hc25_10, hc25_13, hc25_16, hc25_19], rfl, (own_ext_trans (own_ext_refl h0) E1)⟩) (by decide) (by decide)
            · refine Go.step (fun t kk => XS.icmpYes X18.here hx rfl (pc0 := 25) (pc' := 31) rfl (hb hby own_d_of_25) rfl (feq hc25_19).2 (by decide) (by decide) kk) ?_
              show Go p e below s _ _ _ (T18.setTop (mkF m 31 #[.val (.int p1), .val (.ref h0.size), .val (.int (8 : Int32)), .val (.int (5 : Int32)), .val (.ref b5)] []))
              refine Go.step (fun t kk => XS.iinc X18.here hx rfl (hb hby own_d_of_31) rfl (l' := #[.val (.int p1), .val (.ref h0.size), .val (.int (8 : Int32)), .val (.int (6 : Int32)), .val (.ref b5)]) rfl kk) ?_
              show Go p e below s _ _ _ (T18.setTop (mkF m 34 #[.val (.int p1), .val (.ref h0.size), .val (.int (8 : Int32)), .val (.int (6 : Int32)), .val (.ref b5)] []))
              refine Go.step (fun t kk => XS.goto X18.here hx rfl (pc0 := 34) (pc' := 9) rfl (hb hby own_d_of_34) (by decide) (by decide) kk) ?_
              show Go p e below s _ _ _ (T18.setTop (mkF m 9 #[.val (.int p1), .val (.ref h0.size), .val (.int (8 : Int32)), .val (.int (6 : Int32)), .val (.ref b5)] []))
              refine Go.step (fun t kk => XS.iloadN X18.here hx rfl (hb hby own_d_of_9) rfl kk) ?_
              show Go p e below s _ _ _ (T18.setTop (mkF m 10 #[.val (.int p1), .val (.ref h0.size), .val (.int (8 : Int32)), .val (.int (6 : Int32)), .val (.ref b5)] [(.int (6 : Int32))]))
              refine Go.step (fun t kk => XS.iloadN X18.here hx rfl (hb hby own_d_of_10) rfl kk) ?_
              show Go p e below s _ _ _ (T18.setTop (mkF m 11 #[.val (.int p1), .val (.ref h0.size), .val (.int (8 : Int32)), .val (.int (6 : Int32)), .val (.ref b5)] [(.int (8 : Int32)), (.int (6 : Int32))]))
              have hc11_20 : (6 : Int32) < (8 : Int32) := by decide
              refine Go.step (fun t kk => XS.icmpNo X18.here hx rfl (hb hby own_d_of_11) rfl (tlt hc11_20).2.1 kk) ?_
              show Go p e below s _ _ _ (T18.setTop (mkF m 14 #[.val (.int p1), .val (.ref h0.size), .val (.int (8 : Int32)), .val (.int (6 : Int32)), .val (.ref b5)] []))
              refine Go.step (fun t kk => XS.aloadN X18.here hx rfl (hb hby own_d_of_14) rfl rfl kk) ?_
              show Go p e below s _ _ _ (T18.setTop (mkF m 15 #[.val (.int p1), .val (.ref h0.size), .val (.int (8 : Int32)), .val (.int (6 : Int32)), .val (.ref b5)] [(.ref h0.size)]))
              refine Go.step (fun t kk => XS.iloadN X18.here hx rfl (hb hby own_d_of_15) rfl kk) ?_
              show Go p e below s _ _ _ (T18.setTop (mkF m 16 #[.val (.int p1), .val (.ref h0.size), .val (.int (8 : Int32)), .val (.int (6 : Int32)), .val (.ref b5)] [(.int (6 : Int32)), (.ref h0.size)]))
              refine Go.step (fun t kk => X18.aaload hx (j := (6 : Int32)) (v := .ref b6) (own_cell e18 Ar) (State.isArrayOf_alike hZ.alike Ar.2.1) rfl Ar.2.2 (by rw [hsz]; decide) (hhas 6 (by rw [hsz]; decide)) (g := (mkF m 16 #[.val (.int p1), .val (.ref h0.size), .val (.int (8 : Int32)), .val (.int (6 : Int32)), .val (.ref b5)] [(.int (6 : Int32)), (.ref h0.size)])) rfl rfl (hb hby own_d_of_16) t kk) ?_
              show Go p e below s _ _ _ (T18.setTop (mkF m 17 #[.val (.int p1), .val (.ref h0.size), .val (.int (8 : Int32)), .val (.int (6 : Int32)), .val (.ref b5)] [(.ref b6)]))
              refine Go.step (fun t kk => XS.astore X18.here hx rfl (hb hby own_d_of_17) rfl rfl (l' := #[.val (.int p1), .val (.ref h0.size), .val (.int (8 : Int32)), .val (.int (6 : Int32)), .val (.ref b6)]) rfl kk) ?_
              show Go p e below s _ _ _ (T18.setTop (mkF m 19 #[.val (.int p1), .val (.ref h0.size), .val (.int (8 : Int32)), .val (.int (6 : Int32)), .val (.ref b6)] []))
              refine Go.step (fun t kk => XS.aload X18.here hx rfl (hb hby own_d_of_19) rfl rfl kk) ?_
              show Go p e below s _ _ _ (T18.setTop (mkF m 21 #[.val (.int p1), .val (.ref h0.size), .val (.int (8 : Int32)), .val (.int (6 : Int32)), .val (.ref b6)] [(.ref b6)]))
              obtain ⟨T21, X21, e21, st21⟩ := getF X18 hx hZ hown (host := "") (Or.inl (hw _ (List.mem_of_getElem? (i := 27) rfl))) Via.refl e18 (Fld.ext E1 F_b6_code) (g := (mkF m 21 #[.val (.int p1), .val (.ref h0.size), .val (.int (8 : Int32)), .val (.int (6 : Int32)), .val (.ref b6)] [(.ref b6)])) rfl rfl (hb hby own_d_of_21)
              refine Go.step st21 ?_
              show Go p e below s _ _ _ (T21.setTop (mkF m 24 #[.val (.int p1), .val (.ref h0.size), .val (.int (8 : Int32)), .val (.int (6 : Int32)), .val (.ref b6)] [(.int (6 : Int32))]))
              refine Go.step (fun t kk => XS.iloadN X21.here hx rfl (hb hby own_d_of_24) rfl kk) ?_
              show Go p e below s _ _ _ (T21.setTop (mkF m 25 #[.val (.int p1), .val (.ref h0.size), .val (.int (8 : Int32)), .val (.int (6 : Int32)), .val (.ref b6)] [(.int p1), (.int (6 : Int32))]))
              by_cases hc25_22 : (6 : Int32) = p1
              · refine Go.step (fun t kk => XS.icmpNo X21.here hx rfl (hb hby own_d_of_25) rfl (teq hc25_22).2 kk) ?_
                show Go p e below s _ _ _ (T21.setTop (mkF m 28 #[.val (.int p1), .val (.ref h0.size), .val (.int (8 : Int32)), .val (.int (6 : Int32)), .val (.ref b6)] []))
                refine Go.step (fun t kk => XS.aload X21.here hx rfl (hb hby own_d_of_28) rfl rfl kk) ?_
                show Go p e below s _ _ _ (T21.setTop (mkF m 30 #[.val (.int p1), .val (.ref h0.size), .val (.int (8 : Int32)), .val (.int (6 : Int32)), .val (.ref b6)] [(.ref b6)]))
                exact Go.retA X21 hx hlk hret rfl rfl (hb hby own_d_of_30) (by rw [e21]; exact ⟨by simp [own_of, hc25_4, hc25_7, hc25_10, hc25_13, hc25_16, hc25_19, hc25_22], rfl, (own_ext_trans (own_ext_refl h0) E1)⟩) (by decide) (by decide)
              · refine Go.step (fun t kk => XS.icmpYes X21.here hx rfl (pc0 := 25) (pc' := 31) rfl (hb hby own_d_of_25) rfl (feq hc25_22).2 (by decide) (by decide) kk) ?_
                show Go p e below s _ _ _ (T21.setTop (mkF m 31 #[.val (.int p1), .val (.ref h0.size), .val (.int (8 : Int32)), .val (.int (6 : Int32)), .val (.ref b6)] []))
                refine Go.step (fun t kk => XS.iinc X21.here hx rfl (hb hby own_d_of_31) rfl (l' := #[.val (.int p1), .val (.ref h0.size), .val (.int (8 : Int32)), .val (.int (7 : Int32)), .val (.ref b6)]) rfl kk) ?_
                show Go p e below s _ _ _ (T21.setTop (mkF m 34 #[.val (.int p1), .val (.ref h0.size), .val (.int (8 : Int32)), .val (.int (7 : Int32)), .val (.ref b6)] []))
                refine Go.step (fun t kk => XS.goto X21.here hx rfl (pc0 := 34) (pc' := 9) rfl (hb hby own_d_of_34) (by decide) (by decide) kk) ?_
                show Go p e below s _ _ _ (T21.setTop (mkF m 9 #[.val (.int p1), .val (.ref h0.size), .val (.int (8 : Int32)), .val (.int (7 : Int32)), .val (.ref b6)] []))
                refine Go.step (fun t kk => XS.iloadN X21.here hx rfl (hb hby own_d_of_9) rfl kk) ?_
                show Go p e below s _ _ _ (T21.setTop (mkF m 10 #[.val (.int p1), .val (.ref h0.size), .val (.int (8 : Int32)), .val (.int (7 : Int32)), .val (.ref b6)] [(.int (7 : Int32))]))
                refine Go.step (fun t kk => XS.iloadN X21.here hx rfl (hb hby own_d_of_10) rfl kk) ?_
                show Go p e below s _ _ _ (T21.setTop (mkF m 11 #[.val (.int p1), .val (.ref h0.size), .val (.int (8 : Int32)), .val (.int (7 : Int32)), .val (.ref b6)] [(.int (8 : Int32)), (.int (7 : Int32))]))
                have hc11_23 : (7 : Int32) < (8 : Int32) := by decide
                refine Go.step (fun t kk => XS.icmpNo X21.here hx rfl (hb hby own_d_of_11) rfl (tlt hc11_23).2.1 kk) ?_
                show Go p e below s _ _ _ (T21.setTop (mkF m 14 #[.val (.int p1), .val (.ref h0.size), .val (.int (8 : Int32)), .val (.int (7 : Int32)), .val (.ref b6)] []))
                refine Go.step (fun t kk => XS.aloadN X21.here hx rfl (hb hby own_d_of_14) rfl rfl kk) ?_
                show Go p e below s _ _ _ (T21.setTop (mkF m 15 #[.val (.int p1), .val (.ref h0.size), .val (.int (8 : Int32)), .val (.int (7 : Int32)), .val (.ref b6)] [(.ref h0.size)]))
                refine Go.step (fun t kk => XS.iloadN X21.here hx rfl (hb hby own_d_of_15) rfl kk) ?_
                show Go p e below s _ _ _ (T21.setTop (mkF m 16 #[.val (.int p1), .val (.ref h0.size), .val (.int (8 : Int32)), .val (.int (7 : Int32)), .val (.ref b6)] [(.int (7 : Int32)), (.ref h0.size)]))
                refine Go.step (fun t kk => X21.aaload hx (j := (7 : Int32)) (v := .ref b7) (own_cell e21 Ar) (State.isArrayOf_alike hZ.alike Ar.2.1) rfl Ar.2.2 (by rw [hsz]; decide) (hhas 7 (by rw [hsz]; decide)) (g := (mkF m 16 #[.val (.int p1), .val (.ref h0.size), .val (.int (8 : Int32)), .val (.int (7 : Int32)), .val (.ref b6)] [(.int (7 : Int32)), (.ref h0.size)])) rfl rfl (hb hby own_d_of_16) t kk) ?_
                show Go p e below s _ _ _ (T21.setTop (mkF m 17 #[.val (.int p1), .val (.ref h0.size), .val (.int (8 : Int32)), .val (.int (7 : Int32)), .val (.ref b6)] [(.ref b7)]))
                refine Go.step (fun t kk => XS.astore X21.here hx rfl (hb hby own_d_of_17) rfl rfl (l' := #[.val (.int p1), .val (.ref h0.size), .val (.int (8 : Int32)), .val (.int (7 : Int32)), .val (.ref b7)]) rfl kk) ?_
                show Go p e below s _ _ _ (T21.setTop (mkF m 19 #[.val (.int p1), .val (.ref h0.size), .val (.int (8 : Int32)), .val (.int (7 : Int32)), .val (.ref b7)] []))
                refine Go.step (fun t kk => XS.aload X21.here hx rfl (hb hby own_d_of_19) rfl rfl kk) ?_
                show Go p e below s _ _ _ (T21.setTop (mkF m 21 #[.val (.int p1), .val (.ref h0.size), .val (.int (8 : Int32)), .val (.int (7 : Int32)), .val (.ref b7)] [(.ref b7)]))
                obtain ⟨T24, X24, e24, st24⟩ := getF X21 hx hZ hown (host := "") (Or.inl (hw _ (List.mem_of_getElem? (i := 27) rfl))) Via.refl e21 (Fld.ext E1 F_b7_code) (g := (mkF m 21 #[.val (.int p1), .val (.ref h0.size), .val (.int (8 : Int32)), .val (.int (7 : Int32)), .val (.ref b7)] [(.ref b7)])) rfl rfl (hb hby own_d_of_21)
                refine Go.step st24 ?_
                show Go p e below s _ _ _ (T24.setTop (mkF m 24 #[.val (.int p1), .val (.ref h0.size), .val (.int (8 : Int32)), .val (.int (7 : Int32)), .val (.ref b7)] [(.int (7 : Int32))]))
                refine Go.step (fun t kk => XS.iloadN X24.here hx rfl (hb hby own_d_of_24) rfl kk) ?_
                show Go p e below s _ _ _ (T24.setTop (mkF m 25 #[.val (.int p1), .val (.ref h0.size), .val (.int (8 : Int32)), .val (.int (7 : Int32)), .val (.ref b7)] [(.int p1), (.int (7 : Int32))]))
                by_cases hc25_25 : (7 : Int32) = p1
                · refine Go.step (fun t kk => XS.icmpNo X24.here hx rfl (hb hby own_d_of_25) rfl (teq hc25_25).2 kk) ?_
                  show Go p e below s _ _ _ (T24.setTop (mkF m 28 #[.val (.int p1), .val (.ref h0.size), .val (.int (8 : Int32)), .val (.int (7 : Int32)), .val (.ref b7)] []))
                  refine Go.step (fun t kk => XS.aload X24.here hx rfl (hb hby own_d_of_28) rfl rfl kk) ?_
                  show Go p e below s _ _ _ (T24.setTop (mkF m 30 #[.val (.int p1), .val (.ref h0.size), .val (.int (8 : Int32)), .val (.int (7 : Int32)), .val (.ref b7)] [(.ref b7)]))
                  exact Go.retA X24 hx hlk hret rfl rfl (hb hby own_d_of_30) (by rw [e24]; exact ⟨by simp [own_of, hc25_4, hc25_7, hc25_10, hc25_13, hc25_16, hc25_19, hc25_22, hc25_25], rfl, (own_ext_trans (own_ext_refl h0) E1)⟩) (by decide) (by decide)
                · refine Go.step (fun t kk => XS.icmpYes X24.here hx rfl (pc0 := 25) (pc' := 31) rfl (hb hby own_d_of_25) rfl (feq hc25_25).2 (by decide) (by decide) kk) ?_
                  show Go p e below s _ _ _ (T24.setTop (mkF m 31 #[.val (.int p1), .val (.ref h0.size), .val (.int (8 : Int32)), .val (.int (7 : Int32)), .val (.ref b7)] []))
                  refine Go.step (fun t kk => XS.iinc X24.here hx rfl (hb hby own_d_of_31) rfl (l' := #[.val (.int p1), .val (.ref h0.size), .val (.int (8 : Int32)), .val (.int (8 : Int32)), .val (.ref b7)]) rfl kk) ?_
                  show Go p e below s _ _ _ (T24.setTop (mkF m 34 #[.val (.int p1), .val (.ref h0.size), .val (.int (8 : Int32)), .val (.int (8 : Int32)), .val (.ref b7)] []))
                  refine Go.step (fun t kk => XS.goto X24.here hx rfl (pc0 := 34) (pc' := 9) rfl (hb hby own_d_of_34) (by decide) (by decide) kk) ?_
                  show Go p e below s _ _ _ (T24.setTop (mkF m 9 #[.val (.int p1), .val (.ref h0.size), .val (.int (8 : Int32)), .val (.int (8 : Int32)), .val (.ref b7)] []))
                  refine Go.step (fun t kk => XS.iloadN X24.here hx rfl (hb hby own_d_of_9) rfl kk) ?_
                  show Go p e below s _ _ _ (T24.setTop (mkF m 10 #[.val (.int p1), .val (.ref h0.size), .val (.int (8 : Int32)), .val (.int (8 : Int32)), .val (.ref b7)] [(.int (8 : Int32))]))
                  refine Go.step (fun t kk => XS.iloadN X24.here hx rfl (hb hby own_d_of_10) rfl kk) ?_
                  show Go p e below s _ _ _ (T24.setTop (mkF m 11 #[.val (.int p1), .val (.ref h0.size), .val (.int (8 : Int32)), .val (.int (8 : Int32)), .val (.ref b7)] [(.int (8 : Int32)), (.int (8 : Int32))]))
                  have hc11_26 : ¬ ((8 : Int32) < (8 : Int32)) := by decide
                  refine Go.step (fun t kk => XS.icmpYes X24.here hx rfl (pc0 := 11) (pc' := 37) rfl (hb hby own_d_of_11) rfl (flt hc11_26).2.1 (by decide) (by decide) kk) ?_
                  show Go p e below s _ _ _ (T24.setTop (mkF m 37 #[.val (.int p1), .val (.ref h0.size), .val (.int (8 : Int32)), .val (.int (8 : Int32)), .val (.ref b7)] []))
                  obtain ⟨T27, X27, e27, st27⟩ := getS (host := "") X24 hx hZ hown (hw _ (List.mem_of_getElem? (i := 29) rfl)) Via.refl e24 (Sta.ext E1 S_b0) (g := (mkF m 37 #[.val (.int p1), .val (.ref h0.size), .val (.int (8 : Int32)), .val (.int (8 : Int32)), .val (.ref b7)] [])) rfl (hb hby own_d_of_37)
                  refine Go.step st27 ?_
                  show Go p e below s _ _ _ (T27.setTop (mkF m 40 #[.val (.int p1), .val (.ref h0.size), .val (.int (8 : Int32)), .val (.int (8 : Int32)), .val (.ref b7)] [(.ref b0)]))
                  exact Go.retA X27 hx hlk hret rfl rfl (hb hby own_d_of_40) (by rw [e27]; exact ⟨by simp [own_of, hc25_4, hc25_7, hc25_10, hc25_13, hc25_16, hc25_19, hc25_22, hc25_25], rfl, (own_ext_trans (own_ext_refl h0) E1)⟩) (by decide) (by decide)
theorem own_pn1 : plainName "com/example/pubsume/pubsume/common/protocol/ErrorCodeOfCodePinLaw" = true := by first | (simp [plainName, overriddenIn]; done) | decide +kernel
theorem own_d_ex_0 : decode method_2_code 0 = .ok (.iload_n 0, 1) := by decide +kernel
theorem own_d_ex_1 : decode method_2_code 1 = .ok (.ifCond .ne 7, 3) := by decide +kernel
theorem own_d_ex_4 : decode method_2_code 4 = .ok (.getstatic 7, 3) := by decide +kernel
theorem own_d_ex_7 : decode method_2_code 7 = .ok (.areturn, 1) := by decide +kernel
theorem own_d_ex_8 : decode method_2_code 8 = .ok (.iload_n 0, 1) := by decide +kernel
theorem own_d_ex_9 : decode method_2_code 9 = .ok (.iconst 1, 1) := by decide +kernel
theorem own_d_ex_10 : decode method_2_code 10 = .ok (.if_icmp .ne 7, 3) := by decide +kernel
theorem own_d_ex_13 : decode method_2_code 13 = .ok (.getstatic 13, 3) := by decide +kernel
theorem own_d_ex_16 : decode method_2_code 16 = .ok (.areturn, 1) := by decide +kernel
theorem own_d_ex_17 : decode method_2_code 17 = .ok (.iload_n 0, 1) := by decide +kernel
theorem own_d_ex_18 : decode method_2_code 18 = .ok (.iconst 2, 1) := by decide +kernel
theorem own_d_ex_19 : decode method_2_code 19 = .ok (.if_icmp .ne 7, 3) := by decide +kernel
theorem own_d_ex_22 : decode method_2_code 22 = .ok (.getstatic 16, 3) := by decide +kernel
theorem own_d_ex_25 : decode method_2_code 25 = .ok (.areturn, 1) := by decide +kernel
theorem own_d_ex_26 : decode method_2_code 26 = .ok (.iload_n 0, 1) := by decide +kernel
theorem own_d_ex_27 : decode method_2_code 27 = .ok (.iconst 3, 1) := by decide +kernel
theorem own_d_ex_28 : decode method_2_code 28 = .ok (.if_icmp .ne 7, 3) := by decide +kernel
theorem own_d_ex_31 : decode method_2_code 31 = .ok (.getstatic 19, 3) := by decide +kernel
theorem own_d_ex_34 : decode method_2_code 34 = .ok (.areturn, 1) := by decide +kernel
theorem own_d_ex_35 : decode method_2_code 35 = .ok (.iload_n 0, 1) := by decide +kernel
theorem own_d_ex_36 : decode method_2_code 36 = .ok (.iconst 4, 1) := by decide +kernel
theorem own_d_ex_37 : decode method_2_code 37 = .ok (.if_icmp .ne 7, 3) := by decide +kernel
theorem own_d_ex_40 : decode method_2_code 40 = .ok (.getstatic 22, 3) := by decide +kernel
theorem own_d_ex_43 : decode method_2_code 43 = .ok (.areturn, 1) := by decide +kernel
theorem own_d_ex_44 : decode method_2_code 44 = .ok (.iload_n 0, 1) := by decide +kernel
theorem own_d_ex_45 : decode method_2_code 45 = .ok (.iconst 5, 1) := by decide +kernel
theorem own_d_ex_46 : decode method_2_code 46 = .ok (.if_icmp .ne 7, 3) := by decide +kernel
theorem own_d_ex_49 : decode method_2_code 49 = .ok (.getstatic 25, 3) := by decide +kernel
theorem own_d_ex_52 : decode method_2_code 52 = .ok (.areturn, 1) := by decide +kernel
theorem own_d_ex_53 : decode method_2_code 53 = .ok (.iload_n 0, 1) := by decide +kernel
theorem own_d_ex_54 : decode method_2_code 54 = .ok (.bipush 6, 2) := by decide +kernel
theorem own_d_ex_56 : decode method_2_code 56 = .ok (.if_icmp .ne 7, 3) := by decide +kernel
theorem own_d_ex_59 : decode method_2_code 59 = .ok (.getstatic 28, 3) := by decide +kernel
theorem own_d_ex_62 : decode method_2_code 62 = .ok (.areturn, 1) := by decide +kernel
theorem own_d_ex_63 : decode method_2_code 63 = .ok (.iload_n 0, 1) := by decide +kernel
theorem own_d_ex_64 : decode method_2_code 64 = .ok (.bipush 7, 2) := by decide +kernel
theorem own_d_ex_66 : decode method_2_code 66 = .ok (.if_icmp .ne 7, 3) := by decide +kernel
theorem own_d_ex_69 : decode method_2_code 69 = .ok (.getstatic 31, 3) := by decide +kernel
theorem own_d_ex_72 : decode method_2_code 72 = .ok (.areturn, 1) := by decide +kernel
theorem own_d_ex_73 : decode method_2_code 73 = .ok (.getstatic 7, 3) := by decide +kernel
theorem own_d_ex_76 : decode method_2_code 76 = .ok (.areturn, 1) := by decide +kernel
theorem own_ef_ex (m : MethodId) (p1 : Int32) : entryFrame m #[(.int p1)] 1 = mkF m 0 #[.val (.int p1)] [] := by first | (simp [entryFrame, mkF, argsToLocals, Value.category, maxLocals]; done) | rfl
set_option maxRecDepth 65536 in
set_option maxHeartbeats 40000000 in
theorem rm_ex (l : Launch) (Z : State) (a0 : Array Value) (hw : ∀ d ∈ tables_1, d.before a0 Z = true) (p1 : Int32) (b0 : Addr) (b1 : Addr) (b2 : Addr) (b3 : Addr) (b4 : Addr) (b5 : Addr) (b6 : Addr) (b7 : Addr) (h0 : Heap) (n0 : Nat) (S_b0 : Sta Z h0 "com/example/pubsume/pubsume/common/protocol/ErrorCode" "UnknownError" "Lcom/example/pubsume/pubsume/common/protocol/ErrorCode;" (.ref b0)) (S_b1 : Sta Z h0 "com/example/pubsume/pubsume/common/protocol/ErrorCode" "ProtocolError" "Lcom/example/pubsume/pubsume/common/protocol/ErrorCode;" (.ref b1)) (S_b2 : Sta Z h0 "com/example/pubsume/pubsume/common/protocol/ErrorCode" "UnsupportedVersion" "Lcom/example/pubsume/pubsume/common/protocol/ErrorCode;" (.ref b2)) (S_b3 : Sta Z h0 "com/example/pubsume/pubsume/common/protocol/ErrorCode" "InvalidName" "Lcom/example/pubsume/pubsume/common/protocol/ErrorCode;" (.ref b3)) (S_b4 : Sta Z h0 "com/example/pubsume/pubsume/common/protocol/ErrorCode" "NamespaceNotFound" "Lcom/example/pubsume/pubsume/common/protocol/ErrorCode;" (.ref b4)) (S_b5 : Sta Z h0 "com/example/pubsume/pubsume/common/protocol/ErrorCode" "ConsumerBusy" "Lcom/example/pubsume/pubsume/common/protocol/ErrorCode;" (.ref b5)) (S_b6 : Sta Z h0 "com/example/pubsume/pubsume/common/protocol/ErrorCode" "PersistenceError" "Lcom/example/pubsume/pubsume/common/protocol/ErrorCode;" (.ref b6)) (S_b7 : Sta Z h0 "com/example/pubsume/pubsume/common/protocol/ErrorCode" "MessageTooBig" "Lcom/example/pubsume/pubsume/common/protocol/ErrorCode;" (.ref b7)) :
    Con l Z (⟨"com/example/pubsume/pubsume/common/protocol/ErrorCodeOfCodePinLaw", "expected", "(I)Lcom/example/pubsume/pubsume/common/protocol/ErrorCode;"⟩ : MethodName) method_2_code 1 (some (.object "com/example/pubsume/pubsume/common/protocol/ErrorCode")) ({ frames := 0, cells := 0, slots := 0, locals := 0 } : Room) #[(.int p1)] h0 (fun v h L => v = some (.ref (own_ex p1 b0 b1 b2 b3 b4 b5 b6 b7)) ∧ L = [] ∧ h = h0) := by
  refine Con.of own_pn1 ?_
  intro p e s m below meth c T0 X0 hx hby hml hret hlk hown0 hnm hZ e0
  have hown : s.vm.findClass "com/example/pubsume/pubsume/common/protocol/ErrorCodeOfCodePinLaw" = some m.cls := hown0
  have N0 := Fr.nil n0
  refine Go.step (fun t kk => castTop (own_ef_ex m p1) kk) ?_
  show Go p e below s _ _ _ (T0.setTop (mkF m 0 #[.val (.int p1)] []))
  refine Go.step (fun t kk => XS.iloadN X0.here hx rfl (hb hby own_d_ex_0) rfl kk) ?_
  show Go p e below s _ _ _ (T0.setTop (mkF m 1 #[.val (.int p1)] [(.int p1)]))
  by_cases hc1_1 : p1 = (0 : Int32)
  · refine Go.step (fun t kk => XS.ifNo X0.here hx rfl (hb hby own_d_ex_1) rfl ((if0 _ _).trans (teq hc1_1).2) kk) ?_
    show Go p e below s _ _ _ (T0.setTop (mkF m 4 #[.val (.int p1)] []))
    obtain ⟨T2, X2, e2, st2⟩ := getS (host := "") X0 hx hZ hown (hw _ (List.mem_of_getElem? (i := 34) rfl)) Via.refl e0 S_b0 (g := (mkF m 4 #[.val (.int p1)] [])) rfl (hb hby own_d_ex_4)
    refine Go.step st2 ?_
    show Go p e below s _ _ _ (T2.setTop (mkF m 7 #[.val (.int p1)] [(.ref b0)]))
    exact Go.retA X2 hx hlk hret rfl rfl (hb hby own_d_ex_7) (show _ ∧ _ ∧ _ from ⟨by simp [own_ex, hc1_1], rfl, e2⟩) (by decide) (by decide)
  · refine Go.step (fun t kk => XS.ifYes X0.here hx rfl (pc0 := 1) (pc' := 8) rfl (hb hby own_d_ex_1) rfl ((if0 _ _).trans (feq hc1_1).2) (by decide) (by decide) kk) ?_
    show Go p e below s _ _ _ (T0.setTop (mkF m 8 #[.val (.int p1)] []))
    refine Go.step (fun t kk => XS.iloadN X0.here hx rfl (hb hby own_d_ex_8) rfl kk) ?_
    show Go p e below s _ _ _ (T0.setTop (mkF m 9 #[.val (.int p1)] [(.int p1)]))
    refine Go.step (fun t kk => XS.iconst X0.here hx rfl (hb hby own_d_ex_9) kk) ?_
    show Go p e below s _ _ _ (T0.setTop (mkF m 10 #[.val (.int p1)] [(.int (1 : Int32)), (.int p1)]))
    by_cases hc10_3 : p1 = (1 : Int32)
    · refine Go.step (fun t kk => XS.icmpNo X0.here hx rfl (hb hby own_d_ex_10) rfl (teq hc10_3).2 kk) ?_
      show Go p e below s _ _ _ (T0.setTop (mkF m 13 #[.val (.int p1)] []))
      obtain ⟨T4, X4, e4, st4⟩ := getS (host := "") X0 hx hZ hown (hw _ (List.mem_of_getElem? (i := 36) rfl)) Via.refl e0 S_b1 (g := (mkF m 13 #[.val (.int p1)] [])) rfl (hb hby own_d_ex_13)
      refine Go.step st4 ?_
      show Go p e below s _ _ _ (T4.setTop (mkF m 16 #[.val (.int p1)] [(.ref b1)]))
      exact Go.retA X4 hx hlk hret rfl rfl (hb hby own_d_ex_16) (show _ ∧ _ ∧ _ from ⟨by simp [own_ex, hc1_1, hc10_3], rfl, e4⟩) (by decide) (by decide)
    · refine Go.step (fun t kk => XS.icmpYes X0.here hx rfl (pc0 := 10) (pc' := 17) rfl (hb hby own_d_ex_10) rfl (feq hc10_3).2 (by decide) (by decide) kk) ?_
      show Go p e below s _ _ _ (T0.setTop (mkF m 17 #[.val (.int p1)] []))
      refine Go.step (fun t kk => XS.iloadN X0.here hx rfl (hb hby own_d_ex_17) rfl kk) ?_
      show Go p e below s _ _ _ (T0.setTop (mkF m 18 #[.val (.int p1)] [(.int p1)]))
      refine Go.step (fun t kk => XS.iconst X0.here hx rfl (hb hby own_d_ex_18) kk) ?_
      show Go p e below s _ _ _ (T0.setTop (mkF m 19 #[.val (.int p1)] [(.int (2 : Int32)), (.int p1)]))
      by_cases hc19_5 : p1 = (2 : Int32)
      · refine Go.step (fun t kk => XS.icmpNo X0.here hx rfl (hb hby own_d_ex_19) rfl (teq hc19_5).2 kk) ?_
        show Go p e below s _ _ _ (T0.setTop (mkF m 22 #[.val (.int p1)] []))
        obtain ⟨T6, X6, e6, st6⟩ := getS (host := "") X0 hx hZ hown (hw _ (List.mem_of_getElem? (i := 39) rfl)) Via.refl e0 S_b2 (g := (mkF m 22 #[.val (.int p1)] [])) rfl (hb hby own_d_ex_22)
        refine Go.step st6 ?_
        show Go p e below s _ _ _ (T6.setTop (mkF m 25 #[.val (.int p1)] [(.ref b2)]))
        exact Go.retA X6 hx hlk hret rfl rfl (hb hby own_d_ex_25) (show _ ∧ _ ∧ _ from ⟨by simp [own_ex, hc1_1, hc10_3, hc19_5], rfl, e6⟩) (by decide) (by decide)
      · refine Go.step (fun t kk => XS.icmpYes X0.here hx rfl (pc0 := 19) (pc' := 26) rfl (hb hby own_d_ex_19) rfl (feq hc19_5).2 (by decide) (by decide) kk) ?_
        show Go p e below s _ _ _ (T0.setTop (mkF m 26 #[.val (.int p1)] []))
        refine Go.step (fun t kk => XS.iloadN X0.here hx rfl (hb hby own_d_ex_26) rfl kk) ?_
        show Go p e below s _ _ _ (T0.setTop (mkF m 27 #[.val (.int p1)] [(.int p1)]))
        refine Go.step (fun t kk => XS.iconst X0.here hx rfl (hb hby own_d_ex_27) kk) ?_
        show Go p e below s _ _ _ (T0.setTop (mkF m 28 #[.val (.int p1)] [(.int (3 : Int32)), (.int p1)]))
        by_cases hc28_7 : p1 = (3 : Int32)
        · refine Go.step (fun t kk => XS.icmpNo X0.here hx rfl (hb hby own_d_ex_28) rfl (teq hc28_7).2 kk) ?_
          show Go p e below s _ _ _ (T0.setTop (mkF m 31 #[.val (.int p1)] []))
          obtain ⟨T8, X8, e8, st8⟩ := getS (host := "") X0 hx hZ hown (hw _ (List.mem_of_getElem? (i := 37) rfl)) Via.refl e0 S_b3 (g := (mkF m 31 #[.val (.int p1)] [])) rfl (hb hby own_d_ex_31)
          refine Go.step st8 ?_
          show Go p e below s _ _ _ (T8.setTop (mkF m 34 #[.val (.int p1)] [(.ref b3)]))
          exact Go.retA X8 hx hlk hret rfl rfl (hb hby own_d_ex_34) (show _ ∧ _ ∧ _ from ⟨by simp [own_ex, hc1_1, hc10_3, hc19_5, hc28_7], rfl, e8⟩) (by decide) (by decide)
        · refine Go.step (fun t kk => XS.icmpYes X0.here hx rfl (pc0 := 28) (pc' := 35) rfl (hb hby own_d_ex_28) rfl (feq hc28_7).2 (by decide) (by decide) kk) ?_
          show Go p e below s _ _ _ (T0.setTop (mkF m 35 #[.val (.int p1)] []))
          refine Go.step (fun t kk => XS.iloadN X0.here hx rfl (hb hby own_d_ex_35) rfl kk) ?_
          show Go p e below s _ _ _ (T0.setTop (mkF m 36 #[.val (.int p1)] [(.int p1)]))
          refine Go.step (fun t kk => XS.iconst X0.here hx rfl (hb hby own_d_ex_36) kk) ?_
          show Go p e below s _ _ _ (T0.setTop (mkF m 37 #[.val (.int p1)] [(.int (4 : Int32)), (.int p1)]))
          by_cases hc37_9 : p1 = (4 : Int32)
          · refine Go.step (fun t kk => XS.icmpNo X0.here hx rfl (hb hby own_d_ex_37) rfl (teq hc37_9).2 kk) ?_
            show Go p e below s _ _ _ (T0.setTop (mkF m 40 #[.val (.int p1)] []))
            obtain ⟨T10, X10, e10, st10⟩ := getS (host := "") X0 hx hZ hown (hw _ (List.mem_of_getElem? (i := 40) rfl)) Via.refl e0 S_b4 (g := (mkF m 40 #[.val (.int p1)] [])) rfl (hb hby own_d_ex_40)
            refine Go.step st10 ?_
            show Go p e below s _ _ _ (T10.setTop (mkF m 43 #[.val (.int p1)] [(.ref b4)]))
            exact Go.retA X10 hx hlk hret rfl rfl (hb hby own_d_ex_43) (show _ ∧ _ ∧ _ from ⟨by simp [own_ex, hc1_1, hc10_3, hc19_5, hc28_7, hc37_9], rfl, e10⟩) (by decide) (by decide)
          · refine Go.step (fun t kk => XS.icmpYes X0.here hx rfl (pc0 := 37) (pc' := 44) rfl (hb hby own_d_ex_37) rfl (feq hc37_9).2 (by decide) (by decide) kk) ?_
            show Go p e below s _ _ _ (T0.setTop (mkF m 44 #[.val (.int p1)] []))
            refine Go.step (fun t kk => XS.iloadN X0.here hx rfl (hb hby own_d_ex_44) rfl kk) ?_
            show Go p e below s _ _ _ (T0.setTop (mkF m 45 #[.val (.int p1)] [(.int p1)]))
            refine Go.step (fun t kk => XS.iconst X0.here hx rfl (hb hby own_d_ex_45) kk) ?_
            show Go p e below s _ _ _ (T0.setTop (mkF m 46 #[.val (.int p1)] [(.int (5 : Int32)), (.int p1)]))
            by_cases hc46_11 : p1 = (5 : Int32)
            · refine Go.step (fun t kk => XS.icmpNo X0.here hx rfl (hb hby own_d_ex_46) rfl (teq hc46_11).2 kk) ?_
              show Go p e below s _ _ _ (T0.setTop (mkF m 49 #[.val (.int p1)] []))
              obtain ⟨T12, X12, e12, st12⟩ := getS (host := "") X0 hx hZ hown (hw _ (List.mem_of_getElem? (i := 38) rfl)) Via.refl e0 S_b5 (g := (mkF m 49 #[.val (.int p1)] [])) rfl (hb hby own_d_ex_49)
              refine Go.step st12 ?_
              show Go p e below s _ _ _ (T12.setTop (mkF m 52 #[.val (.int p1)] [(.ref b5)]))
              exact Go.retA X12 hx hlk hret rfl rfl (hb hby own_d_ex_52) (show _ ∧ _ ∧ _ from ⟨by simp [own_ex, hc1_1, hc10_3, hc19_5, hc28_7, hc37_9, hc46_11], rfl, e12⟩) (by decide) (by decide)
            · refine Go.step (fun t kk => XS.icmpYes X0.here hx rfl (pc0 := 46) (pc' := 53) rfl (hb hby own_d_ex_46) rfl (feq hc46_11).2 (by decide) (by decide) kk) ?_
              show Go p e below s _ _ _ (T0.setTop (mkF m 53 #[.val (.int p1)] []))
              refine Go.step (fun t kk => XS.iloadN X0.here hx rfl (hb hby own_d_ex_53) rfl kk) ?_
              show Go p e below s _ _ _ (T0.setTop (mkF m 54 #[.val (.int p1)] [(.int p1)]))
              refine Go.step (fun t kk => XS.bipush X0.here hx rfl (hb hby own_d_ex_54) kk) ?_
              show Go p e below s _ _ _ (T0.setTop (mkF m 56 #[.val (.int p1)] [(.int (6 : Int32)), (.int p1)]))
              by_cases hc56_13 : p1 = (6 : Int32)
              · refine Go.step (fun t kk => XS.icmpNo X0.here hx rfl (hb hby own_d_ex_56) rfl (teq hc56_13).2 kk) ?_
                show Go p e below s _ _ _ (T0.setTop (mkF m 59 #[.val (.int p1)] []))
                obtain ⟨T14, X14, e14, st14⟩ := getS (host := "") X0 hx hZ hown (hw _ (List.mem_of_getElem? (i := 35) rfl)) Via.refl e0 S_b6 (g := (mkF m 59 #[.val (.int p1)] [])) rfl (hb hby own_d_ex_59)
                refine Go.step st14 ?_
                show Go p e below s _ _ _ (T14.setTop (mkF m 62 #[.val (.int p1)] [(.ref b6)]))
                exact Go.retA X14 hx hlk hret rfl rfl (hb hby own_d_ex_62) (show _ ∧ _ ∧ _ from ⟨by simp [own_ex, hc1_1, hc10_3, hc19_5, hc28_7, hc37_9, hc46_11, hc56_13], rfl, e14⟩) (by decide) (by decide)
              · refine Go.step (fun t kk => XS.icmpYes X0.here hx rfl (pc0 := 56) (pc' := 63) rfl (hb hby own_d_ex_56) rfl (feq hc56_13).2 (by decide) (by decide) kk) ?_
                show Go p e below s _ _ _ (T0.setTop (mkF m 63 #[.val (.int p1)] []))
                refine Go.step (fun t kk => XS.iloadN X0.here hx rfl (hb hby own_d_ex_63) rfl kk) ?_
                show Go p e below s _ _ _ (T0.setTop (mkF m 64 #[.val (.int p1)] [(.int p1)]))
                refine Go.step (fun t kk => XS.bipush X0.here hx rfl (hb hby own_d_ex_64) kk) ?_
                show Go p e below s _ _ _ (T0.setTop (mkF m 66 #[.val (.int p1)] [(.int (7 : Int32)), (.int p1)]))
                by_cases hc66_15 : p1 = (7 : Int32)
                · refine Go.step (fun t kk => XS.icmpNo X0.here hx rfl (hb hby own_d_ex_66) rfl (teq hc66_15).2 kk) ?_
                  show Go p e below s _ _ _ (T0.setTop (mkF m 69 #[.val (.int p1)] []))
                  obtain ⟨T16, X16, e16, st16⟩ := getS (host := "") X0 hx hZ hown (hw _ (List.mem_of_getElem? (i := 41) rfl)) Via.refl e0 S_b7 (g := (mkF m 69 #[.val (.int p1)] [])) rfl (hb hby own_d_ex_69)
                  refine Go.step st16 ?_
                  show Go p e below s _ _ _ (T16.setTop (mkF m 72 #[.val (.int p1)] [(.ref b7)]))
                  exact Go.retA X16 hx hlk hret rfl rfl (hb hby own_d_ex_72) (show _ ∧ _ ∧ _ from ⟨by simp [own_ex, hc1_1, hc10_3, hc19_5, hc28_7, hc37_9, hc46_11, hc56_13, hc66_15], rfl, e16⟩) (by decide) (by decide)
                · refine Go.step (fun t kk => XS.icmpYes X0.here hx rfl (pc0 := 66) (pc' := 73) rfl (hb hby own_d_ex_66) rfl (feq hc66_15).2 (by decide) (by decide) kk) ?_
                  show Go p e below s _ _ _ (T0.setTop (mkF m 73 #[.val (.int p1)] []))
                  obtain ⟨T17, X17, e17, st17⟩ := getS (host := "") X0 hx hZ hown (hw _ (List.mem_of_getElem? (i := 34) rfl)) Via.refl e0 S_b0 (g := (mkF m 73 #[.val (.int p1)] [])) rfl (hb hby own_d_ex_73)
                  refine Go.step st17 ?_
                  show Go p e below s _ _ _ (T17.setTop (mkF m 76 #[.val (.int p1)] [(.ref b0)]))
                  exact Go.retA X17 hx hlk hret rfl rfl (hb hby own_d_ex_76) (show _ ∧ _ ∧ _ from ⟨by simp [own_ex, hc1_1, hc10_3, hc19_5, hc28_7, hc37_9, hc46_11, hc56_13, hc66_15], rfl, e17⟩) (by decide) (by decide)
theorem own_pd1 : parseMethodDescriptor "(I)Lcom/example/pubsume/pubsume/common/protocol/ErrorCode;" = some ⟨[.int], (some (.object "com/example/pubsume/pubsume/common/protocol/ErrorCode"))⟩ := by decide +kernel
theorem own_ef_law (m : MethodId) (p1 : Int32) (p2 : Int32) : entryFrame m #[(.int p1), (.int p2)] maxLocals = mkF m 0 #[.val (.int p1), .val (.int p2), .unset, .unset, .unset] [] := by first | (simp [entryFrame, mkF, argsToLocals, Value.category, maxLocals]; done) | rfl
set_option maxRecDepth 65536 in
set_option maxHeartbeats 40000000 in
theorem rm_law (l : Launch) (Z : State) (a0 : Array Value) (hw : ∀ d ∈ tables_1, d.before a0 Z = true) (p1 : Int32) (p2 : Int32) (av : Addr) (kc : ClassId) (b0 : Addr) (b1 : Addr) (b2 : Addr) (b3 : Addr) (b4 : Addr) (b5 : Addr) (b6 : Addr) (b7 : Addr) (h0 : Heap) (n0 : Nat) (S_av : Sta Z h0 "com/example/pubsume/pubsume/common/protocol/ErrorCode" "$VALUES" "[Lcom/example/pubsume/pubsume/common/protocol/ErrorCode;" (.ref av)) (E_av : Exa Z h0 av "[Lcom/example/pubsume/pubsume/common/protocol/ErrorCode;") (AV : Arv Z h0 av kc (.object "com/example/pubsume/pubsume/common/protocol/ErrorCode") 8 [.ref b0, .ref b1, .ref b2, .ref b3, .ref b4, .ref b5, .ref b6, .ref b7] .null) (S_b0 : Sta Z h0 "com/example/pubsume/pubsume/common/protocol/ErrorCode" "UnknownError" "Lcom/example/pubsume/pubsume/common/protocol/ErrorCode;" (.ref b0)) (S_b1 : Sta Z h0 "com/example/pubsume/pubsume/common/protocol/ErrorCode" "ProtocolError" "Lcom/example/pubsume/pubsume/common/protocol/ErrorCode;" (.ref b1)) (S_b2 : Sta Z h0 "com/example/pubsume/pubsume/common/protocol/ErrorCode" "UnsupportedVersion" "Lcom/example/pubsume/pubsume/common/protocol/ErrorCode;" (.ref b2)) (S_b3 : Sta Z h0 "com/example/pubsume/pubsume/common/protocol/ErrorCode" "InvalidName" "Lcom/example/pubsume/pubsume/common/protocol/ErrorCode;" (.ref b3)) (S_b4 : Sta Z h0 "com/example/pubsume/pubsume/common/protocol/ErrorCode" "NamespaceNotFound" "Lcom/example/pubsume/pubsume/common/protocol/ErrorCode;" (.ref b4)) (S_b5 : Sta Z h0 "com/example/pubsume/pubsume/common/protocol/ErrorCode" "ConsumerBusy" "Lcom/example/pubsume/pubsume/common/protocol/ErrorCode;" (.ref b5)) (S_b6 : Sta Z h0 "com/example/pubsume/pubsume/common/protocol/ErrorCode" "PersistenceError" "Lcom/example/pubsume/pubsume/common/protocol/ErrorCode;" (.ref b6)) (S_b7 : Sta Z h0 "com/example/pubsume/pubsume/common/protocol/ErrorCode" "MessageTooBig" "Lcom/example/pubsume/pubsume/common/protocol/ErrorCode;" (.ref b7)) (F_b0_code : Fld Z h0 b0 "com/example/pubsume/pubsume/common/protocol/ErrorCode" "code" "I" (.int 0)) (F_b1_code : Fld Z h0 b1 "com/example/pubsume/pubsume/common/protocol/ErrorCode" "code" "I" (.int 1)) (F_b2_code : Fld Z h0 b2 "com/example/pubsume/pubsume/common/protocol/ErrorCode" "code" "I" (.int 2)) (F_b3_code : Fld Z h0 b3 "com/example/pubsume/pubsume/common/protocol/ErrorCode" "code" "I" (.int 3)) (F_b4_code : Fld Z h0 b4 "com/example/pubsume/pubsume/common/protocol/ErrorCode" "code" "I" (.int 4)) (F_b5_code : Fld Z h0 b5 "com/example/pubsume/pubsume/common/protocol/ErrorCode" "code" "I" (.int 5)) (F_b6_code : Fld Z h0 b6 "com/example/pubsume/pubsume/common/protocol/ErrorCode" "code" "I" (.int 6)) (F_b7_code : Fld Z h0 b7 "com/example/pubsume/pubsume/common/protocol/ErrorCode" "code" "I" (.int 7)) :
    Con l Z x code maxLocals ret room_1 #[(.int p1), (.int p2)] h0 (fun v h L => v = some (.int 1) ∧ Fr n0 L) := by
  refine Con.of own_pn1 ?_
  intro p e s m below meth c T0 X0 hx hby hml hret hlk hown0 hnm hZ e0
  have hown : s.vm.findClass "com/example/pubsume/pubsume/common/protocol/ErrorCodeOfCodePinLaw" = some m.cls := hown0
  have N0 := Fr.nil n0
  refine Go.step (fun t kk => castTop (own_ef_law m p1 p2) kk) ?_
  show Go p e below s _ _ _ (T0.setTop (mkF m 0 #[.val (.int p1), .val (.int p2), .unset, .unset, .unset] []))
  refine Go.step (fun t kk => XS.iloadN X0.here hx rfl (hb hby at_0) rfl kk) ?_
  show Go p e below s _ _ _ (T0.setTop (mkF m 1 #[.val (.int p1), .val (.int p2), .unset, .unset, .unset] [(.int p2)]))
  refine Go.step (fun t kk => XS.bipush X0.here hx rfl (hb hby at_1) kk) ?_
  show Go p e below s _ _ _ (T0.setTop (mkF m 3 #[.val (.int p1), .val (.int p2), .unset, .unset, .unset] [(.int (15 : Int32)), (.int p2)]))
  refine Go.step (fun t kk => XS.iand X0.here hx rfl (hb hby at_3) rfl kk) ?_
  show Go p e below s _ _ _ (T0.setTop (mkF m 4 #[.val (.int p1), .val (.int p2), .unset, .unset, .unset] [(.int (p2 &&& (15 : Int32)))]))
  refine Go.step (fun t kk => XS.iconst X0.here hx rfl (hb hby at_4) kk) ?_
  show Go p e below s _ _ _ (T0.setTop (mkF m 5 #[.val (.int p1), .val (.int p2), .unset, .unset, .unset] [(.int (4 : Int32)), (.int (p2 &&& (15 : Int32)))]))
  refine Go.step (fun t kk => XS.isub X0.here hx rfl (hb hby at_5) rfl kk) ?_
  show Go p e below s _ _ _ (T0.setTop (mkF m 6 #[.val (.int p1), .val (.int p2), .unset, .unset, .unset] [(.int ((p2 &&& (15 : Int32)) - (4 : Int32)))]))
  refine Go.step (fun t kk => XS.istoreN X0.here hx rfl (hb hby at_6) rfl (l' := #[.val (.int p1), .val (.int p2), .val (.int ((p2 &&& (15 : Int32)) - (4 : Int32))), .unset, .unset]) rfl kk) ?_
  show Go p e below s _ _ _ (T0.setTop (mkF m 7 #[.val (.int p1), .val (.int p2), .val (.int ((p2 &&& (15 : Int32)) - (4 : Int32))), .unset, .unset] []))
  refine Go.step (fun t kk => XS.iloadN X0.here hx rfl (hb hby at_7) rfl kk) ?_
  show Go p e below s _ _ _ (T0.setTop (mkF m 8 #[.val (.int p1), .val (.int p2), .val (.int ((p2 &&& (15 : Int32)) - (4 : Int32))), .unset, .unset] [(.int p1)]))
  refine Go.callS X0 hx hZ hown (hw _ (List.mem_of_getElem? (i := 0) rfl)) (hw _ (List.mem_of_getElem? (i := 1) rfl)) (hw _ (List.mem_of_getElem? (i := 2) rfl)) (hw _ (List.mem_of_getElem? (i := 3) rfl)) (by decide) e0 [(.int p1)] [] 0 (rm_of l Z a0 hw p1 av kc b0 b1 b2 b3 b4 b5 b6 b7 h0 n0 S_av E_av AV S_b0 F_b0_code F_b1_code F_b2_code F_b3_code F_b4_code F_b5_code F_b6_code F_b7_code) (by decide) (by decide) (by decide) (by decide) (by rw [hml]; rfl) (lenOf own_pd1 rfl) rfl (Nat.le_of_eq rfl) (hb hby at_8) ?_
  intro T1 v1 L1 X1 hQ1
  obtain ⟨rfl, rfl, E1⟩ := hQ1
  have N1 := Fr.app N0 (Fr.nil n0)
  show Go p e below s _ _ _ (T1.setTop (mkF m 11 #[.val (.int p1), .val (.int p2), .val (.int ((p2 &&& (15 : Int32)) - (4 : Int32))), .unset, .unset] [(.ref (own_of p1 b0 b1 b2 b3 b4 b5 b6 b7))]))
  refine Go.step (fun t kk => XS.astoreN X1.here hx rfl (hb hby at_11) rfl rfl (l' := #[.val (.int p1), .val (.int p2), .val (.int ((p2 &&& (15 : Int32)) - (4 : Int32))), .val (.ref (own_of p1 b0 b1 b2 b3 b4 b5 b6 b7)), .unset]) rfl kk) ?_
  show Go p e below s _ _ _ (T1.setTop (mkF m 12 #[.val (.int p1), .val (.int p2), .val (.int ((p2 &&& (15 : Int32)) - (4 : Int32))), .val (.ref (own_of p1 b0 b1 b2 b3 b4 b5 b6 b7)), .unset] []))
  refine Go.step (fun t kk => XS.iloadN X1.here hx rfl (hb hby at_12) rfl kk) ?_
  show Go p e below s _ _ _ (T1.setTop (mkF m 13 #[.val (.int p1), .val (.int p2), .val (.int ((p2 &&& (15 : Int32)) - (4 : Int32))), .val (.ref (own_of p1 b0 b1 b2 b3 b4 b5 b6 b7)), .unset] [(.int ((p2 &&& (15 : Int32)) - (4 : Int32)))]))
  refine Go.callS X1 hx hZ hown (hw _ (List.mem_of_getElem? (i := 0) rfl)) (hw _ (List.mem_of_getElem? (i := 1) rfl)) (hw _ (List.mem_of_getElem? (i := 2) rfl)) (hw _ (List.mem_of_getElem? (i := 3) rfl)) (by decide) rfl [(.int ((p2 &&& (15 : Int32)) - (4 : Int32)))] [] 0 (rm_of l Z a0 hw ((p2 &&& (15 : Int32)) - (4 : Int32)) av kc b0 b1 b2 b3 b4 b5 b6 b7 T1.heap n0 (Sta.ext E1 S_av) (Exa.ext E1 E_av) (Arv.ext AV E1) (Sta.ext E1 S_b0) (Fld.ext E1 F_b0_code) (Fld.ext E1 F_b1_code) (Fld.ext E1 F_b2_code) (Fld.ext E1 F_b3_code) (Fld.ext E1 F_b4_code) (Fld.ext E1 F_b5_code) (Fld.ext E1 F_b6_code) (Fld.ext E1 F_b7_code)) (by decide) (by decide) (by decide) (by decide) (by rw [hml]; rfl) (lenOf own_pd1 rfl) rfl (Nat.le_of_eq rfl) (hb hby at_13) ?_
  intro T2 v2 L2 X2 hQ2
  obtain ⟨rfl, rfl, E2⟩ := hQ2
  have N2 := Fr.app N1 (Fr.nil n0)
  show Go p e below s _ _ _ (T2.setTop (mkF m 16 #[.val (.int p1), .val (.int p2), .val (.int ((p2 &&& (15 : Int32)) - (4 : Int32))), .val (.ref (own_of p1 b0 b1 b2 b3 b4 b5 b6 b7)), .unset] [(.ref (own_of ((p2 &&& (15 : Int32)) - (4 : Int32)) b0 b1 b2 b3 b4 b5 b6 b7))]))
  refine Go.step (fun t kk => XS.astore X2.here hx rfl (hb hby at_16) rfl rfl (l' := #[.val (.int p1), .val (.int p2), .val (.int ((p2 &&& (15 : Int32)) - (4 : Int32))), .val (.ref (own_of p1 b0 b1 b2 b3 b4 b5 b6 b7)), .val (.ref (own_of ((p2 &&& (15 : Int32)) - (4 : Int32)) b0 b1 b2 b3 b4 b5 b6 b7))]) rfl kk) ?_
  show Go p e below s _ _ _ (T2.setTop (mkF m 18 #[.val (.int p1), .val (.int p2), .val (.int ((p2 &&& (15 : Int32)) - (4 : Int32))), .val (.ref (own_of p1 b0 b1 b2 b3 b4 b5 b6 b7)), .val (.ref (own_of ((p2 &&& (15 : Int32)) - (4 : Int32)) b0 b1 b2 b3 b4 b5 b6 b7))] []))
  refine Go.step (fun t kk => XS.aloadN X2.here hx rfl (hb hby at_18) rfl rfl kk) ?_
  show Go p e below s _ _ _ (T2.setTop (mkF m 19 #[.val (.int p1), .val (.int p2), .val (.int ((p2 &&& (15 : Int32)) - (4 : Int32))), .val (.ref (own_of p1 b0 b1 b2 b3 b4 b5 b6 b7)), .val (.ref (own_of ((p2 &&& (15 : Int32)) - (4 : Int32)) b0 b1 b2 b3 b4 b5 b6 b7))] [(.ref (own_of p1 b0 b1 b2 b3 b4 b5 b6 b7))]))
  refine Go.step (fun t kk => XS.iloadN X2.here hx rfl (hb hby at_19) rfl kk) ?_
  show Go p e below s _ _ _ (T2.setTop (mkF m 20 #[.val (.int p1), .val (.int p2), .val (.int ((p2 &&& (15 : Int32)) - (4 : Int32))), .val (.ref (own_of p1 b0 b1 b2 b3 b4 b5 b6 b7)), .val (.ref (own_of ((p2 &&& (15 : Int32)) - (4 : Int32)) b0 b1 b2 b3 b4 b5 b6 b7))] [(.int p1), (.ref (own_of p1 b0 b1 b2 b3 b4 b5 b6 b7))]))
  refine Go.callS X2 hx hZ hown (hw _ (List.mem_of_getElem? (i := 30) rfl)) (hw _ (List.mem_of_getElem? (i := 31) rfl)) (hw _ (List.mem_of_getElem? (i := 32) rfl)) (hw _ (List.mem_of_getElem? (i := 33) rfl)) (by decide) rfl [(.int p1)] [(.ref (own_of p1 b0 b1 b2 b3 b4 b5 b6 b7))] 1 (rm_ex l Z a0 hw p1 b0 b1 b2 b3 b4 b5 b6 b7 T2.heap n0 (Sta.ext E2 (Sta.ext E1 S_b0)) (Sta.ext E2 (Sta.ext E1 S_b1)) (Sta.ext E2 (Sta.ext E1 S_b2)) (Sta.ext E2 (Sta.ext E1 S_b3)) (Sta.ext E2 (Sta.ext E1 S_b4)) (Sta.ext E2 (Sta.ext E1 S_b5)) (Sta.ext E2 (Sta.ext E1 S_b6)) (Sta.ext E2 (Sta.ext E1 S_b7))) (by decide) (by decide) (by decide) (by decide) (by rw [hml]; rfl) (lenOf own_pd1 rfl) rfl (Nat.le_of_eq rfl) (hb hby at_20) ?_
  intro T3 v3 L3 X3 hQ3
  obtain ⟨rfl, rfl, e3⟩ := hQ3
  have N3 := Fr.app N2 (Fr.nil n0)
  show Go p e below s _ _ _ (T3.setTop (mkF m 23 #[.val (.int p1), .val (.int p2), .val (.int ((p2 &&& (15 : Int32)) - (4 : Int32))), .val (.ref (own_of p1 b0 b1 b2 b3 b4 b5 b6 b7)), .val (.ref (own_of ((p2 &&& (15 : Int32)) - (4 : Int32)) b0 b1 b2 b3 b4 b5 b6 b7))] [(.ref (own_ex p1 b0 b1 b2 b3 b4 b5 b6 b7)), (.ref (own_of p1 b0 b1 b2 b3 b4 b5 b6 b7))]))
  have hc23_4 : (own_of p1 b0 b1 b2 b3 b4 b5 b6 b7) = (own_ex p1 b0 b1 b2 b3 b4 b5 b6 b7) := own_eq _ _ _ _ _ _ _ _ _
  refine Go.step (fun t kk => acmp X3 hx rfl (cd := .ne) (x := (.ref (own_of p1 b0 b1 b2 b3 b4 b5 b6 b7))) (y := (.ref (own_ex p1 b0 b1 b2 b3 b4 b5 b6 b7))) rfl rfl (pc0 := 23) (pc' := 26) (same := true) rfl (hb hby at_23) rfl (own_decT (congrArg Value.ref hc23_4)) (by decide) (by decide) kk) ?_
  show Go p e below s _ _ _ (T3.setTop (mkF m 26 #[.val (.int p1), .val (.int p2), .val (.int ((p2 &&& (15 : Int32)) - (4 : Int32))), .val (.ref (own_of p1 b0 b1 b2 b3 b4 b5 b6 b7)), .val (.ref (own_of ((p2 &&& (15 : Int32)) - (4 : Int32)) b0 b1 b2 b3 b4 b5 b6 b7))] []))
  refine Go.step (fun t kk => XS.aload X3.here hx rfl (hb hby at_26) rfl rfl kk) ?_
  show Go p e below s _ _ _ (T3.setTop (mkF m 28 #[.val (.int p1), .val (.int p2), .val (.int ((p2 &&& (15 : Int32)) - (4 : Int32))), .val (.ref (own_of p1 b0 b1 b2 b3 b4 b5 b6 b7)), .val (.ref (own_of ((p2 &&& (15 : Int32)) - (4 : Int32)) b0 b1 b2 b3 b4 b5 b6 b7))] [(.ref (own_of ((p2 &&& (15 : Int32)) - (4 : Int32)) b0 b1 b2 b3 b4 b5 b6 b7))]))
  refine Go.step (fun t kk => XS.iloadN X3.here hx rfl (hb hby at_28) rfl kk) ?_
  show Go p e below s _ _ _ (T3.setTop (mkF m 29 #[.val (.int p1), .val (.int p2), .val (.int ((p2 &&& (15 : Int32)) - (4 : Int32))), .val (.ref (own_of p1 b0 b1 b2 b3 b4 b5 b6 b7)), .val (.ref (own_of ((p2 &&& (15 : Int32)) - (4 : Int32)) b0 b1 b2 b3 b4 b5 b6 b7))] [(.int ((p2 &&& (15 : Int32)) - (4 : Int32))), (.ref (own_of ((p2 &&& (15 : Int32)) - (4 : Int32)) b0 b1 b2 b3 b4 b5 b6 b7))]))
  refine Go.callS X3 hx hZ hown (hw _ (List.mem_of_getElem? (i := 30) rfl)) (hw _ (List.mem_of_getElem? (i := 31) rfl)) (hw _ (List.mem_of_getElem? (i := 32) rfl)) (hw _ (List.mem_of_getElem? (i := 33) rfl)) (by decide) e3 [(.int ((p2 &&& (15 : Int32)) - (4 : Int32)))] [(.ref (own_of ((p2 &&& (15 : Int32)) - (4 : Int32)) b0 b1 b2 b3 b4 b5 b6 b7))] 1 (rm_ex l Z a0 hw ((p2 &&& (15 : Int32)) - (4 : Int32)) b0 b1 b2 b3 b4 b5 b6 b7 T2.heap n0 (Sta.ext E2 (Sta.ext E1 S_b0)) (Sta.ext E2 (Sta.ext E1 S_b1)) (Sta.ext E2 (Sta.ext E1 S_b2)) (Sta.ext E2 (Sta.ext E1 S_b3)) (Sta.ext E2 (Sta.ext E1 S_b4)) (Sta.ext E2 (Sta.ext E1 S_b5)) (Sta.ext E2 (Sta.ext E1 S_b6)) (Sta.ext E2 (Sta.ext E1 S_b7))) (by decide) (by decide) (by decide) (by decide) (by rw [hml]; rfl) (lenOf own_pd1 rfl) rfl (Nat.le_of_eq rfl) (hb hby at_29) ?_
  intro T5 v5 L5 X5 hQ5
  obtain ⟨rfl, rfl, e5⟩ := hQ5
  have N5 := Fr.app N3 (Fr.nil n0)
  show Go p e below s _ _ _ (T5.setTop (mkF m 32 #[.val (.int p1), .val (.int p2), .val (.int ((p2 &&& (15 : Int32)) - (4 : Int32))), .val (.ref (own_of p1 b0 b1 b2 b3 b4 b5 b6 b7)), .val (.ref (own_of ((p2 &&& (15 : Int32)) - (4 : Int32)) b0 b1 b2 b3 b4 b5 b6 b7))] [(.ref (own_ex ((p2 &&& (15 : Int32)) - (4 : Int32)) b0 b1 b2 b3 b4 b5 b6 b7)), (.ref (own_of ((p2 &&& (15 : Int32)) - (4 : Int32)) b0 b1 b2 b3 b4 b5 b6 b7))]))
  have hc32_6 : (own_of ((p2 &&& (15 : Int32)) - (4 : Int32)) b0 b1 b2 b3 b4 b5 b6 b7) = (own_ex ((p2 &&& (15 : Int32)) - (4 : Int32)) b0 b1 b2 b3 b4 b5 b6 b7) := own_eq _ _ _ _ _ _ _ _ _
  refine Go.step (fun t kk => acmp X5 hx rfl (cd := .ne) (x := (.ref (own_of ((p2 &&& (15 : Int32)) - (4 : Int32)) b0 b1 b2 b3 b4 b5 b6 b7))) (y := (.ref (own_ex ((p2 &&& (15 : Int32)) - (4 : Int32)) b0 b1 b2 b3 b4 b5 b6 b7))) rfl rfl (pc0 := 32) (pc' := 35) (same := true) rfl (hb hby at_32) rfl (own_decT (congrArg Value.ref hc32_6)) (by decide) (by decide) kk) ?_
  show Go p e below s _ _ _ (T5.setTop (mkF m 35 #[.val (.int p1), .val (.int p2), .val (.int ((p2 &&& (15 : Int32)) - (4 : Int32))), .val (.ref (own_of p1 b0 b1 b2 b3 b4 b5 b6 b7)), .val (.ref (own_of ((p2 &&& (15 : Int32)) - (4 : Int32)) b0 b1 b2 b3 b4 b5 b6 b7))] []))
  refine Go.step (fun t kk => XS.iconst X5.here hx rfl (hb hby at_35) kk) ?_
  show Go p e below s _ _ _ (T5.setTop (mkF m 36 #[.val (.int p1), .val (.int p2), .val (.int ((p2 &&& (15 : Int32)) - (4 : Int32))), .val (.ref (own_of p1 b0 b1 b2 b3 b4 b5 b6 b7)), .val (.ref (own_of ((p2 &&& (15 : Int32)) - (4 : Int32)) b0 b1 b2 b3 b4 b5 b6 b7))] [(.int (1 : Int32))]))
  refine Go.step (fun t kk => XS.goto X5.here hx rfl (pc0 := 36) (pc' := 40) rfl (hb hby at_36) (by decide) (by decide) kk) ?_
  show Go p e below s _ _ _ (T5.setTop (mkF m 40 #[.val (.int p1), .val (.int p2), .val (.int ((p2 &&& (15 : Int32)) - (4 : Int32))), .val (.ref (own_of p1 b0 b1 b2 b3 b4 b5 b6 b7)), .val (.ref (own_of ((p2 &&& (15 : Int32)) - (4 : Int32)) b0 b1 b2 b3 b4 b5 b6 b7))] [(.int (1 : Int32))]))
  exact Go.retN X5 hx hlk (t := .boolean) hret (by simp) (hb hby at_40) (show _ ∧ _ from ⟨rfl, N5⟩) (by decide) (by decide)
set_option maxRecDepth 65536 in
set_option maxHeartbeats 40000000 in
theorem comes_1 {Post : Tables → Env → Array Value → State → Outcome → State → Prop} (hpost : ∀ tb e args s v u, (limb_1_1.after args s (.returned v) u = true ∧ limb_1_2.after args s (.returned v) u = true ∧ True) → FrameEnd s (.returned v) u (Jvm.fieldLocs frame_1_writes args s ++ Jvm.arrayLocs frame_1_arrays args s ++ Jvm.staticLocs frame_1_statics s) 16 128 → Post tb e args s (.returned v) u) :
    ArmFor flags0 classFile x code maxLocals ret World_1 tables_1 room_1 Calls_1 rest_1 Pre_1 Post := by
  intro l hfl _ _ p e ha hc hk s m args below hf hA hF happ hP
  obtain ⟨hcalls, hrest, hpre⟩ := hP
  obtain ⟨-, -, -, hnamed, -, -, -, hat⟩ := (Spec.applies_iff hf).mp happ
  obtain ⟨hg, hn⟩ := and_e (Cond.before_iff.mp (show (Jvm.Cond.and given_1 narrow_1).before args s = true from hpre))
  obtain ⟨hcount, r0⟩ := and_e hg
  obtain ⟨g0, r1⟩ := and_e r0
  have g1 := r1
  obtain ⟨w0, w1, rfl⟩ : ∃ w0 w1 : Value, args = #[w0, w1] := by
    have hs : args.size = 2 := by simpa [Cond.value, given_1] using hcount
    obtain ⟨L⟩ := args
    match L, hs with
    | [w0, w1], _ => exact ⟨w0, w1, rfl⟩
  have hw := fun d (hd : d ∈ tables_1) => atoms_spec (ws := Jvm.Cond.code x code maxLocals ret :: tables_1) hat d (List.mem_cons_of_mem _ hd)
  obtain ⟨i0, ea0⟩ := is_v g0
  obtain rfl : w0 = (.int i0) := Option.some.inj ea0
  obtain ⟨i1, ea1⟩ := is_v g1
  obtain rfl : w1 = (.int i1) := Option.some.inj ea1
  obtain ⟨q0, t0⟩ := and_e hn
  obtain ⟨q1, t1⟩ := and_e t0
  obtain ⟨q2, t2⟩ := and_e t1
  obtain ⟨q3, t3⟩ := and_e t2
  obtain ⟨q4, t4⟩ := and_e t3
  obtain ⟨q5, t5⟩ := and_e t4
  obtain ⟨q6, t6⟩ := and_e t5
  obtain ⟨q7, t7⟩ := and_e t6
  obtain ⟨q8, t8⟩ := and_e t7
  obtain ⟨q9, t9⟩ := and_e t8
  obtain ⟨q10, t10⟩ := and_e t9
  obtain ⟨q11, t11⟩ := and_e t10
  obtain ⟨q12, t12⟩ := and_e t11
  obtain ⟨q13, t13⟩ := and_e t12
  obtain ⟨q14, t14⟩ := and_e t13
  obtain ⟨q15, t15⟩ := and_e t14
  obtain ⟨q16, t16⟩ := and_e t15
  obtain ⟨q17, t17⟩ := and_e t16
  obtain ⟨q18, t18⟩ := and_e t17
  obtain ⟨q19, t19⟩ := and_e t18
  obtain ⟨q20, t20⟩ := and_e t19
  obtain ⟨q21, t21⟩ := and_e t20
  obtain ⟨q22, t22⟩ := and_e t21
  obtain ⟨q23, t23⟩ := and_e t22
  obtain ⟨q24, t24⟩ := and_e t23
  obtain ⟨q25, t25⟩ := and_e t24
  have q26 := t25
  obtain ⟨b0, ev_b0⟩ := exa_v q3
  have E_b0 := Exa.start ev_b0 q3
  have S_b0 := Sta.start ev_b0 (Or.inr ⟨(hw _ (List.mem_of_getElem? (i := 2) rfl)), (hw _ (List.mem_of_getElem? (i := 16) rfl))⟩)
  obtain ⟨b1, ev_b1⟩ := exa_v q5
  have E_b1 := Exa.start ev_b1 q5
  have S_b1 := Sta.start ev_b1 (Or.inr ⟨(hw _ (List.mem_of_getElem? (i := 2) rfl)), (hw _ (List.mem_of_getElem? (i := 17) rfl))⟩)
  obtain ⟨b2, ev_b2⟩ := exa_v q7
  have E_b2 := Exa.start ev_b2 q7
  have S_b2 := Sta.start ev_b2 (Or.inr ⟨(hw _ (List.mem_of_getElem? (i := 2) rfl)), (hw _ (List.mem_of_getElem? (i := 18) rfl))⟩)
  obtain ⟨b3, ev_b3⟩ := exa_v q9
  have E_b3 := Exa.start ev_b3 q9
  have S_b3 := Sta.start ev_b3 (Or.inr ⟨(hw _ (List.mem_of_getElem? (i := 2) rfl)), (hw _ (List.mem_of_getElem? (i := 19) rfl))⟩)
  obtain ⟨b4, ev_b4⟩ := exa_v q11
  have E_b4 := Exa.start ev_b4 q11
  have S_b4 := Sta.start ev_b4 (Or.inr ⟨(hw _ (List.mem_of_getElem? (i := 2) rfl)), (hw _ (List.mem_of_getElem? (i := 20) rfl))⟩)
  obtain ⟨b5, ev_b5⟩ := exa_v q13
  have E_b5 := Exa.start ev_b5 q13
  have S_b5 := Sta.start ev_b5 (Or.inr ⟨(hw _ (List.mem_of_getElem? (i := 2) rfl)), (hw _ (List.mem_of_getElem? (i := 21) rfl))⟩)
  obtain ⟨b6, ev_b6⟩ := exa_v q15
  have E_b6 := Exa.start ev_b6 q15
  have S_b6 := Sta.start ev_b6 (Or.inr ⟨(hw _ (List.mem_of_getElem? (i := 2) rfl)), (hw _ (List.mem_of_getElem? (i := 22) rfl))⟩)
  obtain ⟨b7, ev_b7⟩ := exa_v q17
  have E_b7 := Exa.start ev_b7 q17
  have S_b7 := Sta.start ev_b7 (Or.inr ⟨(hw _ (List.mem_of_getElem? (i := 2) rfl)), (hw _ (List.mem_of_getElem? (i := 23) rfl))⟩)
  have F_b0_code := own_fldI ev_b0 q19
  have F_b1_code := own_fldI ev_b1 q20
  have F_b2_code := own_fldI ev_b2 q21
  have F_b3_code := own_fldI ev_b3 q22
  have F_b4_code := own_fldI ev_b4 q23
  have F_b5_code := own_fldI ev_b5 q24
  have F_b6_code := own_fldI ev_b6 q25
  have F_b7_code := own_fldI ev_b7 q26
  have hfit : Fit s := fun {y c} hc i hi => by
    obtain ⟨ha, rfl⟩ := Array.getElem?_eq_some_iff.mp hc
    have q := List.all_eq_true.mp ((Array.all_eq_true_iff_forall_mem.mp hF) _ (Array.getElem_mem ha)) i (List.mem_range.mpr hi)
    simpa [Array.getElem?_eq_getElem hi] using q
  obtain ⟨av, ev_av⟩ := arr_v q0
  obtain ⟨cl, Ar⟩ := Arr.start ev_av q0
  have E_av := Exa.start ev_av q1
  have S_av := Sta.start ev_av (Or.inl (hw _ (List.mem_of_getElem? (i := 24) rfl)))
  have hlen := own_len ev_av Ar q2
  have el0 := own_elem ev_av Ar ev_b0 q4
  have el1 := own_elem ev_av Ar ev_b1 q6
  have el2 := own_elem ev_av Ar ev_b2 q8
  have el3 := own_elem ev_av Ar ev_b3 q10
  have el4 := own_elem ev_av Ar ev_b4 q12
  have el5 := own_elem ev_av Ar ev_b5 q14
  have el6 := own_elem ev_av Ar ev_b6 q16
  have el7 := own_elem ev_av Ar ev_b7 q18
  have AV : Arv s s.heap av cl.cls (.object "com/example/pubsume/pubsume/common/protocol/ErrorCode") 8 [.ref b0, .ref b1, .ref b2, .ref b3, .ref b4, .ref b5, .ref b6, .ref b7] .null := Arv.start hfit Ar hlen.1 hlen.2 (by decide) rfl ⟨el0, el1, el2, el3, el4, el5, el6, el7, trivial⟩
  obtain ⟨n, o, h1, h2, h3, _, L, rfl, ⟨rfl, N⟩, hq⟩ := rm_law l s _ hw i0 i1 av cl.cls b0 b1 b2 b3 b4 b5 b6 b7 s.heap s.heap.size S_av E_av AV S_b0 S_b1 S_b2 S_b3 S_b4 S_b5 S_b6 S_b7 F_b0_code F_b1_code F_b2_code F_b3_code F_b4_code F_b5_code F_b6_code F_b7_code tables_1 p e ha hc hk s m _ below hf ((Spec.applies_iff_loose hf).mp happ).1 ⟨rfl, State.Warmed39.refl s, rfl⟩ trivial
  refine ⟨n, _, h1, h2, h3, hpost _ _ _ _ _ _ ⟨Cond.after_iff.mpr rfl, Cond.after_iff.mpr (eq_i res_at (Term.int_eval (1)) rfl), trivial⟩ ⟨hq.1, hq.2.1, (hq.2.2.sift fun y hy => Or.inr (N y hy)).mono (by decide) (by decide)⟩⟩
theorem main_1_1 : Claimed_1_1 := comes_1 fun _ _ _ _ _ _ h hF => ⟨h.1, hF⟩
theorem main_1_2 : Claimed_1_2 := comes_1 fun _ _ _ _ _ _ h hF => ⟨h.2.1, hF⟩
end Jvm.Pilot.@@N@@
namespace Jvm.Pilot.@@N@@
open Jvm Jvm.ClassFile Sem Op Lib Jvm.Free Jvm.Stand Jvm.Pilot.@@N@@.Jvm.D
/-! MADE BY PROGRAM (witnessworld.py) out of the Statement's table words and the real class files: 13 classes; the members and pool entries that the words name. The judged class is class 1, her method 2. -/
namespace start1
open Jvm.ClassFile
def u (s : String) : CpInfo := .utf8 (stringToUtf16 s)
/-- a pool by its gaps: so many unusable entries, then the entry; so many at the end -/
def gap : Nat → List CpInfo → List CpInfo
  | 0, r => r
  | n + 1, r => .unusable :: gap n r
def poolList (es : List (Nat × CpInfo)) (last : Nat) : List CpInfo := es.foldr (fun e r => gap e.1 (e.2 :: r)) (gap last [])
def pool (es : List (Nat × CpInfo)) (last : Nat) : Array CpInfo := ⟨poolList es last⟩
def fileOf (pool : Array CpInfo) (this : Nat) (attrs : Array Attribute := #[]) (ms : Array MethodInfo := #[]) (fl : Nat := 33) (sup : Nat := 0) (ifs : Array Nat := #[]) (fds : Array FieldInfo := #[]) : ClassFile where
  minorVersion := 0
  majorVersion := 65
  constantPool := pool
  accessFlags := fl
  thisClass := this
  superClass := sup
  interfaces := ifs
  fields := fds
  methods := ms
  attributes := attrs
def plain (name : String) (sup : Option ClassId) : Class where
  name := name
  kind := .ordinary
  loader := none
  accessFlags := 33
  super := sup
  interfaces := #[]
  cf := none
  fields := #[]
  methods := #[]
  instanceTypes := #[]
  staticTypes := #[]
  resolved := #[]
  callSites := []
  init := .initialized
  statics := none
  mirror := none

def pool0 : Array CpInfo := pool [(5, u "<init>"), (0, u "()V"), (1, .class_ 10), (1, u "java/lang/Object"), (85, u "clone"), (0, u "()Ljava/lang/Object;")] 26

def k0m0 : Method := { name := "<init>", desc := "()V", sig := { parameters := [], returnType := none }, accessFlags := 1, code := none }
def k0m1 : Method := { name := "clone", desc := "()Ljava/lang/Object;", sig := { parameters := [], returnType := some (.object "java/lang/Object") }, accessFlags := 260, code := none }
/-- java/lang/Object -/
def k0 : Class := { plain "java/lang/Object" none with
  accessFlags := 33
  interfaces := #[]
  cf := some (fileOf pool0 8 #[] #[{ accessFlags := 1, nameIndex := 5, descriptorIndex := 6, attributes := #[] }, { accessFlags := 260, nameIndex := 96, descriptorIndex := 97, attributes := #[] }] 33 0 #[] #[])
  fields := #[]
  methods := #[k0m0, k0m1]
  instanceTypes := #[]
  staticTypes := #[]
  resolved := Array.replicate 124 none
  statics := none }

def pool1 : Array CpInfo := pool [(2, .class_ 4), (1, u "java/lang/Object"), (0, u "<init>"), (0, u "()V"), (0, .fieldref 8 9), (0, .class_ 10), (0, .nameAndType 11 12), (0, u "com/example/pubsume/pubsume/common/protocol/ErrorCode"), (0, u "UnknownError"), (0, u "Lcom/example/pubsume/pubsume/common/protocol/ErrorCode;"), (0, .fieldref 8 14), (0, .nameAndType 15 12), (0, u "ProtocolError"), (0, .fieldref 8 17), (0, .nameAndType 18 12), (0, u "UnsupportedVersion"), (0, .fieldref 8 20), (0, .nameAndType 21 12), (0, u "InvalidName"), (0, .fieldref 8 23), (0, .nameAndType 24 12), (0, u "NamespaceNotFound"), (0, .fieldref 8 26), (0, .nameAndType 27 12), (0, u "ConsumerBusy"), (0, .fieldref 8 29), (0, .nameAndType 30 12), (0, u "PersistenceError"), (0, .fieldref 8 32), (0, .nameAndType 33 12), (0, u "MessageTooBig"), (0, .methodref 8 35), (0, .nameAndType 36 37), (0, u "ofCode"), (0, u "(I)Lcom/example/pubsume/pubsume/common/protocol/ErrorCode;"), (0, .methodref 39 40), (0, .class_ 41), (0, .nameAndType 42 37), (0, u "com/example/pubsume/pubsume/common/protocol/ErrorCodeOfCodePinLaw"), (0, u "expected"), (3, u "law"), (0, u "(II)Z")] 2

def k1m0 : Method := { name := "<init>", desc := "()V", sig := { parameters := [], returnType := none }, accessFlags := 2, code := none }
def k1c1 : Code := { maxStack := 2, maxLocals := 1, code := method_2_code, exceptionTable := #[], attributes := #[] }
def k1m1 : Method := { name := "expected", desc := "(I)Lcom/example/pubsume/pubsume/common/protocol/ErrorCode;", sig := { parameters := [.int], returnType := some (.object "com/example/pubsume/pubsume/common/protocol/ErrorCode") }, accessFlags := 10, code := some k1c1 }
def k1c2 : Code := { maxStack := 2, maxLocals := 5, code := code, exceptionTable := #[], attributes := #[] }
def k1m2 : Method := { name := "law", desc := "(II)Z", sig := { parameters := [.int, .int], returnType := some .boolean }, accessFlags := 9, code := some k1c2 }
/-- com/example/pubsume/pubsume/common/protocol/ErrorCodeOfCodePinLaw -/
def k1 : Class := { plain "com/example/pubsume/pubsume/common/protocol/ErrorCodeOfCodePinLaw" (some 0) with
  accessFlags := 49
  interfaces := #[]
  cf := some (fileOf pool1 39 #[] #[{ accessFlags := 2, nameIndex := 5, descriptorIndex := 6, attributes := #[] }, { accessFlags := 10, nameIndex := 42, descriptorIndex := 37, attributes := #[] }, { accessFlags := 9, nameIndex := 46, descriptorIndex := 47, attributes := #[] }] 49 2 #[] #[])
  fields := #[]
  methods := #[k1m0, k1m1, k1m2]
  instanceTypes := #[]
  staticTypes := #[]
  resolved := Array.replicate 50 none
  statics := none }

def pool2 : Array CpInfo := pool [(1, .class_ 2), (0, u "java/lang/constant/Constable"), (0, .class_ 4), (0, u "java/lang/Object")] 6

/-- java/lang/constant/Constable -/
def k2 : Class := { plain "java/lang/constant/Constable" (some 0) with
  accessFlags := 1537
  interfaces := #[]
  cf := some (fileOf pool2 1 #[] #[] 1537 3 #[] #[])
  fields := #[]
  methods := #[]
  instanceTypes := #[]
  staticTypes := #[]
  resolved := Array.replicate 11 none
  statics := none }

def pool3 : Array CpInfo := pool [(1, .class_ 2), (0, u "java/lang/Comparable"), (0, .class_ 4), (0, u "java/lang/Object")] 7

/-- java/lang/Comparable -/
def k3 : Class := { plain "java/lang/Comparable" (some 0) with
  accessFlags := 1537
  interfaces := #[]
  cf := some (fileOf pool3 1 #[] #[] 1537 3 #[] #[])
  fields := #[]
  methods := #[]
  instanceTypes := #[]
  staticTypes := #[]
  resolved := Array.replicate 12 none
  statics := none }

def pool4 : Array CpInfo := pool [(1, .class_ 2), (0, u "java/io/Serializable"), (0, .class_ 4), (0, u "java/lang/Object")] 2

/-- java/io/Serializable -/
def k4 : Class := { plain "java/io/Serializable" (some 0) with
  accessFlags := 1537
  interfaces := #[]
  cf := some (fileOf pool4 1 #[] #[] 1537 3 #[] #[])
  fields := #[]
  methods := #[]
  instanceTypes := #[]
  staticTypes := #[]
  resolved := Array.replicate 7 none
  statics := none }

def pool5 : Array CpInfo := pool [(2, .class_ 4), (1, u "java/lang/Enum"), (0, u "name"), (0, u "Ljava/lang/String;"), (2, u "ordinal"), (0, u "I"), (1, .class_ 14), (1, u "java/lang/Object"), (4, u "hash"), (86, .class_ 108), (1, u "java/lang/Enum$EnumDesc"), (2, .class_ 112), (0, u "java/lang/constant/Constable"), (0, .class_ 114), (0, u "java/lang/Comparable"), (0, .class_ 116), (0, u "java/io/Serializable")] 87

/-- java/lang/Enum -/
def k5 : Class := { plain "java/lang/Enum" (some 0) with
  accessFlags := 1057
  interfaces := #[2, 3, 4]
  cf := some (fileOf pool5 2 #[.nestMembers #[106]] #[] 1057 12 #[111, 113, 115] #[{ accessFlags := 18, nameIndex := 5, descriptorIndex := 6, attributes := #[] }, { accessFlags := 18, nameIndex := 9, descriptorIndex := 10, attributes := #[] }, { accessFlags := 2, nameIndex := 19, descriptorIndex := 10, attributes := #[] }])
  fields := #[{ name := "name", type := (.object "java/lang/String"), accessFlags := 18, slot := 0, constantValue := 0 }, { name := "ordinal", type := .int, accessFlags := 18, slot := 1, constantValue := 0 }, { name := "hash", type := .int, accessFlags := 2, slot := 2, constantValue := 0 }]
  methods := #[]
  instanceTypes := #[(.object "java/lang/String"), .int, .int]
  staticTypes := #[]
  resolved := Array.replicate 204 none
  statics := none }

def pool6 : Array CpInfo := pool [(1, .class_ 2), (0, u "com/example/pubsume/pubsume/common/protocol/ErrorCode"), (0, .fieldref 1 4), (0, .nameAndType 5 6), (0, u "UnknownError"), (0, u "Lcom/example/pubsume/pubsume/common/protocol/ErrorCode;"), (2, u "ProtocolError"), (2, u "UnsupportedVersion"), (2, u "InvalidName"), (2, u "NamespaceNotFound"), (2, u "ConsumerBusy"), (2, u "PersistenceError"), (2, u "MessageTooBig"), (0, .fieldref 1 29), (0, .nameAndType 30 31), (0, u "$VALUES"), (0, u "[Lcom/example/pubsume/pubsume/common/protocol/ErrorCode;"), (0, .methodref 33 34), (0, .class_ 31), (0, .nameAndType 35 36), (0, u "clone"), (0, u "()Ljava/lang/Object;"), (1, .class_ 40), (1, u "java/lang/Enum"), (6, .fieldref 1 48), (0, .nameAndType 49 50), (0, u "code"), (0, u "I"), (0, .methodref 1 52), (0, .nameAndType 53 54), (0, u "values"), (0, u "()[Lcom/example/pubsume/pubsume/common/protocol/ErrorCode;"), (21, u "ofCode"), (0, u "(I)Lcom/example/pubsume/pubsume/common/protocol/ErrorCode;")] 6

def k6c0 : Code := { maxStack := 1, maxLocals := 0, code := prog_51_method_1_code, exceptionTable := #[], attributes := #[] }
def k6m0 : Method := { name := "values", desc := "()[Lcom/example/pubsume/pubsume/common/protocol/ErrorCode;", sig := { parameters := [], returnType := some (.array (.object "com/example/pubsume/pubsume/common/protocol/ErrorCode")) }, accessFlags := 9, code := some k6c0 }
def k6c1 : Code := { maxStack := 2, maxLocals := 5, code := prog_51_method_5_code, exceptionTable := #[], attributes := #[] }
def k6m1 : Method := { name := "ofCode", desc := "(I)Lcom/example/pubsume/pubsume/common/protocol/ErrorCode;", sig := { parameters := [.int], returnType := some (.object "com/example/pubsume/pubsume/common/protocol/ErrorCode") }, accessFlags := 9, code := some k6c1 }
/-- com/example/pubsume/pubsume/common/protocol/ErrorCode -/
def k6 : Class := { plain "com/example/pubsume/pubsume/common/protocol/ErrorCode" (some 5) with
  accessFlags := 16433
  interfaces := #[]
  cf := some (fileOf pool6 1 #[] #[{ accessFlags := 9, nameIndex := 53, descriptorIndex := 54, attributes := #[] }, { accessFlags := 9, nameIndex := 76, descriptorIndex := 77, attributes := #[] }] 16433 38 #[] #[{ accessFlags := 16409, nameIndex := 5, descriptorIndex := 6, attributes := #[] }, { accessFlags := 16409, nameIndex := 9, descriptorIndex := 6, attributes := #[] }, { accessFlags := 16409, nameIndex := 12, descriptorIndex := 6, attributes := #[] }, { accessFlags := 16409, nameIndex := 15, descriptorIndex := 6, attributes := #[] }, { accessFlags := 16409, nameIndex := 18, descriptorIndex := 6, attributes := #[] }, { accessFlags := 16409, nameIndex := 21, descriptorIndex := 6, attributes := #[] }, { accessFlags := 16409, nameIndex := 24, descriptorIndex := 6, attributes := #[] }, { accessFlags := 16409, nameIndex := 27, descriptorIndex := 6, attributes := #[] }, { accessFlags := 18, nameIndex := 49, descriptorIndex := 50, attributes := #[] }, { accessFlags := 4122, nameIndex := 30, descriptorIndex := 31, attributes := #[] }])
  fields := #[{ name := "UnknownError", type := (.object "com/example/pubsume/pubsume/common/protocol/ErrorCode"), accessFlags := 16409, slot := 0, constantValue := 0 }, { name := "ProtocolError", type := (.object "com/example/pubsume/pubsume/common/protocol/ErrorCode"), accessFlags := 16409, slot := 1, constantValue := 0 }, { name := "UnsupportedVersion", type := (.object "com/example/pubsume/pubsume/common/protocol/ErrorCode"), accessFlags := 16409, slot := 2, constantValue := 0 }, { name := "InvalidName", type := (.object "com/example/pubsume/pubsume/common/protocol/ErrorCode"), accessFlags := 16409, slot := 3, constantValue := 0 }, { name := "NamespaceNotFound", type := (.object "com/example/pubsume/pubsume/common/protocol/ErrorCode"), accessFlags := 16409, slot := 4, constantValue := 0 }, { name := "ConsumerBusy", type := (.object "com/example/pubsume/pubsume/common/protocol/ErrorCode"), accessFlags := 16409, slot := 5, constantValue := 0 }, { name := "PersistenceError", type := (.object "com/example/pubsume/pubsume/common/protocol/ErrorCode"), accessFlags := 16409, slot := 6, constantValue := 0 }, { name := "MessageTooBig", type := (.object "com/example/pubsume/pubsume/common/protocol/ErrorCode"), accessFlags := 16409, slot := 7, constantValue := 0 }, { name := "code", type := .int, accessFlags := 18, slot := 3, constantValue := 0 }, { name := "$VALUES", type := (.array (.object "com/example/pubsume/pubsume/common/protocol/ErrorCode")), accessFlags := 4122, slot := 8, constantValue := 0 }]
  methods := #[k6m0, k6m1]
  instanceTypes := #[(.object "java/lang/String"), .int, .int, .int]
  staticTypes := #[(.object "com/example/pubsume/pubsume/common/protocol/ErrorCode"), (.object "com/example/pubsume/pubsume/common/protocol/ErrorCode"), (.object "com/example/pubsume/pubsume/common/protocol/ErrorCode"), (.object "com/example/pubsume/pubsume/common/protocol/ErrorCode"), (.object "com/example/pubsume/pubsume/common/protocol/ErrorCode"), (.object "com/example/pubsume/pubsume/common/protocol/ErrorCode"), (.object "com/example/pubsume/pubsume/common/protocol/ErrorCode"), (.object "com/example/pubsume/pubsume/common/protocol/ErrorCode"), (.array (.object "com/example/pubsume/pubsume/common/protocol/ErrorCode"))]
  resolved := Array.replicate 84 none
  statics := some 0 }

def pool7 : Array CpInfo := pool [(1, .class_ 2), (0, u "java/lang/Cloneable"), (0, .class_ 4), (0, u "java/lang/Object")] 2

/-- java/lang/Cloneable -/
def k7 : Class := { plain "java/lang/Cloneable" (some 0) with
  accessFlags := 1537
  interfaces := #[]
  cf := some (fileOf pool7 1 #[] #[] 1537 3 #[] #[])
  fields := #[]
  methods := #[]
  instanceTypes := #[]
  staticTypes := #[]
  resolved := Array.replicate 7 none
  statics := none }

/-- the primitive byte -/
def k8 : Class := { plain "byte" none with kind := .primitive 'B', accessFlags := 0x411 }
/-- [B -/
def k9 : Class := { plain "[B" (some 0) with kind := .array 8 .byte, interfaces := #[7, 4], accessFlags := 1041 }

/-- the primitive int -/
def k10 : Class := { plain "int" none with kind := .primitive 'I', accessFlags := 0x411 }
/-- [I -/
def k11 : Class := { plain "[I" (some 0) with kind := .array 10 .int, interfaces := #[7, 4], accessFlags := 1041 }

/-- [Lcom/example/pubsume/pubsume/common/protocol/ErrorCode; -/
def k12 : Class := { plain "[Lcom/example/pubsume/pubsume/common/protocol/ErrorCode;" (some 0) with kind := .array 6 (.object "com/example/pubsume/pubsume/common/protocol/ErrorCode"), interfaces := #[7, 4], accessFlags := 1041 }

def heap : Heap := #[{ cls := 6, slots := #[.ref 2, .ref 3, .ref 4, .ref 5, .ref 6, .ref 7, .ref 8, .ref 9, .ref 1], vm := .statics 6 },
  { cls := 12, slots := #[.ref 2, .ref 3, .ref 4, .ref 5, .ref 6, .ref 7, .ref 8, .ref 9], vm := .none },
  { cls := 6, slots := #[.null, .int 0, .int 0, .int 0], vm := .none },
  { cls := 6, slots := #[.null, .int 1, .int 0, .int 1], vm := .none },
  { cls := 6, slots := #[.null, .int 2, .int 0, .int 2], vm := .none },
  { cls := 6, slots := #[.null, .int 3, .int 0, .int 3], vm := .none },
  { cls := 6, slots := #[.null, .int 4, .int 0, .int 4], vm := .none },
  { cls := 6, slots := #[.null, .int 5, .int 0, .int 5], vm := .none },
  { cls := 6, slots := #[.null, .int 6, .int 0, .int 6], vm := .none },
  { cls := 6, slots := #[.null, .int 7, .int 0, .int 7], vm := .none }]
def classes : Array Class := #[k0, k1, k2, k3, k4, k5, k6, k7, k8, k9, k10, k11, k12]
def interned : List (Array UInt16 × Addr) := []
def slotsUsed : Nat := 49
def theMethod : MethodId := ⟨1, 2⟩
def args0 : Array Value := #[.int 5, .int 3]
def aboutOver (below : List Frame) : State where
  vm := { classes := classes, interned := interned.toArray }
  heap := heap
  slotsUsed := slotsUsed
  threads := #[{ frames := .invoking theMethod args0 :: below }]
def below0 : List Frame := [.native { method := ⟨0, 0⟩, args := #[] }]
def about1 : State := aboutOver below0
def p0 : Program := .bare "" "" ""
def e0 : Env := launch0.env 0 0 0
theorem w_frames : about1.frames = Frame.invoking theMethod args0 :: below0 := rfl
set_option maxRecDepth 65536 in
theorem w_args : argsFit about1.vm theMethod args0 = true := by decide +kernel
set_option maxRecDepth 65536 in
theorem w_heap : heapFits about1 = true := by decide +kernel
set_option maxRecDepth 65536 in
theorem w_runnable : about1.curStatus? = some .runnable := by decide +kernel
set_option maxRecDepth 65536 in
theorem w_alone : about1.alone = true := by decide +kernel
set_option maxRecDepth 65536 in
theorem w_named : about1.methodNamed? x = some theMethod := by decide +kernel
set_option maxRecDepth 65536 in
theorem w_hears : about1.hears theMethod below0 = true := by decide +kernel
set_option maxRecDepth 65536 in
theorem w_ripe : about1.ripe theMethod args0 below0 = true := by decide +kernel
theorem w_running : about1.status = .running := rfl
set_option maxRecDepth 65536 in
theorem w_room : about1.hasRoom e0.platform room_1 = true :=
  launch0.hasRoom_least _ room_1 (by decide +kernel) (by decide +kernel) (by decide +kernel) (by decide +kernel) (by decide +kernel) (by decide +kernel)
theorem allAtoms_all (ts : List Jvm.Cond) (a : Array Jvm.Value) (st : Jvm.State) : (allAtoms ts).before a st = ts.all (fun c => c.before a st) := by
  induction ts with
  | nil => rfl
  | cons c t ih =>
    show (Jvm.Cond.and c (allAtoms t)).before a st = _
    rw [Jvm.Cond.before_and, ih, List.all_cons]
def words1 : List Jvm.Cond := Jvm.Cond.code x code maxLocals ret :: tables_1
/-- a 'code' word, met by the world's own term for the bytes: nothing is compared byte by byte -/
theorem code_word {y : MethodName} {bytes : ByteArray} {mx : Nat} {rt : Option FieldType} {a : Array Value} {s : State} {m : MethodId} {meth : Method} {c : Code} (h1 : s.methodNamed? y = some m) (h2 : s.vm.method? m = some meth) (h3 : meth.code = some c) (h4 : c.code = bytes)
    (h5 : (c.maxLocals == mx && c.exceptionTable.isEmpty && decide (c.maxStack ≤ mostOperands) && decide (meth.sig.returnType = rt) && !meth.locks && decide (parseMethodDescriptor y.desc = some meth.sig)) = true) : (Jvm.Cond.code y bytes mx rt).before a s = true := by
  simp only [Bool.and_eq_true, beq_iff_eq, Bool.not_eq_true', decide_eq_true_eq] at h5
  obtain ⟨⟨⟨⟨⟨g1, g2⟩, g3⟩, g4⟩, g5⟩, g6⟩ := h5
  simp [Cond.before, Cond.holds, Cond.value, h1, h2, h3, h4, g1, g2, g3, g4, g5, g6]
def isCode : Jvm.Cond → Bool
  | .code _ _ _ _ => true
  | _ => false
theorem all_split {L : List Jvm.Cond} {P : Jvm.Cond → Bool} (h1 : L.all (fun c => isCode c || P c) = true) (h2 : ∀ c ∈ L.filter isCode, P c = true) : L.all P = true := by
  refine List.all_eq_true.mpr fun c hc => ?_
  have h := List.all_eq_true.mp h1 c hc
  rcases Bool.eq_false_or_eq_true (isCode c) with hi | hi
  · exact h2 c (List.mem_filter.mpr ⟨hc, hi⟩)
  · simpa [hi] using h
set_option maxRecDepth 65536 in
theorem w_c0 : (Jvm.Cond.code x code maxLocals ret).before args0 about1 = true := code_word (m := ⟨1, 2⟩) (meth := k1m2) (c := k1c2) (by decide +kernel) rfl rfl rfl (by decide +kernel)
set_option maxRecDepth 65536 in
theorem w_c1 : (Jvm.Cond.code ({ cls := "com/example/pubsume/pubsume/common/protocol/ErrorCode", name := "ofCode", desc := "(I)Lcom/example/pubsume/pubsume/common/protocol/ErrorCode;" } : Jvm.MethodName) prog_51_method_5_code (5 : Nat) (Option.some (Jvm.ClassFile.FieldType.object "com/example/pubsume/pubsume/common/protocol/ErrorCode"))).before args0 about1 = true := code_word (m := ⟨6, 1⟩) (meth := k6m1) (c := k6c1) (by decide +kernel) rfl rfl rfl (by decide +kernel)
set_option maxRecDepth 65536 in
theorem w_c2 : (Jvm.Cond.code ({ cls := "com/example/pubsume/pubsume/common/protocol/ErrorCode", name := "values", desc := "()[Lcom/example/pubsume/pubsume/common/protocol/ErrorCode;" } : Jvm.MethodName) prog_51_method_1_code (0 : Nat) (Option.some (Jvm.ClassFile.FieldType.array (Jvm.ClassFile.FieldType.object "com/example/pubsume/pubsume/common/protocol/ErrorCode")))).before args0 about1 = true := code_word (m := ⟨6, 0⟩) (meth := k6m0) (c := k6c0) (by decide +kernel) rfl rfl rfl (by decide +kernel)
set_option maxRecDepth 65536 in
theorem w_c3 : (Jvm.Cond.code ({ cls := "com/example/pubsume/pubsume/common/protocol/ErrorCodeOfCodePinLaw", name := "expected", desc := "(I)Lcom/example/pubsume/pubsume/common/protocol/ErrorCode;" } : Jvm.MethodName) method_2_code (1 : Nat) (Option.some (Jvm.ClassFile.FieldType.object "com/example/pubsume/pubsume/common/protocol/ErrorCode"))).before args0 about1 = true := code_word (m := ⟨1, 1⟩) (meth := k1m1) (c := k1c1) (by decide +kernel) rfl rfl rfl (by decide +kernel)
def codes1 : List Jvm.Cond := [Jvm.Cond.code x code maxLocals ret, Jvm.Cond.code ({ cls := "com/example/pubsume/pubsume/common/protocol/ErrorCode", name := "ofCode", desc := "(I)Lcom/example/pubsume/pubsume/common/protocol/ErrorCode;" } : Jvm.MethodName) prog_51_method_5_code (5 : Nat) (Option.some (Jvm.ClassFile.FieldType.object "com/example/pubsume/pubsume/common/protocol/ErrorCode")), Jvm.Cond.code ({ cls := "com/example/pubsume/pubsume/common/protocol/ErrorCode", name := "values", desc := "()[Lcom/example/pubsume/pubsume/common/protocol/ErrorCode;" } : Jvm.MethodName) prog_51_method_1_code (0 : Nat) (Option.some (Jvm.ClassFile.FieldType.array (Jvm.ClassFile.FieldType.object "com/example/pubsume/pubsume/common/protocol/ErrorCode"))), Jvm.Cond.code ({ cls := "com/example/pubsume/pubsume/common/protocol/ErrorCodeOfCodePinLaw", name := "expected", desc := "(I)Lcom/example/pubsume/pubsume/common/protocol/ErrorCode;" } : Jvm.MethodName) method_2_code (1 : Nat) (Option.some (Jvm.ClassFile.FieldType.object "com/example/pubsume/pubsume/common/protocol/ErrorCode"))]
set_option maxRecDepth 65536 in
theorem codes_eq : words1.filter isCode = codes1 := rfl
theorem w_codes : ∀ c ∈ words1.filter isCode, c.before args0 about1 = true := by
  rw [codes_eq]
  intro c hc
  simp only [codes1, List.mem_cons, List.not_mem_nil, or_false] at hc
  rcases hc with rfl | rfl | rfl | rfl
  · exact w_c0
  · exact w_c1
  · exact w_c2
  · exact w_c3
set_option maxRecDepth 65536 in
theorem w_t1 : (words1.take 24).all (fun c => isCode c || c.before args0 about1) = true := by decide +kernel
set_option maxRecDepth 65536 in
theorem w_t2 : (words1.drop 24).all (fun c => isCode c || c.before args0 about1) = true := by decide +kernel
theorem w_tables : (allAtoms (Jvm.Cond.code x code maxLocals ret :: tables_1)).before args0 about1 = true := by
  rw [allAtoms_all]
  show words1.all (fun c => c.before args0 about1) = true
  refine all_split ?_ w_codes
  rw [← List.take_append_drop 24 words1, List.all_append, w_t1, w_t2]
  rfl
set_option maxRecDepth 65536 in
theorem w_case : (Jvm.Cond.and given_1 narrow_1).before args0 about1 = true := by decide +kernel
theorem w_applies : (headSpec (Jvm.Cond.code x code maxLocals ret :: tables_1) room_1).applies x e0.platform about1 = true :=
  (Spec.applies_iff w_frames).mpr ⟨w_running, w_runnable, w_alone, w_named, w_hears, w_ripe, w_room, w_tables⟩
theorem atStart : AtStart classFile x code maxLocals ret World_1 tables_1 room_1 Calls_1 rest_1 Pre_1 launch0 p0 e0 about1 theMethod args0 below0 :=
  ⟨lists_1, trivial, launch0.admits_env _ _ _, launch0.least_env, fairChoices_fair.cas, fairChoices_fair.clock, w_frames, w_args, w_heap, w_applies, trivial, trivial, w_case⟩
end start1
theorem witness_1 : WitnessClaimed_1 := ⟨start1.p0, start1.e0, start1.about1, start1.theMethod, start1.args0, start1.below0, start1.atStart⟩
end Jvm.Pilot.@@N@@
