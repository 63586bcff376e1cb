import JvmDerived
import JvmDerived.Pilot.@@N@@Statement
import JvmDerived.Pilot.@@N@@Code
set_option linter.unusedVariables false
set_option linter.unusedSimpArgs false

namespace Jvm.RoadKit
open Sem ClassFile Op Lib Jvm.Stand Jvm.Free Jvm.LawKit
section Go
variable {p : Program} {l : Launch} {e : Env} {R : Room} {s : State} {m : MethodId} {args : Array Value} {below : List Frame} {meth : Method} {c : Code} {T T' : State} {locs : List Loc} {cells slots : Nat} {Z : State} {a0 : Array Value} {h : Heap} {B : ByteArray} {K : Outcome → State → Prop} {pc pcT pcF : Nat} {ls : Array Slot} {st : List Value}
/-- from T with the frame g the run comes to an end of which K holds -/
def Go (p : Program) (e : Env) (below : List Frame) (K : Outcome → State → Prop) (T : State) (g : JFrame) : Prop :=
  ∃ u o, Steps p.tables e below (T.setTop g) u ∧ u.status = .running ∧ Ended u below o ∧ K o u
theorem Go.on {g g' : JFrame} (st : ∀ t, Steps p.tables e below (T'.setTop g') t → Steps p.tables e below (T.setTop g) t) (h : Go p e below K T' g') : Go p e below K T g := by
  obtain ⟨u, o, h1, h2⟩ := h; exact ⟨u, o, st _ h1, h2⟩
theorem Go.join {α : Type} {P : α → Prop} {g : α → JFrame} {g0 : JFrame} (rest : ∀ z, P z → Go p e below K T (g z)) (here : (∀ z, P z → Go p e below K T (g z)) → Go p e below K T g0) : Go p e below K T g0 := here rest
theorem Go.joinV {α : Type} {P : α → Prop} {g : α → JFrame} {g0 : JFrame} (X : Stand p l e R s m args below meth c T locs cells slots) (eT : T.heap = h) (rest : ∀ (T' : State) (z : α), Stand p l e R s m args below meth c T' locs cells slots → T'.heap = h → P z → Go p e below K T' (g z))
    (here : (∀ (T' : State) (z : α), Stand p l e R s m args below meth c T' locs cells slots → T'.heap = h → P z → Go p e below K T' (g z)) → Go p e below K T g0) : Go p e below K T g0 := here rest
theorem Go.at {g g' : JFrame} (q : g = g') (h : Go p e below K T g') : Go p e below K T g := q ▸ h
def EndK (s : State) (Q : Option Value → Heap → List Loc → Prop) (k n : Nat) : Outcome → State → Prop := fun o u => ∃ v L, o = .returned v ∧ Q v u.heap L ∧ FrameEnd s o u L k n
abbrev Pact (l : Launch) (Z : State) (y : MethodName) (bytes : ByteArray) (ml : Nat) (ret : Option FieldType) (ws : List Jvm.Cond) (rm : Room) (as : Array Value) (h0 : Heap) (Q : Option Value → Heap → List Loc → Prop) : Prop :=
  MetFree l y (head1 (Jvm.Cond.code y bytes ml ret :: ws) rm) (fun a U => a = as ∧ Z.Warmed39 U.vm ∧ U.heap = h0) (fun _ _ _ _ _ => True) (fun _ U o U' => ∃ v L, o = .returned v ∧ Q v U'.heap L ∧ FrameEnd U o U' L rm.cells rm.slots)
theorem Pact.intro {y : MethodName} {bytes : ByteArray} {ml : Nat} {ret : Option FieldType} {ws : List Jvm.Cond} {rm : Room} {as : Array Value} {h0 : Heap} {Q : Option Value → Heap → List Loc → Prop} (hp : plainFor y = true)
    (body : ∀ (p : Program) (e : Env) (s : State) (m : MethodId) (below : List Frame) (meth : Method) (c : Code) (T : State), Stand p l e rm s m as below meth c T [] 0 0 → p.tables.exec = Jvm.exec → c.code = bytes → c.maxLocals = ml → meth.sig.returnType = ret → meth.locks = false →
      s.vm.findClass y.cls = some m.cls → meth.name = y.name → Z.Warmed39 s.vm → T.heap = h0 → Go p e below (EndK s Q rm.cells rm.slots) T (entryFrame m as ml)) : Pact l Z y bytes ml ret ws rm as h0 Q := by
  refine MetFree.of_bodySF hp hisR ?_
  intro p e s m args below meth c s₁ Bd hml0 hP hK
  obtain ⟨rfl, hZ, hh⟩ := hP
  exact body p e s m below meth c s₁ (Stand.of_body Bd) Bd.exec Bd.bytes hml0 Bd.returns (BodyLoose.notSynchronized Bd) (findClass_of_methodNamed Bd.named) (name_of_methodNamed Bd.named Bd.method).1 hZ (by rw [← hh, Bd.state]; rfl)
theorem Go.icmp (X : Stand p l e R s m args below meth c T locs cells slots) (hx : p.tables.exec = Jvm.exec) (hby : c.code = B) {cd : ClassFile.Cond} {x y : Int32} {o : Int} (hd : decode B pc = .ok (.if_icmp cd o, 3)) (ho : 0 ≤ (pc : Int) + o) (hp : ((pc : Int) + o).toNat = pcT) (hq : pc + 3 = pcF)
    (hT : if_icmp.holds cd x y = true → Go p e below K T (mkF m pcT ls st)) (hF : if_icmp.holds cd x y = false → Go p e below K T (mkF m pcF ls st)) : Go p e below K T (mkF m pc ls (.int y :: .int x :: st)) := by
  subst hq
  cases q : if_icmp.holds cd x y
  · exact Go.on (fun t k => XS.icmpNo X.here hx rfl (hb hby hd) rfl q k) (hF q)
  · exact Go.on (fun t k => XS.icmpYes X.here hx rfl (pc0 := pc) rfl (hb hby hd) rfl q ho hp k) (hT q)
theorem Go.ifc (X : Stand p l e R s m args below meth c T locs cells slots) (hx : p.tables.exec = Jvm.exec) (hby : c.code = B) {cd : ClassFile.Cond} {x : Int32} {o : Int} (hd : decode B pc = .ok (.ifCond cd o, 3)) (ho : 0 ≤ (pc : Int) + o) (hp : ((pc : Int) + o).toNat = pcT) (hq : pc + 3 = pcF)
    (hT : if_icmp.holds cd x 0 = true → Go p e below K T (mkF m pcT ls st)) (hF : if_icmp.holds cd x 0 = false → Go p e below K T (mkF m pcF ls st)) : Go p e below K T (mkF m pc ls (.int x :: st)) := by
  subst hq
  rw [← if0] at hT hF
  cases q : ifCond.holds cd x
  · exact Go.on (fun t k => XS.ifNo X.here hx rfl (hb hby hd) rfl q k) (hF q)
  · exact Go.on (fun t k => XS.ifYes X.here hx rfl (pc0 := pc) rfl (hb hby hd) rfl q ho hp k) (hT q)
theorem iEq {x y : Int32} : (if_icmp.holds .eq x y = true → x = y) ∧ (if_icmp.holds .eq x y = false → ¬ x = y) := by constructor <;> intro h <;> simpa [if_icmp.holds] using h
theorem iNe {x y : Int32} : (if_icmp.holds .ne x y = true → ¬ x = y) ∧ (if_icmp.holds .ne x y = false → x = y) := by constructor <;> intro h <;> simpa [if_icmp.holds] using h
theorem iLt {x y : Int32} : (if_icmp.holds .lt x y = true → x < y) ∧ (if_icmp.holds .lt x y = false → ¬ x < y) := by constructor <;> intro h <;> simpa [if_icmp.holds] using h
theorem iGe {x y : Int32} : (if_icmp.holds .ge x y = true → ¬ x < y) ∧ (if_icmp.holds .ge x y = false → x < y) := by constructor <;> intro h <;> simpa [if_icmp.holds] using h
theorem iGt {x y : Int32} : (if_icmp.holds .gt x y = true → y < x) ∧ (if_icmp.holds .gt x y = false → ¬ y < x) := by constructor <;> intro h <;> simpa [if_icmp.holds] using h
theorem iLe {x y : Int32} : (if_icmp.holds .le x y = true → ¬ y < x) ∧ (if_icmp.holds .le x y = false → y < x) := by constructor <;> intro h <;> simpa [if_icmp.holds] using h
theorem Go.acmp (X : Stand p l e R s m args below meth c T locs cells slots) (hx : p.tables.exec = Jvm.exec) (hby : c.code = B) {cd : ACond} {x y : Value} (h1 : x.isRef = true) (h2 : y.isRef = true) {o : Int} (hd : decode B pc = .ok (.if_acmp cd o, 3)) (ho : 0 ≤ (pc : Int) + o) (hp : ((pc : Int) + o).toNat = pcT) (hq : pc + 3 = pcF)
    (hT : XT.acmp cd x y = true → Go p e below K T (mkF m pcT ls st)) (hF : XT.acmp cd x y = false → Go p e below K T (mkF m pcF ls st)) : Go p e below K T (mkF m pc ls (y :: x :: st)) := by
  subst hq
  cases q : XT.acmp cd x y
  · exact Go.on (fun t k => XT.acmpNo X.here hx rfl (hb hby hd) rfl h1 h2 q k) (hF q)
  · exact Go.on (fun t k => XT.acmpYes X.here hx rfl (pc0 := pc) rfl (hb hby hd) rfl h1 h2 q ho hp k) (hT q)
theorem aEq {x y : Value} : (XT.acmp .eq x y = true → x = y) ∧ (XT.acmp .eq x y = false → ¬ x = y) := by constructor <;> intro h <;> simpa [XT.acmp] using h
theorem aNe {x y : Value} : (XT.acmp .ne x y = true → ¬ x = y) ∧ (XT.acmp .ne x y = false → x = y) := by constructor <;> intro h <;> simpa [XT.acmp] using h
theorem rEq {x y : Addr} : (XT.acmp .eq (.ref x) (.ref y) = true → x = y) ∧ (XT.acmp .eq (.ref x) (.ref y) = false → ¬ x = y) := by constructor <;> intro h <;> simpa [XT.acmp] using h
theorem rNe {x y : Addr} : (XT.acmp .ne (.ref x) (.ref y) = true → ¬ x = y) ∧ (XT.acmp .ne (.ref x) (.ref y) = false → x = y) := by constructor <;> intro h <;> simpa [XT.acmp] using h
theorem cat_ref {x : Value} (h : x.isRef = true) : x.category = 1 := by rcases ref_cases h with rfl | ⟨a, rfl⟩ <;> rfl
theorem eqInt {first : State} {o : Option Outcome} {idx : List Nat} {t : Term} {k : Int32} (h : (Jvm.Cond.eq t (Term.int k)).value args first o s idx = some true) : t.eval args first o idx s = some (.int k) := by
  obtain ⟨x, y, hx, hy, k1, k2⟩ := cmp_v (Or.inl h)
  have e : y = .int k := Option.some.inj (hy.symm.trans (Term.int_eval k))
  subst e
  obtain ⟨z, rfl⟩ := k2
  have q : z = k := gotT (Cond.eq_ints hx hy) h
  rw [hx, q]
theorem fldInt {t : Term} {a : Addr} {C n d : String} {k : Int32} (ev : t.eval args Z none [] Z = some (.ref a)) (h : (Jvm.Cond.eq (Term.field t C n d) (Term.int k)).value args Z none Z [] = some true) : Fld Z Z.heap a C n d (.int k) :=
  Fld.start ((fld_at ev).symm.trans (eqInt h))
theorem fldNull {t : Term} {a : Addr} {C n d : String} (ev : t.eval args Z none [] Z = some (.ref a)) (h : (Jvm.Cond.eq (Term.field t C n d) Term.null).value args Z none Z [] = some true) : Fld Z Z.heap a C n d .null :=
  Fld.start ((fld_at ev).symm.trans (null_v h))
theorem fldRef {t u : Term} {a b : Addr} {C n d : String} (ev : t.eval args Z none [] Z = some (.ref a)) (hu : u.eval args Z none [] Z = some (.ref b)) (h : (Jvm.Cond.eq (Term.field t C n d) u).value args Z none Z [] = some true) : Fld Z Z.heap a C n d (.ref b) := by
  obtain ⟨x, y, hx, hy, k1, k2⟩ := cmp_v (Or.inl h)
  cases hy.symm.trans hu
  have q : x = .ref b := gotT (eq_R hx hy k2.2 rfl) h
  exact Fld.start ((fld_at ev).symm.trans (q ▸ hx))
theorem Go.retV (X : Stand p l e R s m args below meth c T locs cells slots) (hx : p.tables.exec = Jvm.exec) (hlk : meth.locks = false) {t : FieldType} (hret : meth.sig.returnType = some t) (hby : c.code = B) {i : Instr} (hd : decode B pc = .ok (i, 1)) {w : Value} (hn : narrow t w = w)
    (hi : (i = .ireturn ∧ (t = .int ∨ t = .boolean ∨ t = .byte ∨ t = .char ∨ t = .short) ∧ ∃ z, w = .int z) ∨ (i = .lreturn ∧ t = .long ∧ ∃ z, w = .long z) ∨ (i = .dreturn ∧ t = .double ∧ ∃ z, w = .double z) ∨ (i = .freturn ∧ t = .float ∧ ∃ z, w = .float z) ∨ (i = .areturn ∧ t.isReference = true ∧ w.isRef = true))
    {Q : Option Value → Heap → List Loc → Prop} {k n : Nat} (hc : cells ≤ k) (hs : slots ≤ n) (hq : Q (some w) T.heap locs) : Go p e below (EndK s Q k n) T (mkF m pc ls (w :: st)) := by
  obtain ⟨fs, hr, hrun, hended, hW, hsame⟩ := X.leave (v := some w) (fun h => by rw [hret] at h; cases h) hlk
  exact ⟨_, _, retOut X hx hret hn hi (hb hby hd) hr, hrun, hended, _, _, rfl, hq, ⟨_, rfl⟩, hW, hsame.mono hc hs⟩
theorem Go.retI (X : Stand p l e R s m args below meth c T locs cells slots) (hx : p.tables.exec = Jvm.exec) (hlk : meth.locks = false) {t : FieldType} (hret : meth.sig.returnType = some t) (hby : c.code = B) (hd : decode B pc = .ok (.ireturn, 1)) {z : Int32} (hn : narrow t (.int z) = .int z)
    (ht : t = .int ∨ t = .boolean ∨ t = .byte ∨ t = .char ∨ t = .short) {Q : Option Value → Heap → List Loc → Prop} {k n : Nat} (hc : cells ≤ k) (hs : slots ≤ n) (hq : Q (some (.int z)) T.heap locs) : Go p e below (EndK s Q k n) T (mkF m pc ls (.int z :: st)) :=
  Go.retV X hx hlk hret hby hd hn (Or.inl ⟨rfl, ht, z, rfl⟩) hc hs hq
theorem Go.retA (X : Stand p l e R s m args below meth c T locs cells slots) (hx : p.tables.exec = Jvm.exec) (hlk : meth.locks = false) {t : FieldType} (hret : meth.sig.returnType = some t) (hby : c.code = B) (hd : decode B pc = .ok (.areturn, 1)) {w : Value} (hw : w.isRef = true)
    (ht : t.isReference = true) {Q : Option Value → Heap → List Loc → Prop} {k n : Nat} (hc : cells ≤ k) (hs : slots ≤ n) (hq : Q (some w) T.heap locs) : Go p e below (EndK s Q k n) T (mkF m pc ls (w :: st)) :=
  Go.retV X hx hlk hret hby hd (by rcases ref_cases hw with rfl | ⟨a, rfl⟩ <;> cases t <;> first | rfl | cases ht) (Or.inr (Or.inr (Or.inr (Or.inr ⟨rfl, ht, hw⟩)))) hc hs hq
theorem Go.ret0 (X : Stand p l e R s m args below meth c T locs cells slots) (hx : p.tables.exec = Jvm.exec) (hlk : meth.locks = false) (hret : meth.sig.returnType = none) (hby : c.code = B) (hd : decode B pc = .ok (.return_, 1))
    {Q : Option Value → Heap → List Loc → Prop} {k n : Nat} (hc : cells ≤ k) (hs : slots ≤ n) (hq : Q none T.heap locs) : Go p e below (EndK s Q k n) T (mkF m pc ls []) := by
  obtain ⟨fs, hr, hrun, hended, hW, hsame⟩ := X.leave (v := none) (fun _ => rfl) hlk
  exact ⟨_, _, X.returnOut hx hret (hb hby hd) hr, hrun, hended, _, _, rfl, hq, ⟨_, rfl⟩, hW, hsame.mono hc hs⟩
theorem Go.callS (X : Stand p l e R s m args below meth c T locs cells slots) (hx : p.tables.exec = Jvm.exec) (hZ : Z.Warmed39 s.vm) (hby : c.code = B) (hml : ls.size = c.maxLocals) {own : String} {index : Nat} {y : MethodName} {bytes : ByteArray} {maxL : Nat} {ret : Option FieldType} {rm : Room} {Q : Option Value → Heap → List Loc → Prop}
    (hown : s.vm.findClass own = some m.cls) (w1 : (Jvm.Cond.methodLink own index y).before a0 Z = true) (w2 : (Jvm.Cond.static y).before a0 Z = true) (w3 : (Jvm.Cond.initialized y.cls).before a0 Z = true) (w4 : (Jvm.Cond.code y bytes maxL ret).before a0 Z = true) (hy : y.cls ≠ "java/lang/invoke/MethodHandle" ∧ y.cls ≠ "java/lang/invoke/VarHandle")
    {argsL rest : List Value} (hM : Pact l Z y bytes maxL ret [] rm argsL.toArray h Q) (eT : T.heap = h) (W : Nat) (hf : rm.frames + 1 ≤ R.frames) (hl : W + (maxL + 11) + rm.locals ≤ R.locals) (hc : cells + rm.cells ≤ R.cells) (hs : slots + rm.slots ≤ R.slots)
    (hst : st = argsL.reverse ++ rest) {ps : List FieldType} {rt : Option FieldType} (hdesc : parseMethodDescriptor y.desc = some ⟨ps, rt⟩) (hlen : argsL.length = ps.length) (hW : (rest.map fun v => v.category).sum ≤ W) (hd : decode B pc = .ok (.invokestatic index, 3)) (hq : pc + 3 = pcF)
    (next : ∀ (v : Option Value) (T' : State) (L : List Loc), Stand p l e R s m args below meth c T' (locs ++ L) (cells + rm.cells) (slots + rm.slots) → Q v T'.heap L → Go p e below K T' (mkF m pcF ls (v.toList ++ rest))) : Go p e below K T (mkF m pc ls st) := by
  subst hq
  obtain ⟨v, vm₁, ⟨T', L', k', n'⟩, -, X', ⟨Lc, hQ, l', y', z'⟩, st'⟩ := Jvm.LawKit.callS X hx (y := y) hown (mvT hZ w1) (mvT hZ w2) (mvT hZ w3) (mvT hZ w4) hy (backOf (W := W) hM hZ w4 w3 hf hl) (g := mkF m pc ls st) rfl hml (argsL := argsL) (rest := rest) (lenOf hdesc hlen) hst (by show 2 * 0 + _ ≤ W; omega) (hb hby hd) (fun _ _ => ⟨rfl, eT, hc, hs⟩)
  dsimp only [Pt.U, Pt.locs, Pt.cells, Pt.slots] at X' l' y' z' st' hQ
  subst l' y' z'
  exact Go.on st' (next v T' Lc X' hQ)
theorem Go.callV (X : Stand p l e R s m args below meth c T locs cells slots) (hx : p.tables.exec = Jvm.exec) (hZ : Z.Warmed39 s.vm) (hby : c.code = B) (hml : ls.size = c.maxLocals) {own C : String} {index : Nat} {y : MethodName} {bytes : ByteArray} {maxL : Nat} {ret : Option FieldType} {rm : Room} {Q : Option Value → Heap → List Loc → Prop}
    (hown : s.vm.findClass own = some m.cls) (w1 : (Jvm.Cond.methodLink own index y).before a0 Z = true) (w2 : (Jvm.Cond.declares y).before a0 Z = true) (w3 : (Jvm.Cond.selects C y y).before a0 Z = true) (w4 : (Jvm.Cond.instanceMethod y).before a0 Z = true) (w5 : (Jvm.Cond.code y bytes maxL ret).before a0 Z = true) (w6 : (Jvm.Cond.initialized y.cls).before a0 Z = true) (hy : y.cls ≠ "java/lang/invoke/MethodHandle" ∧ y.cls ≠ "java/lang/invoke/VarHandle")
    {b : Addr} {argsL rest : List Value} (hM : Pact l Z y bytes maxL ret [] rm (.ref b :: argsL).toArray h Q) (eT : T.heap = h) (E : Exa Z h b C) (W : Nat) (hf : rm.frames + 1 ≤ R.frames) (hl : W + (maxL + 11) + rm.locals ≤ R.locals) (hc : cells + rm.cells ≤ R.cells) (hs : slots + rm.slots ≤ R.slots)
    (hst : st = argsL.reverse ++ .ref b :: rest) {ps : List FieldType} {rt : Option FieldType} (hdesc : parseMethodDescriptor y.desc = some ⟨ps, rt⟩) (hlen : argsL.length = ps.length) (hW : (rest.map fun v => v.category).sum ≤ W) (hd : decode B pc = .ok (.invokevirtual index, 3)) (hq : pc + 3 = pcF)
    (next : ∀ (v : Option Value) (T' : State) (L : List Loc), Stand p l e R s m args below meth c T' (locs ++ L) (cells + rm.cells) (slots + rm.slots) → Q v T'.heap L → Go p e below K T' (mkF m pcF ls (v.toList ++ rest))) : Go p e below K T (mkF m pc ls st) := by
  subst hq
  obtain ⟨cq, kq, q1, q2, q3⟩ := isOf hZ eT E
  obtain ⟨v, vm₁, ⟨T', L', k', n'⟩, -, X', ⟨Lc, hQ, l', y', z'⟩, st'⟩ := X.virtualBack hx (y := y) (z := y) hown (mvT hZ w1) (mvT hZ w2) (notFace_of_selects (args := #[]) (mvT hZ w3)) (mvT hZ w3) (mvT hZ w4) hy (backOf (W := W) hM hZ w5 w6 hf hl) q1 q3 (g := mkF m pc ls st) rfl hml (Steps.refl _) (argsL := argsL) (rest := rest) (lenOf hdesc hlen) hst (by show 2 * 0 + _ ≤ W; omega) (hb hby hd) (fun _ _ => ⟨rfl, eT, hc, hs⟩)
  dsimp only [Pt.U, Pt.locs, Pt.cells, Pt.slots] at X' l' y' z' st' hQ
  subst l' y' z'
  exact Go.on (fun t k => st'.trans k) (next v T' Lc X' hQ)
theorem Go.callI (X : Stand p l e R s m args below meth c T locs cells slots) (hx : p.tables.exec = Jvm.exec) (hZ : Z.Warmed39 s.vm) (hby : c.code = B) (hml : ls.size = c.maxLocals) {own : String} {index : Nat} {y : MethodName} {bytes : ByteArray} {maxL : Nat} {rm : Room} {Q : Option Value → Heap → List Loc → Prop}
    (hinit : y.name = "<init>") (hown : s.vm.findClass own = some m.cls) (w1 : (Jvm.Cond.methodLink own index y).before a0 Z = true) (w4 : (Jvm.Cond.instanceMethod y).before a0 Z = true) (w5 : (Jvm.Cond.code y bytes maxL none).before a0 Z = true) (w6 : (Jvm.Cond.initialized y.cls).before a0 Z = true) (hy : y.cls ≠ "java/lang/invoke/MethodHandle" ∧ y.cls ≠ "java/lang/invoke/VarHandle")
    {b : Addr} {argsL rest : List Value} (hM : Pact l Z y bytes maxL none [] rm (.ref b :: argsL).toArray h Q) (eT : T.heap = h) (W : Nat) (hf : rm.frames + 1 ≤ R.frames) (hl : W + (maxL + 11) + rm.locals ≤ R.locals) (hc : cells + rm.cells ≤ R.cells) (hs : slots + rm.slots ≤ R.slots)
    (hst : st = argsL.reverse ++ .ref b :: rest) {ps : List FieldType} {rt : Option FieldType} (hdesc : parseMethodDescriptor y.desc = some ⟨ps, rt⟩) (hlen : argsL.length = ps.length) (hW : (rest.map fun v => v.category).sum ≤ W) (hd : decode B pc = .ok (.invokespecial index, 3)) (hq : pc + 3 = pcF)
    (next : ∀ (v : Option Value) (T' : State) (L : List Loc), Stand p l e R s m args below meth c T' (locs ++ L) (cells + rm.cells) (slots + rm.slots) → Q v T'.heap L → Go p e below K T' (mkF m pcF ls (v.toList ++ rest))) : Go p e below K T (mkF m pc ls st) := by
  subst hq
  obtain ⟨v, vm₁, ⟨T', L', k', n'⟩, -, X', ⟨Lc, hQ, l', y', z'⟩, st'⟩ := X.specialBack hx (y := y) hinit hown (mvT hZ w1) (mvT hZ w4) (mvT hZ w5) hy (backOf (W := W) hM hZ w5 w6 hf hl) (g := mkF m pc ls st) rfl hml (Steps.refl _) (a := b) (argsL := argsL) (rest := rest) (lenOf hdesc hlen) hst (by show 2 * 0 + _ ≤ W; omega) (hb hby hd) (fun _ _ => ⟨rfl, eT, hc, hs⟩)
  dsimp only [Pt.U, Pt.locs, Pt.cells, Pt.slots] at X' l' y' z' st' hQ
  subst l' y' z'
  exact Go.on (fun t k => st'.trans k) (next v T' Lc X' hQ)
theorem Go.callU (X : Stand p l e R s m args below meth c T locs cells slots) (hx : p.tables.exec = Jvm.exec) (hZ : Z.Warmed39 s.vm) (hby : c.code = B) (hml : ls.size = c.maxLocals) {own C owner : String} {index : Nat} {y z : MethodName} {bytes : ByteArray} {maxL : Nat} {ret : Option FieldType} {rm : Room} {Q : Option Value → Heap → List Loc → Prop}
    (hown : s.vm.findClass own = some m.cls) (w1 : (Jvm.Cond.methodLink own index y).before a0 Z = true) (wsm : (Jvm.Cond.sameMethod y.cls owner y.name y.desc).before a0 Z = true) (w2 : (Jvm.Cond.declares ⟨owner, y.name, y.desc⟩).before a0 Z = true) (w3 : (Jvm.Cond.selects C y z).before a0 Z = true) (w4 : (Jvm.Cond.instanceMethod z).before a0 Z = true) (w5 : (Jvm.Cond.code z bytes maxL ret).before a0 Z = true) (w6 : (Jvm.Cond.initialized z.cls).before a0 Z = true) (hy : owner ≠ "java/lang/invoke/MethodHandle" ∧ owner ≠ "java/lang/invoke/VarHandle")
    {b : Addr} {argsL rest : List Value} (hM : Pact l Z z bytes maxL ret [] rm (.ref b :: argsL).toArray h Q) (eT : T.heap = h) (E : Exa Z h b C) (W : Nat) (hf : rm.frames + 1 ≤ R.frames) (hl : W + (maxL + 11) + rm.locals ≤ R.locals) (hc : cells + rm.cells ≤ R.cells) (hs : slots + rm.slots ≤ R.slots)
    (hst : st = argsL.reverse ++ .ref b :: rest) {ps : List FieldType} {rt : Option FieldType} (hdesc : parseMethodDescriptor y.desc = some ⟨ps, rt⟩) (hlen : argsL.length = ps.length) (hW : (rest.map fun v => v.category).sum ≤ W) (hd : decode B pc = .ok (.invokevirtual index, 3)) (hq : pc + 3 = pcF)
    (next : ∀ (v : Option Value) (T' : State) (L : List Loc), Stand p l e R s m args below meth c T' (locs ++ L) (cells + rm.cells) (slots + rm.slots) → Q v T'.heap L → Go p e below K T' (mkF m pcF ls (v.toList ++ rest))) : Go p e below K T (mkF m pc ls st) := by
  subst hq
  obtain ⟨cq, kq, q1, q2, q3⟩ := isOf hZ eT E
  obtain ⟨v, vm₁, ⟨T', L', k', n'⟩, -, X', ⟨Lc, hQ, l', y', z'⟩, st'⟩ := X.virtualBackUp hx (x := y) (y := z) hown (mvT hZ w1) (mvT hZ wsm) (mvT hZ w2) hy (mvT hZ w3) (mvT hZ w4) (backOf (W := W) hM hZ w5 w6 hf hl) q1 q3 (g := mkF m pc ls st) rfl hml (Steps.refl _) (argsL := argsL) (rest := rest) (lenOf hdesc hlen) hst (by show 2 * 0 + _ ≤ W; omega) (hb hby hd) (fun _ _ => ⟨rfl, eT, hc, hs⟩)
  dsimp only [Pt.U, Pt.locs, Pt.cells, Pt.slots] at X' l' y' z' st' hQ
  subst l' y' z'
  exact Go.on (fun t k => st'.trans k) (next v T' Lc X' hQ)
theorem Go.callP (X : Stand p l e R s m args below meth c T locs cells slots) (hx : p.tables.exec = Jvm.exec) (hZ : Z.Warmed39 s.vm) (hby : c.code = B) (hml : ls.size = c.maxLocals) {own : String} {index kk : Nat} {y : MethodName} {bytes : ByteArray} {maxL : Nat} {ret : Option FieldType} {rm : Room} {Q : Option Value → Heap → List Loc → Prop}
    (hown : s.vm.findClass own = some m.cls) (w1 : (Jvm.Cond.methodLink own index y).before a0 Z = true) (w2 : (Jvm.Cond.instantiable y.cls kk).before a0 Z = true) (w3 : (Jvm.Cond.privateMethod y).before a0 Z = true) (w4 : (Jvm.Cond.instanceMethod y).before a0 Z = true) (w5 : (Jvm.Cond.code y bytes maxL ret).before a0 Z = true) (w6 : (Jvm.Cond.initialized y.cls).before a0 Z = true) (hy : y.cls ≠ "java/lang/invoke/MethodHandle" ∧ y.cls ≠ "java/lang/invoke/VarHandle")
    {b : Addr} {argsL rest : List Value} (hM : Pact l Z y bytes maxL ret [] rm (.ref b :: argsL).toArray h Q) (eT : T.heap = h) {C : String} (E : Exa Z h b C) (W : Nat) (hf : rm.frames + 1 ≤ R.frames) (hl : W + (maxL + 11) + rm.locals ≤ R.locals) (hc : cells + rm.cells ≤ R.cells) (hs : slots + rm.slots ≤ R.slots)
    (hst : st = argsL.reverse ++ .ref b :: rest) {ps : List FieldType} {rt : Option FieldType} (hdesc : parseMethodDescriptor y.desc = some ⟨ps, rt⟩) (hlen : argsL.length = ps.length) (hW : (rest.map fun v => v.category).sum ≤ W) (hd : decode B pc = .ok (.invokevirtual index, 3)) (hq : pc + 3 = pcF)
    (next : ∀ (v : Option Value) (T' : State) (L : List Loc), Stand p l e R s m args below meth c T' (locs ++ L) (cells + rm.cells) (slots + rm.slots) → Q v T'.heap L → Go p e below K T' (mkF m pcF ls (v.toList ++ rest))) : Go p e below K T (mkF m pc ls st) := by
  subst hq
  obtain ⟨cq, q, q'⟩ := E.cell
  have hpriv : s.PrivateAt y := Cond.privateMethod_at (mvP hZ w3 (args := #[]))
  obtain ⟨c2, k2, i1, i2, -, i4, -⟩ := Cond.instantiable_spec (mvT (args := #[]) (s := s) hZ w2)
  have hni : k2.isInterface = false := (Bool.or_eq_false_iff.mp i4).1
  obtain ⟨v, vm₁, ⟨T', L', k', n'⟩, -, X', ⟨Lc, hQ, l', y', z'⟩, st'⟩ := X.privateBack hx (y := y) hown (mvT hZ w1) (mvT hZ w4) (selects_self_of_private i1 i2 hni hpriv (mvT hZ w4) hy) hpriv (mvT hZ w5) hy (backOf (W := W) hM hZ w5 w6 hf hl) (g := mkF m pc ls st) rfl hml (Steps.refl _) (a := b) (by rw [eT]; exact q) q' (argsL := argsL) (rest := rest) (lenOf hdesc hlen) hst (by show 2 * 0 + _ ≤ W; omega) (hb hby hd) (fun _ _ => ⟨rfl, eT, hc, hs⟩)
  dsimp only [Pt.U, Pt.locs, Pt.cells, Pt.slots] at X' l' y' z' st' hQ
  subst l' y' z'
  exact Go.on (fun t k => st'.trans k) (next v T' Lc X' hQ)
theorem extWr {h0 h h' : Heap} {a : Addr} {sl : Nat} {v : Value} (E : Ext h0 h) (W : Wr h h' a sl v) (q : h0.size ≤ a) : Ext h0 h' := by
  refine ⟨by rw [W.size]; exact E.1, fun x c hx => ?_⟩
  obtain ⟨cb', r1, -, -, -, r5, -⟩ := wr_at W (E.2 x c hx)
  rw [r1, r5 (Nat.ne_of_lt (Nat.lt_of_lt_of_le (Array.getElem?_eq_some_iff.mp hx).1 q))]
theorem extKeep {h0 h h' : Heap} {a : Addr} (E : Ext h0 h) (K : Keep h h' [a]) (q : h0.size ≤ a) : Ext h0 h' :=
  ⟨Nat.le_trans E.1 K.1, fun x c hx => K.2.1 x c (E.2 x c hx) (ninS (Nat.ne_of_lt (Nat.lt_of_lt_of_le (Array.getElem?_eq_some_iff.mp hx).1 q)) nin0)⟩
theorem extTrans {h0 h h' : Heap} (E : Ext h0 h) (E' : Ext h h') : Ext h0 h' := ⟨Nat.le_trans E.1 E'.1, fun x c hx => E'.2 x c (E.2 x c hx)⟩
theorem arrKeep {h h' : Heap} {a b : Addr} {cl : Cell} {ty : FieldType} (A : Arr Z h a cl ty) (K : Keep h h' [b]) (hne : a ≠ b) : Arr Z h' a cl ty := ⟨K.2.1 _ _ A.1 (ninS hne nin0), A.2⟩
end Go
end Jvm.RoadKit

namespace Jvm.Pilot.@@N@@
open Jvm Jvm.ClassFile Sem Op Lib Jvm.Free Jvm.Stand Jvm.LawKit Jvm.RoadKit Bundle Jvm.Pilot.@@N@@.Jvm.D

theorem pnLaw : plainName "com/example/liblocpath/liblocpath/expression/OperatorComparesNodeSetsPinLaw" = true := by first | (simp [plainName, overriddenIn]; done) | decide +kernel
theorem pnE : plainName "com/example/liblocpath/liblocpath/expression/Operator" = true := by first | (simp [plainName, overriddenIn]; done) | decide +kernel
theorem pdE : parseMethodDescriptor "()Z" = some ⟨[], some .boolean⟩ := by decide +kernel
theorem efE (m : MethodId) (r : Addr) : entryFrame m #[(.ref r)] 1 = mkF m 0 #[.val (.ref r)] [] := by first | (simp [entryFrame, mkF, argsToLocals, Value.category, maxLocals]; done) | rfl
theorem ef0 (m : MethodId) (x0 : Int32) : entryFrame m #[(.int x0)] maxLocals = mkF m 0 #[.val (.int x0), .unset, .unset, .unset] [] := by first | (simp [entryFrame, mkF, argsToLocals, Value.category, maxLocals]; done) | rfl
def own_K (Z : State) (h : Heap) (a0 a1 a2 a3 a4 a5 a6 a7 a8 a9 a10 a11 a12 : Addr) : Prop := (Sta Z h "com/example/liblocpath/liblocpath/expression/Operator" "OR" "Lcom/example/liblocpath/liblocpath/expression/Operator;" (.ref a0) ∧ Exa Z h a0 "com/example/liblocpath/liblocpath/expression/Operator" ∧ Fld Z h a0 "com/example/liblocpath/liblocpath/expression/Operator" "precedence" "I" (.int (1 : Int32))) ∧ (Sta Z h "com/example/liblocpath/liblocpath/expression/Operator" "AND" "Lcom/example/liblocpath/liblocpath/expression/Operator;" (.ref a1) ∧ Exa Z h a1 "com/example/liblocpath/liblocpath/expression/Operator" ∧ Fld Z h a1 "com/example/liblocpath/liblocpath/expression/Operator" "precedence" "I" (.int (2 : Int32))) ∧ (Sta Z h "com/example/liblocpath/liblocpath/expression/Operator" "EQUALS" "Lcom/example/liblocpath/liblocpath/expression/Operator;" (.ref a2) ∧ Exa Z h a2 "com/example/liblocpath/liblocpath/expression/Operator" ∧ Fld Z h a2 "com/example/liblocpath/liblocpath/expression/Operator" "precedence" "I" (.int (3 : Int32))) ∧ (Sta Z h "com/example/liblocpath/liblocpath/expression/Operator" "NOT_EQUALS" "Lcom/example/liblocpath/liblocpath/expression/Operator;" (.ref a3) ∧ Exa Z h a3 "com/example/liblocpath/liblocpath/expression/Operator" ∧ Fld Z h a3 "com/example/liblocpath/liblocpath/expression/Operator" "precedence" "I" (.int (3 : Int32))) ∧ (Sta Z h "com/example/liblocpath/liblocpath/expression/Operator" "LESS" "Lcom/example/liblocpath/liblocpath/expression/Operator;" (.ref a4) ∧ Exa Z h a4 "com/example/liblocpath/liblocpath/expression/Operator" ∧ Fld Z h a4 "com/example/liblocpath/liblocpath/expression/Operator" "precedence" "I" (.int (4 : Int32))) ∧ (Sta Z h "com/example/liblocpath/liblocpath/expression/Operator" "LESS_OR_EQUAL" "Lcom/example/liblocpath/liblocpath/expression/Operator;" (.ref a5) ∧ Exa Z h a5 "com/example/liblocpath/liblocpath/expression/Operator" ∧ Fld Z h a5 "com/example/liblocpath/liblocpath/expression/Operator" "precedence" "I" (.int (4 : Int32))) ∧ (Sta Z h "com/example/liblocpath/liblocpath/expression/Operator" "GREATER" "Lcom/example/liblocpath/liblocpath/expression/Operator;" (.ref a6) ∧ Exa Z h a6 "com/example/liblocpath/liblocpath/expression/Operator" ∧ Fld Z h a6 "com/example/liblocpath/liblocpath/expression/Operator" "precedence" "I" (.int (4 : Int32))) ∧ (Sta Z h "com/example/liblocpath/liblocpath/expression/Operator" "GREATER_OR_EQUAL" "Lcom/example/liblocpath/liblocpath/expression/Operator;" (.ref a7) ∧ Exa Z h a7 "com/example/liblocpath/liblocpath/expression/Operator" ∧ Fld Z h a7 "com/example/liblocpath/liblocpath/expression/Operator" "precedence" "I" (.int (4 : Int32))) ∧ (Sta Z h "com/example/liblocpath/liblocpath/expression/Operator" "PLUS" "Lcom/example/liblocpath/liblocpath/expression/Operator;" (.ref a8) ∧ Exa Z h a8 "com/example/liblocpath/liblocpath/expression/Operator" ∧ Fld Z h a8 "com/example/liblocpath/liblocpath/expression/Operator" "precedence" "I" (.int (5 : Int32))) ∧ (Sta Z h "com/example/liblocpath/liblocpath/expression/Operator" "MINUS" "Lcom/example/liblocpath/liblocpath/expression/Operator;" (.ref a9) ∧ Exa Z h a9 "com/example/liblocpath/liblocpath/expression/Operator" ∧ Fld Z h a9 "com/example/liblocpath/liblocpath/expression/Operator" "precedence" "I" (.int (5 : Int32))) ∧ (Sta Z h "com/example/liblocpath/liblocpath/expression/Operator" "MULTIPLY" "Lcom/example/liblocpath/liblocpath/expression/Operator;" (.ref a10) ∧ Exa Z h a10 "com/example/liblocpath/liblocpath/expression/Operator" ∧ Fld Z h a10 "com/example/liblocpath/liblocpath/expression/Operator" "precedence" "I" (.int (6 : Int32))) ∧ (Sta Z h "com/example/liblocpath/liblocpath/expression/Operator" "DIV" "Lcom/example/liblocpath/liblocpath/expression/Operator;" (.ref a11) ∧ Exa Z h a11 "com/example/liblocpath/liblocpath/expression/Operator" ∧ Fld Z h a11 "com/example/liblocpath/liblocpath/expression/Operator" "precedence" "I" (.int (6 : Int32))) ∧ (Sta Z h "com/example/liblocpath/liblocpath/expression/Operator" "MOD" "Lcom/example/liblocpath/liblocpath/expression/Operator;" (.ref a12) ∧ Exa Z h a12 "com/example/liblocpath/liblocpath/expression/Operator" ∧ Fld Z h a12 "com/example/liblocpath/liblocpath/expression/Operator" "precedence" "I" (.int (6 : Int32)))
theorem own_K.s0 {Z : State} {h : Heap} {a0 a1 a2 a3 a4 a5 a6 a7 a8 a9 a10 a11 a12 : Addr} (K : own_K Z h a0 a1 a2 a3 a4 a5 a6 a7 a8 a9 a10 a11 a12) : Sta Z h "com/example/liblocpath/liblocpath/expression/Operator" "OR" "Lcom/example/liblocpath/liblocpath/expression/Operator;" (.ref a0) := K.1.1
theorem own_K.e0 {Z : State} {h : Heap} {a0 a1 a2 a3 a4 a5 a6 a7 a8 a9 a10 a11 a12 : Addr} (K : own_K Z h a0 a1 a2 a3 a4 a5 a6 a7 a8 a9 a10 a11 a12) : Exa Z h a0 "com/example/liblocpath/liblocpath/expression/Operator" := K.1.2.1
theorem own_K.f0 {Z : State} {h : Heap} {a0 a1 a2 a3 a4 a5 a6 a7 a8 a9 a10 a11 a12 : Addr} (K : own_K Z h a0 a1 a2 a3 a4 a5 a6 a7 a8 a9 a10 a11 a12) : Fld Z h a0 "com/example/liblocpath/liblocpath/expression/Operator" "precedence" "I" (.int (1 : Int32)) := K.1.2.2
theorem own_K.s1 {Z : State} {h : Heap} {a0 a1 a2 a3 a4 a5 a6 a7 a8 a9 a10 a11 a12 : Addr} (K : own_K Z h a0 a1 a2 a3 a4 a5 a6 a7 a8 a9 a10 a11 a12) : Sta Z h "com/example/liblocpath/liblocpath/expression/Operator" "AND" "Lcom/example/liblocpath/liblocpath/expression/Operator;" (.ref a1) := K.2.1.1
theorem own_K.e1 {Z : State} {h : Heap} {a0 a1 a2 a3 a4 a5 a6 a7 a8 a9 a10 a11 a12 : Addr} (K : own_K Z h a0 a1 a2 a3 a4 a5 a6 a7 a8 a9 a10 a11 a12) : Exa Z h a1 "com/example/liblocpath/liblocpath/expression/Operator" := K.2.1.2.1
theorem own_K.f1 {Z : State} {h : Heap} {a0 a1 a2 a3 a4 a5 a6 a7 a8 a9 a10 a11 a12 : Addr} (K : own_K Z h a0 a1 a2 a3 a4 a5 a6 a7 a8 a9 a10 a11 a12) : Fld Z h a1 "com/example/liblocpath/liblocpath/expression/Operator" "precedence" "I" (.int (2 : Int32)) := K.2.1.2.2
theorem own_K.s2 {Z : State} {h : Heap} {a0 a1 a2 a3 a4 a5 a6 a7 a8 a9 a10 a11 a12 : Addr} (K : own_K Z h a0 a1 a2 a3 a4 a5 a6 a7 a8 a9 a10 a11 a12) : Sta Z h "com/example/liblocpath/liblocpath/expression/Operator" "EQUALS" "Lcom/example/liblocpath/liblocpath/expression/Operator;" (.ref a2) := K.2.2.1.1
theorem own_K.e2 {Z : State} {h : Heap} {a0 a1 a2 a3 a4 a5 a6 a7 a8 a9 a10 a11 a12 : Addr} (K : own_K Z h a0 a1 a2 a3 a4 a5 a6 a7 a8 a9 a10 a11 a12) : Exa Z h a2 "com/example/liblocpath/liblocpath/expression/Operator" := K.2.2.1.2.1
theorem own_K.f2 {Z : State} {h : Heap} {a0 a1 a2 a3 a4 a5 a6 a7 a8 a9 a10 a11 a12 : Addr} (K : own_K Z h a0 a1 a2 a3 a4 a5 a6 a7 a8 a9 a10 a11 a12) : Fld Z h a2 "com/example/liblocpath/liblocpath/expression/Operator" "precedence" "I" (.int (3 : Int32)) := K.2.2.1.2.2
theorem own_K.s3 {Z : State} {h : Heap} {a0 a1 a2 a3 a4 a5 a6 a7 a8 a9 a10 a11 a12 : Addr} (K : own_K Z h a0 a1 a2 a3 a4 a5 a6 a7 a8 a9 a10 a11 a12) : Sta Z h "com/example/liblocpath/liblocpath/expression/Operator" "NOT_EQUALS" "Lcom/example/liblocpath/liblocpath/expression/Operator;" (.ref a3) := K.2.2.2.1.1
theorem own_K.e3 {Z : State} {h : Heap} {a0 a1 a2 a3 a4 a5 a6 a7 a8 a9 a10 a11 a12 : Addr} (K : own_K Z h a0 a1 a2 a3 a4 a5 a6 a7 a8 a9 a10 a11 a12) : Exa Z h a3 "com/example/liblocpath/liblocpath/expression/Operator" := K.2.2.2.1.2.1
theorem own_K.f3 {Z : State} {h : Heap} {a0 a1 a2 a3 a4 a5 a6 a7 a8 a9 a10 a11 a12 : Addr} (K : own_K Z h a0 a1 a2 a3 a4 a5 a6 a7 a8 a9 a10 a11 a12) : Fld Z h a3 "com/example/liblocpath/liblocpath/expression/Operator" "precedence" "I" (.int (3 : Int32)) := K.2.2.2.1.2.2
theorem own_K.s4 {Z : State} {h : Heap} {a0 a1 a2 a3 a4 a5 a6 a7 a8 a9 a10 a11 a12 : Addr} (K : own_K Z h a0 a1 a2 a3 a4 a5 a6 a7 a8 a9 a10 a11 a12) : Sta Z h "com/example/liblocpath/liblocpath/expression/Operator" "LESS" "Lcom/example/liblocpath/liblocpath/expression/Operator;" (.ref a4) := K.2.2.2.2.1.1
theorem own_K.e4 {Z : State} {h : Heap} {a0 a1 a2 a3 a4 a5 a6 a7 a8 a9 a10 a11 a12 : Addr} (K : own_K Z h a0 a1 a2 a3 a4 a5 a6 a7 a8 a9 a10 a11 a12) : Exa Z h a4 "com/example/liblocpath/liblocpath/expression/Operator" := K.2.2.2.2.1.2.1
theorem own_K.f4 {Z : State} {h : Heap} {a0 a1 a2 a3 a4 a5 a6 a7 a8 a9 a10 a11 a12 : Addr} (K : own_K Z h a0 a1 a2 a3 a4 a5 a6 a7 a8 a9 a10 a11 a12) : Fld Z h a4 "com/example/liblocpath/liblocpath/expression/Operator" "precedence" "I" (.int (4 : Int32)) := K.2.2.2.2.1.2.2
theorem own_K.s5 {Z : State} {h : Heap} {a0 a1 a2 a3 a4 a5 a6 a7 a8 a9 a10 a11 a12 : Addr} (K : own_K Z h a0 a1 a2 a3 a4 a5 a6 a7 a8 a9 a10 a11 a12) : Sta Z h "com/example/liblocpath/liblocpath/expression/Operator" "LESS_OR_EQUAL" "Lcom/example/liblocpath/liblocpath/expression/Operator;" (.ref a5) := K.2.2.2.2.2.1.1
theorem own_K.e5 {Z : State} {h : Heap} {a0 a1 a2 a3 a4 a5 a6 a7 a8 a9 a10 a11 a12 : Addr} (K : own_K Z h a0 a1 a2 a3 a4 a5 a6 a7 a8 a9 a10 a11 a12) : Exa Z h a5 "com/example/liblocpath/liblocpath/expression/Operator" := K.2.2.2.2.2.1.2.1
theorem own_K.f5 {Z : State} {h : Heap} {a0 a1 a2 a3 a4 a5 a6 a7 a8 a9 a10 a11 a12 : Addr} (K : own_K Z h a0 a1 a2 a3 a4 a5 a6 a7 a8 a9 a10 a11 a12) : Fld Z h a5 "com/example/liblocpath/liblocpath/expression/Operator" "precedence" "I" (.int (4 : Int32)) := K.2.2.2.2.2.1.2.2
theorem own_K.s6 {Z : State} {h : Heap} {a0 a1 a2 a3 a4 a5 a6 a7 a8 a9 a10 a11 a12 : Addr} (K : own_K Z h a0 a1 a2 a3 a4 a5 a6 a7 a8 a9 a10 a11 a12) : Sta Z h "com/example/liblocpath/liblocpath/expression/Operator" "GREATER" "Lcom/example/liblocpath/liblocpath/expression/Operator;" (.ref a6) := K.2.2.2.2.2.2.1.1
theorem own_K.e6 {Z : State} {h : Heap} {a0 a1 a2 a3 a4 a5 a6 a7 a8 a9 a10 a11 a12 : Addr} (K : own_K Z h a0 a1 a2 a3 a4 a5 a6 a7 a8 a9 a10 a11 a12) : Exa Z h a6 "com/example/liblocpath/liblocpath/expression/Operator" := K.2.2.2.2.2.2.1.2.1
theorem own_K.f6 {Z : State} {h : Heap} {a0 a1 a2 a3 a4 a5 a6 a7 a8 a9 a10 a11 a12 : Addr} (K : own_K Z h a0 a1 a2 a3 a4 a5 a6 a7 a8 a9 a10 a11 a12) : Fld Z h a6 "com/example/liblocpath/liblocpath/expression/Operator" "precedence" "I" (.int (4 : Int32)) := K.2.2.2.2.2.2.1.2.2
theorem own_K.s7 {Z : State} {h : Heap} {a0 a1 a2 a3 a4 a5 a6 a7 a8 a9 a10 a11 a12 : Addr} (K : own_K Z h a0 a1 a2 a3 a4 a5 a6 a7 a8 a9 a10 a11 a12) : Sta Z h "com/example/liblocpath/liblocpath/expression/Operator" "GREATER_OR_EQUAL" "Lcom/example/liblocpath/liblocpath/expression/Operator;" (.ref a7) := K.2.2.2.2.2.2.2.1.1
theorem own_K.e7 {Z : State} {h : Heap} {a0 a1 a2 a3 a4 a5 a6 a7 a8 a9 a10 a11 a12 : Addr} (K : own_K Z h a0 a1 a2 a3 a4 a5 a6 a7 a8 a9 a10 a11 a12) : Exa Z h a7 "com/example/liblocpath/liblocpath/expression/Operator" := K.2.2.2.2.2.2.2.1.2.1
theorem own_K.f7 {Z : State} {h : Heap} {a0 a1 a2 a3 a4 a5 a6 a7 a8 a9 a10 a11 a12 : Addr} (K : own_K Z h a0 a1 a2 a3 a4 a5 a6 a7 a8 a9 a10 a11 a12) : Fld Z h a7 "com/example/liblocpath/liblocpath/expression/Operator" "precedence" "I" (.int (4 : Int32)) := K.2.2.2.2.2.2.2.1.2.2
theorem own_K.s8 {Z : State} {h : Heap} {a0 a1 a2 a3 a4 a5 a6 a7 a8 a9 a10 a11 a12 : Addr} (K : own_K Z h a0 a1 a2 a3 a4 a5 a6 a7 a8 a9 a10 a11 a12) : Sta Z h "com/example/liblocpath/liblocpath/expression/Operator" "PLUS" "Lcom/example/liblocpath/liblocpath/expression/Operator;" (.ref a8) := K.2.2.2.2.2.2.2.2.1.1
theorem own_K.e8 {Z : State} {h : Heap} {a0 a1 a2 a3 a4 a5 a6 a7 a8 a9 a10 a11 a12 : Addr} (K : own_K Z h a0 a1 a2 a3 a4 a5 a6 a7 a8 a9 a10 a11 a12) : Exa Z h a8 "com/example/liblocpath/liblocpath/expression/Operator" := K.2.2.2.2.2.2.2.2.1.2.1
theorem own_K.f8 {Z : State} {h : Heap} {a0 a1 a2 a3 a4 a5 a6 a7 a8 a9 a10 a11 a12 : Addr} (K : own_K Z h a0 a1 a2 a3 a4 a5 a6 a7 a8 a9 a10 a11 a12) : Fld Z h a8 "com/example/liblocpath/liblocpath/expression/Operator" "precedence" "I" (.int (5 : Int32)) := K.2.2.2.2.2.2.2.2.1.2.2
theorem own_K.s9 {Z : State} {h : Heap} {a0 a1 a2 a3 a4 a5 a6 a7 a8 a9 a10 a11 a12 : Addr} (K : own_K Z h a0 a1 a2 a3 a4 a5 a6 a7 a8 a9 a10 a11 a12) : Sta Z h "com/example/liblocpath/liblocpath/expression/Operator" "MINUS" "Lcom/example/liblocpath/liblocpath/expression/Operator;" (.ref a9) := K.2.2.2.2.2.2.2.2.2.1.1
theorem own_K.e9 {Z : State} {h : Heap} {a0 a1 a2 a3 a4 a5 a6 a7 a8 a9 a10 a11 a12 : Addr} (K : own_K Z h a0 a1 a2 a3 a4 a5 a6 a7 a8 a9 a10 a11 a12) : Exa Z h a9 "com/example/liblocpath/liblocpath/expression/Operator" := K.2.2.2.2.2.2.2.2.2.1.2.1
theorem own_K.f9 {Z : State} {h : Heap} {a0 a1 a2 a3 a4 a5 a6 a7 a8 a9 a10 a11 a12 : Addr} (K : own_K Z h a0 a1 a2 a3 a4 a5 a6 a7 a8 a9 a10 a11 a12) : Fld Z h a9 "com/example/liblocpath/liblocpath/expression/Operator" "precedence" "I" (.int (5 : Int32)) := K.2.2.2.2.2.2.2.2.2.1.2.2
theorem own_K.s10 {Z : State} {h : Heap} {a0 a1 a2 a3 a4 a5 a6 a7 a8 a9 a10 a11 a12 : Addr} (K : own_K Z h a0 a1 a2 a3 a4 a5 a6 a7 a8 a9 a10 a11 a12) : Sta Z h "com/example/liblocpath/liblocpath/expression/Operator" "MULTIPLY" "Lcom/example/liblocpath/liblocpath/expression/Operator;" (.ref a10) := K.2.2.2.2.2.2.2.2.2.2.1.1
theorem own_K.e10 {Z : State} {h : Heap} {a0 a1 a2 a3 a4 a5 a6 a7 a8 a9 a10 a11 a12 : Addr} (K : own_K Z h a0 a1 a2 a3 a4 a5 a6 a7 a8 a9 a10 a11 a12) : Exa Z h a10 "com/example/liblocpath/liblocpath/expression/Operator" := K.2.2.2.2.2.2.2.2.2.2.1.2.1
theorem own_K.f10 {Z : State} {h : Heap} {a0 a1 a2 a3 a4 a5 a6 a7 a8 a9 a10 a11 a12 : Addr} (K : own_K Z h a0 a1 a2 a3 a4 a5 a6 a7 a8 a9 a10 a11 a12) : Fld Z h a10 "com/example/liblocpath/liblocpath/expression/Operator" "precedence" "I" (.int (6 : Int32)) := K.2.2.2.2.2.2.2.2.2.2.1.2.2
theorem own_K.s11 {Z : State} {h : Heap} {a0 a1 a2 a3 a4 a5 a6 a7 a8 a9 a10 a11 a12 : Addr} (K : own_K Z h a0 a1 a2 a3 a4 a5 a6 a7 a8 a9 a10 a11 a12) : Sta Z h "com/example/liblocpath/liblocpath/expression/Operator" "DIV" "Lcom/example/liblocpath/liblocpath/expression/Operator;" (.ref a11) := K.2.2.2.2.2.2.2.2.2.2.2.1.1
theorem own_K.e11 {Z : State} {h : Heap} {a0 a1 a2 a3 a4 a5 a6 a7 a8 a9 a10 a11 a12 : Addr} (K : own_K Z h a0 a1 a2 a3 a4 a5 a6 a7 a8 a9 a10 a11 a12) : Exa Z h a11 "com/example/liblocpath/liblocpath/expression/Operator" := K.2.2.2.2.2.2.2.2.2.2.2.1.2.1
theorem own_K.f11 {Z : State} {h : Heap} {a0 a1 a2 a3 a4 a5 a6 a7 a8 a9 a10 a11 a12 : Addr} (K : own_K Z h a0 a1 a2 a3 a4 a5 a6 a7 a8 a9 a10 a11 a12) : Fld Z h a11 "com/example/liblocpath/liblocpath/expression/Operator" "precedence" "I" (.int (6 : Int32)) := K.2.2.2.2.2.2.2.2.2.2.2.1.2.2
theorem own_K.s12 {Z : State} {h : Heap} {a0 a1 a2 a3 a4 a5 a6 a7 a8 a9 a10 a11 a12 : Addr} (K : own_K Z h a0 a1 a2 a3 a4 a5 a6 a7 a8 a9 a10 a11 a12) : Sta Z h "com/example/liblocpath/liblocpath/expression/Operator" "MOD" "Lcom/example/liblocpath/liblocpath/expression/Operator;" (.ref a12) := K.2.2.2.2.2.2.2.2.2.2.2.2.1
theorem own_K.e12 {Z : State} {h : Heap} {a0 a1 a2 a3 a4 a5 a6 a7 a8 a9 a10 a11 a12 : Addr} (K : own_K Z h a0 a1 a2 a3 a4 a5 a6 a7 a8 a9 a10 a11 a12) : Exa Z h a12 "com/example/liblocpath/liblocpath/expression/Operator" := K.2.2.2.2.2.2.2.2.2.2.2.2.2.1
theorem own_K.f12 {Z : State} {h : Heap} {a0 a1 a2 a3 a4 a5 a6 a7 a8 a9 a10 a11 a12 : Addr} (K : own_K Z h a0 a1 a2 a3 a4 a5 a6 a7 a8 a9 a10 a11 a12) : Fld Z h a12 "com/example/liblocpath/liblocpath/expression/Operator" "precedence" "I" (.int (6 : Int32)) := K.2.2.2.2.2.2.2.2.2.2.2.2.2.2
theorem own_K.ext {Z : State} {h h' : Heap} {a0 a1 a2 a3 a4 a5 a6 a7 a8 a9 a10 a11 a12 : Addr} (K : own_K Z h a0 a1 a2 a3 a4 a5 a6 a7 a8 a9 a10 a11 a12) (E : Ext h h') : own_K Z h' a0 a1 a2 a3 a4 a5 a6 a7 a8 a9 a10 a11 a12 := ⟨⟨K.s0.ext E, K.e0.ext E, K.f0.ext E⟩, ⟨K.s1.ext E, K.e1.ext E, K.f1.ext E⟩, ⟨K.s2.ext E, K.e2.ext E, K.f2.ext E⟩, ⟨K.s3.ext E, K.e3.ext E, K.f3.ext E⟩, ⟨K.s4.ext E, K.e4.ext E, K.f4.ext E⟩, ⟨K.s5.ext E, K.e5.ext E, K.f5.ext E⟩, ⟨K.s6.ext E, K.e6.ext E, K.f6.ext E⟩, ⟨K.s7.ext E, K.e7.ext E, K.f7.ext E⟩, ⟨K.s8.ext E, K.e8.ext E, K.f8.ext E⟩, ⟨K.s9.ext E, K.e9.ext E, K.f9.ext E⟩, ⟨K.s10.ext E, K.e10.ext E, K.f10.ext E⟩, ⟨K.s11.ext E, K.e11.ext E, K.f11.ext E⟩, ⟨K.s12.ext E, K.e12.ext E, K.f12.ext E⟩⟩
theorem own_K.wr {Z : State} {h h' : Heap} {b : Addr} {sl : Nat} {w : Value} {a0 a1 a2 a3 a4 a5 a6 a7 a8 a9 a10 a11 a12 : Addr} (K : own_K Z h a0 a1 a2 a3 a4 a5 a6 a7 a8 a9 a10 a11 a12) (W : Wr h h' b sl w) (m0 : a0 ≠ b) (m1 : a1 ≠ b) (m2 : a2 ≠ b) (m3 : a3 ≠ b) (m4 : a4 ≠ b) (m5 : a5 ≠ b) (m6 : a6 ≠ b) (m7 : a7 ≠ b) (m8 : a8 ≠ b) (m9 : a9 ≠ b) (m10 : a10 ≠ b) (m11 : a11 ≠ b) (m12 : a12 ≠ b) : own_K Z h' a0 a1 a2 a3 a4 a5 a6 a7 a8 a9 a10 a11 a12 := ⟨⟨K.s0.wr W, K.e0.wr W, K.f0.other W (Or.inl m0)⟩, ⟨K.s1.wr W, K.e1.wr W, K.f1.other W (Or.inl m1)⟩, ⟨K.s2.wr W, K.e2.wr W, K.f2.other W (Or.inl m2)⟩, ⟨K.s3.wr W, K.e3.wr W, K.f3.other W (Or.inl m3)⟩, ⟨K.s4.wr W, K.e4.wr W, K.f4.other W (Or.inl m4)⟩, ⟨K.s5.wr W, K.e5.wr W, K.f5.other W (Or.inl m5)⟩, ⟨K.s6.wr W, K.e6.wr W, K.f6.other W (Or.inl m6)⟩, ⟨K.s7.wr W, K.e7.wr W, K.f7.other W (Or.inl m7)⟩, ⟨K.s8.wr W, K.e8.wr W, K.f8.other W (Or.inl m8)⟩, ⟨K.s9.wr W, K.e9.wr W, K.f9.other W (Or.inl m9)⟩, ⟨K.s10.wr W, K.e10.wr W, K.f10.other W (Or.inl m10)⟩, ⟨K.s11.wr W, K.e11.wr W, K.f11.other W (Or.inl m11)⟩, ⟨K.s12.wr W, K.e12.wr W, K.f12.other W (Or.inl m12)⟩⟩
theorem own_K.new {Z : State} {h h' : Heap} {b : Addr} {sl : Nat} {w : Value} {q : Nat} {a0 a1 a2 a3 a4 a5 a6 a7 a8 a9 a10 a11 a12 : Addr} (K : own_K Z h a0 a1 a2 a3 a4 a5 a6 a7 a8 a9 a10 a11 a12) (W : Wr h h' b sl w) (hq : q ≤ b) (m0 : a0 < q) (m1 : a1 < q) (m2 : a2 < q) (m3 : a3 < q) (m4 : a4 < q) (m5 : a5 < q) (m6 : a6 < q) (m7 : a7 < q) (m8 : a8 < q) (m9 : a9 < q) (m10 : a10 < q) (m11 : a11 < q) (m12 : a12 < q) : own_K Z h' a0 a1 a2 a3 a4 a5 a6 a7 a8 a9 a10 a11 a12 := K.wr W (Nat.ne_of_lt (Nat.lt_of_lt_of_le m0 hq)) (Nat.ne_of_lt (Nat.lt_of_lt_of_le m1 hq)) (Nat.ne_of_lt (Nat.lt_of_lt_of_le m2 hq)) (Nat.ne_of_lt (Nat.lt_of_lt_of_le m3 hq)) (Nat.ne_of_lt (Nat.lt_of_lt_of_le m4 hq)) (Nat.ne_of_lt (Nat.lt_of_lt_of_le m5 hq)) (Nat.ne_of_lt (Nat.lt_of_lt_of_le m6 hq)) (Nat.ne_of_lt (Nat.lt_of_lt_of_le m7 hq)) (Nat.ne_of_lt (Nat.lt_of_lt_of_le m8 hq)) (Nat.ne_of_lt (Nat.lt_of_lt_of_le m9 hq)) (Nat.ne_of_lt (Nat.lt_of_lt_of_le m10 hq)) (Nat.ne_of_lt (Nat.lt_of_lt_of_le m11 hq)) (Nat.ne_of_lt (Nat.lt_of_lt_of_le m12 hq))
def own_pick (k : Int32) (a0 a1 a2 a3 a4 a5 a6 a7 a8 a9 a10 a11 a12 : Addr) : Addr := if k = 0 then a0 else if k = 1 then a1 else if k = 2 then a2 else if k = 3 then a3 else if k = 4 then a4 else if k = 5 then a5 else if k = 6 then a6 else if k = 7 then a7 else if k = 8 then a8 else if k = 9 then a9 else if k = 10 then a10 else if k = 11 then a11 else a12
theorem own_range (x : Int32) : 0 ≤ ((x &&& (2147483647 : Int32)) % (13 : Int32)).toInt ∧ ((x &&& (2147483647 : Int32)) % (13 : Int32)).toInt < 13 := by
  have e := c_and x (2147483647 : Int32) (by decide)
  have r := (c_irem (x &&& (2147483647 : Int32)) (13 : Int32) 13 (by decide)).1 e.1
  rw [r]
  omega
theorem own_cases (k : Int32) (h : 0 ≤ k.toInt ∧ k.toInt < 13) : k = 0 ∨ k = 1 ∨ k = 2 ∨ k = 3 ∨ k = 4 ∨ k = 5 ∨ k = 6 ∨ k = 7 ∨ k = 8 ∨ k = 9 ∨ k = 10 ∨ k = 11 ∨ k = 12 := by
  have e : ∀ i : Int32, k.toInt = i.toInt → k = i := fun i q => Int32.toInt_inj.mp q
  have q : k.toInt = 0 ∨ k.toInt = 1 ∨ k.toInt = 2 ∨ k.toInt = 3 ∨ k.toInt = 4 ∨ k.toInt = 5 ∨ k.toInt = 6 ∨ k.toInt = 7 ∨ k.toInt = 8 ∨ k.toInt = 9 ∨ k.toInt = 10 ∨ k.toInt = 11 ∨ k.toInt = 12 := by omega
  rcases q with q | q | q | q | q | q | q | q | q | q | q | q | q
  · exact Or.inl (e 0 q)
  · exact Or.inr (Or.inl (e 1 q))
  · exact Or.inr (Or.inr (Or.inl (e 2 q)))
  · exact Or.inr (Or.inr (Or.inr (Or.inl (e 3 q))))
  · exact Or.inr (Or.inr (Or.inr (Or.inr (Or.inl (e 4 q)))))
  · exact Or.inr (Or.inr (Or.inr (Or.inr (Or.inr (Or.inl (e 5 q))))))
  · exact Or.inr (Or.inr (Or.inr (Or.inr (Or.inr (Or.inr (Or.inl (e 6 q)))))))
  · exact Or.inr (Or.inr (Or.inr (Or.inr (Or.inr (Or.inr (Or.inr (Or.inl (e 7 q))))))))
  · exact Or.inr (Or.inr (Or.inr (Or.inr (Or.inr (Or.inr (Or.inr (Or.inr (Or.inl (e 8 q)))))))))
  · exact Or.inr (Or.inr (Or.inr (Or.inr (Or.inr (Or.inr (Or.inr (Or.inr (Or.inr (Or.inl (e 9 q))))))))))
  · exact Or.inr (Or.inr (Or.inr (Or.inr (Or.inr (Or.inr (Or.inr (Or.inr (Or.inr (Or.inr (Or.inl (e 10 q)))))))))))
  · exact Or.inr (Or.inr (Or.inr (Or.inr (Or.inr (Or.inr (Or.inr (Or.inr (Or.inr (Or.inr (Or.inr (Or.inl (e 11 q))))))))))))
  · exact Or.inr (Or.inr (Or.inr (Or.inr (Or.inr (Or.inr (Or.inr (Or.inr (Or.inr (Or.inr (Or.inr (Or.inr (e 12 q))))))))))))
def own_prec (k : Int32) : Int32 := if k = 0 then 1 else if k = 1 then 2 else if k = 2 then 3 else if k = 3 then 3 else if k = 4 then 4 else if k = 5 then 4 else if k = 6 then 4 else if k = 7 then 4 else if k = 8 then 5 else if k = 9 then 5 else if k = 10 then 6 else if k = 11 then 6 else 6
theorem own_prec_f {Z : State} {h : Heap} (k : Int32) {a0 a1 a2 a3 a4 a5 a6 a7 a8 a9 a10 a11 a12 : Addr} (K : own_K Z h a0 a1 a2 a3 a4 a5 a6 a7 a8 a9 a10 a11 a12) (hk : 0 ≤ k.toInt ∧ k.toInt < 13) : Fld Z h (own_pick k a0 a1 a2 a3 a4 a5 a6 a7 a8 a9 a10 a11 a12) "com/example/liblocpath/liblocpath/expression/Operator" "precedence" "I" (.int (own_prec k)) := by
  rcases own_cases k hk with rfl | rfl | rfl | rfl | rfl | rfl | rfl | rfl | rfl | rfl | rfl | rfl | rfl
  · exact K.f0
  · exact K.f1
  · exact K.f2
  · exact K.f3
  · exact K.f4
  · exact K.f5
  · exact K.f6
  · exact K.f7
  · exact K.f8
  · exact K.f9
  · exact K.f10
  · exact K.f11
  · exact K.f12
theorem own_pick_e {Z : State} {h : Heap} (k : Int32) {a0 a1 a2 a3 a4 a5 a6 a7 a8 a9 a10 a11 a12 : Addr} (K : own_K Z h a0 a1 a2 a3 a4 a5 a6 a7 a8 a9 a10 a11 a12) (hk : 0 ≤ k.toInt ∧ k.toInt < 13) : Exa Z h (own_pick k a0 a1 a2 a3 a4 a5 a6 a7 a8 a9 a10 a11 a12) "com/example/liblocpath/liblocpath/expression/Operator" := by
  rcases own_cases k hk with rfl | rfl | rfl | rfl | rfl | rfl | rfl | rfl | rfl | rfl | rfl | rfl | rfl
  · exact K.e0
  · exact K.e1
  · exact K.e2
  · exact K.e3
  · exact K.e4
  · exact K.e5
  · exact K.e6
  · exact K.e7
  · exact K.e8
  · exact K.e9
  · exact K.e10
  · exact K.e11
  · exact K.e12
def own_end (q : Int32) : Int32 := if q = 3 then 1 else if q = 4 then 1 else 0
theorem own_law (k : Int32) (h : 0 ≤ k.toInt ∧ k.toInt < 13) : own_end (own_prec k) = if k < 2 then 0 else if 7 < k then 0 else 1 := by
  rcases own_cases k h with rfl | rfl | rfl | rfl | rfl | rfl | rfl | rfl | rfl | rfl | rfl | rfl | rfl
  all_goals decide
theorem own_in (cA : ClassId) (a0 a1 a2 a3 a4 a5 a6 a7 a8 a9 a10 a11 a12 : Addr) (k : Int32) (h : 0 ≤ k.toInt ∧ k.toInt < 13) : ¬ (k < 0 ∨ ((((((((((((((newA cA (.object "com/example/liblocpath/liblocpath/expression/Operator") (13 : Int32)).setSlot (0 : Int32).toNatClampNeg (.ref a0)).setSlot (1 : Int32).toNatClampNeg (.ref a1)).setSlot (2 : Int32).toNatClampNeg (.ref a2)).setSlot (3 : Int32).toNatClampNeg (.ref a3)).setSlot (4 : Int32).toNatClampNeg (.ref a4)).setSlot (5 : Int32).toNatClampNeg (.ref a5)).setSlot (6 : Int32).toNatClampNeg (.ref a6)).setSlot (7 : Int32).toNatClampNeg (.ref a7)).setSlot (8 : Int32).toNatClampNeg (.ref a8)).setSlot (9 : Int32).toNatClampNeg (.ref a9)).setSlot (10 : Int32).toNatClampNeg (.ref a10)).setSlot (11 : Int32).toNatClampNeg (.ref a11)).setSlot (12 : Int32).toNatClampNeg (.ref a12)).slots.size ≤ k.toNatClampNeg) := by
  simp only [sz_set, sz_new]
  rcases own_cases k h with rfl | rfl | rfl | rfl | rfl | rfl | rfl | rfl | rfl | rfl | rfl | rfl | rfl
  all_goals decide
theorem own_at (cA : ClassId) (a0 a1 a2 a3 a4 a5 a6 a7 a8 a9 a10 a11 a12 : Addr) (k : Int32) (h : 0 ≤ k.toInt ∧ k.toInt < 13) : ((((((((((((((newA cA (.object "com/example/liblocpath/liblocpath/expression/Operator") (13 : Int32)).setSlot (0 : Int32).toNatClampNeg (.ref a0)).setSlot (1 : Int32).toNatClampNeg (.ref a1)).setSlot (2 : Int32).toNatClampNeg (.ref a2)).setSlot (3 : Int32).toNatClampNeg (.ref a3)).setSlot (4 : Int32).toNatClampNeg (.ref a4)).setSlot (5 : Int32).toNatClampNeg (.ref a5)).setSlot (6 : Int32).toNatClampNeg (.ref a6)).setSlot (7 : Int32).toNatClampNeg (.ref a7)).setSlot (8 : Int32).toNatClampNeg (.ref a8)).setSlot (9 : Int32).toNatClampNeg (.ref a9)).setSlot (10 : Int32).toNatClampNeg (.ref a10)).setSlot (11 : Int32).toNatClampNeg (.ref a11)).setSlot (12 : Int32).toNatClampNeg (.ref a12)).slots[k.toNatClampNeg]? = some (.ref (own_pick k a0 a1 a2 a3 a4 a5 a6 a7 a8 a9 a10 a11 a12)) := by
  rcases own_cases k h with rfl | rfl | rfl | rfl | rfl | rfl | rfl | rfl | rfl | rfl | rfl | rfl | rfl
  · rw [show own_pick 0 a0 a1 a2 a3 a4 a5 a6 a7 a8 a9 a10 a11 a12 = a0 from by simp [own_pick]]; exact ((get_miss (by decide) (by decide) (by decide)).trans ((get_miss (by decide) (by decide) (by decide)).trans ((get_miss (by decide) (by decide) (by decide)).trans ((get_miss (by decide) (by decide) (by decide)).trans ((get_miss (by decide) (by decide) (by decide)).trans ((get_miss (by decide) (by decide) (by decide)).trans ((get_miss (by decide) (by decide) (by decide)).trans ((get_miss (by decide) (by decide) (by decide)).trans ((get_miss (by decide) (by decide) (by decide)).trans ((get_miss (by decide) (by decide) (by decide)).trans ((get_miss (by decide) (by decide) (by decide)).trans ((get_miss (by decide) (by decide) (by decide)).trans (get_hit (by simp only [sz_set, sz_new]; decide) rfl)))))))))))))
  · rw [show own_pick 1 a0 a1 a2 a3 a4 a5 a6 a7 a8 a9 a10 a11 a12 = a1 from by simp [own_pick]]; exact ((get_miss (by decide) (by decide) (by decide)).trans ((get_miss (by decide) (by decide) (by decide)).trans ((get_miss (by decide) (by decide) (by decide)).trans ((get_miss (by decide) (by decide) (by decide)).trans ((get_miss (by decide) (by decide) (by decide)).trans ((get_miss (by decide) (by decide) (by decide)).trans ((get_miss (by decide) (by decide) (by decide)).trans ((get_miss (by decide) (by decide) (by decide)).trans ((get_miss (by decide) (by decide) (by decide)).trans ((get_miss (by decide) (by decide) (by decide)).trans ((get_miss (by decide) (by decide) (by decide)).trans (get_hit (by simp only [sz_set, sz_new]; decide) rfl))))))))))))
  · rw [show own_pick 2 a0 a1 a2 a3 a4 a5 a6 a7 a8 a9 a10 a11 a12 = a2 from by simp [own_pick]]; exact ((get_miss (by decide) (by decide) (by decide)).trans ((get_miss (by decide) (by decide) (by decide)).trans ((get_miss (by decide) (by decide) (by decide)).trans ((get_miss (by decide) (by decide) (by decide)).trans ((get_miss (by decide) (by decide) (by decide)).trans ((get_miss (by decide) (by decide) (by decide)).trans ((get_miss (by decide) (by decide) (by decide)).trans ((get_miss (by decide) (by decide) (by decide)).trans ((get_miss (by decide) (by decide) (by decide)).trans ((get_miss (by decide) (by decide) (by decide)).trans (get_hit (by simp only [sz_set, sz_new]; decide) rfl)))))))))))
  · rw [show own_pick 3 a0 a1 a2 a3 a4 a5 a6 a7 a8 a9 a10 a11 a12 = a3 from by simp [own_pick]]; exact ((get_miss (by decide) (by decide) (by decide)).trans ((get_miss (by decide) (by decide) (by decide)).trans ((get_miss (by decide) (by decide) (by decide)).trans ((get_miss (by decide) (by decide) (by decide)).trans ((get_miss (by decide) (by decide) (by decide)).trans ((get_miss (by decide) (by decide) (by decide)).trans ((get_miss (by decide) (by decide) (by decide)).trans ((get_miss (by decide) (by decide) (by decide)).trans ((get_miss (by decide) (by decide) (by decide)).trans (get_hit (by simp only [sz_set, sz_new]; decide) rfl))))))))))
  · rw [show own_pick 4 a0 a1 a2 a3 a4 a5 a6 a7 a8 a9 a10 a11 a12 = a4 from by simp [own_pick]]; exact ((get_miss (by decide) (by decide) (by decide)).trans ((get_miss (by decide) (by decide) (by decide)).trans ((get_miss (by decide) (by decide) (by decide)).trans ((get_miss (by decide) (by decide) (by decide)).trans ((get_miss (by decide) (by decide) (by decide)).trans ((get_miss (by decide) (by decide) (by decide)).trans ((get_miss (by decide) (by decide) (by decide)).trans ((get_miss (by decide) (by decide) (by decide)).trans (get_hit (by simp only [sz_set, sz_new]; decide) rfl)))))))))
  · rw [show own_pick 5 a0 a1 a2 a3 a4 a5 a6 a7 a8 a9 a10 a11 a12 = a5 from by simp [own_pick]]; exact ((get_miss (by decide) (by decide) (by decide)).trans ((get_miss (by decide) (by decide) (by decide)).trans ((get_miss (by decide) (by decide) (by decide)).trans ((get_miss (by decide) (by decide) (by decide)).trans ((get_miss (by decide) (by decide) (by decide)).trans ((get_miss (by decide) (by decide) (by decide)).trans ((get_miss (by decide) (by decide) (by decide)).trans (get_hit (by simp only [sz_set, sz_new]; decide) rfl))))))))
  · rw [show own_pick 6 a0 a1 a2 a3 a4 a5 a6 a7 a8 a9 a10 a11 a12 = a6 from by simp [own_pick]]; exact ((get_miss (by decide) (by decide) (by decide)).trans ((get_miss (by decide) (by decide) (by decide)).trans ((get_miss (by decide) (by decide) (by decide)).trans ((get_miss (by decide) (by decide) (by decide)).trans ((get_miss (by decide) (by decide) (by decide)).trans ((get_miss (by decide) (by decide) (by decide)).trans (get_hit (by simp only [sz_set, sz_new]; decide) rfl)))))))
  · rw [show own_pick 7 a0 a1 a2 a3 a4 a5 a6 a7 a8 a9 a10 a11 a12 = a7 from by simp [own_pick]]; exact ((get_miss (by decide) (by decide) (by decide)).trans ((get_miss (by decide) (by decide) (by decide)).trans ((get_miss (by decide) (by decide) (by decide)).trans ((get_miss (by decide) (by decide) (by decide)).trans ((get_miss (by decide) (by decide) (by decide)).trans (get_hit (by simp only [sz_set, sz_new]; decide) rfl))))))
  · rw [show own_pick 8 a0 a1 a2 a3 a4 a5 a6 a7 a8 a9 a10 a11 a12 = a8 from by simp [own_pick]]; exact ((get_miss (by decide) (by decide) (by decide)).trans ((get_miss (by decide) (by decide) (by decide)).trans ((get_miss (by decide) (by decide) (by decide)).trans ((get_miss (by decide) (by decide) (by decide)).trans (get_hit (by simp only [sz_set, sz_new]; decide) rfl)))))
  · rw [show own_pick 9 a0 a1 a2 a3 a4 a5 a6 a7 a8 a9 a10 a11 a12 = a9 from by simp [own_pick]]; exact ((get_miss (by decide) (by decide) (by decide)).trans ((get_miss (by decide) (by decide) (by decide)).trans ((get_miss (by decide) (by decide) (by decide)).trans (get_hit (by simp only [sz_set, sz_new]; decide) rfl))))
  · rw [show own_pick 10 a0 a1 a2 a3 a4 a5 a6 a7 a8 a9 a10 a11 a12 = a10 from by simp [own_pick]]; exact ((get_miss (by decide) (by decide) (by decide)).trans ((get_miss (by decide) (by decide) (by decide)).trans (get_hit (by simp only [sz_set, sz_new]; decide) rfl)))
  · rw [show own_pick 11 a0 a1 a2 a3 a4 a5 a6 a7 a8 a9 a10 a11 a12 = a11 from by simp [own_pick]]; exact ((get_miss (by decide) (by decide) (by decide)).trans (get_hit (by simp only [sz_set, sz_new]; decide) rfl))
  · rw [show own_pick 12 a0 a1 a2 a3 a4 a5 a6 a7 a8 a9 a10 a11 a12 = a12 from by simp [own_pick]]; exact (get_hit (by simp only [sz_set, sz_new]; decide) rfl)
def own_QR (h0 : Heap) (r : Value) (v : Option Value) (h : Heap) (L : List Loc) : Prop := v = some r ∧ L = [] ∧ h = h0
theorem d1_0 : decode prog_51_method_7_code 0 = .ok (.aload_n 0, 1) := by decide +kernel
theorem d1_1 : decode prog_51_method_7_code 1 = .ok (.getfield 66, 3) := by decide +kernel
theorem d1_4 : decode prog_51_method_7_code 4 = .ok (.getstatic 10, 3) := by decide +kernel
theorem d1_7 : decode prog_51_method_7_code 7 = .ok (.getfield 66, 3) := by decide +kernel
theorem d1_10 : decode prog_51_method_7_code 10 = .ok (.if_icmp .eq 16, 3) := by decide +kernel
theorem d1_13 : decode prog_51_method_7_code 13 = .ok (.aload_n 0, 1) := by decide +kernel
theorem d1_14 : decode prog_51_method_7_code 14 = .ok (.getfield 66, 3) := by decide +kernel
theorem d1_17 : decode prog_51_method_7_code 17 = .ok (.getstatic 16, 3) := by decide +kernel
theorem d1_20 : decode prog_51_method_7_code 20 = .ok (.getfield 66, 3) := by decide +kernel
theorem d1_23 : decode prog_51_method_7_code 23 = .ok (.if_icmp .ne 7, 3) := by decide +kernel
theorem d1_26 : decode prog_51_method_7_code 26 = .ok (.iconst 1, 1) := by decide +kernel
theorem d1_27 : decode prog_51_method_7_code 27 = .ok (.goto 4, 3) := by decide +kernel
theorem d1_30 : decode prog_51_method_7_code 30 = .ok (.iconst 0, 1) := by decide +kernel
theorem d1_31 : decode prog_51_method_7_code 31 = .ok (.ireturn, 1) := by decide +kernel
set_option maxRecDepth 65536 in
set_option maxHeartbeats 40000000 in
theorem rmE (l : Launch) (Z : State) (w0 : Array Value) (hw : ∀ d ∈ tables_1, d.before w0 Z = true) (ws : List Jvm.Cond) (r : Addr) (q : Int32) (a0 a1 a2 a3 a4 a5 a6 a7 a8 a9 a10 a11 a12 : Addr) (h0 : Heap) (K0 : own_K Z h0 a0 a1 a2 a3 a4 a5 a6 a7 a8 a9 a10 a11 a12) (F0 : Fld Z h0 r "com/example/liblocpath/liblocpath/expression/Operator" "precedence" "I" (.int q)) : Pact l Z (⟨"com/example/liblocpath/liblocpath/expression/Operator", "comparesNodeSets", "()Z"⟩ : MethodName) prog_51_method_7_code 1 (some .boolean) ws ({ frames := 0, cells := 0, slots := 0, locals := 0 } : Room) #[.ref r] h0 (own_QR h0 (.int (own_end q))) := by
  refine Pact.intro (plainFor_of_name pnE) ?_
  intro p e s m below meth c T0 X0 hx hby hml hret hlk hown hnm hZ e0
  refine Go.at (efE m r) ?_
  refine Go.on (g' := (mkF m 1 _ [(.ref r)])) (fun t_ k_ => XS.aloadN X0.here hx rfl (hb hby d1_0) rfl rfl k_) ?_
  obtain ⟨T1, X1, e1, st1⟩ := getF X0 hx hZ hown (host := "") (Or.inl (hw _ (List.mem_of_getElem? (i := 36) rfl))) Via.refl e0 F0 (g := (mkF m 1 #[.val (.ref r)] [(.ref r)])) rfl rfl (hb hby d1_1)
  refine Go.on (g' := (mkF m 4 _ [(.int q)])) (st1) ?_
  obtain ⟨T2, X2, e2, st2⟩ := getS (host := "") X1 hx hZ hown (hw _ (List.mem_of_getElem? (i := 38) rfl)) Via.refl e1 K0.s2 (g := (mkF m 4 #[.val (.ref r)] [(.int q)])) rfl (hb hby d1_4)
  refine Go.on (g' := (mkF m 7 _ [(.ref a2), (.int q)])) (st2) ?_
  obtain ⟨T3, X3, e3, st3⟩ := getF X2 hx hZ hown (host := "") (Or.inl (hw _ (List.mem_of_getElem? (i := 36) rfl))) Via.refl e2 K0.f2 (g := (mkF m 7 #[.val (.ref r)] [(.ref a2), (.int q)])) rfl rfl (hb hby d1_7)
  refine Go.on (g' := (mkF m 10 _ [(.int (3 : Int32)), (.int q)])) (st3) ?_
  refine Go.icmp X3 hx hby d1_10 (pcT := 26) (pcF := 13) (by decide) (by decide) rfl (fun q => ?_) (fun q => ?_)
  · have q11 := iEq.1 q
    clear q
    show Go p e below _ _ (mkF m 26 _ [])
    refine Go.on (g' := (mkF m 27 _ [(.int (1 : Int32))])) (fun t_ k_ => XS.iconst X3.here hx rfl (hb hby d1_26) k_) ?_
    refine Go.on (g' := (mkF m 31 _ [(.int (1 : Int32))])) (fun t_ k_ => XS.goto X3.here hx rfl (pc0 := 27) (pc' := 31) rfl (hb hby d1_27) (by decide) (by decide) k_) ?_
    exact Go.retI X3 hx hlk hret hby d1_31 rfl (by simp) (by decide) (by decide) ⟨by rw [own_end, if_pos q11], rfl, e3⟩
  · have q11 := iEq.2 q
    clear q
    show Go p e below _ _ (mkF m 13 _ [])
    refine Go.on (g' := (mkF m 14 _ [(.ref r)])) (fun t_ k_ => XS.aloadN X3.here hx rfl (hb hby d1_13) rfl rfl k_) ?_
    obtain ⟨T4, X4, e4, st4⟩ := getF X3 hx hZ hown (host := "") (Or.inl (hw _ (List.mem_of_getElem? (i := 36) rfl))) Via.refl e3 F0 (g := (mkF m 14 #[.val (.ref r)] [(.ref r)])) rfl rfl (hb hby d1_14)
    refine Go.on (g' := (mkF m 17 _ [(.int q)])) (st4) ?_
    obtain ⟨T5, X5, e5, st5⟩ := getS (host := "") X4 hx hZ hown (hw _ (List.mem_of_getElem? (i := 39) rfl)) Via.refl e4 K0.s4 (g := (mkF m 17 #[.val (.ref r)] [(.int q)])) rfl (hb hby d1_17)
    refine Go.on (g' := (mkF m 20 _ [(.ref a4), (.int q)])) (st5) ?_
    obtain ⟨T6, X6, e6, st6⟩ := getF X5 hx hZ hown (host := "") (Or.inl (hw _ (List.mem_of_getElem? (i := 36) rfl))) Via.refl e5 K0.f4 (g := (mkF m 20 #[.val (.ref r)] [(.ref a4), (.int q)])) rfl rfl (hb hby d1_20)
    refine Go.on (g' := (mkF m 23 _ [(.int (4 : Int32)), (.int q)])) (st6) ?_
    refine Go.icmp X6 hx hby d1_23 (pcT := 30) (pcF := 26) (by decide) (by decide) rfl (fun q => ?_) (fun q => ?_)
    · have q12 := iNe.1 q
      clear q
      show Go p e below _ _ (mkF m 30 _ [])
      refine Go.on (g' := (mkF m 31 _ [(.int (0 : Int32))])) (fun t_ k_ => XS.iconst X6.here hx rfl (hb hby d1_30) k_) ?_
      exact Go.retI X6 hx hlk hret hby d1_31 rfl (by simp) (by decide) (by decide) ⟨by rw [own_end, if_neg q11, if_neg q12], rfl, e6⟩
    · have q12 := iNe.2 q
      clear q
      show Go p e below _ _ (mkF m 26 _ [])
      refine Go.on (g' := (mkF m 27 _ [(.int (1 : Int32))])) (fun t_ k_ => XS.iconst X6.here hx rfl (hb hby d1_26) k_) ?_
      refine Go.on (g' := (mkF m 31 _ [(.int (1 : Int32))])) (fun t_ k_ => XS.goto X6.here hx rfl (pc0 := 27) (pc' := 31) rfl (hb hby d1_27) (by decide) (by decide) k_) ?_
      exact Go.retI X6 hx hlk hret hby d1_31 rfl (by simp) (by decide) (by decide) ⟨by rw [own_end, if_neg q11, if_pos q12], rfl, e6⟩
def own_Q0 (n0 : Nat) (v : Option Value) (h : Heap) (L : List Loc) : Prop := v = some (.int 1) ∧ Fr n0 L
set_option maxRecDepth 65536 in
set_option maxHeartbeats 40000000 in
theorem rmLaw (l : Launch) (Z : State) (w0 : Array Value) (hw : ∀ d ∈ tables_1, d.before w0 Z = true) (ws : List Jvm.Cond) (p0 : Int32) (h0 : Heap) (n0 : Nat) (Z0 : n0 ≤ h0.size) (a0 a1 a2 a3 a4 a5 a6 a7 a8 a9 a10 a11 a12 : Addr) (K0 : own_K Z h0 a0 a1 a2 a3 a4 a5 a6 a7 a8 a9 a10 a11 a12) (m0 : a0 < n0) (m1 : a1 < n0) (m2 : a2 < n0) (m3 : a3 < n0) (m4 : a4 < n0) (m5 : a5 < n0) (m6 : a6 < n0) (m7 : a7 < n0) (m8 : a8 < n0) (m9 : a9 < n0) (m10 : a10 < n0) (m11 : a11 < n0) (m12 : a12 < n0) : Pact l Z x code maxLocals ret ws room_1 #[.int p0] h0 (own_Q0 n0) := by
  refine Pact.intro (plainFor_of_name pnLaw) ?_
  intro p e s m below meth c T0 X0 hx hby hml hret hlk hown hnm hZ e0
  refine Go.at (ef0 m p0) ?_
  have hown : s.vm.findClass "com/example/liblocpath/liblocpath/expression/OperatorComparesNodeSetsPinLaw" = some m.cls := hown
  have N0 := Fr.nil n0
  refine Go.on (g' := (mkF m 2 _ [(.int (13 : Int32))])) (fun t_ k_ => XS.bipush X0.here hx rfl (hb hby at_0) k_) ?_
  obtain ⟨T1, h1, cA1, X1, e1, E1, A1, O1, st1⟩ := newR X0 hx hZ hown (hw _ (List.mem_of_getElem? (i := 0) rfl)) (hw _ (List.mem_of_getElem? (i := 1) rfl)) e0 (g := (mkF m 2 #[.val (.int p0), .unset, .unset, .unset] [(.int (13 : Int32))])) rfl (hb hby at_2) (n := (13 : Int32)) rfl (by decide) (cap := 13) (by decide) (by decide) (by decide) (by decide)
  obtain ⟨o1, go1⟩ : ∃ z, z = (h0).size := ⟨_, rfl⟩
  rw [← go1] at A1 st1
  have no1 : n0 ≤ o1 := Nat.le_trans Z0 (Nat.le_of_eq go1.symm)
  have Z1 : n0 ≤ h1.size := Nat.le_trans Z0 E1.1
  have own_K_1 := K0.ext E1
  refine Go.on (g' := (mkF m 5 _ [(.ref o1)])) (st1) ?_
  refine Go.on (g' := (mkF m 6 _ [(.ref o1), (.ref o1)])) (fun t_ k_ => XS.dup X1.here hx rfl (hb hby at_5) rfl rfl k_) ?_
  refine Go.on (g' := (mkF m 7 _ [(.int (0 : Int32)), (.ref o1), (.ref o1)])) (fun t_ k_ => XS.iconst X1.here hx rfl (hb hby at_6) k_) ?_
  obtain ⟨T2, X2, e2, st2⟩ := getS (host := "") X1 hx hZ hown (hw _ (List.mem_of_getElem? (i := 2) rfl)) Via.refl e1 own_K_1.s0 (g := (mkF m 7 #[.val (.int p0), .unset, .unset, .unset] [(.int (0 : Int32)), (.ref o1), (.ref o1)])) rfl (hb hby at_7)
  refine Go.on (g' := (mkF m 10 _ [(.ref a0), (.int (0 : Int32)), (.ref o1), (.ref o1)])) (st2) ?_
  obtain ⟨T3, h3, X3, e3, W3, st3⟩ := stR X2 hx hZ e2 A1 (j := (0 : Int32)) (by simp only [sz_set, sz_new]; decide) rfl (Sto.of A1 O1 (Ins.self own_K_1.e0)) (g := (mkF m 10 #[.val (.int p0), .unset, .unset, .unset] [(.ref a0), (.int (0 : Int32)), (.ref o1), (.ref o1)])) rfl rfl (hb hby at_10)
  have N3 := Fr.snoc X3 N0 no1
  have Z3 : n0 ≤ h3.size := by rw [W3.size]; exact Z1
  have own_K_3 := own_K_1.new W3 no1 m0 m1 m2 m3 m4 m5 m6 m7 m8 m9 m10 m11 m12
  have A3 := A1.same W3
  refine Go.on (g' := (mkF m 11 _ [(.ref o1)])) (st3) ?_
  refine Go.on (g' := (mkF m 12 _ [(.ref o1), (.ref o1)])) (fun t_ k_ => XS.dup X3.here hx rfl (hb hby at_11) rfl rfl k_) ?_
  refine Go.on (g' := (mkF m 13 _ [(.int (1 : Int32)), (.ref o1), (.ref o1)])) (fun t_ k_ => XS.iconst X3.here hx rfl (hb hby at_12) k_) ?_
  obtain ⟨T4, X4, e4, st4⟩ := getS (host := "") X3 hx hZ hown (hw _ (List.mem_of_getElem? (i := 6) rfl)) Via.refl e3 own_K_3.s1 (g := (mkF m 13 #[.val (.int p0), .unset, .unset, .unset] [(.int (1 : Int32)), (.ref o1), (.ref o1)])) rfl (hb hby at_13)
  refine Go.on (g' := (mkF m 16 _ [(.ref a1), (.int (1 : Int32)), (.ref o1), (.ref o1)])) (st4) ?_
  obtain ⟨T5, h5, X5, e5, W5, st5⟩ := stR X4 hx hZ e4 A3 (j := (1 : Int32)) (by simp only [sz_set, sz_new]; decide) rfl (Sto.of A3 O1 (Ins.self own_K_3.e1)) (g := (mkF m 16 #[.val (.int p0), .unset, .unset, .unset] [(.ref a1), (.int (1 : Int32)), (.ref o1), (.ref o1)])) rfl rfl (hb hby at_16)
  have N5 := Fr.snoc X5 N3 no1
  have Z5 : n0 ≤ h5.size := by rw [W5.size]; exact Z3
  have own_K_5 := own_K_3.new W5 no1 m0 m1 m2 m3 m4 m5 m6 m7 m8 m9 m10 m11 m12
  have A5 := A3.same W5
  refine Go.on (g' := (mkF m 17 _ [(.ref o1)])) (st5) ?_
  refine Go.on (g' := (mkF m 18 _ [(.ref o1), (.ref o1)])) (fun t_ k_ => XS.dup X5.here hx rfl (hb hby at_17) rfl rfl k_) ?_
  refine Go.on (g' := (mkF m 19 _ [(.int (2 : Int32)), (.ref o1), (.ref o1)])) (fun t_ k_ => XS.iconst X5.here hx rfl (hb hby at_18) k_) ?_
  obtain ⟨T6, X6, e6, st6⟩ := getS (host := "") X5 hx hZ hown (hw _ (List.mem_of_getElem? (i := 8) rfl)) Via.refl e5 own_K_5.s2 (g := (mkF m 19 #[.val (.int p0), .unset, .unset, .unset] [(.int (2 : Int32)), (.ref o1), (.ref o1)])) rfl (hb hby at_19)
  refine Go.on (g' := (mkF m 22 _ [(.ref a2), (.int (2 : Int32)), (.ref o1), (.ref o1)])) (st6) ?_
  obtain ⟨T7, h7, X7, e7, W7, st7⟩ := stR X6 hx hZ e6 A5 (j := (2 : Int32)) (by simp only [sz_set, sz_new]; decide) rfl (Sto.of A5 O1 (Ins.self own_K_5.e2)) (g := (mkF m 22 #[.val (.int p0), .unset, .unset, .unset] [(.ref a2), (.int (2 : Int32)), (.ref o1), (.ref o1)])) rfl rfl (hb hby at_22)
  have N7 := Fr.snoc X7 N5 no1
  have Z7 : n0 ≤ h7.size := by rw [W7.size]; exact Z5
  have own_K_7 := own_K_5.new W7 no1 m0 m1 m2 m3 m4 m5 m6 m7 m8 m9 m10 m11 m12
  have A7 := A5.same W7
  refine Go.on (g' := (mkF m 23 _ [(.ref o1)])) (st7) ?_
  refine Go.on (g' := (mkF m 24 _ [(.ref o1), (.ref o1)])) (fun t_ k_ => XS.dup X7.here hx rfl (hb hby at_23) rfl rfl k_) ?_
  refine Go.on (g' := (mkF m 25 _ [(.int (3 : Int32)), (.ref o1), (.ref o1)])) (fun t_ k_ => XS.iconst X7.here hx rfl (hb hby at_24) k_) ?_
  obtain ⟨T8, X8, e8, st8⟩ := getS (host := "") X7 hx hZ hown (hw _ (List.mem_of_getElem? (i := 10) rfl)) Via.refl e7 own_K_7.s3 (g := (mkF m 25 #[.val (.int p0), .unset, .unset, .unset] [(.int (3 : Int32)), (.ref o1), (.ref o1)])) rfl (hb hby at_25)
  refine Go.on (g' := (mkF m 28 _ [(.ref a3), (.int (3 : Int32)), (.ref o1), (.ref o1)])) (st8) ?_
  obtain ⟨T9, h9, X9, e9, W9, st9⟩ := stR X8 hx hZ e8 A7 (j := (3 : Int32)) (by simp only [sz_set, sz_new]; decide) rfl (Sto.of A7 O1 (Ins.self own_K_7.e3)) (g := (mkF m 28 #[.val (.int p0), .unset, .unset, .unset] [(.ref a3), (.int (3 : Int32)), (.ref o1), (.ref o1)])) rfl rfl (hb hby at_28)
  have N9 := Fr.snoc X9 N7 no1
  have Z9 : n0 ≤ h9.size := by rw [W9.size]; exact Z7
  have own_K_9 := own_K_7.new W9 no1 m0 m1 m2 m3 m4 m5 m6 m7 m8 m9 m10 m11 m12
  have A9 := A7.same W9
  refine Go.on (g' := (mkF m 29 _ [(.ref o1)])) (st9) ?_
  refine Go.on (g' := (mkF m 30 _ [(.ref o1), (.ref o1)])) (fun t_ k_ => XS.dup X9.here hx rfl (hb hby at_29) rfl rfl k_) ?_
  refine Go.on (g' := (mkF m 31 _ [(.int (4 : Int32)), (.ref o1), (.ref o1)])) (fun t_ k_ => XS.iconst X9.here hx rfl (hb hby at_30) k_) ?_
  obtain ⟨T10, X10, e10, st10⟩ := getS (host := "") X9 hx hZ hown (hw _ (List.mem_of_getElem? (i := 12) rfl)) Via.refl e9 own_K_9.s4 (g := (mkF m 31 #[.val (.int p0), .unset, .unset, .unset] [(.int (4 : Int32)), (.ref o1), (.ref o1)])) rfl (hb hby at_31)
  refine Go.on (g' := (mkF m 34 _ [(.ref a4), (.int (4 : Int32)), (.ref o1), (.ref o1)])) (st10) ?_
  obtain ⟨T11, h11, X11, e11, W11, st11⟩ := stR X10 hx hZ e10 A9 (j := (4 : Int32)) (by simp only [sz_set, sz_new]; decide) rfl (Sto.of A9 O1 (Ins.self own_K_9.e4)) (g := (mkF m 34 #[.val (.int p0), .unset, .unset, .unset] [(.ref a4), (.int (4 : Int32)), (.ref o1), (.ref o1)])) rfl rfl (hb hby at_34)
  have N11 := Fr.snoc X11 N9 no1
  have Z11 : n0 ≤ h11.size := by rw [W11.size]; exact Z9
  have own_K_11 := own_K_9.new W11 no1 m0 m1 m2 m3 m4 m5 m6 m7 m8 m9 m10 m11 m12
  have A11 := A9.same W11
  refine Go.on (g' := (mkF m 35 _ [(.ref o1)])) (st11) ?_
  refine Go.on (g' := (mkF m 36 _ [(.ref o1), (.ref o1)])) (fun t_ k_ => XS.dup X11.here hx rfl (hb hby at_35) rfl rfl k_) ?_
  refine Go.on (g' := (mkF m 37 _ [(.int (5 : Int32)), (.ref o1), (.ref o1)])) (fun t_ k_ => XS.iconst X11.here hx rfl (hb hby at_36) k_) ?_
  obtain ⟨T12, X12, e12, st12⟩ := getS (host := "") X11 hx hZ hown (hw _ (List.mem_of_getElem? (i := 14) rfl)) Via.refl e11 own_K_11.s5 (g := (mkF m 37 #[.val (.int p0), .unset, .unset, .unset] [(.int (5 : Int32)), (.ref o1), (.ref o1)])) rfl (hb hby at_37)
  refine Go.on (g' := (mkF m 40 _ [(.ref a5), (.int (5 : Int32)), (.ref o1), (.ref o1)])) (st12) ?_
  obtain ⟨T13, h13, X13, e13, W13, st13⟩ := stR X12 hx hZ e12 A11 (j := (5 : Int32)) (by simp only [sz_set, sz_new]; decide) rfl (Sto.of A11 O1 (Ins.self own_K_11.e5)) (g := (mkF m 40 #[.val (.int p0), .unset, .unset, .unset] [(.ref a5), (.int (5 : Int32)), (.ref o1), (.ref o1)])) rfl rfl (hb hby at_40)
  have N13 := Fr.snoc X13 N11 no1
  have Z13 : n0 ≤ h13.size := by rw [W13.size]; exact Z11
  have own_K_13 := own_K_11.new W13 no1 m0 m1 m2 m3 m4 m5 m6 m7 m8 m9 m10 m11 m12
  have A13 := A11.same W13
  refine Go.on (g' := (mkF m 41 _ [(.ref o1)])) (st13) ?_
  refine Go.on (g' := (mkF m 42 _ [(.ref o1), (.ref o1)])) (fun t_ k_ => XS.dup X13.here hx rfl (hb hby at_41) rfl rfl k_) ?_
  refine Go.on (g' := (mkF m 44 _ [(.int (6 : Int32)), (.ref o1), (.ref o1)])) (fun t_ k_ => XS.bipush X13.here hx rfl (hb hby at_42) k_) ?_
  obtain ⟨T14, X14, e14, st14⟩ := getS (host := "") X13 hx hZ hown (hw _ (List.mem_of_getElem? (i := 16) rfl)) Via.refl e13 own_K_13.s6 (g := (mkF m 44 #[.val (.int p0), .unset, .unset, .unset] [(.int (6 : Int32)), (.ref o1), (.ref o1)])) rfl (hb hby at_44)
  refine Go.on (g' := (mkF m 47 _ [(.ref a6), (.int (6 : Int32)), (.ref o1), (.ref o1)])) (st14) ?_
  obtain ⟨T15, h15, X15, e15, W15, st15⟩ := stR X14 hx hZ e14 A13 (j := (6 : Int32)) (by simp only [sz_set, sz_new]; decide) rfl (Sto.of A13 O1 (Ins.self own_K_13.e6)) (g := (mkF m 47 #[.val (.int p0), .unset, .unset, .unset] [(.ref a6), (.int (6 : Int32)), (.ref o1), (.ref o1)])) rfl rfl (hb hby at_47)
  have N15 := Fr.snoc X15 N13 no1
  have Z15 : n0 ≤ h15.size := by rw [W15.size]; exact Z13
  have own_K_15 := own_K_13.new W15 no1 m0 m1 m2 m3 m4 m5 m6 m7 m8 m9 m10 m11 m12
  have A15 := A13.same W15
  refine Go.on (g' := (mkF m 48 _ [(.ref o1)])) (st15) ?_
  refine Go.on (g' := (mkF m 49 _ [(.ref o1), (.ref o1)])) (fun t_ k_ => XS.dup X15.here hx rfl (hb hby at_48) rfl rfl k_) ?_
  refine Go.on (g' := (mkF m 51 _ [(.int (7 : Int32)), (.ref o1), (.ref o1)])) (fun t_ k_ => XS.bipush X15.here hx rfl (hb hby at_49) k_) ?_
  obtain ⟨T16, X16, e16, st16⟩ := getS (host := "") X15 hx hZ hown (hw _ (List.mem_of_getElem? (i := 18) rfl)) Via.refl e15 own_K_15.s7 (g := (mkF m 51 #[.val (.int p0), .unset, .unset, .unset] [(.int (7 : Int32)), (.ref o1), (.ref o1)])) rfl (hb hby at_51)
  refine Go.on (g' := (mkF m 54 _ [(.ref a7), (.int (7 : Int32)), (.ref o1), (.ref o1)])) (st16) ?_
  obtain ⟨T17, h17, X17, e17, W17, st17⟩ := stR X16 hx hZ e16 A15 (j := (7 : Int32)) (by simp only [sz_set, sz_new]; decide) rfl (Sto.of A15 O1 (Ins.self own_K_15.e7)) (g := (mkF m 54 #[.val (.int p0), .unset, .unset, .unset] [(.ref a7), (.int (7 : Int32)), (.ref o1), (.ref o1)])) rfl rfl (hb hby at_54)
  have N17 := Fr.snoc X17 N15 no1
  have Z17 : n0 ≤ h17.size := by rw [W17.size]; exact Z15
  have own_K_17 := own_K_15.new W17 no1 m0 m1 m2 m3 m4 m5 m6 m7 m8 m9 m10 m11 m12
  have A17 := A15.same W17
  refine Go.on (g' := (mkF m 55 _ [(.ref o1)])) (st17) ?_
  refine Go.on (g' := (mkF m 56 _ [(.ref o1), (.ref o1)])) (fun t_ k_ => XS.dup X17.here hx rfl (hb hby at_55) rfl rfl k_) ?_
  refine Go.on (g' := (mkF m 58 _ [(.int (8 : Int32)), (.ref o1), (.ref o1)])) (fun t_ k_ => XS.bipush X17.here hx rfl (hb hby at_56) k_) ?_
  obtain ⟨T18, X18, e18, st18⟩ := getS (host := "") X17 hx hZ hown (hw _ (List.mem_of_getElem? (i := 20) rfl)) Via.refl e17 own_K_17.s8 (g := (mkF m 58 #[.val (.int p0), .unset, .unset, .unset] [(.int (8 : Int32)), (.ref o1), (.ref o1)])) rfl (hb hby at_58)
  refine Go.on (g' := (mkF m 61 _ [(.ref a8), (.int (8 : Int32)), (.ref o1), (.ref o1)])) (st18) ?_
  obtain ⟨T19, h19, X19, e19, W19, st19⟩ := stR X18 hx hZ e18 A17 (j := (8 : Int32)) (by simp only [sz_set, sz_new]; decide) rfl (Sto.of A17 O1 (Ins.self own_K_17.e8)) (g := (mkF m 61 #[.val (.int p0), .unset, .unset, .unset] [(.ref a8), (.int (8 : Int32)), (.ref o1), (.ref o1)])) rfl rfl (hb hby at_61)
  have N19 := Fr.snoc X19 N17 no1
  have Z19 : n0 ≤ h19.size := by rw [W19.size]; exact Z17
  have own_K_19 := own_K_17.new W19 no1 m0 m1 m2 m3 m4 m5 m6 m7 m8 m9 m10 m11 m12
  have A19 := A17.same W19
  refine Go.on (g' := (mkF m 62 _ [(.ref o1)])) (st19) ?_
  refine Go.on (g' := (mkF m 63 _ [(.ref o1), (.ref o1)])) (fun t_ k_ => XS.dup X19.here hx rfl (hb hby at_62) rfl rfl k_) ?_
  refine Go.on (g' := (mkF m 65 _ [(.int (9 : Int32)), (.ref o1), (.ref o1)])) (fun t_ k_ => XS.bipush X19.here hx rfl (hb hby at_63) k_) ?_
  obtain ⟨T20, X20, e20, st20⟩ := getS (host := "") X19 hx hZ hown (hw _ (List.mem_of_getElem? (i := 22) rfl)) Via.refl e19 own_K_19.s9 (g := (mkF m 65 #[.val (.int p0), .unset, .unset, .unset] [(.int (9 : Int32)), (.ref o1), (.ref o1)])) rfl (hb hby at_65)
  refine Go.on (g' := (mkF m 68 _ [(.ref a9), (.int (9 : Int32)), (.ref o1), (.ref o1)])) (st20) ?_
  obtain ⟨T21, h21, X21, e21, W21, st21⟩ := stR X20 hx hZ e20 A19 (j := (9 : Int32)) (by simp only [sz_set, sz_new]; decide) rfl (Sto.of A19 O1 (Ins.self own_K_19.e9)) (g := (mkF m 68 #[.val (.int p0), .unset, .unset, .unset] [(.ref a9), (.int (9 : Int32)), (.ref o1), (.ref o1)])) rfl rfl (hb hby at_68)
  have N21 := Fr.snoc X21 N19 no1
  have Z21 : n0 ≤ h21.size := by rw [W21.size]; exact Z19
  have own_K_21 := own_K_19.new W21 no1 m0 m1 m2 m3 m4 m5 m6 m7 m8 m9 m10 m11 m12
  have A21 := A19.same W21
  refine Go.on (g' := (mkF m 69 _ [(.ref o1)])) (st21) ?_
  refine Go.on (g' := (mkF m 70 _ [(.ref o1), (.ref o1)])) (fun t_ k_ => XS.dup X21.here hx rfl (hb hby at_69) rfl rfl k_) ?_
  refine Go.on (g' := (mkF m 72 _ [(.int (10 : Int32)), (.ref o1), (.ref o1)])) (fun t_ k_ => XS.bipush X21.here hx rfl (hb hby at_70) k_) ?_
  obtain ⟨T22, X22, e22, st22⟩ := getS (host := "") X21 hx hZ hown (hw _ (List.mem_of_getElem? (i := 24) rfl)) Via.refl e21 own_K_21.s10 (g := (mkF m 72 #[.val (.int p0), .unset, .unset, .unset] [(.int (10 : Int32)), (.ref o1), (.ref o1)])) rfl (hb hby at_72)
  refine Go.on (g' := (mkF m 75 _ [(.ref a10), (.int (10 : Int32)), (.ref o1), (.ref o1)])) (st22) ?_
  obtain ⟨T23, h23, X23, e23, W23, st23⟩ := stR X22 hx hZ e22 A21 (j := (10 : Int32)) (by simp only [sz_set, sz_new]; decide) rfl (Sto.of A21 O1 (Ins.self own_K_21.e10)) (g := (mkF m 75 #[.val (.int p0), .unset, .unset, .unset] [(.ref a10), (.int (10 : Int32)), (.ref o1), (.ref o1)])) rfl rfl (hb hby at_75)
  have N23 := Fr.snoc X23 N21 no1
  have Z23 : n0 ≤ h23.size := by rw [W23.size]; exact Z21
  have own_K_23 := own_K_21.new W23 no1 m0 m1 m2 m3 m4 m5 m6 m7 m8 m9 m10 m11 m12
  have A23 := A21.same W23
  refine Go.on (g' := (mkF m 76 _ [(.ref o1)])) (st23) ?_
  refine Go.on (g' := (mkF m 77 _ [(.ref o1), (.ref o1)])) (fun t_ k_ => XS.dup X23.here hx rfl (hb hby at_76) rfl rfl k_) ?_
  refine Go.on (g' := (mkF m 79 _ [(.int (11 : Int32)), (.ref o1), (.ref o1)])) (fun t_ k_ => XS.bipush X23.here hx rfl (hb hby at_77) k_) ?_
  obtain ⟨T24, X24, e24, st24⟩ := getS (host := "") X23 hx hZ hown (hw _ (List.mem_of_getElem? (i := 26) rfl)) Via.refl e23 own_K_23.s11 (g := (mkF m 79 #[.val (.int p0), .unset, .unset, .unset] [(.int (11 : Int32)), (.ref o1), (.ref o1)])) rfl (hb hby at_79)
  refine Go.on (g' := (mkF m 82 _ [(.ref a11), (.int (11 : Int32)), (.ref o1), (.ref o1)])) (st24) ?_
  obtain ⟨T25, h25, X25, e25, W25, st25⟩ := stR X24 hx hZ e24 A23 (j := (11 : Int32)) (by simp only [sz_set, sz_new]; decide) rfl (Sto.of A23 O1 (Ins.self own_K_23.e11)) (g := (mkF m 82 #[.val (.int p0), .unset, .unset, .unset] [(.ref a11), (.int (11 : Int32)), (.ref o1), (.ref o1)])) rfl rfl (hb hby at_82)
  have N25 := Fr.snoc X25 N23 no1
  have Z25 : n0 ≤ h25.size := by rw [W25.size]; exact Z23
  have own_K_25 := own_K_23.new W25 no1 m0 m1 m2 m3 m4 m5 m6 m7 m8 m9 m10 m11 m12
  have A25 := A23.same W25
  refine Go.on (g' := (mkF m 83 _ [(.ref o1)])) (st25) ?_
  refine Go.on (g' := (mkF m 84 _ [(.ref o1), (.ref o1)])) (fun t_ k_ => XS.dup X25.here hx rfl (hb hby at_83) rfl rfl k_) ?_
  refine Go.on (g' := (mkF m 86 _ [(.int (12 : Int32)), (.ref o1), (.ref o1)])) (fun t_ k_ => XS.bipush X25.here hx rfl (hb hby at_84) k_) ?_
  obtain ⟨T26, X26, e26, st26⟩ := getS (host := "") X25 hx hZ hown (hw _ (List.mem_of_getElem? (i := 28) rfl)) Via.refl e25 own_K_25.s12 (g := (mkF m 86 #[.val (.int p0), .unset, .unset, .unset] [(.int (12 : Int32)), (.ref o1), (.ref o1)])) rfl (hb hby at_86)
  refine Go.on (g' := (mkF m 89 _ [(.ref a12), (.int (12 : Int32)), (.ref o1), (.ref o1)])) (st26) ?_
  obtain ⟨T27, h27, X27, e27, W27, st27⟩ := stR X26 hx hZ e26 A25 (j := (12 : Int32)) (by simp only [sz_set, sz_new]; decide) rfl (Sto.of A25 O1 (Ins.self own_K_25.e12)) (g := (mkF m 89 #[.val (.int p0), .unset, .unset, .unset] [(.ref a12), (.int (12 : Int32)), (.ref o1), (.ref o1)])) rfl rfl (hb hby at_89)
  have N27 := Fr.snoc X27 N25 no1
  have Z27 : n0 ≤ h27.size := by rw [W27.size]; exact Z25
  have own_K_27 := own_K_25.new W27 no1 m0 m1 m2 m3 m4 m5 m6 m7 m8 m9 m10 m11 m12
  have A27 := A25.same W27
  refine Go.on (g' := (mkF m 90 _ [(.ref o1)])) (st27) ?_
  refine Go.on (g' := (mkF m 91 #[.val (.int p0), .val (.ref o1), .unset, .unset] [])) (fun t_ k_ => XS.astoreN X27.here hx rfl (hb hby at_90) rfl rfl (l' := #[.val (.int p0), .val (.ref o1), .unset, .unset]) rfl k_) ?_
  refine Go.on (g' := (mkF m 92 _ [(.int p0)])) (fun t_ k_ => XS.iloadN X27.here hx rfl (hb hby at_91) rfl k_) ?_
  refine Go.on (g' := (mkF m 94 _ [(.int (2147483647 : Int32)), (.int p0)])) (X27.ldcInt hx hown (mvT hZ (hw _ (List.mem_of_getElem? (i := 30) rfl))) (g := (mkF m 92 #[.val (.int p0), .val (.ref o1), .unset, .unset] [(.int p0)])) rfl (hb hby at_92)) ?_
  refine Go.on (g' := (mkF m 95 _ [(.int (p0 &&& (2147483647 : Int32)))])) (fun t_ k_ => XS.iand X27.here hx rfl (hb hby at_94) rfl k_) ?_
  refine Go.on (g' := (mkF m 97 _ [(.int (13 : Int32)), (.int (p0 &&& (2147483647 : Int32)))])) (fun t_ k_ => XS.bipush X27.here hx rfl (hb hby at_95) k_) ?_
  refine Go.on (g' := (mkF m 98 _ [(.int ((p0 &&& (2147483647 : Int32)) % (13 : Int32)))])) (fun t_ k_ => iremM X27 hx rfl (hb hby at_97) rfl (by decide) k_) ?_
  refine Go.on (g' := (mkF m 99 #[.val (.int p0), .val (.ref o1), .val (.int ((p0 &&& (2147483647 : Int32)) % (13 : Int32))), .unset] [])) (fun t_ k_ => XS.istoreN X27.here hx rfl (hb hby at_98) rfl (l' := #[.val (.int p0), .val (.ref o1), .val (.int ((p0 &&& (2147483647 : Int32)) % (13 : Int32))), .unset]) rfl k_) ?_
  obtain ⟨kk, hkk⟩ : ∃ z : Int32, z = ((p0 &&& (2147483647 : Int32)) % (13 : Int32)) := ⟨_, rfl⟩
  rw [← hkk]
  have hr := own_range p0
  rw [← hkk] at hr
  refine Go.on (g' := (mkF m 100 _ [(.int kk)])) (fun t_ k_ => XS.iloadN X27.here hx rfl (hb hby at_99) rfl k_) ?_
  refine Go.on (g' := (mkF m 101 _ [(.int (2 : Int32)), (.int kk)])) (fun t_ k_ => XS.iconst X27.here hx rfl (hb hby at_100) k_) ?_
  refine Go.icmp X27 hx hby at_101 (pcT := 114) (pcF := 104) (by decide) (by decide) rfl (fun q => ?_) (fun q => ?_)
  · have q1 := iLt.1 q
    clear q
    show Go p e below _ _ (mkF m 114 _ [])
    refine Go.on (g' := (mkF m 115 _ [(.int (0 : Int32))])) (fun t_ k_ => XS.iconst X27.here hx rfl (hb hby at_114) k_) ?_
    refine Go.on (g' := (mkF m 116 #[.val (.int p0), .val (.ref o1), .val (.int kk), .val (.int (0 : Int32))] [])) (fun t_ k_ => XS.istoreN X27.here hx rfl (hb hby at_115) rfl (l' := #[.val (.int p0), .val (.ref o1), .val (.int kk), .val (.int (0 : Int32))]) rfl k_) ?_
    refine Go.on (g' := (mkF m 117 _ [(.ref o1)])) (fun t_ k_ => XS.aloadN X27.here hx rfl (hb hby at_116) rfl rfl k_) ?_
    refine Go.on (g' := (mkF m 118 _ [(.int kk), (.ref o1)])) (fun t_ k_ => XS.iloadN X27.here hx rfl (hb hby at_117) rfl k_) ?_
    refine Go.on (g' := (mkF m 119 _ [(.ref (own_pick kk a0 a1 a2 a3 a4 a5 a6 a7 a8 a9 a10 a11 a12))])) (X27.aaload hx (j := kk) (v := (.ref (own_pick kk a0 a1 a2 a3 a4 a5 a6 a7 a8 a9 a10 a11 a12))) (by rw [e27]; exact A27.1) (State.isArrayOf_alike hZ.alike A27.2.1) rfl A27.2.2 (own_in _ a0 a1 a2 a3 a4 a5 a6 a7 a8 a9 a10 a11 a12 kk hr) (own_at _ a0 a1 a2 a3 a4 a5 a6 a7 a8 a9 a10 a11 a12 kk hr) (g := (mkF m 118 #[.val (.int p0), .val (.ref o1), .val (.int kk), .val (.int (0 : Int32))] [(.int kk), (.ref o1)])) rfl rfl (hb hby at_118)) ?_
    refine Go.callV X27 hx hZ hby (by rw [hml]; rfl) (C := "com/example/liblocpath/liblocpath/expression/Operator") (y := (⟨"com/example/liblocpath/liblocpath/expression/Operator", "comparesNodeSets", "()Z"⟩ : MethodName)) hown (hw _ (List.mem_of_getElem? (i := 31) rfl)) (hw _ (List.mem_of_getElem? (i := 32) rfl)) (hw _ (List.mem_of_getElem? (i := 34) rfl)) (hw _ (List.mem_of_getElem? (i := 33) rfl)) (hw _ (List.mem_of_getElem? (i := 35) rfl)) (hw _ (List.mem_of_getElem? (i := 3) rfl)) (by decide) (b := (own_pick kk a0 a1 a2 a3 a4 a5 a6 a7 a8 a9 a10 a11 a12)) (argsL := []) (rest := []) (rmE l Z w0 hw [] (own_pick kk a0 a1 a2 a3 a4 a5 a6 a7 a8 a9 a10 a11 a12) (own_prec kk) a0 a1 a2 a3 a4 a5 a6 a7 a8 a9 a10 a11 a12 h27 own_K_27 (own_prec_f kk own_K_27 hr)) e27 (own_pick_e kk own_K_27 hr) 0 (by decide) (by decide) (by decide) (by decide) rfl pdE rfl (Nat.le_of_eq rfl) at_119 (pcF := 122) rfl ?_
    intro v28 T28 L28 X28 hQ28
    obtain ⟨rfl, rfl, e28⟩ := hQ28
    rw [List.append_nil] at X28
    show Go p e below _ _ (mkF m 122 _ [(.int (own_end (own_prec kk)))])
    refine Go.on (g' := (mkF m 123 _ [(.int (0 : Int32)), (.int (own_end (own_prec kk)))])) (fun t_ k_ => XS.iloadN X28.here hx rfl (hb hby at_122) rfl k_) ?_
    refine Go.icmp X28 hx hby at_123 (pcT := 130) (pcF := 126) (by decide) (by decide) rfl (fun q => absurd q (fun q => (iNe.1 q) ((own_law kk hr).trans (by rw [if_pos q1])))) (fun q => ?_)
    clear q
    show Go p e below _ _ (mkF m 126 _ [])
    refine Go.on (g' := (mkF m 127 _ [(.int (1 : Int32))])) (fun t_ k_ => XS.iconst X28.here hx rfl (hb hby at_126) k_) ?_
    refine Go.on (g' := (mkF m 131 _ [(.int (1 : Int32))])) (fun t_ k_ => XS.goto X28.here hx rfl (pc0 := 127) (pc' := 131) rfl (hb hby at_127) (by decide) (by decide) k_) ?_
    exact Go.retI X28 hx hlk hret hby at_131 rfl (by simp) (by decide) (by decide) ⟨rfl, N27⟩
  · have q1 := iLt.2 q
    clear q
    show Go p e below _ _ (mkF m 104 _ [])
    refine Go.on (g' := (mkF m 105 _ [(.int kk)])) (fun t_ k_ => XS.iloadN X27.here hx rfl (hb hby at_104) rfl k_) ?_
    refine Go.on (g' := (mkF m 107 _ [(.int (7 : Int32)), (.int kk)])) (fun t_ k_ => XS.bipush X27.here hx rfl (hb hby at_105) k_) ?_
    refine Go.icmp X27 hx hby at_107 (pcT := 114) (pcF := 110) (by decide) (by decide) rfl (fun q => ?_) (fun q => ?_)
    · have q2 := iGt.1 q
      clear q
      show Go p e below _ _ (mkF m 114 _ [])
      refine Go.on (g' := (mkF m 115 _ [(.int (0 : Int32))])) (fun t_ k_ => XS.iconst X27.here hx rfl (hb hby at_114) k_) ?_
      refine Go.on (g' := (mkF m 116 #[.val (.int p0), .val (.ref o1), .val (.int kk), .val (.int (0 : Int32))] [])) (fun t_ k_ => XS.istoreN X27.here hx rfl (hb hby at_115) rfl (l' := #[.val (.int p0), .val (.ref o1), .val (.int kk), .val (.int (0 : Int32))]) rfl k_) ?_
      refine Go.on (g' := (mkF m 117 _ [(.ref o1)])) (fun t_ k_ => XS.aloadN X27.here hx rfl (hb hby at_116) rfl rfl k_) ?_
      refine Go.on (g' := (mkF m 118 _ [(.int kk), (.ref o1)])) (fun t_ k_ => XS.iloadN X27.here hx rfl (hb hby at_117) rfl k_) ?_
      refine Go.on (g' := (mkF m 119 _ [(.ref (own_pick kk a0 a1 a2 a3 a4 a5 a6 a7 a8 a9 a10 a11 a12))])) (X27.aaload hx (j := kk) (v := (.ref (own_pick kk a0 a1 a2 a3 a4 a5 a6 a7 a8 a9 a10 a11 a12))) (by rw [e27]; exact A27.1) (State.isArrayOf_alike hZ.alike A27.2.1) rfl A27.2.2 (own_in _ a0 a1 a2 a3 a4 a5 a6 a7 a8 a9 a10 a11 a12 kk hr) (own_at _ a0 a1 a2 a3 a4 a5 a6 a7 a8 a9 a10 a11 a12 kk hr) (g := (mkF m 118 #[.val (.int p0), .val (.ref o1), .val (.int kk), .val (.int (0 : Int32))] [(.int kk), (.ref o1)])) rfl rfl (hb hby at_118)) ?_
      refine Go.callV X27 hx hZ hby (by rw [hml]; rfl) (C := "com/example/liblocpath/liblocpath/expression/Operator") (y := (⟨"com/example/liblocpath/liblocpath/expression/Operator", "comparesNodeSets", "()Z"⟩ : MethodName)) hown (hw _ (List.mem_of_getElem? (i := 31) rfl)) (hw _ (List.mem_of_getElem? (i := 32) rfl)) (hw _ (List.mem_of_getElem? (i := 34) rfl)) (hw _ (List.mem_of_getElem? (i := 33) rfl)) (hw _ (List.mem_of_getElem? (i := 35) rfl)) (hw _ (List.mem_of_getElem? (i := 3) rfl)) (by decide) (b := (own_pick kk a0 a1 a2 a3 a4 a5 a6 a7 a8 a9 a10 a11 a12)) (argsL := []) (rest := []) (rmE l Z w0 hw [] (own_pick kk a0 a1 a2 a3 a4 a5 a6 a7 a8 a9 a10 a11 a12) (own_prec kk) a0 a1 a2 a3 a4 a5 a6 a7 a8 a9 a10 a11 a12 h27 own_K_27 (own_prec_f kk own_K_27 hr)) e27 (own_pick_e kk own_K_27 hr) 0 (by decide) (by decide) (by decide) (by decide) rfl pdE rfl (Nat.le_of_eq rfl) at_119 (pcF := 122) rfl ?_
      intro v29 T29 L29 X29 hQ29
      obtain ⟨rfl, rfl, e29⟩ := hQ29
      rw [List.append_nil] at X29
      show Go p e below _ _ (mkF m 122 _ [(.int (own_end (own_prec kk)))])
      refine Go.on (g' := (mkF m 123 _ [(.int (0 : Int32)), (.int (own_end (own_prec kk)))])) (fun t_ k_ => XS.iloadN X29.here hx rfl (hb hby at_122) rfl k_) ?_
      refine Go.icmp X29 hx hby at_123 (pcT := 130) (pcF := 126) (by decide) (by decide) rfl (fun q => absurd q (fun q => (iNe.1 q) ((own_law kk hr).trans (by rw [if_neg q1, if_pos q2])))) (fun q => ?_)
      clear q
      show Go p e below _ _ (mkF m 126 _ [])
      refine Go.on (g' := (mkF m 127 _ [(.int (1 : Int32))])) (fun t_ k_ => XS.iconst X29.here hx rfl (hb hby at_126) k_) ?_
      refine Go.on (g' := (mkF m 131 _ [(.int (1 : Int32))])) (fun t_ k_ => XS.goto X29.here hx rfl (pc0 := 127) (pc' := 131) rfl (hb hby at_127) (by decide) (by decide) k_) ?_
      exact Go.retI X29 hx hlk hret hby at_131 rfl (by simp) (by decide) (by decide) ⟨rfl, N27⟩
    · have q2 := iGt.2 q
      clear q
      show Go p e below _ _ (mkF m 110 _ [])
      refine Go.on (g' := (mkF m 111 _ [(.int (1 : Int32))])) (fun t_ k_ => XS.iconst X27.here hx rfl (hb hby at_110) k_) ?_
      refine Go.on (g' := (mkF m 115 _ [(.int (1 : Int32))])) (fun t_ k_ => XS.goto X27.here hx rfl (pc0 := 111) (pc' := 115) rfl (hb hby at_111) (by decide) (by decide) k_) ?_
      refine Go.on (g' := (mkF m 116 #[.val (.int p0), .val (.ref o1), .val (.int kk), .val (.int (1 : Int32))] [])) (fun t_ k_ => XS.istoreN X27.here hx rfl (hb hby at_115) rfl (l' := #[.val (.int p0), .val (.ref o1), .val (.int kk), .val (.int (1 : Int32))]) rfl k_) ?_
      refine Go.on (g' := (mkF m 117 _ [(.ref o1)])) (fun t_ k_ => XS.aloadN X27.here hx rfl (hb hby at_116) rfl rfl k_) ?_
      refine Go.on (g' := (mkF m 118 _ [(.int kk), (.ref o1)])) (fun t_ k_ => XS.iloadN X27.here hx rfl (hb hby at_117) rfl k_) ?_
      refine Go.on (g' := (mkF m 119 _ [(.ref (own_pick kk a0 a1 a2 a3 a4 a5 a6 a7 a8 a9 a10 a11 a12))])) (X27.aaload hx (j := kk) (v := (.ref (own_pick kk a0 a1 a2 a3 a4 a5 a6 a7 a8 a9 a10 a11 a12))) (by rw [e27]; exact A27.1) (State.isArrayOf_alike hZ.alike A27.2.1) rfl A27.2.2 (own_in _ a0 a1 a2 a3 a4 a5 a6 a7 a8 a9 a10 a11 a12 kk hr) (own_at _ a0 a1 a2 a3 a4 a5 a6 a7 a8 a9 a10 a11 a12 kk hr) (g := (mkF m 118 #[.val (.int p0), .val (.ref o1), .val (.int kk), .val (.int (1 : Int32))] [(.int kk), (.ref o1)])) rfl rfl (hb hby at_118)) ?_
      refine Go.callV X27 hx hZ hby (by rw [hml]; rfl) (C := "com/example/liblocpath/liblocpath/expression/Operator") (y := (⟨"com/example/liblocpath/liblocpath/expression/Operator", "comparesNodeSets", "()Z"⟩ : MethodName)) hown (hw _ (List.mem_of_getElem? (i := 31) rfl)) (hw _ (List.mem_of_getElem? (i := 32) rfl)) (hw _ (List.mem_of_getElem? (i := 34) rfl)) (hw _ (List.mem_of_getElem? (i := 33) rfl)) (hw _ (List.mem_of_getElem? (i := 35) rfl)) (hw _ (List.mem_of_getElem? (i := 3) rfl)) (by decide) (b := (own_pick kk a0 a1 a2 a3 a4 a5 a6 a7 a8 a9 a10 a11 a12)) (argsL := []) (rest := []) (rmE l Z w0 hw [] (own_pick kk a0 a1 a2 a3 a4 a5 a6 a7 a8 a9 a10 a11 a12) (own_prec kk) a0 a1 a2 a3 a4 a5 a6 a7 a8 a9 a10 a11 a12 h27 own_K_27 (own_prec_f kk own_K_27 hr)) e27 (own_pick_e kk own_K_27 hr) 0 (by decide) (by decide) (by decide) (by decide) rfl pdE rfl (Nat.le_of_eq rfl) at_119 (pcF := 122) rfl ?_
      intro v30 T30 L30 X30 hQ30
      obtain ⟨rfl, rfl, e30⟩ := hQ30
      rw [List.append_nil] at X30
      show Go p e below _ _ (mkF m 122 _ [(.int (own_end (own_prec kk)))])
      refine Go.on (g' := (mkF m 123 _ [(.int (1 : Int32)), (.int (own_end (own_prec kk)))])) (fun t_ k_ => XS.iloadN X30.here hx rfl (hb hby at_122) rfl k_) ?_
      refine Go.icmp X30 hx hby at_123 (pcT := 130) (pcF := 126) (by decide) (by decide) rfl (fun q => absurd q (fun q => (iNe.1 q) ((own_law kk hr).trans (by rw [if_neg q1, if_neg q2])))) (fun q => ?_)
      clear q
      show Go p e below _ _ (mkF m 126 _ [])
      refine Go.on (g' := (mkF m 127 _ [(.int (1 : Int32))])) (fun t_ k_ => XS.iconst X30.here hx rfl (hb hby at_126) k_) ?_
      refine Go.on (g' := (mkF m 131 _ [(.int (1 : Int32))])) (fun t_ k_ => XS.goto X30.here hx rfl (pc0 := 127) (pc' := 131) rfl (hb hby at_127) (by decide) (by decide) k_) ?_
      exact Go.retI X30 hx hlk hret hby at_131 rfl (by simp) (by decide) (by decide) ⟨rfl, N27⟩
set_option maxRecDepth 65536 in
set_option maxHeartbeats 40000000 in
theorem comes_1 {Post : Tables → Env → Array Value → State → Outcome → State → Prop} (hpost : ∀ tb e args s v u, (limb_1_1.after args s (.returned v) u = true ∧ limb_1_2.after args s (.returned v) u = true ∧ True) → FrameEnd s (.returned v) u (Jvm.fieldLocs frame_1_writes args s ++ Jvm.arrayLocs frame_1_arrays args s ++ Jvm.staticLocs frame_1_statics s) 16 128 → Post tb e args s (.returned v) u) :
    ArmFor flags0 classFile x code maxLocals ret World_1 tables_1 room_1 Calls_1 rest_1 Pre_1 Post := by
  intro l hfl _ _ p e ha hc hk s m args below hf hA hF happ hP
  obtain ⟨hcalls, hrest, hpre⟩ := hP
  obtain ⟨-, -, -, hnamed, -, -, -, hat⟩ := (Spec.applies_iff hf).mp happ
  obtain ⟨hg, hn⟩ := and_e (Cond.before_iff.mp (show (Jvm.Cond.and given_1 narrow_1).before args s = true from hpre))
  obtain ⟨hcount, hg⟩ := and_e hg
  have g0 := hg
  obtain ⟨w0, rfl⟩ : ∃ w0 : Value, args = #[w0] := by
    have hs : args.size = 1 := by simpa [Cond.value, given_1] using hcount
    obtain ⟨L⟩ := args
    match L, hs with
    | [w0], _ => exact ⟨w0, rfl⟩
  have hw := fun d (hd : d ∈ tables_1) => atoms_spec (ws := Jvm.Cond.code x code maxLocals ret :: tables_1) hat d (List.mem_cons_of_mem _ hd)
  have hfit : Fit s := fun {y c} hc i hi => by
    obtain ⟨ha, rfl⟩ := Array.getElem?_eq_some_iff.mp hc
    have q := List.all_eq_true.mp ((Array.all_eq_true_iff_forall_mem.mp hF) _ (Array.getElem_mem ha)) i (List.mem_range.mpr hi)
    simpa [Array.getElem?_eq_getElem hi] using q
  obtain ⟨i0, ev0⟩ := is_v g0
  obtain rfl : w0 = (.int i0) := Option.some.inj ev0
  obtain ⟨z0, hn⟩ := and_e hn
  obtain ⟨z1, hn⟩ := and_e hn
  obtain ⟨z2, hn⟩ := and_e hn
  obtain ⟨z3, hn⟩ := and_e hn
  obtain ⟨z4, hn⟩ := and_e hn
  obtain ⟨z5, hn⟩ := and_e hn
  obtain ⟨z6, hn⟩ := and_e hn
  obtain ⟨z7, hn⟩ := and_e hn
  obtain ⟨z8, hn⟩ := and_e hn
  obtain ⟨z9, hn⟩ := and_e hn
  obtain ⟨z10, hn⟩ := and_e hn
  obtain ⟨z11, hn⟩ := and_e hn
  obtain ⟨z12, hn⟩ := and_e hn
  obtain ⟨z13, hn⟩ := and_e hn
  obtain ⟨z14, hn⟩ := and_e hn
  obtain ⟨z15, hn⟩ := and_e hn
  obtain ⟨z16, hn⟩ := and_e hn
  obtain ⟨z17, hn⟩ := and_e hn
  obtain ⟨z18, hn⟩ := and_e hn
  obtain ⟨z19, hn⟩ := and_e hn
  obtain ⟨z20, hn⟩ := and_e hn
  obtain ⟨z21, hn⟩ := and_e hn
  obtain ⟨z22, hn⟩ := and_e hn
  obtain ⟨z23, hn⟩ := and_e hn
  obtain ⟨z24, hn⟩ := and_e hn
  have z25 := hn
  obtain ⟨a0, va0⟩ := exa_v z0
  have Sa0 := Sta.start va0 (Or.inr ⟨(hw _ (List.mem_of_getElem? (i := 3) rfl)), (hw _ (List.mem_of_getElem? (i := 4) rfl))⟩)
  have Ea0 := Exa.start va0 z0
  have Oa0 := fldInt va0 z13
  obtain ⟨a1, va1⟩ := exa_v z1
  have Sa1 := Sta.start va1 (Or.inr ⟨(hw _ (List.mem_of_getElem? (i := 3) rfl)), (hw _ (List.mem_of_getElem? (i := 7) rfl))⟩)
  have Ea1 := Exa.start va1 z1
  have Oa1 := fldInt va1 z22
  obtain ⟨a2, va2⟩ := exa_v z2
  have Sa2 := Sta.start va2 (Or.inr ⟨(hw _ (List.mem_of_getElem? (i := 3) rfl)), (hw _ (List.mem_of_getElem? (i := 9) rfl))⟩)
  have Ea2 := Exa.start va2 z2
  have Oa2 := fldInt va2 z14
  obtain ⟨a3, va3⟩ := exa_v z3
  have Sa3 := Sta.start va3 (Or.inr ⟨(hw _ (List.mem_of_getElem? (i := 3) rfl)), (hw _ (List.mem_of_getElem? (i := 11) rfl))⟩)
  have Ea3 := Exa.start va3 z3
  have Oa3 := fldInt va3 z16
  obtain ⟨a4, va4⟩ := exa_v z4
  have Sa4 := Sta.start va4 (Or.inr ⟨(hw _ (List.mem_of_getElem? (i := 3) rfl)), (hw _ (List.mem_of_getElem? (i := 13) rfl))⟩)
  have Ea4 := Exa.start va4 z4
  have Oa4 := fldInt va4 z15
  obtain ⟨a5, va5⟩ := exa_v z5
  have Sa5 := Sta.start va5 (Or.inr ⟨(hw _ (List.mem_of_getElem? (i := 3) rfl)), (hw _ (List.mem_of_getElem? (i := 15) rfl))⟩)
  have Ea5 := Exa.start va5 z5
  have Oa5 := fldInt va5 z18
  obtain ⟨a6, va6⟩ := exa_v z6
  have Sa6 := Sta.start va6 (Or.inr ⟨(hw _ (List.mem_of_getElem? (i := 3) rfl)), (hw _ (List.mem_of_getElem? (i := 17) rfl))⟩)
  have Ea6 := Exa.start va6 z6
  have Oa6 := fldInt va6 z17
  obtain ⟨a7, va7⟩ := exa_v z7
  have Sa7 := Sta.start va7 (Or.inr ⟨(hw _ (List.mem_of_getElem? (i := 3) rfl)), (hw _ (List.mem_of_getElem? (i := 19) rfl))⟩)
  have Ea7 := Exa.start va7 z7
  have Oa7 := fldInt va7 z19
  obtain ⟨a8, va8⟩ := exa_v z8
  have Sa8 := Sta.start va8 (Or.inr ⟨(hw _ (List.mem_of_getElem? (i := 3) rfl)), (hw _ (List.mem_of_getElem? (i := 21) rfl))⟩)
  have Ea8 := Exa.start va8 z8
  have Oa8 := fldInt va8 z23
  obtain ⟨a9, va9⟩ := exa_v z9
  have Sa9 := Sta.start va9 (Or.inr ⟨(hw _ (List.mem_of_getElem? (i := 3) rfl)), (hw _ (List.mem_of_getElem? (i := 23) rfl))⟩)
  have Ea9 := Exa.start va9 z9
  have Oa9 := fldInt va9 z20
  obtain ⟨a10, va10⟩ := exa_v z10
  have Sa10 := Sta.start va10 (Or.inr ⟨(hw _ (List.mem_of_getElem? (i := 3) rfl)), (hw _ (List.mem_of_getElem? (i := 25) rfl))⟩)
  have Ea10 := Exa.start va10 z10
  have Oa10 := fldInt va10 z24
  obtain ⟨a11, va11⟩ := exa_v z11
  have Sa11 := Sta.start va11 (Or.inr ⟨(hw _ (List.mem_of_getElem? (i := 3) rfl)), (hw _ (List.mem_of_getElem? (i := 27) rfl))⟩)
  have Ea11 := Exa.start va11 z11
  have Oa11 := fldInt va11 z21
  obtain ⟨a12, va12⟩ := exa_v z12
  have Sa12 := Sta.start va12 (Or.inr ⟨(hw _ (List.mem_of_getElem? (i := 3) rfl)), (hw _ (List.mem_of_getElem? (i := 29) rfl))⟩)
  have Ea12 := Exa.start va12 z12
  have Oa12 := fldInt va12 z25
  have K : own_K s s.heap a0 a1 a2 a3 a4 a5 a6 a7 a8 a9 a10 a11 a12 := ⟨⟨Sa0, Ea0, Oa0⟩, ⟨Sa1, Ea1, Oa1⟩, ⟨Sa2, Ea2, Oa2⟩, ⟨Sa3, Ea3, Oa3⟩, ⟨Sa4, Ea4, Oa4⟩, ⟨Sa5, Ea5, Oa5⟩, ⟨Sa6, Ea6, Oa6⟩, ⟨Sa7, Ea7, Oa7⟩, ⟨Sa8, Ea8, Oa8⟩, ⟨Sa9, Ea9, Oa9⟩, ⟨Sa10, Ea10, Oa10⟩, ⟨Sa11, Ea11, Oa11⟩, ⟨Sa12, Ea12, Oa12⟩⟩
  obtain ⟨n, o, h1, h2, h3, _, L, rfl, ⟨rfl, N⟩, hq⟩ := rmLaw l s _ hw tables_1 i0 s.heap s.heap.size (Nat.le_refl _) a0 a1 a2 a3 a4 a5 a6 a7 a8 a9 a10 a11 a12 K K.e0.lt K.e1.lt K.e2.lt K.e3.lt K.e4.lt K.e5.lt K.e6.lt K.e7.lt K.e8.lt K.e9.lt K.e10.lt K.e11.lt K.e12.lt p e ha hc hk s m _ below hf ((Spec.applies_iff_loose hf).mp happ).1 ⟨rfl, State.Warmed39.refl s, rfl⟩ trivial
  refine ⟨n, _, h1, h2, h3, hpost _ _ _ _ _ _ ⟨Cond.after_iff.mpr rfl, Cond.after_iff.mpr (eq_i res_at (Term.int_eval (1)) rfl), trivial⟩ ⟨hq.1, hq.2.1, (hq.2.2.sift fun y hy => Or.inr (N y hy)).mono (by decide) (by decide)⟩⟩
theorem main_1_1 : Claimed_1_1 := comes_1 fun _ _ _ _ _ _ h hF => ⟨h.1, hF⟩
theorem main_1_2 : Claimed_1_2 := comes_1 fun _ _ _ _ _ _ h hF => ⟨h.2.1, hF⟩

end Jvm.Pilot.@@N@@
namespace Jvm.Pilot.@@N@@
open Jvm Jvm.ClassFile Sem Op Lib Jvm.Free Jvm.Stand Jvm.Pilot.@@N@@.Jvm.D
/-! MADE BY PROGRAM (witnessworld.py) out of the Statement's table words and the real class files: 13 classes; the members and pool entries that the words name. The judged class is class 1, her method 1. -/
namespace start1
open Jvm.ClassFile
def u (s : String) : CpInfo := .utf8 (stringToUtf16 s)
/-- a pool by its gaps: so many unusable entries, then the entry; so many at the end -/
def gap : Nat → List CpInfo → List CpInfo
  | 0, r => r
  | n + 1, r => .unusable :: gap n r
def poolList (es : List (Nat × CpInfo)) (last : Nat) : List CpInfo := es.foldr (fun e r => gap e.1 (e.2 :: r)) (gap last [])
def pool (es : List (Nat × CpInfo)) (last : Nat) : Array CpInfo := ⟨poolList es last⟩
def fileOf (pool : Array CpInfo) (this : Nat) (attrs : Array Attribute := #[]) (ms : Array MethodInfo := #[]) (fl : Nat := 33) (sup : Nat := 0) (ifs : Array Nat := #[]) (fds : Array FieldInfo := #[]) : ClassFile where
  minorVersion := 0
  majorVersion := 65
  constantPool := pool
  accessFlags := fl
  thisClass := this
  superClass := sup
  interfaces := ifs
  fields := fds
  methods := ms
  attributes := attrs
def plain (name : String) (sup : Option ClassId) : Class where
  name := name
  kind := .ordinary
  loader := none
  accessFlags := 33
  super := sup
  interfaces := #[]
  cf := none
  fields := #[]
  methods := #[]
  instanceTypes := #[]
  staticTypes := #[]
  resolved := #[]
  callSites := []
  init := .initialized
  statics := none
  mirror := none

def pool0 : Array CpInfo := pool [(5, u "<init>"), (0, u "()V"), (1, .class_ 10), (1, u "java/lang/Object")] 113

def k0m0 : Method := { name := "<init>", desc := "()V", sig := { parameters := [], returnType := none }, accessFlags := 1, code := none }
/-- java/lang/Object -/
def k0 : Class := { plain "java/lang/Object" none with
  accessFlags := 33
  interfaces := #[]
  cf := some (fileOf pool0 8 #[] #[{ accessFlags := 1, nameIndex := 5, descriptorIndex := 6, attributes := #[] }] 33 0 #[] #[])
  fields := #[]
  methods := #[k0m0]
  instanceTypes := #[]
  staticTypes := #[]
  resolved := Array.replicate 124 none
  statics := none }

def pool1 : Array CpInfo := pool [(2, .class_ 4), (1, u "java/lang/Object"), (0, u "<init>"), (0, u "()V"), (0, .class_ 8), (0, u "com/example/liblocpath/liblocpath/expression/Operator"), (0, .fieldref 7 10), (0, .nameAndType 11 12), (0, u "OR"), (0, u "Lcom/example/liblocpath/liblocpath/expression/Operator;"), (0, .fieldref 7 14), (0, .nameAndType 15 12), (0, u "AND"), (0, .fieldref 7 17), (0, .nameAndType 18 12), (0, u "EQUALS"), (0, .fieldref 7 20), (0, .nameAndType 21 12), (0, u "NOT_EQUALS"), (0, .fieldref 7 23), (0, .nameAndType 24 12), (0, u "LESS"), (0, .fieldref 7 26), (0, .nameAndType 27 12), (0, u "LESS_OR_EQUAL"), (0, .fieldref 7 29), (0, .nameAndType 30 12), (0, u "GREATER"), (0, .fieldref 7 32), (0, .nameAndType 33 12), (0, u "GREATER_OR_EQUAL"), (0, .fieldref 7 35), (0, .nameAndType 36 12), (0, u "PLUS"), (0, .fieldref 7 38), (0, .nameAndType 39 12), (0, u "MINUS"), (0, .fieldref 7 41), (0, .nameAndType 42 12), (0, u "MULTIPLY"), (0, .fieldref 7 44), (0, .nameAndType 45 12), (0, u "DIV"), (0, .fieldref 7 47), (0, .nameAndType 48 12), (0, u "MOD"), (0, .integer 2147483647), (0, .methodref 7 51), (0, .nameAndType 52 53), (0, u "comparesNodeSets"), (0, u "()Z"), (0, .class_ 55), (0, u "com/example/liblocpath/liblocpath/expression/OperatorComparesNodeSetsPinLaw"), (2, u "law"), (0, u "(I)Z")] 5

def k1m0 : Method := { name := "<init>", desc := "()V", sig := { parameters := [], returnType := none }, accessFlags := 2, code := none }
def k1c1 : Code := { maxStack := 4, maxLocals := 4, code := code, exceptionTable := #[], attributes := #[] }
def k1m1 : Method := { name := "law", desc := "(I)Z", sig := { parameters := [.int], returnType := some .boolean }, accessFlags := 9, code := some k1c1 }
/-- com/example/liblocpath/liblocpath/expression/OperatorComparesNodeSetsPinLaw -/
def k1 : Class := { plain "com/example/liblocpath/liblocpath/expression/OperatorComparesNodeSetsPinLaw" (some 0) with
  accessFlags := 49
  interfaces := #[]
  cf := some (fileOf pool1 54 #[] #[{ accessFlags := 2, nameIndex := 5, descriptorIndex := 6, attributes := #[] }, { accessFlags := 9, nameIndex := 58, descriptorIndex := 59, attributes := #[] }] 49 2 #[] #[])
  fields := #[]
  methods := #[k1m0, k1m1]
  instanceTypes := #[]
  staticTypes := #[]
  resolved := Array.replicate 65 none
  statics := none }

def pool2 : Array CpInfo := pool [(1, .class_ 2), (0, u "java/lang/constant/Constable"), (0, .class_ 4), (0, u "java/lang/Object")] 6

/-- java/lang/constant/Constable -/
def k2 : Class := { plain "java/lang/constant/Constable" (some 0) with
  accessFlags := 1537
  interfaces := #[]
  cf := some (fileOf pool2 1 #[] #[] 1537 3 #[] #[])
  fields := #[]
  methods := #[]
  instanceTypes := #[]
  staticTypes := #[]
  resolved := Array.replicate 11 none
  statics := none }

def pool3 : Array CpInfo := pool [(1, .class_ 2), (0, u "java/lang/Comparable"), (0, .class_ 4), (0, u "java/lang/Object")] 7

/-- java/lang/Comparable -/
def k3 : Class := { plain "java/lang/Comparable" (some 0) with
  accessFlags := 1537
  interfaces := #[]
  cf := some (fileOf pool3 1 #[] #[] 1537 3 #[] #[])
  fields := #[]
  methods := #[]
  instanceTypes := #[]
  staticTypes := #[]
  resolved := Array.replicate 12 none
  statics := none }

def pool4 : Array CpInfo := pool [(1, .class_ 2), (0, u "java/io/Serializable"), (0, .class_ 4), (0, u "java/lang/Object")] 2

/-- java/io/Serializable -/
def k4 : Class := { plain "java/io/Serializable" (some 0) with
  accessFlags := 1537
  interfaces := #[]
  cf := some (fileOf pool4 1 #[] #[] 1537 3 #[] #[])
  fields := #[]
  methods := #[]
  instanceTypes := #[]
  staticTypes := #[]
  resolved := Array.replicate 7 none
  statics := none }

def pool5 : Array CpInfo := pool [(2, .class_ 4), (1, u "java/lang/Enum"), (0, u "name"), (0, u "Ljava/lang/String;"), (2, u "ordinal"), (0, u "I"), (1, .class_ 14), (1, u "java/lang/Object"), (4, u "hash"), (86, .class_ 108), (1, u "java/lang/Enum$EnumDesc"), (2, .class_ 112), (0, u "java/lang/constant/Constable"), (0, .class_ 114), (0, u "java/lang/Comparable"), (0, .class_ 116), (0, u "java/io/Serializable")] 87

/-- java/lang/Enum -/
def k5 : Class := { plain "java/lang/Enum" (some 0) with
  accessFlags := 1057
  interfaces := #[2, 3, 4]
  cf := some (fileOf pool5 2 #[.nestMembers #[106]] #[] 1057 12 #[111, 113, 115] #[{ accessFlags := 18, nameIndex := 5, descriptorIndex := 6, attributes := #[] }, { accessFlags := 18, nameIndex := 9, descriptorIndex := 10, attributes := #[] }, { accessFlags := 2, nameIndex := 19, descriptorIndex := 10, attributes := #[] }])
  fields := #[{ name := "name", type := (.object "java/lang/String"), accessFlags := 18, slot := 0, constantValue := 0 }, { name := "ordinal", type := .int, accessFlags := 18, slot := 1, constantValue := 0 }, { name := "hash", type := .int, accessFlags := 2, slot := 2, constantValue := 0 }]
  methods := #[]
  instanceTypes := #[(.object "java/lang/String"), .int, .int]
  staticTypes := #[]
  resolved := Array.replicate 204 none
  statics := none }

def pool6 : Array CpInfo := pool [(1, .class_ 2), (0, u "com/example/liblocpath/liblocpath/expression/Operator"), (2, u "OR"), (0, u "Lcom/example/liblocpath/liblocpath/expression/Operator;"), (2, u "AND"), (0, .fieldref 1 11), (0, .nameAndType 12 6), (0, u "EQUALS"), (2, u "NOT_EQUALS"), (0, .fieldref 1 17), (0, .nameAndType 18 6), (0, u "LESS"), (2, u "LESS_OR_EQUAL"), (2, u "GREATER"), (2, u "GREATER_OR_EQUAL"), (2, u "PLUS"), (2, u "MINUS"), (2, u "MULTIPLY"), (2, u "DIV"), (2, u "MOD"), (2, u "$VALUES"), (0, u "[Lcom/example/liblocpath/liblocpath/expression/Operator;"), (6, .class_ 55), (1, u "java/lang/Enum"), (8, u "token"), (0, u "Lcom/example/liblocpath/liblocpath/expression/TokenKind;"), (0, .fieldref 1 67), (0, .nameAndType 68 69), (0, u "precedence"), (0, u "I"), (2, u "type"), (0, u "Lcom/example/liblocpath/liblocpath/expression/Value$Type;"), (78, u "comparesNodeSets"), (0, u "()Z")] 13

def k6c0 : Code := { maxStack := 2, maxLocals := 1, code := prog_51_method_7_code, exceptionTable := #[], attributes := #[] }
def k6m0 : Method := { name := "comparesNodeSets", desc := "()Z", sig := { parameters := [], returnType := some .boolean }, accessFlags := 0, code := some k6c0 }
/-- com/example/liblocpath/liblocpath/expression/Operator -/
def k6 : Class := { plain "com/example/liblocpath/liblocpath/expression/Operator" (some 5) with
  accessFlags := 16432
  interfaces := #[]
  cf := some (fileOf pool6 1 #[] #[{ accessFlags := 0, nameIndex := 152, descriptorIndex := 153, attributes := #[] }] 16432 53 #[] #[{ accessFlags := 16409, nameIndex := 5, descriptorIndex := 6, attributes := #[] }, { accessFlags := 16409, nameIndex := 9, descriptorIndex := 6, attributes := #[] }, { accessFlags := 16409, nameIndex := 12, descriptorIndex := 6, attributes := #[] }, { accessFlags := 16409, nameIndex := 15, descriptorIndex := 6, attributes := #[] }, { accessFlags := 16409, nameIndex := 18, descriptorIndex := 6, attributes := #[] }, { accessFlags := 16409, nameIndex := 21, descriptorIndex := 6, attributes := #[] }, { accessFlags := 16409, nameIndex := 24, descriptorIndex := 6, attributes := #[] }, { accessFlags := 16409, nameIndex := 27, descriptorIndex := 6, attributes := #[] }, { accessFlags := 16409, nameIndex := 30, descriptorIndex := 6, attributes := #[] }, { accessFlags := 16409, nameIndex := 33, descriptorIndex := 6, attributes := #[] }, { accessFlags := 16409, nameIndex := 36, descriptorIndex := 6, attributes := #[] }, { accessFlags := 16409, nameIndex := 39, descriptorIndex := 6, attributes := #[] }, { accessFlags := 16409, nameIndex := 42, descriptorIndex := 6, attributes := #[] }, { accessFlags := 18, nameIndex := 64, descriptorIndex := 65, attributes := #[] }, { accessFlags := 18, nameIndex := 68, descriptorIndex := 69, attributes := #[] }, { accessFlags := 18, nameIndex := 72, descriptorIndex := 73, attributes := #[] }, { accessFlags := 4122, nameIndex := 45, descriptorIndex := 46, attributes := #[] }])
  fields := #[{ name := "OR", type := (.object "com/example/liblocpath/liblocpath/expression/Operator"), accessFlags := 16409, slot := 0, constantValue := 0 }, { name := "AND", type := (.object "com/example/liblocpath/liblocpath/expression/Operator"), accessFlags := 16409, slot := 1, constantValue := 0 }, { name := "EQUALS", type := (.object "com/example/liblocpath/liblocpath/expression/Operator"), accessFlags := 16409, slot := 2, constantValue := 0 }, { name := "NOT_EQUALS", type := (.object "com/example/liblocpath/liblocpath/expression/Operator"), accessFlags := 16409, slot := 3, constantValue := 0 }, { name := "LESS", type := (.object "com/example/liblocpath/liblocpath/expression/Operator"), accessFlags := 16409, slot := 4, constantValue := 0 }, { name := "LESS_OR_EQUAL", type := (.object "com/example/liblocpath/liblocpath/expression/Operator"), accessFlags := 16409, slot := 5, constantValue := 0 }, { name := "GREATER", type := (.object "com/example/liblocpath/liblocpath/expression/Operator"), accessFlags := 16409, slot := 6, constantValue := 0 }, { name := "GREATER_OR_EQUAL", type := (.object "com/example/liblocpath/liblocpath/expression/Operator"), accessFlags := 16409, slot := 7, constantValue := 0 }, { name := "PLUS", type := (.object "com/example/liblocpath/liblocpath/expression/Operator"), accessFlags := 16409, slot := 8, constantValue := 0 }, { name := "MINUS", type := (.object "com/example/liblocpath/liblocpath/expression/Operator"), accessFlags := 16409, slot := 9, constantValue := 0 }, { name := "MULTIPLY", type := (.object "com/example/liblocpath/liblocpath/expression/Operator"), accessFlags := 16409, slot := 10, constantValue := 0 }, { name := "DIV", type := (.object "com/example/liblocpath/liblocpath/expression/Operator"), accessFlags := 16409, slot := 11, constantValue := 0 }, { name := "MOD", type := (.object "com/example/liblocpath/liblocpath/expression/Operator"), accessFlags := 16409, slot := 12, constantValue := 0 }, { name := "token", type := (.object "com/example/liblocpath/liblocpath/expression/TokenKind"), accessFlags := 18, slot := 3, constantValue := 0 }, { name := "precedence", type := .int, accessFlags := 18, slot := 4, constantValue := 0 }, { name := "type", type := (.object "com/example/liblocpath/liblocpath/expression/Value$Type"), accessFlags := 18, slot := 5, constantValue := 0 }, { name := "$VALUES", type := (.array (.object "com/example/liblocpath/liblocpath/expression/Operator")), accessFlags := 4122, slot := 13, constantValue := 0 }]
  methods := #[k6m0]
  instanceTypes := #[(.object "java/lang/String"), .int, .int, (.object "com/example/liblocpath/liblocpath/expression/TokenKind"), .int, (.object "com/example/liblocpath/liblocpath/expression/Value$Type")]
  staticTypes := #[(.object "com/example/liblocpath/liblocpath/expression/Operator"), (.object "com/example/liblocpath/liblocpath/expression/Operator"), (.object "com/example/liblocpath/liblocpath/expression/Operator"), (.object "com/example/liblocpath/liblocpath/expression/Operator"), (.object "com/example/liblocpath/liblocpath/expression/Operator"), (.object "com/example/liblocpath/liblocpath/expression/Operator"), (.object "com/example/liblocpath/liblocpath/expression/Operator"), (.object "com/example/liblocpath/liblocpath/expression/Operator"), (.object "com/example/liblocpath/liblocpath/expression/Operator"), (.object "com/example/liblocpath/liblocpath/expression/Operator"), (.object "com/example/liblocpath/liblocpath/expression/Operator"), (.object "com/example/liblocpath/liblocpath/expression/Operator"), (.object "com/example/liblocpath/liblocpath/expression/Operator"), (.array (.object "com/example/liblocpath/liblocpath/expression/Operator"))]
  resolved := Array.replicate 167 none
  statics := some 0 }

def pool7 : Array CpInfo := pool [(1, u "java/lang/Cloneable"), (0, .class_ 1), (0, u "java/lang/Object"), (0, .class_ 3)] 3

/-- java/lang/Cloneable -/
def k7 : Class := { plain "java/lang/Cloneable" (some 0) with
  accessFlags := 1537
  interfaces := #[]
  cf := some (fileOf pool7 2 #[] #[] 1537 4 #[] #[])
  fields := #[]
  methods := #[]
  instanceTypes := #[]
  staticTypes := #[]
  resolved := Array.replicate 8 none
  statics := none }

/-- the primitive byte -/
def k8 : Class := { plain "byte" none with kind := .primitive 'B', accessFlags := 0x411 }
/-- [B -/
def k9 : Class := { plain "[B" (some 0) with kind := .array 8 .byte, interfaces := #[7, 4], accessFlags := 1041 }

/-- the primitive int -/
def k10 : Class := { plain "int" none with kind := .primitive 'I', accessFlags := 0x411 }
/-- [I -/
def k11 : Class := { plain "[I" (some 0) with kind := .array 10 .int, interfaces := #[7, 4], accessFlags := 1041 }

/-- [Lcom/example/liblocpath/liblocpath/expression/Operator; -/
def k12 : Class := { plain "[Lcom/example/liblocpath/liblocpath/expression/Operator;" (some 0) with kind := .array 6 (.object "com/example/liblocpath/liblocpath/expression/Operator"), interfaces := #[7, 4], accessFlags := 1041 }

def heap : Heap := #[{ cls := 6, slots := #[.ref 1, .ref 2, .ref 3, .ref 4, .ref 5, .ref 6, .ref 7, .ref 8, .ref 9, .ref 10, .ref 11, .ref 12, .ref 13, .null], vm := .statics 6 },
  { cls := 6, slots := #[.null, .int 0, .int 0, .null, .int 1, .null], vm := .none },
  { cls := 6, slots := #[.null, .int 1, .int 0, .null, .int 2, .null], vm := .none },
  { cls := 6, slots := #[.null, .int 2, .int 0, .null, .int 3, .null], vm := .none },
  { cls := 6, slots := #[.null, .int 3, .int 0, .null, .int 3, .null], vm := .none },
  { cls := 6, slots := #[.null, .int 4, .int 0, .null, .int 4, .null], vm := .none },
  { cls := 6, slots := #[.null, .int 5, .int 0, .null, .int 4, .null], vm := .none },
  { cls := 6, slots := #[.null, .int 6, .int 0, .null, .int 4, .null], vm := .none },
  { cls := 6, slots := #[.null, .int 7, .int 0, .null, .int 4, .null], vm := .none },
  { cls := 6, slots := #[.null, .int 8, .int 0, .null, .int 5, .null], vm := .none },
  { cls := 6, slots := #[.null, .int 9, .int 0, .null, .int 5, .null], vm := .none },
  { cls := 6, slots := #[.null, .int 10, .int 0, .null, .int 6, .null], vm := .none },
  { cls := 6, slots := #[.null, .int 11, .int 0, .null, .int 6, .null], vm := .none },
  { cls := 6, slots := #[.null, .int 12, .int 0, .null, .int 6, .null], vm := .none }]
def classes : Array Class := #[k0, k1, k2, k3, k4, k5, k6, k7, k8, k9, k10, k11, k12]
def interned : List (Array UInt16 × Addr) := []
def slotsUsed : Nat := 92
def theMethod : MethodId := ⟨1, 1⟩
def args0 : Array Value := #[.int 5]
def aboutOver (below : List Frame) : State where
  vm := { classes := classes, interned := interned.toArray }
  heap := heap
  slotsUsed := slotsUsed
  threads := #[{ frames := .invoking theMethod args0 :: below }]
def below0 : List Frame := [.native { method := ⟨0, 0⟩, args := #[] }]
def about1 : State := aboutOver below0
def p0 : Program := .bare "" "" ""
def e0 : Env := launch0.env 0 0 0
theorem w_frames : about1.frames = Frame.invoking theMethod args0 :: below0 := rfl
set_option maxRecDepth 65536 in
theorem w_args : argsFit about1.vm theMethod args0 = true := by decide +kernel
set_option maxRecDepth 65536 in
theorem w_heap : heapFits about1 = true := by decide +kernel
set_option maxRecDepth 65536 in
theorem w_runnable : about1.curStatus? = some .runnable := by decide +kernel
set_option maxRecDepth 65536 in
theorem w_alone : about1.alone = true := by decide +kernel
set_option maxRecDepth 65536 in
theorem w_named : about1.methodNamed? x = some theMethod := by decide +kernel
set_option maxRecDepth 65536 in
theorem w_hears : about1.hears theMethod below0 = true := by decide +kernel
set_option maxRecDepth 65536 in
theorem w_ripe : about1.ripe theMethod args0 below0 = true := by decide +kernel
theorem w_running : about1.status = .running := rfl
set_option maxRecDepth 65536 in
theorem w_room : about1.hasRoom e0.platform room_1 = true :=
  launch0.hasRoom_least _ room_1 (by decide +kernel) (by decide +kernel) (by decide +kernel) (by decide +kernel) (by decide +kernel) (by decide +kernel)
theorem allAtoms_all (ts : List Jvm.Cond) (a : Array Jvm.Value) (st : Jvm.State) : (allAtoms ts).before a st = ts.all (fun c => c.before a st) := by
  induction ts with
  | nil => rfl
  | cons c t ih =>
    show (Jvm.Cond.and c (allAtoms t)).before a st = _
    rw [Jvm.Cond.before_and, ih, List.all_cons]
def words1 : List Jvm.Cond := Jvm.Cond.code x code maxLocals ret :: tables_1
/-- a 'code' word, met by the world's own term for the bytes: nothing is compared byte by byte -/
theorem code_word {y : MethodName} {bytes : ByteArray} {mx : Nat} {rt : Option FieldType} {a : Array Value} {s : State} {m : MethodId} {meth : Method} {c : Code} (h1 : s.methodNamed? y = some m) (h2 : s.vm.method? m = some meth) (h3 : meth.code = some c) (h4 : c.code = bytes)
    (h5 : (c.maxLocals == mx && c.exceptionTable.isEmpty && decide (c.maxStack ≤ mostOperands) && decide (meth.sig.returnType = rt) && !meth.locks && decide (parseMethodDescriptor y.desc = some meth.sig)) = true) : (Jvm.Cond.code y bytes mx rt).before a s = true := by
  simp only [Bool.and_eq_true, beq_iff_eq, Bool.not_eq_true', decide_eq_true_eq] at h5
  obtain ⟨⟨⟨⟨⟨g1, g2⟩, g3⟩, g4⟩, g5⟩, g6⟩ := h5
  simp [Cond.before, Cond.holds, Cond.value, h1, h2, h3, h4, g1, g2, g3, g4, g5, g6]
def isCode : Jvm.Cond → Bool
  | .code _ _ _ _ => true
  | _ => false
theorem all_split {L : List Jvm.Cond} {P : Jvm.Cond → Bool} (h1 : L.all (fun c => isCode c || P c) = true) (h2 : ∀ c ∈ L.filter isCode, P c = true) : L.all P = true := by
  refine List.all_eq_true.mpr fun c hc => ?_
  have h := List.all_eq_true.mp h1 c hc
  rcases Bool.eq_false_or_eq_true (isCode c) with hi | hi
  · exact h2 c (List.mem_filter.mpr ⟨hc, hi⟩)
  · simpa [hi] using h
set_option maxRecDepth 65536 in
theorem w_c0 : (Jvm.Cond.code x code maxLocals ret).before args0 about1 = true := code_word (m := ⟨1, 1⟩) (meth := k1m1) (c := k1c1) (by decide +kernel) rfl rfl rfl (by decide +kernel)
set_option maxRecDepth 65536 in
theorem w_c1 : (Jvm.Cond.code ({ cls := "com/example/liblocpath/liblocpath/expression/Operator", name := "comparesNodeSets", desc := "()Z" } : Jvm.MethodName) prog_51_method_7_code (1 : Nat) (Option.some Jvm.ClassFile.FieldType.boolean)).before args0 about1 = true := code_word (m := ⟨6, 0⟩) (meth := k6m0) (c := k6c0) (by decide +kernel) rfl rfl rfl (by decide +kernel)
def codes1 : List Jvm.Cond := [Jvm.Cond.code x code maxLocals ret, Jvm.Cond.code ({ cls := "com/example/liblocpath/liblocpath/expression/Operator", name := "comparesNodeSets", desc := "()Z" } : Jvm.MethodName) prog_51_method_7_code (1 : Nat) (Option.some Jvm.ClassFile.FieldType.boolean)]
set_option maxRecDepth 65536 in
theorem codes_eq : words1.filter isCode = codes1 := rfl
theorem w_codes : ∀ c ∈ words1.filter isCode, c.before args0 about1 = true := by
  rw [codes_eq]
  intro c hc
  simp only [codes1, List.mem_cons, List.not_mem_nil, or_false] at hc
  rcases hc with rfl | rfl
  · exact w_c0
  · exact w_c1
set_option maxRecDepth 65536 in
theorem w_t1 : (words1.take 24).all (fun c => isCode c || c.before args0 about1) = true := by decide +kernel
set_option maxRecDepth 65536 in
theorem w_t2 : (words1.drop 24).all (fun c => isCode c || c.before args0 about1) = true := by decide +kernel
theorem w_tables : (allAtoms (Jvm.Cond.code x code maxLocals ret :: tables_1)).before args0 about1 = true := by
  rw [allAtoms_all]
  show words1.all (fun c => c.before args0 about1) = true
  refine all_split ?_ w_codes
  rw [← List.take_append_drop 24 words1, List.all_append, w_t1, w_t2]
  rfl
set_option maxRecDepth 65536 in
theorem w_case : (Jvm.Cond.and given_1 narrow_1).before args0 about1 = true := by decide +kernel
theorem w_applies : (headSpec (Jvm.Cond.code x code maxLocals ret :: tables_1) room_1).applies x e0.platform about1 = true :=
  (Spec.applies_iff w_frames).mpr ⟨w_running, w_runnable, w_alone, w_named, w_hears, w_ripe, w_room, w_tables⟩
theorem atStart : AtStart classFile x code maxLocals ret World_1 tables_1 room_1 Calls_1 rest_1 Pre_1 launch0 p0 e0 about1 theMethod args0 below0 :=
  ⟨lists_1, trivial, launch0.admits_env _ _ _, launch0.least_env, fairChoices_fair.cas, fairChoices_fair.clock, w_frames, w_args, w_heap, w_applies, trivial, trivial, w_case⟩
end start1
theorem witness_1 : WitnessClaimed_1 := ⟨start1.p0, start1.e0, start1.about1, start1.theMethod, start1.args0, start1.below0, start1.atStart⟩
end Jvm.Pilot.@@N@@
