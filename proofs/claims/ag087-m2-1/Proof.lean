import JvmDerived
import JvmDerived.Pilot.@@N@@Statement
import JvmDerived.Pilot.@@N@@Code
set_option linter.unusedVariables false
set_option linter.unusedSimpArgs false

namespace Jvm.RoadKit
open Sem ClassFile Op Lib Jvm.Stand Jvm.Free Jvm.LawKit
section Go
variable {p : Program} {l : Launch} {e : Env} {R : Room} {s : State} {m : MethodId} {args : Array Value} {below : List Frame} {meth : Method} {c : Code} {T T' : State} {locs : List Loc} {cells slots : Nat} {Z : State} {a0 : Array Value} {h : Heap} {B : ByteArray} {K : Outcome → State → Prop} {pc pcT pcF : Nat} {ls : Array Slot} {st : List Value}
/-- from T with the frame g the run comes to an end of which K holds -/
def Go (p : Program) (e : Env) (below : List Frame) (K : Outcome → State → Prop) (T : State) (g : JFrame) : Prop :=
  ∃ u o, Steps p.tables e below (T.setTop g) u ∧ u.status = .running ∧ Ended u below o ∧ K o u
theorem Go.on {g g' : JFrame} (st : ∀ t, Steps p.tables e below (T'.setTop g') t → Steps p.tables e below (T.setTop g) t) (h : Go p e below K T' g') : Go p e below K T g := by
  obtain ⟨u, o, h1, h2⟩ := h; exact ⟨u, o, st _ h1, h2⟩
theorem Go.join {α : Type} {P : α → Prop} {g : α → JFrame} {g0 : JFrame} (rest : ∀ z, P z → Go p e below K T (g z)) (here : (∀ z, P z → Go p e below K T (g z)) → Go p e below K T g0) : Go p e below K T g0 := here rest
theorem Go.joinV {α : Type} {P : α → Prop} {g : α → JFrame} {g0 : JFrame} (X : Stand p l e R s m args below meth c T locs cells slots) (eT : T.heap = h) (rest : ∀ (T' : State) (z : α), Stand p l e R s m args below meth c T' locs cells slots → T'.heap = h → P z → Go p e below K T' (g z))
    (here : (∀ (T' : State) (z : α), Stand p l e R s m args below meth c T' locs cells slots → T'.heap = h → P z → Go p e below K T' (g z)) → Go p e below K T g0) : Go p e below K T g0 := here rest
theorem Go.at {g g' : JFrame} (q : g = g') (h : Go p e below K T g') : Go p e below K T g := q ▸ h
def EndK (s : State) (Q : Option Value → Heap → List Loc → Prop) (k n : Nat) : Outcome → State → Prop := fun o u => ∃ v L, o = .returned v ∧ Q v u.heap L ∧ FrameEnd s o u L k n
abbrev Pact (l : Launch) (Z : State) (y : MethodName) (bytes : ByteArray) (ml : Nat) (ret : Option FieldType) (ws : List Jvm.Cond) (rm : Room) (as : Array Value) (h0 : Heap) (Q : Option Value → Heap → List Loc → Prop) : Prop :=
  MetFree l y (head1 (Jvm.Cond.code y bytes ml ret :: ws) rm) (fun a U => a = as ∧ Z.Warmed39 U.vm ∧ U.heap = h0) (fun _ _ _ _ _ => True) (fun _ U o U' => ∃ v L, o = .returned v ∧ Q v U'.heap L ∧ FrameEnd U o U' L rm.cells rm.slots)
theorem Pact.intro {y : MethodName} {bytes : ByteArray} {ml : Nat} {ret : Option FieldType} {ws : List Jvm.Cond} {rm : Room} {as : Array Value} {h0 : Heap} {Q : Option Value → Heap → List Loc → Prop} (hp : plainFor y = true)
    (body : ∀ (p : Program) (e : Env) (s : State) (m : MethodId) (below : List Frame) (meth : Method) (c : Code) (T : State), Stand p l e rm s m as below meth c T [] 0 0 → p.tables.exec = Jvm.exec → c.code = bytes → c.maxLocals = ml → meth.sig.returnType = ret → meth.locks = false →
      s.vm.findClass y.cls = some m.cls → meth.name = y.name → Z.Warmed39 s.vm → T.heap = h0 → Go p e below (EndK s Q rm.cells rm.slots) T (entryFrame m as ml)) : Pact l Z y bytes ml ret ws rm as h0 Q := by
  refine MetFree.of_bodySF hp hisR ?_
  intro p e s m args below meth c s₁ Bd hml0 hP hK
  obtain ⟨rfl, hZ, hh⟩ := hP
  exact body p e s m below meth c s₁ (Stand.of_body Bd) Bd.exec Bd.bytes hml0 Bd.returns (BodyLoose.notSynchronized Bd) (findClass_of_methodNamed Bd.named) (name_of_methodNamed Bd.named Bd.method).1 hZ (by rw [← hh, Bd.state]; rfl)
theorem Go.icmp (X : Stand p l e R s m args below meth c T locs cells slots) (hx : p.tables.exec = Jvm.exec) (hby : c.code = B) {cd : ClassFile.Cond} {x y : Int32} {o : Int} (hd : decode B pc = .ok (.if_icmp cd o, 3)) (ho : 0 ≤ (pc : Int) + o) (hp : ((pc : Int) + o).toNat = pcT) (hq : pc + 3 = pcF)
    (hT : if_icmp.holds cd x y = true → Go p e below K T (mkF m pcT ls st)) (hF : if_icmp.holds cd x y = false → Go p e below K T (mkF m pcF ls st)) : Go p e below K T (mkF m pc ls (.int y :: .int x :: st)) := by
  subst hq
  cases q : if_icmp.holds cd x y
  · exact Go.on (fun t k => XS.icmpNo X.here hx rfl (hb hby hd) rfl q k) (hF q)
  · exact Go.on (fun t k => XS.icmpYes X.here hx rfl (pc0 := pc) rfl (hb hby hd) rfl q ho hp k) (hT q)
theorem Go.ifc (X : Stand p l e R s m args below meth c T locs cells slots) (hx : p.tables.exec = Jvm.exec) (hby : c.code = B) {cd : ClassFile.Cond} {x : Int32} {o : Int} (hd : decode B pc = .ok (.ifCond cd o, 3)) (ho : 0 ≤ (pc : Int) + o) (hp : ((pc : Int) + o).toNat = pcT) (hq : pc + 3 = pcF)
    (hT : if_icmp.holds cd x 0 = true → Go p e below K T (mkF m pcT ls st)) (hF : if_icmp.holds cd x 0 = false → Go p e below K T (mkF m pcF ls st)) : Go p e below K T (mkF m pc ls (.int x :: st)) := by
  subst hq
  rw [← if0] at hT hF
  cases q : ifCond.holds cd x
  · exact Go.on (fun t k => XS.ifNo X.here hx rfl (hb hby hd) rfl q k) (hF q)
  · exact Go.on (fun t k => XS.ifYes X.here hx rfl (pc0 := pc) rfl (hb hby hd) rfl q ho hp k) (hT q)
theorem iEq {x y : Int32} : (if_icmp.holds .eq x y = true → x = y) ∧ (if_icmp.holds .eq x y = false → ¬ x = y) := by constructor <;> intro h <;> simpa [if_icmp.holds] using h
theorem iNe {x y : Int32} : (if_icmp.holds .ne x y = true → ¬ x = y) ∧ (if_icmp.holds .ne x y = false → x = y) := by constructor <;> intro h <;> simpa [if_icmp.holds] using h
theorem iLt {x y : Int32} : (if_icmp.holds .lt x y = true → x < y) ∧ (if_icmp.holds .lt x y = false → ¬ x < y) := by constructor <;> intro h <;> simpa [if_icmp.holds] using h
theorem iGe {x y : Int32} : (if_icmp.holds .ge x y = true → ¬ x < y) ∧ (if_icmp.holds .ge x y = false → x < y) := by constructor <;> intro h <;> simpa [if_icmp.holds] using h
theorem iGt {x y : Int32} : (if_icmp.holds .gt x y = true → y < x) ∧ (if_icmp.holds .gt x y = false → ¬ y < x) := by constructor <;> intro h <;> simpa [if_icmp.holds] using h
theorem iLe {x y : Int32} : (if_icmp.holds .le x y = true → ¬ y < x) ∧ (if_icmp.holds .le x y = false → y < x) := by constructor <;> intro h <;> simpa [if_icmp.holds] using h
theorem Go.acmp (X : Stand p l e R s m args below meth c T locs cells slots) (hx : p.tables.exec = Jvm.exec) (hby : c.code = B) {cd : ACond} {x y : Value} (h1 : x.isRef = true) (h2 : y.isRef = true) {o : Int} (hd : decode B pc = .ok (.if_acmp cd o, 3)) (ho : 0 ≤ (pc : Int) + o) (hp : ((pc : Int) + o).toNat = pcT) (hq : pc + 3 = pcF)
    (hT : XT.acmp cd x y = true → Go p e below K T (mkF m pcT ls st)) (hF : XT.acmp cd x y = false → Go p e below K T (mkF m pcF ls st)) : Go p e below K T (mkF m pc ls (y :: x :: st)) := by
  subst hq
  cases q : XT.acmp cd x y
  · exact Go.on (fun t k => XT.acmpNo X.here hx rfl (hb hby hd) rfl h1 h2 q k) (hF q)
  · exact Go.on (fun t k => XT.acmpYes X.here hx rfl (pc0 := pc) rfl (hb hby hd) rfl h1 h2 q ho hp k) (hT q)
theorem aEq {x y : Value} : (XT.acmp .eq x y = true → x = y) ∧ (XT.acmp .eq x y = false → ¬ x = y) := by constructor <;> intro h <;> simpa [XT.acmp] using h
theorem aNe {x y : Value} : (XT.acmp .ne x y = true → ¬ x = y) ∧ (XT.acmp .ne x y = false → x = y) := by constructor <;> intro h <;> simpa [XT.acmp] using h
theorem rEq {x y : Addr} : (XT.acmp .eq (.ref x) (.ref y) = true → x = y) ∧ (XT.acmp .eq (.ref x) (.ref y) = false → ¬ x = y) := by constructor <;> intro h <;> simpa [XT.acmp] using h
theorem rNe {x y : Addr} : (XT.acmp .ne (.ref x) (.ref y) = true → ¬ x = y) ∧ (XT.acmp .ne (.ref x) (.ref y) = false → x = y) := by constructor <;> intro h <;> simpa [XT.acmp] using h
theorem cat_ref {x : Value} (h : x.isRef = true) : x.category = 1 := by rcases ref_cases h with rfl | ⟨a, rfl⟩ <;> rfl
theorem eqInt {first : State} {o : Option Outcome} {idx : List Nat} {t : Term} {k : Int32} (h : (Jvm.Cond.eq t (Term.int k)).value args first o s idx = some true) : t.eval args first o idx s = some (.int k) := by
  obtain ⟨x, y, hx, hy, k1, k2⟩ := cmp_v (Or.inl h)
  have e : y = .int k := Option.some.inj (hy.symm.trans (Term.int_eval k))
  subst e
  obtain ⟨z, rfl⟩ := k2
  have q : z = k := gotT (Cond.eq_ints hx hy) h
  rw [hx, q]
theorem fldInt {t : Term} {a : Addr} {C n d : String} {k : Int32} (ev : t.eval args Z none [] Z = some (.ref a)) (h : (Jvm.Cond.eq (Term.field t C n d) (Term.int k)).value args Z none Z [] = some true) : Fld Z Z.heap a C n d (.int k) :=
  Fld.start ((fld_at ev).symm.trans (eqInt h))
theorem fldNull {t : Term} {a : Addr} {C n d : String} (ev : t.eval args Z none [] Z = some (.ref a)) (h : (Jvm.Cond.eq (Term.field t C n d) Term.null).value args Z none Z [] = some true) : Fld Z Z.heap a C n d .null :=
  Fld.start ((fld_at ev).symm.trans (null_v h))
theorem fldRef {t u : Term} {a b : Addr} {C n d : String} (ev : t.eval args Z none [] Z = some (.ref a)) (hu : u.eval args Z none [] Z = some (.ref b)) (h : (Jvm.Cond.eq (Term.field t C n d) u).value args Z none Z [] = some true) : Fld Z Z.heap a C n d (.ref b) := by
  obtain ⟨x, y, hx, hy, k1, k2⟩ := cmp_v (Or.inl h)
  cases hy.symm.trans hu
  have q : x = .ref b := gotT (eq_R hx hy k2.2 rfl) h
  exact Fld.start ((fld_at ev).symm.trans (q ▸ hx))
theorem Go.retV (X : Stand p l e R s m args below meth c T locs cells slots) (hx : p.tables.exec = Jvm.exec) (hlk : meth.locks = false) {t : FieldType} (hret : meth.sig.returnType = some t) (hby : c.code = B) {i : Instr} (hd : decode B pc = .ok (i, 1)) {w : Value} (hn : narrow t w = w)
    (hi : (i = .ireturn ∧ (t = .int ∨ t = .boolean ∨ t = .byte ∨ t = .char ∨ t = .short) ∧ ∃ z, w = .int z) ∨ (i = .lreturn ∧ t = .long ∧ ∃ z, w = .long z) ∨ (i = .dreturn ∧ t = .double ∧ ∃ z, w = .double z) ∨ (i = .freturn ∧ t = .float ∧ ∃ z, w = .float z) ∨ (i = .areturn ∧ t.isReference = true ∧ w.isRef = true))
    {Q : Option Value → Heap → List Loc → Prop} {k n : Nat} (hc : cells ≤ k) (hs : slots ≤ n) (hq : Q (some w) T.heap locs) : Go p e below (EndK s Q k n) T (mkF m pc ls (w :: st)) := by
  obtain ⟨fs, hr, hrun, hended, hW, hsame⟩ := X.leave (v := some w) (fun h => by rw [hret] at h; cases h) hlk
  exact ⟨_, _, retOut X hx hret hn hi (hb hby hd) hr, hrun, hended, _, _, rfl, hq, ⟨_, rfl⟩, hW, hsame.mono hc hs⟩
theorem Go.retI (X : Stand p l e R s m args below meth c T locs cells slots) (hx : p.tables.exec = Jvm.exec) (hlk : meth.locks = false) {t : FieldType} (hret : meth.sig.returnType = some t) (hby : c.code = B) (hd : decode B pc = .ok (.ireturn, 1)) {z : Int32} (hn : narrow t (.int z) = .int z)
    (ht : t = .int ∨ t = .boolean ∨ t = .byte ∨ t = .char ∨ t = .short) {Q : Option Value → Heap → List Loc → Prop} {k n : Nat} (hc : cells ≤ k) (hs : slots ≤ n) (hq : Q (some (.int z)) T.heap locs) : Go p e below (EndK s Q k n) T (mkF m pc ls (.int z :: st)) :=
  Go.retV X hx hlk hret hby hd hn (Or.inl ⟨rfl, ht, z, rfl⟩) hc hs hq
theorem Go.retA (X : Stand p l e R s m args below meth c T locs cells slots) (hx : p.tables.exec = Jvm.exec) (hlk : meth.locks = false) {t : FieldType} (hret : meth.sig.returnType = some t) (hby : c.code = B) (hd : decode B pc = .ok (.areturn, 1)) {w : Value} (hw : w.isRef = true)
    (ht : t.isReference = true) {Q : Option Value → Heap → List Loc → Prop} {k n : Nat} (hc : cells ≤ k) (hs : slots ≤ n) (hq : Q (some w) T.heap locs) : Go p e below (EndK s Q k n) T (mkF m pc ls (w :: st)) :=
  Go.retV X hx hlk hret hby hd (by rcases ref_cases hw with rfl | ⟨a, rfl⟩ <;> cases t <;> first | rfl | cases ht) (Or.inr (Or.inr (Or.inr (Or.inr ⟨rfl, ht, hw⟩)))) hc hs hq
theorem Go.ret0 (X : Stand p l e R s m args below meth c T locs cells slots) (hx : p.tables.exec = Jvm.exec) (hlk : meth.locks = false) (hret : meth.sig.returnType = none) (hby : c.code = B) (hd : decode B pc = .ok (.return_, 1))
    {Q : Option Value → Heap → List Loc → Prop} {k n : Nat} (hc : cells ≤ k) (hs : slots ≤ n) (hq : Q none T.heap locs) : Go p e below (EndK s Q k n) T (mkF m pc ls []) := by
  obtain ⟨fs, hr, hrun, hended, hW, hsame⟩ := X.leave (v := none) (fun _ => rfl) hlk
  exact ⟨_, _, X.returnOut hx hret (hb hby hd) hr, hrun, hended, _, _, rfl, hq, ⟨_, rfl⟩, hW, hsame.mono hc hs⟩
theorem Go.callS (X : Stand p l e R s m args below meth c T locs cells slots) (hx : p.tables.exec = Jvm.exec) (hZ : Z.Warmed39 s.vm) (hby : c.code = B) (hml : ls.size = c.maxLocals) {own : String} {index : Nat} {y : MethodName} {bytes : ByteArray} {maxL : Nat} {ret : Option FieldType} {rm : Room} {Q : Option Value → Heap → List Loc → Prop}
    (hown : s.vm.findClass own = some m.cls) (w1 : (Jvm.Cond.methodLink own index y).before a0 Z = true) (w2 : (Jvm.Cond.static y).before a0 Z = true) (w3 : (Jvm.Cond.initialized y.cls).before a0 Z = true) (w4 : (Jvm.Cond.code y bytes maxL ret).before a0 Z = true) (hy : y.cls ≠ "java/lang/invoke/MethodHandle" ∧ y.cls ≠ "java/lang/invoke/VarHandle")
    {argsL rest : List Value} (hM : Pact l Z y bytes maxL ret [] rm argsL.toArray h Q) (eT : T.heap = h) (W : Nat) (hf : rm.frames + 1 ≤ R.frames) (hl : W + (maxL + 11) + rm.locals ≤ R.locals) (hc : cells + rm.cells ≤ R.cells) (hs : slots + rm.slots ≤ R.slots)
    (hst : st = argsL.reverse ++ rest) {ps : List FieldType} {rt : Option FieldType} (hdesc : parseMethodDescriptor y.desc = some ⟨ps, rt⟩) (hlen : argsL.length = ps.length) (hW : (rest.map fun v => v.category).sum ≤ W) (hd : decode B pc = .ok (.invokestatic index, 3)) (hq : pc + 3 = pcF)
    (next : ∀ (v : Option Value) (T' : State) (L : List Loc), Stand p l e R s m args below meth c T' (locs ++ L) (cells + rm.cells) (slots + rm.slots) → Q v T'.heap L → Go p e below K T' (mkF m pcF ls (v.toList ++ rest))) : Go p e below K T (mkF m pc ls st) := by
  subst hq
  obtain ⟨v, vm₁, ⟨T', L', k', n'⟩, -, X', ⟨Lc, hQ, l', y', z'⟩, st'⟩ := Jvm.LawKit.callS X hx (y := y) hown (mvT hZ w1) (mvT hZ w2) (mvT hZ w3) (mvT hZ w4) hy (backOf (W := W) hM hZ w4 w3 hf hl) (g := mkF m pc ls st) rfl hml (argsL := argsL) (rest := rest) (lenOf hdesc hlen) hst (by show 2 * 0 + _ ≤ W; omega) (hb hby hd) (fun _ _ => ⟨rfl, eT, hc, hs⟩)
  dsimp only [Pt.U, Pt.locs, Pt.cells, Pt.slots] at X' l' y' z' st' hQ
  subst l' y' z'
  exact Go.on st' (next v T' Lc X' hQ)
theorem Go.callV (X : Stand p l e R s m args below meth c T locs cells slots) (hx : p.tables.exec = Jvm.exec) (hZ : Z.Warmed39 s.vm) (hby : c.code = B) (hml : ls.size = c.maxLocals) {own C : String} {index : Nat} {y : MethodName} {bytes : ByteArray} {maxL : Nat} {ret : Option FieldType} {rm : Room} {Q : Option Value → Heap → List Loc → Prop}
    (hown : s.vm.findClass own = some m.cls) (w1 : (Jvm.Cond.methodLink own index y).before a0 Z = true) (w2 : (Jvm.Cond.declares y).before a0 Z = true) (w3 : (Jvm.Cond.selects C y y).before a0 Z = true) (w4 : (Jvm.Cond.instanceMethod y).before a0 Z = true) (w5 : (Jvm.Cond.code y bytes maxL ret).before a0 Z = true) (w6 : (Jvm.Cond.initialized y.cls).before a0 Z = true) (hy : y.cls ≠ "java/lang/invoke/MethodHandle" ∧ y.cls ≠ "java/lang/invoke/VarHandle")
    {b : Addr} {argsL rest : List Value} (hM : Pact l Z y bytes maxL ret [] rm (.ref b :: argsL).toArray h Q) (eT : T.heap = h) (E : Exa Z h b C) (W : Nat) (hf : rm.frames + 1 ≤ R.frames) (hl : W + (maxL + 11) + rm.locals ≤ R.locals) (hc : cells + rm.cells ≤ R.cells) (hs : slots + rm.slots ≤ R.slots)
    (hst : st = argsL.reverse ++ .ref b :: rest) {ps : List FieldType} {rt : Option FieldType} (hdesc : parseMethodDescriptor y.desc = some ⟨ps, rt⟩) (hlen : argsL.length = ps.length) (hW : (rest.map fun v => v.category).sum ≤ W) (hd : decode B pc = .ok (.invokevirtual index, 3)) (hq : pc + 3 = pcF)
    (next : ∀ (v : Option Value) (T' : State) (L : List Loc), Stand p l e R s m args below meth c T' (locs ++ L) (cells + rm.cells) (slots + rm.slots) → Q v T'.heap L → Go p e below K T' (mkF m pcF ls (v.toList ++ rest))) : Go p e below K T (mkF m pc ls st) := by
  subst hq
  obtain ⟨cq, kq, q1, q2, q3⟩ := isOf hZ eT E
  obtain ⟨v, vm₁, ⟨T', L', k', n'⟩, -, X', ⟨Lc, hQ, l', y', z'⟩, st'⟩ := X.virtualBack hx (y := y) (z := y) hown (mvT hZ w1) (mvT hZ w2) (notFace_of_selects (args := #[]) (mvT hZ w3)) (mvT hZ w3) (mvT hZ w4) hy (backOf (W := W) hM hZ w5 w6 hf hl) q1 q3 (g := mkF m pc ls st) rfl hml (Steps.refl _) (argsL := argsL) (rest := rest) (lenOf hdesc hlen) hst (by show 2 * 0 + _ ≤ W; omega) (hb hby hd) (fun _ _ => ⟨rfl, eT, hc, hs⟩)
  dsimp only [Pt.U, Pt.locs, Pt.cells, Pt.slots] at X' l' y' z' st' hQ
  subst l' y' z'
  exact Go.on (fun t k => st'.trans k) (next v T' Lc X' hQ)
theorem Go.callI (X : Stand p l e R s m args below meth c T locs cells slots) (hx : p.tables.exec = Jvm.exec) (hZ : Z.Warmed39 s.vm) (hby : c.code = B) (hml : ls.size = c.maxLocals) {own : String} {index : Nat} {y : MethodName} {bytes : ByteArray} {maxL : Nat} {rm : Room} {Q : Option Value → Heap → List Loc → Prop}
    (hinit : y.name = "<init>") (hown : s.vm.findClass own = some m.cls) (w1 : (Jvm.Cond.methodLink own index y).before a0 Z = true) (w4 : (Jvm.Cond.instanceMethod y).before a0 Z = true) (w5 : (Jvm.Cond.code y bytes maxL none).before a0 Z = true) (w6 : (Jvm.Cond.initialized y.cls).before a0 Z = true) (hy : y.cls ≠ "java/lang/invoke/MethodHandle" ∧ y.cls ≠ "java/lang/invoke/VarHandle")
    {b : Addr} {argsL rest : List Value} (hM : Pact l Z y bytes maxL none [] rm (.ref b :: argsL).toArray h Q) (eT : T.heap = h) (W : Nat) (hf : rm.frames + 1 ≤ R.frames) (hl : W + (maxL + 11) + rm.locals ≤ R.locals) (hc : cells + rm.cells ≤ R.cells) (hs : slots + rm.slots ≤ R.slots)
    (hst : st = argsL.reverse ++ .ref b :: rest) {ps : List FieldType} {rt : Option FieldType} (hdesc : parseMethodDescriptor y.desc = some ⟨ps, rt⟩) (hlen : argsL.length = ps.length) (hW : (rest.map fun v => v.category).sum ≤ W) (hd : decode B pc = .ok (.invokespecial index, 3)) (hq : pc + 3 = pcF)
    (next : ∀ (v : Option Value) (T' : State) (L : List Loc), Stand p l e R s m args below meth c T' (locs ++ L) (cells + rm.cells) (slots + rm.slots) → Q v T'.heap L → Go p e below K T' (mkF m pcF ls (v.toList ++ rest))) : Go p e below K T (mkF m pc ls st) := by
  subst hq
  obtain ⟨v, vm₁, ⟨T', L', k', n'⟩, -, X', ⟨Lc, hQ, l', y', z'⟩, st'⟩ := X.specialBack hx (y := y) hinit hown (mvT hZ w1) (mvT hZ w4) (mvT hZ w5) hy (backOf (W := W) hM hZ w5 w6 hf hl) (g := mkF m pc ls st) rfl hml (Steps.refl _) (a := b) (argsL := argsL) (rest := rest) (lenOf hdesc hlen) hst (by show 2 * 0 + _ ≤ W; omega) (hb hby hd) (fun _ _ => ⟨rfl, eT, hc, hs⟩)
  dsimp only [Pt.U, Pt.locs, Pt.cells, Pt.slots] at X' l' y' z' st' hQ
  subst l' y' z'
  exact Go.on (fun t k => st'.trans k) (next v T' Lc X' hQ)
theorem Go.callU (X : Stand p l e R s m args below meth c T locs cells slots) (hx : p.tables.exec = Jvm.exec) (hZ : Z.Warmed39 s.vm) (hby : c.code = B) (hml : ls.size = c.maxLocals) {own C owner : String} {index : Nat} {y z : MethodName} {bytes : ByteArray} {maxL : Nat} {ret : Option FieldType} {rm : Room} {Q : Option Value → Heap → List Loc → Prop}
    (hown : s.vm.findClass own = some m.cls) (w1 : (Jvm.Cond.methodLink own index y).before a0 Z = true) (wsm : (Jvm.Cond.sameMethod y.cls owner y.name y.desc).before a0 Z = true) (w2 : (Jvm.Cond.declares ⟨owner, y.name, y.desc⟩).before a0 Z = true) (w3 : (Jvm.Cond.selects C y z).before a0 Z = true) (w4 : (Jvm.Cond.instanceMethod z).before a0 Z = true) (w5 : (Jvm.Cond.code z bytes maxL ret).before a0 Z = true) (w6 : (Jvm.Cond.initialized z.cls).before a0 Z = true) (hy : owner ≠ "java/lang/invoke/MethodHandle" ∧ owner ≠ "java/lang/invoke/VarHandle")
    {b : Addr} {argsL rest : List Value} (hM : Pact l Z z bytes maxL ret [] rm (.ref b :: argsL).toArray h Q) (eT : T.heap = h) (E : Exa Z h b C) (W : Nat) (hf : rm.frames + 1 ≤ R.frames) (hl : W + (maxL + 11) + rm.locals ≤ R.locals) (hc : cells + rm.cells ≤ R.cells) (hs : slots + rm.slots ≤ R.slots)
    (hst : st = argsL.reverse ++ .ref b :: rest) {ps : List FieldType} {rt : Option FieldType} (hdesc : parseMethodDescriptor y.desc = some ⟨ps, rt⟩) (hlen : argsL.length = ps.length) (hW : (rest.map fun v => v.category).sum ≤ W) (hd : decode B pc = .ok (.invokevirtual index, 3)) (hq : pc + 3 = pcF)
    (next : ∀ (v : Option Value) (T' : State) (L : List Loc), Stand p l e R s m args below meth c T' (locs ++ L) (cells + rm.cells) (slots + rm.slots) → Q v T'.heap L → Go p e below K T' (mkF m pcF ls (v.toList ++ rest))) : Go p e below K T (mkF m pc ls st) := by
  subst hq
  obtain ⟨cq, kq, q1, q2, q3⟩ := isOf hZ eT E
  obtain ⟨v, vm₁, ⟨T', L', k', n'⟩, -, X', ⟨Lc, hQ, l', y', z'⟩, st'⟩ := X.virtualBackUp hx (x := y) (y := z) hown (mvT hZ w1) (mvT hZ wsm) (mvT hZ w2) hy (mvT hZ w3) (mvT hZ w4) (backOf (W := W) hM hZ w5 w6 hf hl) q1 q3 (g := mkF m pc ls st) rfl hml (Steps.refl _) (argsL := argsL) (rest := rest) (lenOf hdesc hlen) hst (by show 2 * 0 + _ ≤ W; omega) (hb hby hd) (fun _ _ => ⟨rfl, eT, hc, hs⟩)
  dsimp only [Pt.U, Pt.locs, Pt.cells, Pt.slots] at X' l' y' z' st' hQ
  subst l' y' z'
  exact Go.on (fun t k => st'.trans k) (next v T' Lc X' hQ)
theorem Go.callP (X : Stand p l e R s m args below meth c T locs cells slots) (hx : p.tables.exec = Jvm.exec) (hZ : Z.Warmed39 s.vm) (hby : c.code = B) (hml : ls.size = c.maxLocals) {own : String} {index kk : Nat} {y : MethodName} {bytes : ByteArray} {maxL : Nat} {ret : Option FieldType} {rm : Room} {Q : Option Value → Heap → List Loc → Prop}
    (hown : s.vm.findClass own = some m.cls) (w1 : (Jvm.Cond.methodLink own index y).before a0 Z = true) (w2 : (Jvm.Cond.instantiable y.cls kk).before a0 Z = true) (w3 : (Jvm.Cond.privateMethod y).before a0 Z = true) (w4 : (Jvm.Cond.instanceMethod y).before a0 Z = true) (w5 : (Jvm.Cond.code y bytes maxL ret).before a0 Z = true) (w6 : (Jvm.Cond.initialized y.cls).before a0 Z = true) (hy : y.cls ≠ "java/lang/invoke/MethodHandle" ∧ y.cls ≠ "java/lang/invoke/VarHandle")
    {b : Addr} {argsL rest : List Value} (hM : Pact l Z y bytes maxL ret [] rm (.ref b :: argsL).toArray h Q) (eT : T.heap = h) {C : String} (E : Exa Z h b C) (W : Nat) (hf : rm.frames + 1 ≤ R.frames) (hl : W + (maxL + 11) + rm.locals ≤ R.locals) (hc : cells + rm.cells ≤ R.cells) (hs : slots + rm.slots ≤ R.slots)
    (hst : st = argsL.reverse ++ .ref b :: rest) {ps : List FieldType} {rt : Option FieldType} (hdesc : parseMethodDescriptor y.desc = some ⟨ps, rt⟩) (hlen : argsL.length = ps.length) (hW : (rest.map fun v => v.category).sum ≤ W) (hd : decode B pc = .ok (.invokevirtual index, 3)) (hq : pc + 3 = pcF)
    (next : ∀ (v : Option Value) (T' : State) (L : List Loc), Stand p l e R s m args below meth c T' (locs ++ L) (cells + rm.cells) (slots + rm.slots) → Q v T'.heap L → Go p e below K T' (mkF m pcF ls (v.toList ++ rest))) : Go p e below K T (mkF m pc ls st) := by
  subst hq
  obtain ⟨cq, q, q'⟩ := E.cell
  have hpriv : s.PrivateAt y := Cond.privateMethod_at (mvP hZ w3 (args := #[]))
  obtain ⟨c2, k2, i1, i2, -, i4, -⟩ := Cond.instantiable_spec (mvT (args := #[]) (s := s) hZ w2)
  have hni : k2.isInterface = false := (Bool.or_eq_false_iff.mp i4).1
  obtain ⟨v, vm₁, ⟨T', L', k', n'⟩, -, X', ⟨Lc, hQ, l', y', z'⟩, st'⟩ := X.privateBack hx (y := y) hown (mvT hZ w1) (mvT hZ w4) (selects_self_of_private i1 i2 hni hpriv (mvT hZ w4) hy) hpriv (mvT hZ w5) hy (backOf (W := W) hM hZ w5 w6 hf hl) (g := mkF m pc ls st) rfl hml (Steps.refl _) (a := b) (by rw [eT]; exact q) q' (argsL := argsL) (rest := rest) (lenOf hdesc hlen) hst (by show 2 * 0 + _ ≤ W; omega) (hb hby hd) (fun _ _ => ⟨rfl, eT, hc, hs⟩)
  dsimp only [Pt.U, Pt.locs, Pt.cells, Pt.slots] at X' l' y' z' st' hQ
  subst l' y' z'
  exact Go.on (fun t k => st'.trans k) (next v T' Lc X' hQ)
theorem extWr {h0 h h' : Heap} {a : Addr} {sl : Nat} {v : Value} (E : Ext h0 h) (W : Wr h h' a sl v) (q : h0.size ≤ a) : Ext h0 h' := by
  refine ⟨by rw [W.size]; exact E.1, fun x c hx => ?_⟩
  obtain ⟨cb', r1, -, -, -, r5, -⟩ := wr_at W (E.2 x c hx)
  rw [r1, r5 (Nat.ne_of_lt (Nat.lt_of_lt_of_le (Array.getElem?_eq_some_iff.mp hx).1 q))]
theorem extKeep {h0 h h' : Heap} {a : Addr} (E : Ext h0 h) (K : Keep h h' [a]) (q : h0.size ≤ a) : Ext h0 h' :=
  ⟨Nat.le_trans E.1 K.1, fun x c hx => K.2.1 x c (E.2 x c hx) (ninS (Nat.ne_of_lt (Nat.lt_of_lt_of_le (Array.getElem?_eq_some_iff.mp hx).1 q)) nin0)⟩
theorem extTrans {h0 h h' : Heap} (E : Ext h0 h) (E' : Ext h h') : Ext h0 h' := ⟨Nat.le_trans E.1 E'.1, fun x c hx => E'.2 x c (E.2 x c hx)⟩
theorem arrKeep {h h' : Heap} {a b : Addr} {cl : Cell} {ty : FieldType} (A : Arr Z h a cl ty) (K : Keep h h' [b]) (hne : a ≠ b) : Arr Z h' a cl ty := ⟨K.2.1 _ _ A.1 (ninS hne nin0), A.2⟩
end Go
end Jvm.RoadKit

namespace Jvm.Pilot.@@N@@
open Jvm Jvm.ClassFile Sem Op Lib Jvm.Free Jvm.Stand Jvm.LawKit Jvm.RoadKit Bundle Jvm.Pilot.@@N@@.Jvm.D

theorem pnLaw : plainName "com/example/liblocpath/liblocpath/tree/BoundNodeTestMatchesEveryNodePinLaw" = true := by first | (simp [plainName, overriddenIn]; done) | decide +kernel
theorem pdK : parseMethodDescriptor "(I)Lcom/example/liblocpath/liblocpath/tree/NodeKind;" = some ⟨[.int], some (.object "com/example/liblocpath/liblocpath/tree/NodeKind")⟩ := by decide +kernel
theorem pdE : parseMethodDescriptor "()Z" = some ⟨[], some .boolean⟩ := by decide +kernel
theorem pdF : parseMethodDescriptor "(Lcom/example/liblocpath/liblocpath/tree/NodeKind;)Lcom/example/liblocpath/liblocpath/tree/BoundNodeTest;" = some ⟨[(.object "com/example/liblocpath/liblocpath/tree/NodeKind")], some (.object "com/example/liblocpath/liblocpath/tree/BoundNodeTest")⟩ := by decide +kernel
theorem pdT : parseMethodDescriptor "(Lcom/example/liblocpath/liblocpath/tree/NodeKind;I)Z" = some ⟨[(.object "com/example/liblocpath/liblocpath/tree/NodeKind"), .int], some .boolean⟩ := by decide +kernel
theorem pdN : parseMethodDescriptor "(I)Z" = some ⟨[.int], some .boolean⟩ := by decide +kernel
theorem efK (m : MethodId) (k : Int32) : entryFrame m #[(.int k)] 1 = mkF m 0 #[.val (.int k)] [] := by first | (simp [entryFrame, mkF, argsToLocals, Value.category, maxLocals]; done) | rfl
theorem efE (m : MethodId) (r : Addr) : entryFrame m #[(.ref r)] 1 = mkF m 0 #[.val (.ref r)] [] := by first | (simp [entryFrame, mkF, argsToLocals, Value.category, maxLocals]; done) | rfl
theorem efFn (m : MethodId)  : entryFrame m #[.null] 1 = mkF m 0 #[.val .null] [] := by first | (simp [entryFrame, mkF, argsToLocals, Value.category, maxLocals]; done) | rfl
theorem efFr (m : MethodId) (r : Addr) : entryFrame m #[(.ref r)] 1 = mkF m 0 #[.val (.ref r)] [] := by first | (simp [entryFrame, mkF, argsToLocals, Value.category, maxLocals]; done) | rfl
theorem efT (m : MethodId) (r q : Addr) (k : Int32) : entryFrame m #[(.ref r), (.ref q), (.int k)] 3 = mkF m 0 #[.val (.ref r), .val (.ref q), .val (.int k)] [] := by first | (simp [entryFrame, mkF, argsToLocals, Value.category, maxLocals]; done) | rfl
theorem efN (m : MethodId) (r : Addr) (k : Int32) : entryFrame m #[(.ref r), (.int k)] 2 = mkF m 0 #[.val (.ref r), .val (.int k)] [] := by first | (simp [entryFrame, mkF, argsToLocals, Value.category, maxLocals]; done) | rfl
theorem ef0 (m : MethodId) (x0 x1 x2 x3 x4 x5 : Int32) : entryFrame m #[(.int x0), (.int x1), (.int x2), (.int x3), (.int x4), (.int x5)] maxLocals = mkF m 0 #[.val (.int x0), .val (.int x1), .val (.int x2), .val (.int x3), .val (.int x4), .val (.int x5), .unset, .unset, .unset, .unset, .unset, .unset, .unset, .unset] [] := by first | (simp [entryFrame, mkF, argsToLocals, Value.category, maxLocals]; done) | rfl
theorem pnBN : plainName "com/example/liblocpath/liblocpath/tree/BoundNodeTest" = true := by first | (simp [plainName, overriddenIn]; done) | decide +kernel
theorem pnEn : plainName "java/lang/Enum" = true := by first | (simp [plainName, overriddenIn]; done) | decide +kernel
theorem pdI : parseMethodDescriptor "(Lcom/example/liblocpath/liblocpath/tree/NodeKind;IILcom/example/liblocpath/liblocpath/tree/NameTable;Z)V" = some ⟨[(.object "com/example/liblocpath/liblocpath/tree/NodeKind"), .int, .int, (.object "com/example/liblocpath/liblocpath/tree/NameTable"), .boolean], none⟩ := by decide +kernel
theorem pdO : parseMethodDescriptor "()I" = some ⟨[], some .int⟩ := by decide +kernel
theorem efO (m : MethodId) (r : Addr) : entryFrame m #[(.ref r)] 1 = mkF m 0 #[.val (.ref r)] [] := by first | (simp [entryFrame, mkF, argsToLocals, Value.category, maxLocals]; done) | rfl
theorem efIn (m : MethodId) (r : Addr) (x2 x3 x5 : Int32) : entryFrame m #[(.ref r), .null, (.int x2), (.int x3), .null, (.int x5)] 6 = mkF m 0 #[.val (.ref r), .val .null, .val (.int x2), .val (.int x3), .val .null, .val (.int x5)] [] := by first | (simp [entryFrame, mkF, argsToLocals, Value.category, maxLocals]; done) | rfl
theorem efIr (m : MethodId) (r ka : Addr) (x2 x3 x5 : Int32) : entryFrame m #[(.ref r), (.ref ka), (.int x2), (.int x3), .null, (.int x5)] 6 = mkF m 0 #[.val (.ref r), .val (.ref ka), .val (.int x2), .val (.int x3), .val .null, .val (.int x5)] [] := by first | (simp [entryFrame, mkF, argsToLocals, Value.category, maxLocals]; done) | rfl
def own_K (Z : State) (h : Heap) (a0 a1 a2 a3 a4 a5 a6 : Addr) : Prop := (Sta Z h "com/example/liblocpath/liblocpath/tree/NodeKind" "ROOT" "Lcom/example/liblocpath/liblocpath/tree/NodeKind;" (.ref a0)) ∧ (Exa Z h a0 "com/example/liblocpath/liblocpath/tree/NodeKind") ∧ (Fld Z h a0 "java/lang/Enum" "ordinal" "I" (.int (0 : Int32))) ∧ (Sta Z h "com/example/liblocpath/liblocpath/tree/NodeKind" "ELEMENT" "Lcom/example/liblocpath/liblocpath/tree/NodeKind;" (.ref a1)) ∧ (Exa Z h a1 "com/example/liblocpath/liblocpath/tree/NodeKind") ∧ (Fld Z h a1 "java/lang/Enum" "ordinal" "I" (.int (1 : Int32))) ∧ (Sta Z h "com/example/liblocpath/liblocpath/tree/NodeKind" "ATTRIBUTE" "Lcom/example/liblocpath/liblocpath/tree/NodeKind;" (.ref a2)) ∧ (Exa Z h a2 "com/example/liblocpath/liblocpath/tree/NodeKind") ∧ (Fld Z h a2 "java/lang/Enum" "ordinal" "I" (.int (2 : Int32))) ∧ (Sta Z h "com/example/liblocpath/liblocpath/tree/NodeKind" "NAMESPACE" "Lcom/example/liblocpath/liblocpath/tree/NodeKind;" (.ref a3)) ∧ (Exa Z h a3 "com/example/liblocpath/liblocpath/tree/NodeKind") ∧ (Fld Z h a3 "java/lang/Enum" "ordinal" "I" (.int (3 : Int32))) ∧ (Sta Z h "com/example/liblocpath/liblocpath/tree/NodeKind" "TEXT" "Lcom/example/liblocpath/liblocpath/tree/NodeKind;" (.ref a4)) ∧ (Exa Z h a4 "com/example/liblocpath/liblocpath/tree/NodeKind") ∧ (Fld Z h a4 "java/lang/Enum" "ordinal" "I" (.int (4 : Int32))) ∧ (Sta Z h "com/example/liblocpath/liblocpath/tree/NodeKind" "COMMENT" "Lcom/example/liblocpath/liblocpath/tree/NodeKind;" (.ref a5)) ∧ (Exa Z h a5 "com/example/liblocpath/liblocpath/tree/NodeKind") ∧ (Fld Z h a5 "java/lang/Enum" "ordinal" "I" (.int (5 : Int32))) ∧ (Sta Z h "com/example/liblocpath/liblocpath/tree/NodeKind" "PROCESSING_INSTRUCTION" "Lcom/example/liblocpath/liblocpath/tree/NodeKind;" (.ref a6)) ∧ (Exa Z h a6 "com/example/liblocpath/liblocpath/tree/NodeKind") ∧ (Fld Z h a6 "java/lang/Enum" "ordinal" "I" (.int (6 : Int32)))
theorem own_K.s0 {Z : State} {h : Heap} {a0 a1 a2 a3 a4 a5 a6 : Addr} (K : own_K Z h a0 a1 a2 a3 a4 a5 a6) : Sta Z h "com/example/liblocpath/liblocpath/tree/NodeKind" "ROOT" "Lcom/example/liblocpath/liblocpath/tree/NodeKind;" (.ref a0) := K.1
theorem own_K.e0 {Z : State} {h : Heap} {a0 a1 a2 a3 a4 a5 a6 : Addr} (K : own_K Z h a0 a1 a2 a3 a4 a5 a6) : Exa Z h a0 "com/example/liblocpath/liblocpath/tree/NodeKind" := K.2.1
theorem own_K.o0 {Z : State} {h : Heap} {a0 a1 a2 a3 a4 a5 a6 : Addr} (K : own_K Z h a0 a1 a2 a3 a4 a5 a6) : Fld Z h a0 "java/lang/Enum" "ordinal" "I" (.int (0 : Int32)) := K.2.2.1
theorem own_K.s1 {Z : State} {h : Heap} {a0 a1 a2 a3 a4 a5 a6 : Addr} (K : own_K Z h a0 a1 a2 a3 a4 a5 a6) : Sta Z h "com/example/liblocpath/liblocpath/tree/NodeKind" "ELEMENT" "Lcom/example/liblocpath/liblocpath/tree/NodeKind;" (.ref a1) := K.2.2.2.1
theorem own_K.e1 {Z : State} {h : Heap} {a0 a1 a2 a3 a4 a5 a6 : Addr} (K : own_K Z h a0 a1 a2 a3 a4 a5 a6) : Exa Z h a1 "com/example/liblocpath/liblocpath/tree/NodeKind" := K.2.2.2.2.1
theorem own_K.o1 {Z : State} {h : Heap} {a0 a1 a2 a3 a4 a5 a6 : Addr} (K : own_K Z h a0 a1 a2 a3 a4 a5 a6) : Fld Z h a1 "java/lang/Enum" "ordinal" "I" (.int (1 : Int32)) := K.2.2.2.2.2.1
theorem own_K.s2 {Z : State} {h : Heap} {a0 a1 a2 a3 a4 a5 a6 : Addr} (K : own_K Z h a0 a1 a2 a3 a4 a5 a6) : Sta Z h "com/example/liblocpath/liblocpath/tree/NodeKind" "ATTRIBUTE" "Lcom/example/liblocpath/liblocpath/tree/NodeKind;" (.ref a2) := K.2.2.2.2.2.2.1
theorem own_K.e2 {Z : State} {h : Heap} {a0 a1 a2 a3 a4 a5 a6 : Addr} (K : own_K Z h a0 a1 a2 a3 a4 a5 a6) : Exa Z h a2 "com/example/liblocpath/liblocpath/tree/NodeKind" := K.2.2.2.2.2.2.2.1
theorem own_K.o2 {Z : State} {h : Heap} {a0 a1 a2 a3 a4 a5 a6 : Addr} (K : own_K Z h a0 a1 a2 a3 a4 a5 a6) : Fld Z h a2 "java/lang/Enum" "ordinal" "I" (.int (2 : Int32)) := K.2.2.2.2.2.2.2.2.1
theorem own_K.s3 {Z : State} {h : Heap} {a0 a1 a2 a3 a4 a5 a6 : Addr} (K : own_K Z h a0 a1 a2 a3 a4 a5 a6) : Sta Z h "com/example/liblocpath/liblocpath/tree/NodeKind" "NAMESPACE" "Lcom/example/liblocpath/liblocpath/tree/NodeKind;" (.ref a3) := K.2.2.2.2.2.2.2.2.2.1
theorem own_K.e3 {Z : State} {h : Heap} {a0 a1 a2 a3 a4 a5 a6 : Addr} (K : own_K Z h a0 a1 a2 a3 a4 a5 a6) : Exa Z h a3 "com/example/liblocpath/liblocpath/tree/NodeKind" := K.2.2.2.2.2.2.2.2.2.2.1
theorem own_K.o3 {Z : State} {h : Heap} {a0 a1 a2 a3 a4 a5 a6 : Addr} (K : own_K Z h a0 a1 a2 a3 a4 a5 a6) : Fld Z h a3 "java/lang/Enum" "ordinal" "I" (.int (3 : Int32)) := K.2.2.2.2.2.2.2.2.2.2.2.1
theorem own_K.s4 {Z : State} {h : Heap} {a0 a1 a2 a3 a4 a5 a6 : Addr} (K : own_K Z h a0 a1 a2 a3 a4 a5 a6) : Sta Z h "com/example/liblocpath/liblocpath/tree/NodeKind" "TEXT" "Lcom/example/liblocpath/liblocpath/tree/NodeKind;" (.ref a4) := K.2.2.2.2.2.2.2.2.2.2.2.2.1
theorem own_K.e4 {Z : State} {h : Heap} {a0 a1 a2 a3 a4 a5 a6 : Addr} (K : own_K Z h a0 a1 a2 a3 a4 a5 a6) : Exa Z h a4 "com/example/liblocpath/liblocpath/tree/NodeKind" := K.2.2.2.2.2.2.2.2.2.2.2.2.2.1
theorem own_K.o4 {Z : State} {h : Heap} {a0 a1 a2 a3 a4 a5 a6 : Addr} (K : own_K Z h a0 a1 a2 a3 a4 a5 a6) : Fld Z h a4 "java/lang/Enum" "ordinal" "I" (.int (4 : Int32)) := K.2.2.2.2.2.2.2.2.2.2.2.2.2.2.1
theorem own_K.s5 {Z : State} {h : Heap} {a0 a1 a2 a3 a4 a5 a6 : Addr} (K : own_K Z h a0 a1 a2 a3 a4 a5 a6) : Sta Z h "com/example/liblocpath/liblocpath/tree/NodeKind" "COMMENT" "Lcom/example/liblocpath/liblocpath/tree/NodeKind;" (.ref a5) := K.2.2.2.2.2.2.2.2.2.2.2.2.2.2.2.1
theorem own_K.e5 {Z : State} {h : Heap} {a0 a1 a2 a3 a4 a5 a6 : Addr} (K : own_K Z h a0 a1 a2 a3 a4 a5 a6) : Exa Z h a5 "com/example/liblocpath/liblocpath/tree/NodeKind" := K.2.2.2.2.2.2.2.2.2.2.2.2.2.2.2.2.1
theorem own_K.o5 {Z : State} {h : Heap} {a0 a1 a2 a3 a4 a5 a6 : Addr} (K : own_K Z h a0 a1 a2 a3 a4 a5 a6) : Fld Z h a5 "java/lang/Enum" "ordinal" "I" (.int (5 : Int32)) := K.2.2.2.2.2.2.2.2.2.2.2.2.2.2.2.2.2.1
theorem own_K.s6 {Z : State} {h : Heap} {a0 a1 a2 a3 a4 a5 a6 : Addr} (K : own_K Z h a0 a1 a2 a3 a4 a5 a6) : Sta Z h "com/example/liblocpath/liblocpath/tree/NodeKind" "PROCESSING_INSTRUCTION" "Lcom/example/liblocpath/liblocpath/tree/NodeKind;" (.ref a6) := K.2.2.2.2.2.2.2.2.2.2.2.2.2.2.2.2.2.2.1
theorem own_K.e6 {Z : State} {h : Heap} {a0 a1 a2 a3 a4 a5 a6 : Addr} (K : own_K Z h a0 a1 a2 a3 a4 a5 a6) : Exa Z h a6 "com/example/liblocpath/liblocpath/tree/NodeKind" := K.2.2.2.2.2.2.2.2.2.2.2.2.2.2.2.2.2.2.2.1
theorem own_K.o6 {Z : State} {h : Heap} {a0 a1 a2 a3 a4 a5 a6 : Addr} (K : own_K Z h a0 a1 a2 a3 a4 a5 a6) : Fld Z h a6 "java/lang/Enum" "ordinal" "I" (.int (6 : Int32)) := K.2.2.2.2.2.2.2.2.2.2.2.2.2.2.2.2.2.2.2.2
theorem own_K.ext {Z : State} {h h' : Heap} {a0 a1 a2 a3 a4 a5 a6 : Addr} (K : own_K Z h a0 a1 a2 a3 a4 a5 a6) (E : Ext h h') : own_K Z h' a0 a1 a2 a3 a4 a5 a6 := ⟨K.s0.ext E, K.e0.ext E, K.o0.ext E, K.s1.ext E, K.e1.ext E, K.o1.ext E, K.s2.ext E, K.e2.ext E, K.o2.ext E, K.s3.ext E, K.e3.ext E, K.o3.ext E, K.s4.ext E, K.e4.ext E, K.o4.ext E, K.s5.ext E, K.e5.ext E, K.o5.ext E, K.s6.ext E, K.e6.ext E, K.o6.ext E⟩
def own_kind (k : Int32) (a0 a1 a2 a3 a4 a5 a6 : Addr) : Value := if k = 0 then .ref a0 else if k = 1 then .ref a1 else if k = 2 then .ref a2 else if k = 3 then .ref a3 else if k = 4 then .ref a4 else if k = 5 then .ref a5 else if k = 6 then .ref a6 else .null
def own_Kd (Z : State) (h : Heap) (v : Value) : Prop := v = .null ∨ ∃ (a : Addr) (q : Int32), v = .ref a ∧ Exa Z h a "com/example/liblocpath/liblocpath/tree/NodeKind" ∧ Fld Z h a "java/lang/Enum" "ordinal" "I" (.int q)
theorem own_Kd.r {Z : State} {h : Heap} {v : Value} (K : own_Kd Z h v) : v.isRef = true := by
  rcases K with rfl | ⟨a, q, rfl, _⟩ <;> rfl
theorem own_Kd.ext {Z : State} {h h' : Heap} {v : Value} (K : own_Kd Z h v) (E : Ext h h') : own_Kd Z h' v := K.imp id fun ⟨a, q, e, A, F⟩ => ⟨a, q, e, A.ext E, F.ext E⟩
theorem own_kind_h {Z : State} {h : Heap} (k : Int32) {a0 a1 a2 a3 a4 a5 a6 : Addr} (K : own_K Z h a0 a1 a2 a3 a4 a5 a6) : own_Kd Z h (own_kind k a0 a1 a2 a3 a4 a5 a6) := by
  unfold own_kind
  repeat' split
  · exact Or.inr ⟨_, _, rfl, K.e0, K.o0⟩
  · exact Or.inr ⟨_, _, rfl, K.e1, K.o1⟩
  · exact Or.inr ⟨_, _, rfl, K.e2, K.o2⟩
  · exact Or.inr ⟨_, _, rfl, K.e3, K.o3⟩
  · exact Or.inr ⟨_, _, rfl, K.e4, K.o4⟩
  · exact Or.inr ⟨_, _, rfl, K.e5, K.o5⟩
  · exact Or.inr ⟨_, _, rfl, K.e6, K.o6⟩
  · exact Or.inl rfl
def own_QR (h0 : Heap) (r : Value) (v : Option Value) (h : Heap) (L : List Loc) : Prop := v = some r ∧ L = [] ∧ h = h0
def own_QI (Z : State) (o : Addr) (kv : Value) (x2 x3 x5 : Int32) (h0 : Heap) (n0 : Nat) (v : Option Value) (h : Heap) (L : List Loc) : Prop := v = none ∧ Fr n0 L ∧ Keep h0 h [o] ∧ Exa Z h o "com/example/liblocpath/liblocpath/tree/BoundNodeTest" ∧ Fld Z h o "com/example/liblocpath/liblocpath/tree/BoundNodeTest" "kind" "Lcom/example/liblocpath/liblocpath/tree/NodeKind;" kv ∧ Fld Z h o "com/example/liblocpath/liblocpath/tree/BoundNodeTest" "expandedNameCode" "I" (.int x2) ∧ Fld Z h o "com/example/liblocpath/liblocpath/tree/BoundNodeTest" "namespaceCode" "I" (.int x3) ∧ Fld Z h o "com/example/liblocpath/liblocpath/tree/BoundNodeTest" "readsEachName" "Z" (.int x5)
theorem d4_0 : decode jdk_37_method_2_code 0 = .ok (.aload_n 0, 1) := by decide +kernel
theorem d4_1 : decode jdk_37_method_2_code 1 = .ok (.getfield 7, 3) := by decide +kernel
theorem d4_4 : decode jdk_37_method_2_code 4 = .ok (.ireturn, 1) := by decide +kernel
set_option maxRecDepth 65536 in
set_option maxHeartbeats 40000000 in
theorem rmO (l : Launch) (Z : State) (w0 : Array Value) (hw : ∀ d ∈ tables_1, d.before w0 Z = true) (ws : List Jvm.Cond) (r : Addr) (q : Int32) (h0 : Heap) (F0 : Fld Z h0 r "java/lang/Enum" "ordinal" "I" (.int q)) : Pact l Z (⟨"java/lang/Enum", "ordinal", "()I"⟩ : MethodName) jdk_37_method_2_code 1 (some .int) ws ({ frames := 0, cells := 0, slots := 0, locals := 0 } : Room) #[.ref r] h0 (own_QR h0 (.int q)) := by
  refine Pact.intro (plainFor_of_name pnEn) ?_
  intro p e s m below meth c T0 X0 hx hby hml hret hlk hown hnm hZ e0
  refine Go.at (efO m r) ?_
  refine Go.on (g' := (mkF m 1 _ [(.ref r)])) (fun t_ k_ => XS.aloadN X0.here hx rfl (hb hby d4_0) rfl rfl k_) ?_
  obtain ⟨T1, X1, e1, st1⟩ := getF X0 hx hZ hown (host := "") (Or.inl (hw _ (List.mem_of_getElem? (i := 33) rfl))) Via.refl e0 F0 (g := (mkF m 1 #[.val (.ref r)] [(.ref r)])) rfl rfl (hb hby d4_1)
  refine Go.on (g' := (mkF m 4 _ [(.int q)])) (st1) ?_
  exact Go.retI X1 hx hlk hret hby d4_4 rfl (by simp) (by decide) (by decide) ⟨rfl, rfl, e1⟩
theorem d2_0 : decode prog_78_method_1_code 0 = .ok (.aload_n 0, 1) := by decide +kernel
theorem d2_1 : decode prog_78_method_1_code 1 = .ok (.invokespecial 1, 3) := by decide +kernel
theorem d2_4 : decode prog_78_method_1_code 4 = .ok (.aload_n 0, 1) := by decide +kernel
theorem d2_5 : decode prog_78_method_1_code 5 = .ok (.aload_n 1, 1) := by decide +kernel
theorem d2_6 : decode prog_78_method_1_code 6 = .ok (.putfield 7, 3) := by decide +kernel
theorem d2_9 : decode prog_78_method_1_code 9 = .ok (.aload_n 0, 1) := by decide +kernel
theorem d2_10 : decode prog_78_method_1_code 10 = .ok (.iload_n 2, 1) := by decide +kernel
theorem d2_11 : decode prog_78_method_1_code 11 = .ok (.putfield 13, 3) := by decide +kernel
theorem d2_14 : decode prog_78_method_1_code 14 = .ok (.aload_n 0, 1) := by decide +kernel
theorem d2_15 : decode prog_78_method_1_code 15 = .ok (.iload_n 3, 1) := by decide +kernel
theorem d2_16 : decode prog_78_method_1_code 16 = .ok (.putfield 17, 3) := by decide +kernel
theorem d2_19 : decode prog_78_method_1_code 19 = .ok (.aload_n 0, 1) := by decide +kernel
theorem d2_20 : decode prog_78_method_1_code 20 = .ok (.aload 4, 2) := by decide +kernel
theorem d2_22 : decode prog_78_method_1_code 22 = .ok (.putfield 20, 3) := by decide +kernel
theorem d2_25 : decode prog_78_method_1_code 25 = .ok (.aload_n 0, 1) := by decide +kernel
theorem d2_26 : decode prog_78_method_1_code 26 = .ok (.iload 5, 2) := by decide +kernel
theorem d2_28 : decode prog_78_method_1_code 28 = .ok (.putfield 24, 3) := by decide +kernel
theorem d2_31 : decode prog_78_method_1_code 31 = .ok (.aload_n 0, 1) := by decide +kernel
theorem d2_32 : decode prog_78_method_1_code 32 = .ok (.aload_n 1, 1) := by decide +kernel
theorem d2_33 : decode prog_78_method_1_code 33 = .ok (.ifnonnull 8, 3) := by decide +kernel
theorem d2_36 : decode prog_78_method_1_code 36 = .ok (.bipush (-3), 2) := by decide +kernel
theorem d2_38 : decode prog_78_method_1_code 38 = .ok (.goto 7, 3) := by decide +kernel
theorem d2_41 : decode prog_78_method_1_code 41 = .ok (.aload_n 1, 1) := by decide +kernel
theorem d2_42 : decode prog_78_method_1_code 42 = .ok (.invokevirtual 28, 3) := by decide +kernel
theorem d2_45 : decode prog_78_method_1_code 45 = .ok (.putfield 34, 3) := by decide +kernel
theorem d2_48 : decode prog_78_method_1_code 48 = .ok (.aload_n 0, 1) := by decide +kernel
theorem d2_49 : decode prog_78_method_1_code 49 = .ok (.iload_n 2, 1) := by decide +kernel
theorem d2_50 : decode prog_78_method_1_code 50 = .ok (.bipush (-3), 2) := by decide +kernel
theorem d2_52 : decode prog_78_method_1_code 52 = .ok (.if_icmp .ne 13, 3) := by decide +kernel
theorem d2_55 : decode prog_78_method_1_code 55 = .ok (.iload_n 3, 1) := by decide +kernel
theorem d2_56 : decode prog_78_method_1_code 56 = .ok (.bipush (-3), 2) := by decide +kernel
theorem d2_58 : decode prog_78_method_1_code 58 = .ok (.if_icmp .ne 7, 3) := by decide +kernel
theorem d2_61 : decode prog_78_method_1_code 61 = .ok (.iconst 1, 1) := by decide +kernel
theorem d2_62 : decode prog_78_method_1_code 62 = .ok (.goto 4, 3) := by decide +kernel
theorem d2_65 : decode prog_78_method_1_code 65 = .ok (.iconst 0, 1) := by decide +kernel
theorem d2_66 : decode prog_78_method_1_code 66 = .ok (.putfield 37, 3) := by decide +kernel
theorem d2_69 : decode prog_78_method_1_code 69 = .ok (.return_, 1) := by decide +kernel
set_option maxRecDepth 65536 in
set_option maxHeartbeats 40000000 in
theorem rmIn (l : Launch) (Z : State) (w0 : Array Value) (hw : ∀ d ∈ tables_1, d.before w0 Z = true) (ws : List Jvm.Cond) (o : Addr) (x2 x3 x5 : Int32) (h0 : Heap) (n0 : Nat) (Z0 : n0 ≤ h0.size) (no : n0 ≤ o) (E0 : Exa Z h0 o "com/example/liblocpath/liblocpath/tree/BoundNodeTest") (G0 : Fld Z h0 o "com/example/liblocpath/liblocpath/tree/BoundNodeTest" "kind" "Lcom/example/liblocpath/liblocpath/tree/NodeKind;" .null) (G1 : Fld Z h0 o "com/example/liblocpath/liblocpath/tree/BoundNodeTest" "expandedNameCode" "I" (.int (0 : Int32))) (G2 : Fld Z h0 o "com/example/liblocpath/liblocpath/tree/BoundNodeTest" "namespaceCode" "I" (.int (0 : Int32))) (G3 : Fld Z h0 o "com/example/liblocpath/liblocpath/tree/BoundNodeTest" "names" "Lcom/example/liblocpath/liblocpath/tree/NameTable;" .null) (G4 : Fld Z h0 o "com/example/liblocpath/liblocpath/tree/BoundNodeTest" "readsEachName" "Z" (.int (0 : Int32))) (G5 : Fld Z h0 o "com/example/liblocpath/liblocpath/tree/BoundNodeTest" "kindOrdinal" "I" (.int (0 : Int32))) (G6 : Fld Z h0 o "com/example/liblocpath/liblocpath/tree/BoundNodeTest" "keepsAnyName" "Z" (.int (0 : Int32))) (hrd : narrow .boolean (.int x5) = .int x5) (frd : fits .boolean (.int x5) = true) : Pact l Z (⟨"com/example/liblocpath/liblocpath/tree/BoundNodeTest", "<init>", "(Lcom/example/liblocpath/liblocpath/tree/NodeKind;IILcom/example/liblocpath/liblocpath/tree/NameTable;Z)V"⟩ : MethodName) prog_78_method_1_code 6 none ws ({ frames := 1, cells := 0, slots := 0, locals := 13 } : Room) #[.ref o, .null, .int x2, .int x3, .null, .int x5] h0 (own_QI Z o .null x2 x3 x5 h0 n0) := by
  refine Pact.intro (plainFor_of_name pnBN) ?_
  intro p e s m below meth c T0 X0 hx hby hml hret hlk hown hnm hZ e0
  refine Go.at (efIn m o x2 x3 x5) ?_
  have N0 := Fr.nil n0
  have KP0 : Keep h0 h0 [o] := Keep.refl _ _
  refine Go.on (g' := (mkF m 1 _ [(.ref o)])) (fun t_ k_ => XS.aloadN X0.here hx rfl (hb hby d2_0) rfl rfl k_) ?_
  obtain ⟨T1, X1, e1, st1⟩ := initO X0 hx hZ hown (hw _ (List.mem_of_getElem? (i := 13) rfl)) (hw _ (List.mem_of_getElem? (i := 14) rfl)) (hw _ (List.mem_of_getElem? (i := 15) rfl)) e0 (g := (mkF m 1 #[.val (.ref o), .val .null, .val (.int x2), .val (.int x3), .val .null, .val (.int x5)] [(.ref o)])) rfl (by rw [hml]; rfl) rfl (hb hby d2_1) (by decide) (W := 0) (by show 2 * 0 + _ ≤ _; exact Nat.le_of_eq rfl) (by decide)
  refine Go.on (g' := (mkF m 4 _ [])) (st1) ?_
  refine Go.on (g' := (mkF m 5 _ [(.ref o)])) (fun t_ k_ => XS.aloadN X1.here hx rfl (hb hby d2_4) rfl rfl k_) ?_
  refine Go.on (g' := (mkF m 6 _ [.null, (.ref o)])) (fun t_ k_ => XS.aloadN X1.here hx rfl (hb hby d2_5) rfl rfl k_) ?_
  obtain ⟨T2, h2, X2, e2, W2, st2⟩ := putF X1 hx hZ hown (host := "") (Or.inl (hw _ (List.mem_of_getElem? (i := 16) rfl))) Via.refl e1 G0 E0 (Or.inr ⟨(hw _ (List.mem_of_getElem? (i := 17) rfl)), rfl, hnm⟩) (hw _ (List.mem_of_getElem? (i := 8) rfl)) (ty := (.object "com/example/liblocpath/liblocpath/tree/NodeKind")) (by decide) rfl rfl (g := (mkF m 6 #[.val (.ref o), .val .null, .val (.int x2), .val (.int x3), .val .null, .val (.int x5)] [.null, (.ref o)])) rfl rfl (hb hby d2_6)
  have N2 := Fr.snoc X2 N0 no
  have Z2 : n0 ≤ h2.size := by rw [W2.size]; exact Z0
  have KP_2 := KP0.wr W2 (Or.inl (List.mem_of_getElem? (i := 0) rfl))
  have exa_o_2 := E0.wr W2
  have fld_o_expandedNameCode_2 := G1.other W2 (Or.inr (slot_ne (Or.inr (hw _ (List.mem_of_getElem? (i := 19) rfl))) (Or.inr (hw _ (List.mem_of_getElem? (i := 17) rfl))) (by decide) (by decide : parseFieldDescriptor "I" = some .int) (by decide : parseFieldDescriptor "Lcom/example/liblocpath/liblocpath/tree/NodeKind;" = some (.object "com/example/liblocpath/liblocpath/tree/NodeKind"))))
  have fld_o_namespaceCode_2 := G2.other W2 (Or.inr (slot_ne (Or.inr (hw _ (List.mem_of_getElem? (i := 21) rfl))) (Or.inr (hw _ (List.mem_of_getElem? (i := 17) rfl))) (by decide) (by decide : parseFieldDescriptor "I" = some .int) (by decide : parseFieldDescriptor "Lcom/example/liblocpath/liblocpath/tree/NodeKind;" = some (.object "com/example/liblocpath/liblocpath/tree/NodeKind"))))
  have fld_o_names_2 := G3.other W2 (Or.inr (slot_ne (Or.inr (hw _ (List.mem_of_getElem? (i := 23) rfl))) (Or.inr (hw _ (List.mem_of_getElem? (i := 17) rfl))) (by decide) (by decide : parseFieldDescriptor "Lcom/example/liblocpath/liblocpath/tree/NameTable;" = some (.object "com/example/liblocpath/liblocpath/tree/NameTable")) (by decide : parseFieldDescriptor "Lcom/example/liblocpath/liblocpath/tree/NodeKind;" = some (.object "com/example/liblocpath/liblocpath/tree/NodeKind"))))
  have fld_o_readsEachName_2 := G4.other W2 (Or.inr (slot_ne (Or.inr (hw _ (List.mem_of_getElem? (i := 25) rfl))) (Or.inr (hw _ (List.mem_of_getElem? (i := 17) rfl))) (by decide) (by decide : parseFieldDescriptor "Z" = some .boolean) (by decide : parseFieldDescriptor "Lcom/example/liblocpath/liblocpath/tree/NodeKind;" = some (.object "com/example/liblocpath/liblocpath/tree/NodeKind"))))
  have fld_o_kindOrdinal_2 := G5.other W2 (Or.inr (slot_ne (Or.inr (hw _ (List.mem_of_getElem? (i := 36) rfl))) (Or.inr (hw _ (List.mem_of_getElem? (i := 17) rfl))) (by decide) (by decide : parseFieldDescriptor "I" = some .int) (by decide : parseFieldDescriptor "Lcom/example/liblocpath/liblocpath/tree/NodeKind;" = some (.object "com/example/liblocpath/liblocpath/tree/NodeKind"))))
  have fld_o_keepsAnyName_2 := G6.other W2 (Or.inr (slot_ne (Or.inr (hw _ (List.mem_of_getElem? (i := 38) rfl))) (Or.inr (hw _ (List.mem_of_getElem? (i := 17) rfl))) (by decide) (by decide : parseFieldDescriptor "Z" = some .boolean) (by decide : parseFieldDescriptor "Lcom/example/liblocpath/liblocpath/tree/NodeKind;" = some (.object "com/example/liblocpath/liblocpath/tree/NodeKind"))))
  have fld_o_kind_2 := G0.same W2
  refine Go.on (g' := (mkF m 9 _ [])) (st2) ?_
  refine Go.on (g' := (mkF m 10 _ [(.ref o)])) (fun t_ k_ => XS.aloadN X2.here hx rfl (hb hby d2_9) rfl rfl k_) ?_
  refine Go.on (g' := (mkF m 11 _ [(.int x2), (.ref o)])) (fun t_ k_ => XS.iloadN X2.here hx rfl (hb hby d2_10) rfl k_) ?_
  obtain ⟨T3, h3, X3, e3, W3, st3⟩ := putF X2 hx hZ hown (host := "") (Or.inl (hw _ (List.mem_of_getElem? (i := 18) rfl))) Via.refl e2 fld_o_expandedNameCode_2 exa_o_2 (Or.inr ⟨(hw _ (List.mem_of_getElem? (i := 19) rfl)), rfl, hnm⟩) (hw _ (List.mem_of_getElem? (i := 8) rfl)) (ty := .int) (by decide) rfl rfl (g := (mkF m 11 #[.val (.ref o), .val .null, .val (.int x2), .val (.int x3), .val .null, .val (.int x5)] [(.int x2), (.ref o)])) rfl rfl (hb hby d2_11)
  have N3 := Fr.snoc X3 N2 no
  have Z3 : n0 ≤ h3.size := by rw [W3.size]; exact Z2
  have KP_3 := KP_2.wr W3 (Or.inl (List.mem_of_getElem? (i := 0) rfl))
  have exa_o_3 := exa_o_2.wr W3
  have fld_o_kind_3 := fld_o_kind_2.other W3 (Or.inr (slot_ne (Or.inr (hw _ (List.mem_of_getElem? (i := 17) rfl))) (Or.inr (hw _ (List.mem_of_getElem? (i := 19) rfl))) (by decide) (by decide : parseFieldDescriptor "Lcom/example/liblocpath/liblocpath/tree/NodeKind;" = some (.object "com/example/liblocpath/liblocpath/tree/NodeKind")) (by decide : parseFieldDescriptor "I" = some .int)))
  have fld_o_namespaceCode_3 := fld_o_namespaceCode_2.other W3 (Or.inr (slot_ne (Or.inr (hw _ (List.mem_of_getElem? (i := 21) rfl))) (Or.inr (hw _ (List.mem_of_getElem? (i := 19) rfl))) (by decide) (by decide : parseFieldDescriptor "I" = some .int) (by decide : parseFieldDescriptor "I" = some .int)))
  have fld_o_names_3 := fld_o_names_2.other W3 (Or.inr (slot_ne (Or.inr (hw _ (List.mem_of_getElem? (i := 23) rfl))) (Or.inr (hw _ (List.mem_of_getElem? (i := 19) rfl))) (by decide) (by decide : parseFieldDescriptor "Lcom/example/liblocpath/liblocpath/tree/NameTable;" = some (.object "com/example/liblocpath/liblocpath/tree/NameTable")) (by decide : parseFieldDescriptor "I" = some .int)))
  have fld_o_readsEachName_3 := fld_o_readsEachName_2.other W3 (Or.inr (slot_ne (Or.inr (hw _ (List.mem_of_getElem? (i := 25) rfl))) (Or.inr (hw _ (List.mem_of_getElem? (i := 19) rfl))) (by decide) (by decide : parseFieldDescriptor "Z" = some .boolean) (by decide : parseFieldDescriptor "I" = some .int)))
  have fld_o_kindOrdinal_3 := fld_o_kindOrdinal_2.other W3 (Or.inr (slot_ne (Or.inr (hw _ (List.mem_of_getElem? (i := 36) rfl))) (Or.inr (hw _ (List.mem_of_getElem? (i := 19) rfl))) (by decide) (by decide : parseFieldDescriptor "I" = some .int) (by decide : parseFieldDescriptor "I" = some .int)))
  have fld_o_keepsAnyName_3 := fld_o_keepsAnyName_2.other W3 (Or.inr (slot_ne (Or.inr (hw _ (List.mem_of_getElem? (i := 38) rfl))) (Or.inr (hw _ (List.mem_of_getElem? (i := 19) rfl))) (by decide) (by decide : parseFieldDescriptor "Z" = some .boolean) (by decide : parseFieldDescriptor "I" = some .int)))
  have fld_o_expandedNameCode_3 := fld_o_expandedNameCode_2.same W3
  refine Go.on (g' := (mkF m 14 _ [])) (st3) ?_
  refine Go.on (g' := (mkF m 15 _ [(.ref o)])) (fun t_ k_ => XS.aloadN X3.here hx rfl (hb hby d2_14) rfl rfl k_) ?_
  refine Go.on (g' := (mkF m 16 _ [(.int x3), (.ref o)])) (fun t_ k_ => XS.iloadN X3.here hx rfl (hb hby d2_15) rfl k_) ?_
  obtain ⟨T4, h4, X4, e4, W4, st4⟩ := putF X3 hx hZ hown (host := "") (Or.inl (hw _ (List.mem_of_getElem? (i := 20) rfl))) Via.refl e3 fld_o_namespaceCode_3 exa_o_3 (Or.inr ⟨(hw _ (List.mem_of_getElem? (i := 21) rfl)), rfl, hnm⟩) (hw _ (List.mem_of_getElem? (i := 8) rfl)) (ty := .int) (by decide) rfl rfl (g := (mkF m 16 #[.val (.ref o), .val .null, .val (.int x2), .val (.int x3), .val .null, .val (.int x5)] [(.int x3), (.ref o)])) rfl rfl (hb hby d2_16)
  have N4 := Fr.snoc X4 N3 no
  have Z4 : n0 ≤ h4.size := by rw [W4.size]; exact Z3
  have KP_4 := KP_3.wr W4 (Or.inl (List.mem_of_getElem? (i := 0) rfl))
  have exa_o_4 := exa_o_3.wr W4
  have fld_o_kind_4 := fld_o_kind_3.other W4 (Or.inr (slot_ne (Or.inr (hw _ (List.mem_of_getElem? (i := 17) rfl))) (Or.inr (hw _ (List.mem_of_getElem? (i := 21) rfl))) (by decide) (by decide : parseFieldDescriptor "Lcom/example/liblocpath/liblocpath/tree/NodeKind;" = some (.object "com/example/liblocpath/liblocpath/tree/NodeKind")) (by decide : parseFieldDescriptor "I" = some .int)))
  have fld_o_expandedNameCode_4 := fld_o_expandedNameCode_3.other W4 (Or.inr (slot_ne (Or.inr (hw _ (List.mem_of_getElem? (i := 19) rfl))) (Or.inr (hw _ (List.mem_of_getElem? (i := 21) rfl))) (by decide) (by decide : parseFieldDescriptor "I" = some .int) (by decide : parseFieldDescriptor "I" = some .int)))
  have fld_o_names_4 := fld_o_names_3.other W4 (Or.inr (slot_ne (Or.inr (hw _ (List.mem_of_getElem? (i := 23) rfl))) (Or.inr (hw _ (List.mem_of_getElem? (i := 21) rfl))) (by decide) (by decide : parseFieldDescriptor "Lcom/example/liblocpath/liblocpath/tree/NameTable;" = some (.object "com/example/liblocpath/liblocpath/tree/NameTable")) (by decide : parseFieldDescriptor "I" = some .int)))
  have fld_o_readsEachName_4 := fld_o_readsEachName_3.other W4 (Or.inr (slot_ne (Or.inr (hw _ (List.mem_of_getElem? (i := 25) rfl))) (Or.inr (hw _ (List.mem_of_getElem? (i := 21) rfl))) (by decide) (by decide : parseFieldDescriptor "Z" = some .boolean) (by decide : parseFieldDescriptor "I" = some .int)))
  have fld_o_kindOrdinal_4 := fld_o_kindOrdinal_3.other W4 (Or.inr (slot_ne (Or.inr (hw _ (List.mem_of_getElem? (i := 36) rfl))) (Or.inr (hw _ (List.mem_of_getElem? (i := 21) rfl))) (by decide) (by decide : parseFieldDescriptor "I" = some .int) (by decide : parseFieldDescriptor "I" = some .int)))
  have fld_o_keepsAnyName_4 := fld_o_keepsAnyName_3.other W4 (Or.inr (slot_ne (Or.inr (hw _ (List.mem_of_getElem? (i := 38) rfl))) (Or.inr (hw _ (List.mem_of_getElem? (i := 21) rfl))) (by decide) (by decide : parseFieldDescriptor "Z" = some .boolean) (by decide : parseFieldDescriptor "I" = some .int)))
  have fld_o_namespaceCode_4 := fld_o_namespaceCode_3.same W4
  refine Go.on (g' := (mkF m 19 _ [])) (st4) ?_
  refine Go.on (g' := (mkF m 20 _ [(.ref o)])) (fun t_ k_ => XS.aloadN X4.here hx rfl (hb hby d2_19) rfl rfl k_) ?_
  refine Go.on (g' := (mkF m 22 _ [.null, (.ref o)])) (fun t_ k_ => XS.aload X4.here hx rfl (hb hby d2_20) rfl rfl k_) ?_
  obtain ⟨T5, h5, X5, e5, W5, st5⟩ := putF X4 hx hZ hown (host := "") (Or.inl (hw _ (List.mem_of_getElem? (i := 22) rfl))) Via.refl e4 fld_o_names_4 exa_o_4 (Or.inr ⟨(hw _ (List.mem_of_getElem? (i := 23) rfl)), rfl, hnm⟩) (hw _ (List.mem_of_getElem? (i := 8) rfl)) (ty := (.object "com/example/liblocpath/liblocpath/tree/NameTable")) (by decide) rfl rfl (g := (mkF m 22 #[.val (.ref o), .val .null, .val (.int x2), .val (.int x3), .val .null, .val (.int x5)] [.null, (.ref o)])) rfl rfl (hb hby d2_22)
  have N5 := Fr.snoc X5 N4 no
  have Z5 : n0 ≤ h5.size := by rw [W5.size]; exact Z4
  have KP_5 := KP_4.wr W5 (Or.inl (List.mem_of_getElem? (i := 0) rfl))
  have exa_o_5 := exa_o_4.wr W5
  have fld_o_kind_5 := fld_o_kind_4.other W5 (Or.inr (slot_ne (Or.inr (hw _ (List.mem_of_getElem? (i := 17) rfl))) (Or.inr (hw _ (List.mem_of_getElem? (i := 23) rfl))) (by decide) (by decide : parseFieldDescriptor "Lcom/example/liblocpath/liblocpath/tree/NodeKind;" = some (.object "com/example/liblocpath/liblocpath/tree/NodeKind")) (by decide : parseFieldDescriptor "Lcom/example/liblocpath/liblocpath/tree/NameTable;" = some (.object "com/example/liblocpath/liblocpath/tree/NameTable"))))
  have fld_o_expandedNameCode_5 := fld_o_expandedNameCode_4.other W5 (Or.inr (slot_ne (Or.inr (hw _ (List.mem_of_getElem? (i := 19) rfl))) (Or.inr (hw _ (List.mem_of_getElem? (i := 23) rfl))) (by decide) (by decide : parseFieldDescriptor "I" = some .int) (by decide : parseFieldDescriptor "Lcom/example/liblocpath/liblocpath/tree/NameTable;" = some (.object "com/example/liblocpath/liblocpath/tree/NameTable"))))
  have fld_o_namespaceCode_5 := fld_o_namespaceCode_4.other W5 (Or.inr (slot_ne (Or.inr (hw _ (List.mem_of_getElem? (i := 21) rfl))) (Or.inr (hw _ (List.mem_of_getElem? (i := 23) rfl))) (by decide) (by decide : parseFieldDescriptor "I" = some .int) (by decide : parseFieldDescriptor "Lcom/example/liblocpath/liblocpath/tree/NameTable;" = some (.object "com/example/liblocpath/liblocpath/tree/NameTable"))))
  have fld_o_readsEachName_5 := fld_o_readsEachName_4.other W5 (Or.inr (slot_ne (Or.inr (hw _ (List.mem_of_getElem? (i := 25) rfl))) (Or.inr (hw _ (List.mem_of_getElem? (i := 23) rfl))) (by decide) (by decide : parseFieldDescriptor "Z" = some .boolean) (by decide : parseFieldDescriptor "Lcom/example/liblocpath/liblocpath/tree/NameTable;" = some (.object "com/example/liblocpath/liblocpath/tree/NameTable"))))
  have fld_o_kindOrdinal_5 := fld_o_kindOrdinal_4.other W5 (Or.inr (slot_ne (Or.inr (hw _ (List.mem_of_getElem? (i := 36) rfl))) (Or.inr (hw _ (List.mem_of_getElem? (i := 23) rfl))) (by decide) (by decide : parseFieldDescriptor "I" = some .int) (by decide : parseFieldDescriptor "Lcom/example/liblocpath/liblocpath/tree/NameTable;" = some (.object "com/example/liblocpath/liblocpath/tree/NameTable"))))
  have fld_o_keepsAnyName_5 := fld_o_keepsAnyName_4.other W5 (Or.inr (slot_ne (Or.inr (hw _ (List.mem_of_getElem? (i := 38) rfl))) (Or.inr (hw _ (List.mem_of_getElem? (i := 23) rfl))) (by decide) (by decide : parseFieldDescriptor "Z" = some .boolean) (by decide : parseFieldDescriptor "Lcom/example/liblocpath/liblocpath/tree/NameTable;" = some (.object "com/example/liblocpath/liblocpath/tree/NameTable"))))
  have fld_o_names_5 := fld_o_names_4.same W5
  refine Go.on (g' := (mkF m 25 _ [])) (st5) ?_
  refine Go.on (g' := (mkF m 26 _ [(.ref o)])) (fun t_ k_ => XS.aloadN X5.here hx rfl (hb hby d2_25) rfl rfl k_) ?_
  refine Go.on (g' := (mkF m 28 _ [(.int x5), (.ref o)])) (fun t_ k_ => XS.iload X5.here hx rfl (hb hby d2_26) rfl k_) ?_
  obtain ⟨T6, h6, X6, e6, W6, st6⟩ := putF X5 hx hZ hown (host := "") (Or.inl (hw _ (List.mem_of_getElem? (i := 24) rfl))) Via.refl e5 fld_o_readsEachName_5 exa_o_5 (Or.inr ⟨(hw _ (List.mem_of_getElem? (i := 25) rfl)), rfl, hnm⟩) (hw _ (List.mem_of_getElem? (i := 8) rfl)) (ty := .boolean) (by decide) hrd frd (g := (mkF m 28 #[.val (.ref o), .val .null, .val (.int x2), .val (.int x3), .val .null, .val (.int x5)] [(.int x5), (.ref o)])) rfl rfl (hb hby d2_28)
  have N6 := Fr.snoc X6 N5 no
  have Z6 : n0 ≤ h6.size := by rw [W6.size]; exact Z5
  have KP_6 := KP_5.wr W6 (Or.inl (List.mem_of_getElem? (i := 0) rfl))
  have exa_o_6 := exa_o_5.wr W6
  have fld_o_kind_6 := fld_o_kind_5.other W6 (Or.inr (slot_ne (Or.inr (hw _ (List.mem_of_getElem? (i := 17) rfl))) (Or.inr (hw _ (List.mem_of_getElem? (i := 25) rfl))) (by decide) (by decide : parseFieldDescriptor "Lcom/example/liblocpath/liblocpath/tree/NodeKind;" = some (.object "com/example/liblocpath/liblocpath/tree/NodeKind")) (by decide : parseFieldDescriptor "Z" = some .boolean)))
  have fld_o_expandedNameCode_6 := fld_o_expandedNameCode_5.other W6 (Or.inr (slot_ne (Or.inr (hw _ (List.mem_of_getElem? (i := 19) rfl))) (Or.inr (hw _ (List.mem_of_getElem? (i := 25) rfl))) (by decide) (by decide : parseFieldDescriptor "I" = some .int) (by decide : parseFieldDescriptor "Z" = some .boolean)))
  have fld_o_namespaceCode_6 := fld_o_namespaceCode_5.other W6 (Or.inr (slot_ne (Or.inr (hw _ (List.mem_of_getElem? (i := 21) rfl))) (Or.inr (hw _ (List.mem_of_getElem? (i := 25) rfl))) (by decide) (by decide : parseFieldDescriptor "I" = some .int) (by decide : parseFieldDescriptor "Z" = some .boolean)))
  have fld_o_names_6 := fld_o_names_5.other W6 (Or.inr (slot_ne (Or.inr (hw _ (List.mem_of_getElem? (i := 23) rfl))) (Or.inr (hw _ (List.mem_of_getElem? (i := 25) rfl))) (by decide) (by decide : parseFieldDescriptor "Lcom/example/liblocpath/liblocpath/tree/NameTable;" = some (.object "com/example/liblocpath/liblocpath/tree/NameTable")) (by decide : parseFieldDescriptor "Z" = some .boolean)))
  have fld_o_kindOrdinal_6 := fld_o_kindOrdinal_5.other W6 (Or.inr (slot_ne (Or.inr (hw _ (List.mem_of_getElem? (i := 36) rfl))) (Or.inr (hw _ (List.mem_of_getElem? (i := 25) rfl))) (by decide) (by decide : parseFieldDescriptor "I" = some .int) (by decide : parseFieldDescriptor "Z" = some .boolean)))
  have fld_o_keepsAnyName_6 := fld_o_keepsAnyName_5.other W6 (Or.inr (slot_ne (Or.inr (hw _ (List.mem_of_getElem? (i := 38) rfl))) (Or.inr (hw _ (List.mem_of_getElem? (i := 25) rfl))) (by decide) (by decide : parseFieldDescriptor "Z" = some .boolean) (by decide : parseFieldDescriptor "Z" = some .boolean)))
  have fld_o_readsEachName_6 := fld_o_readsEachName_5.same W6
  refine Go.on (g' := (mkF m 31 _ [])) (st6) ?_
  refine Go.on (g' := (mkF m 32 _ [(.ref o)])) (fun t_ k_ => XS.aloadN X6.here hx rfl (hb hby d2_31) rfl rfl k_) ?_
  refine Go.on (g' := (mkF m 33 _ [.null, (.ref o)])) (fun t_ k_ => XS.aloadN X6.here hx rfl (hb hby d2_32) rfl rfl k_) ?_
  refine Go.on (g' := (mkF m 36 _ [(.ref o)])) (fun t_ k_ => XT.ifnonnullNo X6.here hx rfl (hb hby d2_33) rfl k_) ?_
  refine Go.on (g' := (mkF m 38 _ [(.int ((-3) : Int32)), (.ref o)])) (fun t_ k_ => XS.bipush X6.here hx rfl (hb hby d2_36) k_) ?_
  refine Go.on (g' := (mkF m 45 _ [(.int ((-3) : Int32)), (.ref o)])) (fun t_ k_ => XS.goto X6.here hx rfl (pc0 := 38) (pc' := 45) rfl (hb hby d2_38) (by decide) (by decide) k_) ?_
  obtain ⟨T7, h7, X7, e7, W7, st7⟩ := putF X6 hx hZ hown (host := "") (Or.inl (hw _ (List.mem_of_getElem? (i := 35) rfl))) Via.refl e6 fld_o_kindOrdinal_6 exa_o_6 (Or.inr ⟨(hw _ (List.mem_of_getElem? (i := 36) rfl)), rfl, hnm⟩) (hw _ (List.mem_of_getElem? (i := 8) rfl)) (ty := .int) (by decide) rfl rfl (g := (mkF m 45 #[.val (.ref o), .val .null, .val (.int x2), .val (.int x3), .val .null, .val (.int x5)] [(.int ((-3) : Int32)), (.ref o)])) rfl rfl (hb hby d2_45)
  have N7 := Fr.snoc X7 N6 no
  have Z7 : n0 ≤ h7.size := by rw [W7.size]; exact Z6
  have KP_7 := KP_6.wr W7 (Or.inl (List.mem_of_getElem? (i := 0) rfl))
  have exa_o_7 := exa_o_6.wr W7
  have fld_o_kind_7 := fld_o_kind_6.other W7 (Or.inr (slot_ne (Or.inr (hw _ (List.mem_of_getElem? (i := 17) rfl))) (Or.inr (hw _ (List.mem_of_getElem? (i := 36) rfl))) (by decide) (by decide : parseFieldDescriptor "Lcom/example/liblocpath/liblocpath/tree/NodeKind;" = some (.object "com/example/liblocpath/liblocpath/tree/NodeKind")) (by decide : parseFieldDescriptor "I" = some .int)))
  have fld_o_expandedNameCode_7 := fld_o_expandedNameCode_6.other W7 (Or.inr (slot_ne (Or.inr (hw _ (List.mem_of_getElem? (i := 19) rfl))) (Or.inr (hw _ (List.mem_of_getElem? (i := 36) rfl))) (by decide) (by decide : parseFieldDescriptor "I" = some .int) (by decide : parseFieldDescriptor "I" = some .int)))
  have fld_o_namespaceCode_7 := fld_o_namespaceCode_6.other W7 (Or.inr (slot_ne (Or.inr (hw _ (List.mem_of_getElem? (i := 21) rfl))) (Or.inr (hw _ (List.mem_of_getElem? (i := 36) rfl))) (by decide) (by decide : parseFieldDescriptor "I" = some .int) (by decide : parseFieldDescriptor "I" = some .int)))
  have fld_o_names_7 := fld_o_names_6.other W7 (Or.inr (slot_ne (Or.inr (hw _ (List.mem_of_getElem? (i := 23) rfl))) (Or.inr (hw _ (List.mem_of_getElem? (i := 36) rfl))) (by decide) (by decide : parseFieldDescriptor "Lcom/example/liblocpath/liblocpath/tree/NameTable;" = some (.object "com/example/liblocpath/liblocpath/tree/NameTable")) (by decide : parseFieldDescriptor "I" = some .int)))
  have fld_o_readsEachName_7 := fld_o_readsEachName_6.other W7 (Or.inr (slot_ne (Or.inr (hw _ (List.mem_of_getElem? (i := 25) rfl))) (Or.inr (hw _ (List.mem_of_getElem? (i := 36) rfl))) (by decide) (by decide : parseFieldDescriptor "Z" = some .boolean) (by decide : parseFieldDescriptor "I" = some .int)))
  have fld_o_keepsAnyName_7 := fld_o_keepsAnyName_6.other W7 (Or.inr (slot_ne (Or.inr (hw _ (List.mem_of_getElem? (i := 38) rfl))) (Or.inr (hw _ (List.mem_of_getElem? (i := 36) rfl))) (by decide) (by decide : parseFieldDescriptor "Z" = some .boolean) (by decide : parseFieldDescriptor "I" = some .int)))
  have fld_o_kindOrdinal_7 := fld_o_kindOrdinal_6.same W7
  refine Go.on (g' := (mkF m 48 _ [])) (st7) ?_
  refine Go.on (g' := (mkF m 49 _ [(.ref o)])) (fun t_ k_ => XS.aloadN X7.here hx rfl (hb hby d2_48) rfl rfl k_) ?_
  refine Go.on (g' := (mkF m 50 _ [(.int x2), (.ref o)])) (fun t_ k_ => XS.iloadN X7.here hx rfl (hb hby d2_49) rfl k_) ?_
  refine Go.on (g' := (mkF m 52 _ [(.int ((-3) : Int32)), (.int x2), (.ref o)])) (fun t_ k_ => XS.bipush X7.here hx rfl (hb hby d2_50) k_) ?_
  refine Go.icmp X7 hx hby d2_52 (pcT := 65) (pcF := 55) (by decide) (by decide) rfl (fun q => ?_) (fun q => ?_)
  · have q1 := iNe.1 q
    clear q
    show Go p e below _ _ (mkF m 65 _ [(.ref o)])
    refine Go.on (g' := (mkF m 66 _ [(.int (0 : Int32)), (.ref o)])) (fun t_ k_ => XS.iconst X7.here hx rfl (hb hby d2_65) k_) ?_
    obtain ⟨T8, h8, X8, e8, W8, st8⟩ := putF X7 hx hZ hown (host := "") (Or.inl (hw _ (List.mem_of_getElem? (i := 37) rfl))) Via.refl e7 fld_o_keepsAnyName_7 exa_o_7 (Or.inr ⟨(hw _ (List.mem_of_getElem? (i := 38) rfl)), rfl, hnm⟩) (hw _ (List.mem_of_getElem? (i := 8) rfl)) (ty := .boolean) (by decide) rfl rfl (g := (mkF m 66 #[.val (.ref o), .val .null, .val (.int x2), .val (.int x3), .val .null, .val (.int x5)] [(.int (0 : Int32)), (.ref o)])) rfl rfl (hb hby d2_66)
    have N8 := Fr.snoc X8 N7 no
    have Z8 : n0 ≤ h8.size := by rw [W8.size]; exact Z7
    have KP_8 := KP_7.wr W8 (Or.inl (List.mem_of_getElem? (i := 0) rfl))
    have exa_o_8 := exa_o_7.wr W8
    have fld_o_kind_8 := fld_o_kind_7.other W8 (Or.inr (slot_ne (Or.inr (hw _ (List.mem_of_getElem? (i := 17) rfl))) (Or.inr (hw _ (List.mem_of_getElem? (i := 38) rfl))) (by decide) (by decide : parseFieldDescriptor "Lcom/example/liblocpath/liblocpath/tree/NodeKind;" = some (.object "com/example/liblocpath/liblocpath/tree/NodeKind")) (by decide : parseFieldDescriptor "Z" = some .boolean)))
    have fld_o_expandedNameCode_8 := fld_o_expandedNameCode_7.other W8 (Or.inr (slot_ne (Or.inr (hw _ (List.mem_of_getElem? (i := 19) rfl))) (Or.inr (hw _ (List.mem_of_getElem? (i := 38) rfl))) (by decide) (by decide : parseFieldDescriptor "I" = some .int) (by decide : parseFieldDescriptor "Z" = some .boolean)))
    have fld_o_namespaceCode_8 := fld_o_namespaceCode_7.other W8 (Or.inr (slot_ne (Or.inr (hw _ (List.mem_of_getElem? (i := 21) rfl))) (Or.inr (hw _ (List.mem_of_getElem? (i := 38) rfl))) (by decide) (by decide : parseFieldDescriptor "I" = some .int) (by decide : parseFieldDescriptor "Z" = some .boolean)))
    have fld_o_names_8 := fld_o_names_7.other W8 (Or.inr (slot_ne (Or.inr (hw _ (List.mem_of_getElem? (i := 23) rfl))) (Or.inr (hw _ (List.mem_of_getElem? (i := 38) rfl))) (by decide) (by decide : parseFieldDescriptor "Lcom/example/liblocpath/liblocpath/tree/NameTable;" = some (.object "com/example/liblocpath/liblocpath/tree/NameTable")) (by decide : parseFieldDescriptor "Z" = some .boolean)))
    have fld_o_readsEachName_8 := fld_o_readsEachName_7.other W8 (Or.inr (slot_ne (Or.inr (hw _ (List.mem_of_getElem? (i := 25) rfl))) (Or.inr (hw _ (List.mem_of_getElem? (i := 38) rfl))) (by decide) (by decide : parseFieldDescriptor "Z" = some .boolean) (by decide : parseFieldDescriptor "Z" = some .boolean)))
    have fld_o_kindOrdinal_8 := fld_o_kindOrdinal_7.other W8 (Or.inr (slot_ne (Or.inr (hw _ (List.mem_of_getElem? (i := 36) rfl))) (Or.inr (hw _ (List.mem_of_getElem? (i := 38) rfl))) (by decide) (by decide : parseFieldDescriptor "I" = some .int) (by decide : parseFieldDescriptor "Z" = some .boolean)))
    have fld_o_keepsAnyName_8 := fld_o_keepsAnyName_7.same W8
    refine Go.on (g' := (mkF m 69 _ [])) (st8) ?_
    exact Go.ret0 X8 hx hlk hret hby d2_69 (by decide) (by decide) (by rw [e8]; exact ⟨rfl, N8, KP_8, exa_o_8, fld_o_kind_8, fld_o_expandedNameCode_8, fld_o_namespaceCode_8, fld_o_readsEachName_8⟩)
  · have q1 := iNe.2 q
    clear q
    show Go p e below _ _ (mkF m 55 _ [(.ref o)])
    refine Go.on (g' := (mkF m 56 _ [(.int x3), (.ref o)])) (fun t_ k_ => XS.iloadN X7.here hx rfl (hb hby d2_55) rfl k_) ?_
    refine Go.on (g' := (mkF m 58 _ [(.int ((-3) : Int32)), (.int x3), (.ref o)])) (fun t_ k_ => XS.bipush X7.here hx rfl (hb hby d2_56) k_) ?_
    refine Go.icmp X7 hx hby d2_58 (pcT := 65) (pcF := 61) (by decide) (by decide) rfl (fun q => ?_) (fun q => ?_)
    · have q2 := iNe.1 q
      clear q
      show Go p e below _ _ (mkF m 65 _ [(.ref o)])
      refine Go.on (g' := (mkF m 66 _ [(.int (0 : Int32)), (.ref o)])) (fun t_ k_ => XS.iconst X7.here hx rfl (hb hby d2_65) k_) ?_
      obtain ⟨T9, h9, X9, e9, W9, st9⟩ := putF X7 hx hZ hown (host := "") (Or.inl (hw _ (List.mem_of_getElem? (i := 37) rfl))) Via.refl e7 fld_o_keepsAnyName_7 exa_o_7 (Or.inr ⟨(hw _ (List.mem_of_getElem? (i := 38) rfl)), rfl, hnm⟩) (hw _ (List.mem_of_getElem? (i := 8) rfl)) (ty := .boolean) (by decide) rfl rfl (g := (mkF m 66 #[.val (.ref o), .val .null, .val (.int x2), .val (.int x3), .val .null, .val (.int x5)] [(.int (0 : Int32)), (.ref o)])) rfl rfl (hb hby d2_66)
      have N9 := Fr.snoc X9 N7 no
      have Z9 : n0 ≤ h9.size := by rw [W9.size]; exact Z7
      have KP_9 := KP_7.wr W9 (Or.inl (List.mem_of_getElem? (i := 0) rfl))
      have exa_o_9 := exa_o_7.wr W9
      have fld_o_kind_9 := fld_o_kind_7.other W9 (Or.inr (slot_ne (Or.inr (hw _ (List.mem_of_getElem? (i := 17) rfl))) (Or.inr (hw _ (List.mem_of_getElem? (i := 38) rfl))) (by decide) (by decide : parseFieldDescriptor "Lcom/example/liblocpath/liblocpath/tree/NodeKind;" = some (.object "com/example/liblocpath/liblocpath/tree/NodeKind")) (by decide : parseFieldDescriptor "Z" = some .boolean)))
      have fld_o_expandedNameCode_9 := fld_o_expandedNameCode_7.other W9 (Or.inr (slot_ne (Or.inr (hw _ (List.mem_of_getElem? (i := 19) rfl))) (Or.inr (hw _ (List.mem_of_getElem? (i := 38) rfl))) (by decide) (by decide : parseFieldDescriptor "I" = some .int) (by decide : parseFieldDescriptor "Z" = some .boolean)))
      have fld_o_namespaceCode_9 := fld_o_namespaceCode_7.other W9 (Or.inr (slot_ne (Or.inr (hw _ (List.mem_of_getElem? (i := 21) rfl))) (Or.inr (hw _ (List.mem_of_getElem? (i := 38) rfl))) (by decide) (by decide : parseFieldDescriptor "I" = some .int) (by decide : parseFieldDescriptor "Z" = some .boolean)))
      have fld_o_names_9 := fld_o_names_7.other W9 (Or.inr (slot_ne (Or.inr (hw _ (List.mem_of_getElem? (i := 23) rfl))) (Or.inr (hw _ (List.mem_of_getElem? (i := 38) rfl))) (by decide) (by decide : parseFieldDescriptor "Lcom/example/liblocpath/liblocpath/tree/NameTable;" = some (.object "com/example/liblocpath/liblocpath/tree/NameTable")) (by decide : parseFieldDescriptor "Z" = some .boolean)))
      have fld_o_readsEachName_9 := fld_o_readsEachName_7.other W9 (Or.inr (slot_ne (Or.inr (hw _ (List.mem_of_getElem? (i := 25) rfl))) (Or.inr (hw _ (List.mem_of_getElem? (i := 38) rfl))) (by decide) (by decide : parseFieldDescriptor "Z" = some .boolean) (by decide : parseFieldDescriptor "Z" = some .boolean)))
      have fld_o_kindOrdinal_9 := fld_o_kindOrdinal_7.other W9 (Or.inr (slot_ne (Or.inr (hw _ (List.mem_of_getElem? (i := 36) rfl))) (Or.inr (hw _ (List.mem_of_getElem? (i := 38) rfl))) (by decide) (by decide : parseFieldDescriptor "I" = some .int) (by decide : parseFieldDescriptor "Z" = some .boolean)))
      have fld_o_keepsAnyName_9 := fld_o_keepsAnyName_7.same W9
      refine Go.on (g' := (mkF m 69 _ [])) (st9) ?_
      exact Go.ret0 X9 hx hlk hret hby d2_69 (by decide) (by decide) (by rw [e9]; exact ⟨rfl, N9, KP_9, exa_o_9, fld_o_kind_9, fld_o_expandedNameCode_9, fld_o_namespaceCode_9, fld_o_readsEachName_9⟩)
    · have q2 := iNe.2 q
      clear q
      show Go p e below _ _ (mkF m 61 _ [(.ref o)])
      refine Go.on (g' := (mkF m 62 _ [(.int (1 : Int32)), (.ref o)])) (fun t_ k_ => XS.iconst X7.here hx rfl (hb hby d2_61) k_) ?_
      refine Go.on (g' := (mkF m 66 _ [(.int (1 : Int32)), (.ref o)])) (fun t_ k_ => XS.goto X7.here hx rfl (pc0 := 62) (pc' := 66) rfl (hb hby d2_62) (by decide) (by decide) k_) ?_
      obtain ⟨T10, h10, X10, e10, W10, st10⟩ := putF X7 hx hZ hown (host := "") (Or.inl (hw _ (List.mem_of_getElem? (i := 37) rfl))) Via.refl e7 fld_o_keepsAnyName_7 exa_o_7 (Or.inr ⟨(hw _ (List.mem_of_getElem? (i := 38) rfl)), rfl, hnm⟩) (hw _ (List.mem_of_getElem? (i := 8) rfl)) (ty := .boolean) (by decide) rfl rfl (g := (mkF m 66 #[.val (.ref o), .val .null, .val (.int x2), .val (.int x3), .val .null, .val (.int x5)] [(.int (1 : Int32)), (.ref o)])) rfl rfl (hb hby d2_66)
      have N10 := Fr.snoc X10 N7 no
      have Z10 : n0 ≤ h10.size := by rw [W10.size]; exact Z7
      have KP_10 := KP_7.wr W10 (Or.inl (List.mem_of_getElem? (i := 0) rfl))
      have exa_o_10 := exa_o_7.wr W10
      have fld_o_kind_10 := fld_o_kind_7.other W10 (Or.inr (slot_ne (Or.inr (hw _ (List.mem_of_getElem? (i := 17) rfl))) (Or.inr (hw _ (List.mem_of_getElem? (i := 38) rfl))) (by decide) (by decide : parseFieldDescriptor "Lcom/example/liblocpath/liblocpath/tree/NodeKind;" = some (.object "com/example/liblocpath/liblocpath/tree/NodeKind")) (by decide : parseFieldDescriptor "Z" = some .boolean)))
      have fld_o_expandedNameCode_10 := fld_o_expandedNameCode_7.other W10 (Or.inr (slot_ne (Or.inr (hw _ (List.mem_of_getElem? (i := 19) rfl))) (Or.inr (hw _ (List.mem_of_getElem? (i := 38) rfl))) (by decide) (by decide : parseFieldDescriptor "I" = some .int) (by decide : parseFieldDescriptor "Z" = some .boolean)))
      have fld_o_namespaceCode_10 := fld_o_namespaceCode_7.other W10 (Or.inr (slot_ne (Or.inr (hw _ (List.mem_of_getElem? (i := 21) rfl))) (Or.inr (hw _ (List.mem_of_getElem? (i := 38) rfl))) (by decide) (by decide : parseFieldDescriptor "I" = some .int) (by decide : parseFieldDescriptor "Z" = some .boolean)))
      have fld_o_names_10 := fld_o_names_7.other W10 (Or.inr (slot_ne (Or.inr (hw _ (List.mem_of_getElem? (i := 23) rfl))) (Or.inr (hw _ (List.mem_of_getElem? (i := 38) rfl))) (by decide) (by decide : parseFieldDescriptor "Lcom/example/liblocpath/liblocpath/tree/NameTable;" = some (.object "com/example/liblocpath/liblocpath/tree/NameTable")) (by decide : parseFieldDescriptor "Z" = some .boolean)))
      have fld_o_readsEachName_10 := fld_o_readsEachName_7.other W10 (Or.inr (slot_ne (Or.inr (hw _ (List.mem_of_getElem? (i := 25) rfl))) (Or.inr (hw _ (List.mem_of_getElem? (i := 38) rfl))) (by decide) (by decide : parseFieldDescriptor "Z" = some .boolean) (by decide : parseFieldDescriptor "Z" = some .boolean)))
      have fld_o_kindOrdinal_10 := fld_o_kindOrdinal_7.other W10 (Or.inr (slot_ne (Or.inr (hw _ (List.mem_of_getElem? (i := 36) rfl))) (Or.inr (hw _ (List.mem_of_getElem? (i := 38) rfl))) (by decide) (by decide : parseFieldDescriptor "I" = some .int) (by decide : parseFieldDescriptor "Z" = some .boolean)))
      have fld_o_keepsAnyName_10 := fld_o_keepsAnyName_7.same W10
      refine Go.on (g' := (mkF m 69 _ [])) (st10) ?_
      exact Go.ret0 X10 hx hlk hret hby d2_69 (by decide) (by decide) (by rw [e10]; exact ⟨rfl, N10, KP_10, exa_o_10, fld_o_kind_10, fld_o_expandedNameCode_10, fld_o_namespaceCode_10, fld_o_readsEachName_10⟩)
set_option maxRecDepth 65536 in
set_option maxHeartbeats 40000000 in
theorem rmIr (l : Launch) (Z : State) (w0 : Array Value) (hw : ∀ d ∈ tables_1, d.before w0 Z = true) (ws : List Jvm.Cond) (o : Addr) (ka : Addr) (ko : Int32) (x2 x3 x5 : Int32) (h0 : Heap) (n0 : Nat) (Z0 : n0 ≤ h0.size) (no : n0 ≤ o) (E0 : Exa Z h0 o "com/example/liblocpath/liblocpath/tree/BoundNodeTest") (G0 : Fld Z h0 o "com/example/liblocpath/liblocpath/tree/BoundNodeTest" "kind" "Lcom/example/liblocpath/liblocpath/tree/NodeKind;" .null) (G1 : Fld Z h0 o "com/example/liblocpath/liblocpath/tree/BoundNodeTest" "expandedNameCode" "I" (.int (0 : Int32))) (G2 : Fld Z h0 o "com/example/liblocpath/liblocpath/tree/BoundNodeTest" "namespaceCode" "I" (.int (0 : Int32))) (G3 : Fld Z h0 o "com/example/liblocpath/liblocpath/tree/BoundNodeTest" "names" "Lcom/example/liblocpath/liblocpath/tree/NameTable;" .null) (G4 : Fld Z h0 o "com/example/liblocpath/liblocpath/tree/BoundNodeTest" "readsEachName" "Z" (.int (0 : Int32))) (G5 : Fld Z h0 o "com/example/liblocpath/liblocpath/tree/BoundNodeTest" "kindOrdinal" "I" (.int (0 : Int32))) (G6 : Fld Z h0 o "com/example/liblocpath/liblocpath/tree/BoundNodeTest" "keepsAnyName" "Z" (.int (0 : Int32))) (hrd : narrow .boolean (.int x5) = .int x5) (frd : fits .boolean (.int x5) = true) (EK : Exa Z h0 ka "com/example/liblocpath/liblocpath/tree/NodeKind") (FK : Fld Z h0 ka "java/lang/Enum" "ordinal" "I" (.int ko)) : Pact l Z (⟨"com/example/liblocpath/liblocpath/tree/BoundNodeTest", "<init>", "(Lcom/example/liblocpath/liblocpath/tree/NodeKind;IILcom/example/liblocpath/liblocpath/tree/NameTable;Z)V"⟩ : MethodName) prog_78_method_1_code 6 none ws ({ frames := 1, cells := 0, slots := 0, locals := 13 } : Room) #[.ref o, (.ref ka), .int x2, .int x3, .null, .int x5] h0 (own_QI Z o (.ref ka) x2 x3 x5 h0 n0) := by
  have hne : ka ≠ o := ne_exa EK E0 (by decide)
  refine Pact.intro (plainFor_of_name pnBN) ?_
  intro p e s m below meth c T0 X0 hx hby hml hret hlk hown hnm hZ e0
  refine Go.at (efIr m o ka x2 x3 x5) ?_
  have N0 := Fr.nil n0
  have KP0 : Keep h0 h0 [o] := Keep.refl _ _
  refine Go.on (g' := (mkF m 1 _ [(.ref o)])) (fun t_ k_ => XS.aloadN X0.here hx rfl (hb hby d2_0) rfl rfl k_) ?_
  obtain ⟨T1, X1, e1, st1⟩ := initO X0 hx hZ hown (hw _ (List.mem_of_getElem? (i := 13) rfl)) (hw _ (List.mem_of_getElem? (i := 14) rfl)) (hw _ (List.mem_of_getElem? (i := 15) rfl)) e0 (g := (mkF m 1 #[.val (.ref o), .val (.ref ka), .val (.int x2), .val (.int x3), .val .null, .val (.int x5)] [(.ref o)])) rfl (by rw [hml]; rfl) rfl (hb hby d2_1) (by decide) (W := 0) (by show 2 * 0 + _ ≤ _; exact Nat.le_of_eq rfl) (by decide)
  refine Go.on (g' := (mkF m 4 _ [])) (st1) ?_
  refine Go.on (g' := (mkF m 5 _ [(.ref o)])) (fun t_ k_ => XS.aloadN X1.here hx rfl (hb hby d2_4) rfl rfl k_) ?_
  refine Go.on (g' := (mkF m 6 _ [(.ref ka), (.ref o)])) (fun t_ k_ => XS.aloadN X1.here hx rfl (hb hby d2_5) rfl rfl k_) ?_
  obtain ⟨T2, h2, X2, e2, W2, st2⟩ := putF X1 hx hZ hown (host := "") (Or.inl (hw _ (List.mem_of_getElem? (i := 16) rfl))) Via.refl e1 G0 E0 (Or.inr ⟨(hw _ (List.mem_of_getElem? (i := 17) rfl)), rfl, hnm⟩) (hw _ (List.mem_of_getElem? (i := 8) rfl)) (ty := (.object "com/example/liblocpath/liblocpath/tree/NodeKind")) (by decide) rfl rfl (g := (mkF m 6 #[.val (.ref o), .val (.ref ka), .val (.int x2), .val (.int x3), .val .null, .val (.int x5)] [(.ref ka), (.ref o)])) rfl rfl (hb hby d2_6)
  have N2 := Fr.snoc X2 N0 no
  have Z2 : n0 ≤ h2.size := by rw [W2.size]; exact Z0
  have KP_2 := KP0.wr W2 (Or.inl (List.mem_of_getElem? (i := 0) rfl))
  have exa_o_2 := E0.wr W2
  have exa_ka_2 := EK.wr W2
  have fld_ka_ordinal_2 := FK.other W2 (Or.inl hne)
  have fld_o_expandedNameCode_2 := G1.other W2 (Or.inr (slot_ne (Or.inr (hw _ (List.mem_of_getElem? (i := 19) rfl))) (Or.inr (hw _ (List.mem_of_getElem? (i := 17) rfl))) (by decide) (by decide : parseFieldDescriptor "I" = some .int) (by decide : parseFieldDescriptor "Lcom/example/liblocpath/liblocpath/tree/NodeKind;" = some (.object "com/example/liblocpath/liblocpath/tree/NodeKind"))))
  have fld_o_namespaceCode_2 := G2.other W2 (Or.inr (slot_ne (Or.inr (hw _ (List.mem_of_getElem? (i := 21) rfl))) (Or.inr (hw _ (List.mem_of_getElem? (i := 17) rfl))) (by decide) (by decide : parseFieldDescriptor "I" = some .int) (by decide : parseFieldDescriptor "Lcom/example/liblocpath/liblocpath/tree/NodeKind;" = some (.object "com/example/liblocpath/liblocpath/tree/NodeKind"))))
  have fld_o_names_2 := G3.other W2 (Or.inr (slot_ne (Or.inr (hw _ (List.mem_of_getElem? (i := 23) rfl))) (Or.inr (hw _ (List.mem_of_getElem? (i := 17) rfl))) (by decide) (by decide : parseFieldDescriptor "Lcom/example/liblocpath/liblocpath/tree/NameTable;" = some (.object "com/example/liblocpath/liblocpath/tree/NameTable")) (by decide : parseFieldDescriptor "Lcom/example/liblocpath/liblocpath/tree/NodeKind;" = some (.object "com/example/liblocpath/liblocpath/tree/NodeKind"))))
  have fld_o_readsEachName_2 := G4.other W2 (Or.inr (slot_ne (Or.inr (hw _ (List.mem_of_getElem? (i := 25) rfl))) (Or.inr (hw _ (List.mem_of_getElem? (i := 17) rfl))) (by decide) (by decide : parseFieldDescriptor "Z" = some .boolean) (by decide : parseFieldDescriptor "Lcom/example/liblocpath/liblocpath/tree/NodeKind;" = some (.object "com/example/liblocpath/liblocpath/tree/NodeKind"))))
  have fld_o_kindOrdinal_2 := G5.other W2 (Or.inr (slot_ne (Or.inr (hw _ (List.mem_of_getElem? (i := 36) rfl))) (Or.inr (hw _ (List.mem_of_getElem? (i := 17) rfl))) (by decide) (by decide : parseFieldDescriptor "I" = some .int) (by decide : parseFieldDescriptor "Lcom/example/liblocpath/liblocpath/tree/NodeKind;" = some (.object "com/example/liblocpath/liblocpath/tree/NodeKind"))))
  have fld_o_keepsAnyName_2 := G6.other W2 (Or.inr (slot_ne (Or.inr (hw _ (List.mem_of_getElem? (i := 38) rfl))) (Or.inr (hw _ (List.mem_of_getElem? (i := 17) rfl))) (by decide) (by decide : parseFieldDescriptor "Z" = some .boolean) (by decide : parseFieldDescriptor "Lcom/example/liblocpath/liblocpath/tree/NodeKind;" = some (.object "com/example/liblocpath/liblocpath/tree/NodeKind"))))
  have fld_o_kind_2 := G0.same W2
  refine Go.on (g' := (mkF m 9 _ [])) (st2) ?_
  refine Go.on (g' := (mkF m 10 _ [(.ref o)])) (fun t_ k_ => XS.aloadN X2.here hx rfl (hb hby d2_9) rfl rfl k_) ?_
  refine Go.on (g' := (mkF m 11 _ [(.int x2), (.ref o)])) (fun t_ k_ => XS.iloadN X2.here hx rfl (hb hby d2_10) rfl k_) ?_
  obtain ⟨T3, h3, X3, e3, W3, st3⟩ := putF X2 hx hZ hown (host := "") (Or.inl (hw _ (List.mem_of_getElem? (i := 18) rfl))) Via.refl e2 fld_o_expandedNameCode_2 exa_o_2 (Or.inr ⟨(hw _ (List.mem_of_getElem? (i := 19) rfl)), rfl, hnm⟩) (hw _ (List.mem_of_getElem? (i := 8) rfl)) (ty := .int) (by decide) rfl rfl (g := (mkF m 11 #[.val (.ref o), .val (.ref ka), .val (.int x2), .val (.int x3), .val .null, .val (.int x5)] [(.int x2), (.ref o)])) rfl rfl (hb hby d2_11)
  have N3 := Fr.snoc X3 N2 no
  have Z3 : n0 ≤ h3.size := by rw [W3.size]; exact Z2
  have KP_3 := KP_2.wr W3 (Or.inl (List.mem_of_getElem? (i := 0) rfl))
  have exa_o_3 := exa_o_2.wr W3
  have exa_ka_3 := exa_ka_2.wr W3
  have fld_ka_ordinal_3 := fld_ka_ordinal_2.other W3 (Or.inl hne)
  have fld_o_kind_3 := fld_o_kind_2.other W3 (Or.inr (slot_ne (Or.inr (hw _ (List.mem_of_getElem? (i := 17) rfl))) (Or.inr (hw _ (List.mem_of_getElem? (i := 19) rfl))) (by decide) (by decide : parseFieldDescriptor "Lcom/example/liblocpath/liblocpath/tree/NodeKind;" = some (.object "com/example/liblocpath/liblocpath/tree/NodeKind")) (by decide : parseFieldDescriptor "I" = some .int)))
  have fld_o_namespaceCode_3 := fld_o_namespaceCode_2.other W3 (Or.inr (slot_ne (Or.inr (hw _ (List.mem_of_getElem? (i := 21) rfl))) (Or.inr (hw _ (List.mem_of_getElem? (i := 19) rfl))) (by decide) (by decide : parseFieldDescriptor "I" = some .int) (by decide : parseFieldDescriptor "I" = some .int)))
  have fld_o_names_3 := fld_o_names_2.other W3 (Or.inr (slot_ne (Or.inr (hw _ (List.mem_of_getElem? (i := 23) rfl))) (Or.inr (hw _ (List.mem_of_getElem? (i := 19) rfl))) (by decide) (by decide : parseFieldDescriptor "Lcom/example/liblocpath/liblocpath/tree/NameTable;" = some (.object "com/example/liblocpath/liblocpath/tree/NameTable")) (by decide : parseFieldDescriptor "I" = some .int)))
  have fld_o_readsEachName_3 := fld_o_readsEachName_2.other W3 (Or.inr (slot_ne (Or.inr (hw _ (List.mem_of_getElem? (i := 25) rfl))) (Or.inr (hw _ (List.mem_of_getElem? (i := 19) rfl))) (by decide) (by decide : parseFieldDescriptor "Z" = some .boolean) (by decide : parseFieldDescriptor "I" = some .int)))
  have fld_o_kindOrdinal_3 := fld_o_kindOrdinal_2.other W3 (Or.inr (slot_ne (Or.inr (hw _ (List.mem_of_getElem? (i := 36) rfl))) (Or.inr (hw _ (List.mem_of_getElem? (i := 19) rfl))) (by decide) (by decide : parseFieldDescriptor "I" = some .int) (by decide : parseFieldDescriptor "I" = some .int)))
  have fld_o_keepsAnyName_3 := fld_o_keepsAnyName_2.other W3 (Or.inr (slot_ne (Or.inr (hw _ (List.mem_of_getElem? (i := 38) rfl))) (Or.inr (hw _ (List.mem_of_getElem? (i := 19) rfl))) (by decide) (by decide : parseFieldDescriptor "Z" = some .boolean) (by decide : parseFieldDescriptor "I" = some .int)))
  have fld_o_expandedNameCode_3 := fld_o_expandedNameCode_2.same W3
  refine Go.on (g' := (mkF m 14 _ [])) (st3) ?_
  refine Go.on (g' := (mkF m 15 _ [(.ref o)])) (fun t_ k_ => XS.aloadN X3.here hx rfl (hb hby d2_14) rfl rfl k_) ?_
  refine Go.on (g' := (mkF m 16 _ [(.int x3), (.ref o)])) (fun t_ k_ => XS.iloadN X3.here hx rfl (hb hby d2_15) rfl k_) ?_
  obtain ⟨T4, h4, X4, e4, W4, st4⟩ := putF X3 hx hZ hown (host := "") (Or.inl (hw _ (List.mem_of_getElem? (i := 20) rfl))) Via.refl e3 fld_o_namespaceCode_3 exa_o_3 (Or.inr ⟨(hw _ (List.mem_of_getElem? (i := 21) rfl)), rfl, hnm⟩) (hw _ (List.mem_of_getElem? (i := 8) rfl)) (ty := .int) (by decide) rfl rfl (g := (mkF m 16 #[.val (.ref o), .val (.ref ka), .val (.int x2), .val (.int x3), .val .null, .val (.int x5)] [(.int x3), (.ref o)])) rfl rfl (hb hby d2_16)
  have N4 := Fr.snoc X4 N3 no
  have Z4 : n0 ≤ h4.size := by rw [W4.size]; exact Z3
  have KP_4 := KP_3.wr W4 (Or.inl (List.mem_of_getElem? (i := 0) rfl))
  have exa_o_4 := exa_o_3.wr W4
  have exa_ka_4 := exa_ka_3.wr W4
  have fld_ka_ordinal_4 := fld_ka_ordinal_3.other W4 (Or.inl hne)
  have fld_o_kind_4 := fld_o_kind_3.other W4 (Or.inr (slot_ne (Or.inr (hw _ (List.mem_of_getElem? (i := 17) rfl))) (Or.inr (hw _ (List.mem_of_getElem? (i := 21) rfl))) (by decide) (by decide : parseFieldDescriptor "Lcom/example/liblocpath/liblocpath/tree/NodeKind;" = some (.object "com/example/liblocpath/liblocpath/tree/NodeKind")) (by decide : parseFieldDescriptor "I" = some .int)))
  have fld_o_expandedNameCode_4 := fld_o_expandedNameCode_3.other W4 (Or.inr (slot_ne (Or.inr (hw _ (List.mem_of_getElem? (i := 19) rfl))) (Or.inr (hw _ (List.mem_of_getElem? (i := 21) rfl))) (by decide) (by decide : parseFieldDescriptor "I" = some .int) (by decide : parseFieldDescriptor "I" = some .int)))
  have fld_o_names_4 := fld_o_names_3.other W4 (Or.inr (slot_ne (Or.inr (hw _ (List.mem_of_getElem? (i := 23) rfl))) (Or.inr (hw _ (List.mem_of_getElem? (i := 21) rfl))) (by decide) (by decide : parseFieldDescriptor "Lcom/example/liblocpath/liblocpath/tree/NameTable;" = some (.object "com/example/liblocpath/liblocpath/tree/NameTable")) (by decide : parseFieldDescriptor "I" = some .int)))
  have fld_o_readsEachName_4 := fld_o_readsEachName_3.other W4 (Or.inr (slot_ne (Or.inr (hw _ (List.mem_of_getElem? (i := 25) rfl))) (Or.inr (hw _ (List.mem_of_getElem? (i := 21) rfl))) (by decide) (by decide : parseFieldDescriptor "Z" = some .boolean) (by decide : parseFieldDescriptor "I" = some .int)))
  have fld_o_kindOrdinal_4 := fld_o_kindOrdinal_3.other W4 (Or.inr (slot_ne (Or.inr (hw _ (List.mem_of_getElem? (i := 36) rfl))) (Or.inr (hw _ (List.mem_of_getElem? (i := 21) rfl))) (by decide) (by decide : parseFieldDescriptor "I" = some .int) (by decide : parseFieldDescriptor "I" = some .int)))
  have fld_o_keepsAnyName_4 := fld_o_keepsAnyName_3.other W4 (Or.inr (slot_ne (Or.inr (hw _ (List.mem_of_getElem? (i := 38) rfl))) (Or.inr (hw _ (List.mem_of_getElem? (i := 21) rfl))) (by decide) (by decide : parseFieldDescriptor "Z" = some .boolean) (by decide : parseFieldDescriptor "I" = some .int)))
  have fld_o_namespaceCode_4 := fld_o_namespaceCode_3.same W4
  refine Go.on (g' := (mkF m 19 _ [])) (st4) ?_
  refine Go.on (g' := (mkF m 20 _ [(.ref o)])) (fun t_ k_ => XS.aloadN X4.here hx rfl (hb hby d2_19) rfl rfl k_) ?_
  refine Go.on (g' := (mkF m 22 _ [.null, (.ref o)])) (fun t_ k_ => XS.aload X4.here hx rfl (hb hby d2_20) rfl rfl k_) ?_
  obtain ⟨T5, h5, X5, e5, W5, st5⟩ := putF X4 hx hZ hown (host := "") (Or.inl (hw _ (List.mem_of_getElem? (i := 22) rfl))) Via.refl e4 fld_o_names_4 exa_o_4 (Or.inr ⟨(hw _ (List.mem_of_getElem? (i := 23) rfl)), rfl, hnm⟩) (hw _ (List.mem_of_getElem? (i := 8) rfl)) (ty := (.object "com/example/liblocpath/liblocpath/tree/NameTable")) (by decide) rfl rfl (g := (mkF m 22 #[.val (.ref o), .val (.ref ka), .val (.int x2), .val (.int x3), .val .null, .val (.int x5)] [.null, (.ref o)])) rfl rfl (hb hby d2_22)
  have N5 := Fr.snoc X5 N4 no
  have Z5 : n0 ≤ h5.size := by rw [W5.size]; exact Z4
  have KP_5 := KP_4.wr W5 (Or.inl (List.mem_of_getElem? (i := 0) rfl))
  have exa_o_5 := exa_o_4.wr W5
  have exa_ka_5 := exa_ka_4.wr W5
  have fld_ka_ordinal_5 := fld_ka_ordinal_4.other W5 (Or.inl hne)
  have fld_o_kind_5 := fld_o_kind_4.other W5 (Or.inr (slot_ne (Or.inr (hw _ (List.mem_of_getElem? (i := 17) rfl))) (Or.inr (hw _ (List.mem_of_getElem? (i := 23) rfl))) (by decide) (by decide : parseFieldDescriptor "Lcom/example/liblocpath/liblocpath/tree/NodeKind;" = some (.object "com/example/liblocpath/liblocpath/tree/NodeKind")) (by decide : parseFieldDescriptor "Lcom/example/liblocpath/liblocpath/tree/NameTable;" = some (.object "com/example/liblocpath/liblocpath/tree/NameTable"))))
  have fld_o_expandedNameCode_5 := fld_o_expandedNameCode_4.other W5 (Or.inr (slot_ne (Or.inr (hw _ (List.mem_of_getElem? (i := 19) rfl))) (Or.inr (hw _ (List.mem_of_getElem? (i := 23) rfl))) (by decide) (by decide : parseFieldDescriptor "I" = some .int) (by decide : parseFieldDescriptor "Lcom/example/liblocpath/liblocpath/tree/NameTable;" = some (.object "com/example/liblocpath/liblocpath/tree/NameTable"))))
  have fld_o_namespaceCode_5 := fld_o_namespaceCode_4.other W5 (Or.inr (slot_ne (Or.inr (hw _ (List.mem_of_getElem? (i := 21) rfl))) (Or.inr (hw _ (List.mem_of_getElem? (i := 23) rfl))) (by decide) (by decide : parseFieldDescriptor "I" = some .int) (by decide : parseFieldDescriptor "Lcom/example/liblocpath/liblocpath/tree/NameTable;" = some (.object "com/example/liblocpath/liblocpath/tree/NameTable"))))
  have fld_o_readsEachName_5 := fld_o_readsEachName_4.other W5 (Or.inr (slot_ne (Or.inr (hw _ (List.mem_of_getElem? (i := 25) rfl))) (Or.inr (hw _ (List.mem_of_getElem? (i := 23) rfl))) (by decide) (by decide : parseFieldDescriptor "Z" = some .boolean) (by decide : parseFieldDescriptor "Lcom/example/liblocpath/liblocpath/tree/NameTable;" = some (.object "com/example/liblocpath/liblocpath/tree/NameTable"))))
  have fld_o_kindOrdinal_5 := fld_o_kindOrdinal_4.other W5 (Or.inr (slot_ne (Or.inr (hw _ (List.mem_of_getElem? (i := 36) rfl))) (Or.inr (hw _ (List.mem_of_getElem? (i := 23) rfl))) (by decide) (by decide : parseFieldDescriptor "I" = some .int) (by decide : parseFieldDescriptor "Lcom/example/liblocpath/liblocpath/tree/NameTable;" = some (.object "com/example/liblocpath/liblocpath/tree/NameTable"))))
  have fld_o_keepsAnyName_5 := fld_o_keepsAnyName_4.other W5 (Or.inr (slot_ne (Or.inr (hw _ (List.mem_of_getElem? (i := 38) rfl))) (Or.inr (hw _ (List.mem_of_getElem? (i := 23) rfl))) (by decide) (by decide : parseFieldDescriptor "Z" = some .boolean) (by decide : parseFieldDescriptor "Lcom/example/liblocpath/liblocpath/tree/NameTable;" = some (.object "com/example/liblocpath/liblocpath/tree/NameTable"))))
  have fld_o_names_5 := fld_o_names_4.same W5
  refine Go.on (g' := (mkF m 25 _ [])) (st5) ?_
  refine Go.on (g' := (mkF m 26 _ [(.ref o)])) (fun t_ k_ => XS.aloadN X5.here hx rfl (hb hby d2_25) rfl rfl k_) ?_
  refine Go.on (g' := (mkF m 28 _ [(.int x5), (.ref o)])) (fun t_ k_ => XS.iload X5.here hx rfl (hb hby d2_26) rfl k_) ?_
  obtain ⟨T6, h6, X6, e6, W6, st6⟩ := putF X5 hx hZ hown (host := "") (Or.inl (hw _ (List.mem_of_getElem? (i := 24) rfl))) Via.refl e5 fld_o_readsEachName_5 exa_o_5 (Or.inr ⟨(hw _ (List.mem_of_getElem? (i := 25) rfl)), rfl, hnm⟩) (hw _ (List.mem_of_getElem? (i := 8) rfl)) (ty := .boolean) (by decide) hrd frd (g := (mkF m 28 #[.val (.ref o), .val (.ref ka), .val (.int x2), .val (.int x3), .val .null, .val (.int x5)] [(.int x5), (.ref o)])) rfl rfl (hb hby d2_28)
  have N6 := Fr.snoc X6 N5 no
  have Z6 : n0 ≤ h6.size := by rw [W6.size]; exact Z5
  have KP_6 := KP_5.wr W6 (Or.inl (List.mem_of_getElem? (i := 0) rfl))
  have exa_o_6 := exa_o_5.wr W6
  have exa_ka_6 := exa_ka_5.wr W6
  have fld_ka_ordinal_6 := fld_ka_ordinal_5.other W6 (Or.inl hne)
  have fld_o_kind_6 := fld_o_kind_5.other W6 (Or.inr (slot_ne (Or.inr (hw _ (List.mem_of_getElem? (i := 17) rfl))) (Or.inr (hw _ (List.mem_of_getElem? (i := 25) rfl))) (by decide) (by decide : parseFieldDescriptor "Lcom/example/liblocpath/liblocpath/tree/NodeKind;" = some (.object "com/example/liblocpath/liblocpath/tree/NodeKind")) (by decide : parseFieldDescriptor "Z" = some .boolean)))
  have fld_o_expandedNameCode_6 := fld_o_expandedNameCode_5.other W6 (Or.inr (slot_ne (Or.inr (hw _ (List.mem_of_getElem? (i := 19) rfl))) (Or.inr (hw _ (List.mem_of_getElem? (i := 25) rfl))) (by decide) (by decide : parseFieldDescriptor "I" = some .int) (by decide : parseFieldDescriptor "Z" = some .boolean)))
  have fld_o_namespaceCode_6 := fld_o_namespaceCode_5.other W6 (Or.inr (slot_ne (Or.inr (hw _ (List.mem_of_getElem? (i := 21) rfl))) (Or.inr (hw _ (List.mem_of_getElem? (i := 25) rfl))) (by decide) (by decide : parseFieldDescriptor "I" = some .int) (by decide : parseFieldDescriptor "Z" = some .boolean)))
  have fld_o_names_6 := fld_o_names_5.other W6 (Or.inr (slot_ne (Or.inr (hw _ (List.mem_of_getElem? (i := 23) rfl))) (Or.inr (hw _ (List.mem_of_getElem? (i := 25) rfl))) (by decide) (by decide : parseFieldDescriptor "Lcom/example/liblocpath/liblocpath/tree/NameTable;" = some (.object "com/example/liblocpath/liblocpath/tree/NameTable")) (by decide : parseFieldDescriptor "Z" = some .boolean)))
  have fld_o_kindOrdinal_6 := fld_o_kindOrdinal_5.other W6 (Or.inr (slot_ne (Or.inr (hw _ (List.mem_of_getElem? (i := 36) rfl))) (Or.inr (hw _ (List.mem_of_getElem? (i := 25) rfl))) (by decide) (by decide : parseFieldDescriptor "I" = some .int) (by decide : parseFieldDescriptor "Z" = some .boolean)))
  have fld_o_keepsAnyName_6 := fld_o_keepsAnyName_5.other W6 (Or.inr (slot_ne (Or.inr (hw _ (List.mem_of_getElem? (i := 38) rfl))) (Or.inr (hw _ (List.mem_of_getElem? (i := 25) rfl))) (by decide) (by decide : parseFieldDescriptor "Z" = some .boolean) (by decide : parseFieldDescriptor "Z" = some .boolean)))
  have fld_o_readsEachName_6 := fld_o_readsEachName_5.same W6
  refine Go.on (g' := (mkF m 31 _ [])) (st6) ?_
  refine Go.on (g' := (mkF m 32 _ [(.ref o)])) (fun t_ k_ => XS.aloadN X6.here hx rfl (hb hby d2_31) rfl rfl k_) ?_
  refine Go.on (g' := (mkF m 33 _ [(.ref ka), (.ref o)])) (fun t_ k_ => XS.aloadN X6.here hx rfl (hb hby d2_32) rfl rfl k_) ?_
  refine Go.on (g' := (mkF m 41 _ [(.ref o)])) (fun t_ k_ => XT.ifnonnullYes X6.here hx rfl (pc0 := 33) (pc' := 41) rfl (hb hby d2_33) rfl (by decide) (by decide) k_) ?_
  refine Go.on (g' := (mkF m 42 _ [(.ref ka), (.ref o)])) (fun t_ k_ => XS.aloadN X6.here hx rfl (hb hby d2_41) rfl rfl k_) ?_
  refine Go.callU X6 hx hZ hby (by rw [hml]; rfl) (C := "com/example/liblocpath/liblocpath/tree/NodeKind") (owner := "java/lang/Enum") (y := (⟨"com/example/liblocpath/liblocpath/tree/NodeKind", "ordinal", "()I"⟩ : MethodName)) (z := (⟨"java/lang/Enum", "ordinal", "()I"⟩ : MethodName)) hown (hw _ (List.mem_of_getElem? (i := 26) rfl)) (hw _ (List.mem_of_getElem? (i := 27) rfl)) (hw _ (List.mem_of_getElem? (i := 28) rfl)) (hw _ (List.mem_of_getElem? (i := 30) rfl)) (hw _ (List.mem_of_getElem? (i := 29) rfl)) (hw _ (List.mem_of_getElem? (i := 32) rfl)) (hw _ (List.mem_of_getElem? (i := 31) rfl)) (by decide) (b := ka) (argsL := []) (rest := [(.ref o)]) (rmO l Z w0 hw [] ka ko h6 fld_ka_ordinal_6) e6 exa_ka_6 1 (by decide) (by decide) (by decide) (by decide) rfl pdO rfl (Nat.le_of_eq rfl) d2_42 (pcF := 45) rfl ?_
  intro v7 T7 L7 X7 hQ7
  obtain ⟨rfl, rfl, e7⟩ := hQ7
  rw [List.append_nil] at X7
  show Go p e below _ _ (mkF m 45 _ [(.int ko), (.ref o)])
  obtain ⟨T8, h8, X8, e8, W8, st8⟩ := putF X7 hx hZ hown (host := "") (Or.inl (hw _ (List.mem_of_getElem? (i := 35) rfl))) Via.refl e7 fld_o_kindOrdinal_6 exa_o_6 (Or.inr ⟨(hw _ (List.mem_of_getElem? (i := 36) rfl)), rfl, hnm⟩) (hw _ (List.mem_of_getElem? (i := 8) rfl)) (ty := .int) (by decide) rfl rfl (g := (mkF m 45 #[.val (.ref o), .val (.ref ka), .val (.int x2), .val (.int x3), .val .null, .val (.int x5)] [(.int ko), (.ref o)])) rfl rfl (hb hby d2_45)
  have N8 := Fr.snoc X8 N6 no
  have Z8 : n0 ≤ h8.size := by rw [W8.size]; exact Z6
  have KP_8 := KP_6.wr W8 (Or.inl (List.mem_of_getElem? (i := 0) rfl))
  have exa_o_8 := exa_o_6.wr W8
  have exa_ka_8 := exa_ka_6.wr W8
  have fld_ka_ordinal_8 := fld_ka_ordinal_6.other W8 (Or.inl hne)
  have fld_o_kind_8 := fld_o_kind_6.other W8 (Or.inr (slot_ne (Or.inr (hw _ (List.mem_of_getElem? (i := 17) rfl))) (Or.inr (hw _ (List.mem_of_getElem? (i := 36) rfl))) (by decide) (by decide : parseFieldDescriptor "Lcom/example/liblocpath/liblocpath/tree/NodeKind;" = some (.object "com/example/liblocpath/liblocpath/tree/NodeKind")) (by decide : parseFieldDescriptor "I" = some .int)))
  have fld_o_expandedNameCode_8 := fld_o_expandedNameCode_6.other W8 (Or.inr (slot_ne (Or.inr (hw _ (List.mem_of_getElem? (i := 19) rfl))) (Or.inr (hw _ (List.mem_of_getElem? (i := 36) rfl))) (by decide) (by decide : parseFieldDescriptor "I" = some .int) (by decide : parseFieldDescriptor "I" = some .int)))
  have fld_o_namespaceCode_8 := fld_o_namespaceCode_6.other W8 (Or.inr (slot_ne (Or.inr (hw _ (List.mem_of_getElem? (i := 21) rfl))) (Or.inr (hw _ (List.mem_of_getElem? (i := 36) rfl))) (by decide) (by decide : parseFieldDescriptor "I" = some .int) (by decide : parseFieldDescriptor "I" = some .int)))
  have fld_o_names_8 := fld_o_names_6.other W8 (Or.inr (slot_ne (Or.inr (hw _ (List.mem_of_getElem? (i := 23) rfl))) (Or.inr (hw _ (List.mem_of_getElem? (i := 36) rfl))) (by decide) (by decide : parseFieldDescriptor "Lcom/example/liblocpath/liblocpath/tree/NameTable;" = some (.object "com/example/liblocpath/liblocpath/tree/NameTable")) (by decide : parseFieldDescriptor "I" = some .int)))
  have fld_o_readsEachName_8 := fld_o_readsEachName_6.other W8 (Or.inr (slot_ne (Or.inr (hw _ (List.mem_of_getElem? (i := 25) rfl))) (Or.inr (hw _ (List.mem_of_getElem? (i := 36) rfl))) (by decide) (by decide : parseFieldDescriptor "Z" = some .boolean) (by decide : parseFieldDescriptor "I" = some .int)))
  have fld_o_keepsAnyName_8 := fld_o_keepsAnyName_6.other W8 (Or.inr (slot_ne (Or.inr (hw _ (List.mem_of_getElem? (i := 38) rfl))) (Or.inr (hw _ (List.mem_of_getElem? (i := 36) rfl))) (by decide) (by decide : parseFieldDescriptor "Z" = some .boolean) (by decide : parseFieldDescriptor "I" = some .int)))
  have fld_o_kindOrdinal_8 := fld_o_kindOrdinal_6.same W8
  refine Go.on (g' := (mkF m 48 _ [])) (st8) ?_
  refine Go.on (g' := (mkF m 49 _ [(.ref o)])) (fun t_ k_ => XS.aloadN X8.here hx rfl (hb hby d2_48) rfl rfl k_) ?_
  refine Go.on (g' := (mkF m 50 _ [(.int x2), (.ref o)])) (fun t_ k_ => XS.iloadN X8.here hx rfl (hb hby d2_49) rfl k_) ?_
  refine Go.on (g' := (mkF m 52 _ [(.int ((-3) : Int32)), (.int x2), (.ref o)])) (fun t_ k_ => XS.bipush X8.here hx rfl (hb hby d2_50) k_) ?_
  refine Go.icmp X8 hx hby d2_52 (pcT := 65) (pcF := 55) (by decide) (by decide) rfl (fun q => ?_) (fun q => ?_)
  · have q1 := iNe.1 q
    clear q
    show Go p e below _ _ (mkF m 65 _ [(.ref o)])
    refine Go.on (g' := (mkF m 66 _ [(.int (0 : Int32)), (.ref o)])) (fun t_ k_ => XS.iconst X8.here hx rfl (hb hby d2_65) k_) ?_
    obtain ⟨T9, h9, X9, e9, W9, st9⟩ := putF X8 hx hZ hown (host := "") (Or.inl (hw _ (List.mem_of_getElem? (i := 37) rfl))) Via.refl e8 fld_o_keepsAnyName_8 exa_o_8 (Or.inr ⟨(hw _ (List.mem_of_getElem? (i := 38) rfl)), rfl, hnm⟩) (hw _ (List.mem_of_getElem? (i := 8) rfl)) (ty := .boolean) (by decide) rfl rfl (g := (mkF m 66 #[.val (.ref o), .val (.ref ka), .val (.int x2), .val (.int x3), .val .null, .val (.int x5)] [(.int (0 : Int32)), (.ref o)])) rfl rfl (hb hby d2_66)
    have N9 := Fr.snoc X9 N8 no
    have Z9 : n0 ≤ h9.size := by rw [W9.size]; exact Z8
    have KP_9 := KP_8.wr W9 (Or.inl (List.mem_of_getElem? (i := 0) rfl))
    have exa_o_9 := exa_o_8.wr W9
    have exa_ka_9 := exa_ka_8.wr W9
    have fld_ka_ordinal_9 := fld_ka_ordinal_8.other W9 (Or.inl hne)
    have fld_o_kind_9 := fld_o_kind_8.other W9 (Or.inr (slot_ne (Or.inr (hw _ (List.mem_of_getElem? (i := 17) rfl))) (Or.inr (hw _ (List.mem_of_getElem? (i := 38) rfl))) (by decide) (by decide : parseFieldDescriptor "Lcom/example/liblocpath/liblocpath/tree/NodeKind;" = some (.object "com/example/liblocpath/liblocpath/tree/NodeKind")) (by decide : parseFieldDescriptor "Z" = some .boolean)))
    have fld_o_expandedNameCode_9 := fld_o_expandedNameCode_8.other W9 (Or.inr (slot_ne (Or.inr (hw _ (List.mem_of_getElem? (i := 19) rfl))) (Or.inr (hw _ (List.mem_of_getElem? (i := 38) rfl))) (by decide) (by decide : parseFieldDescriptor "I" = some .int) (by decide : parseFieldDescriptor "Z" = some .boolean)))
    have fld_o_namespaceCode_9 := fld_o_namespaceCode_8.other W9 (Or.inr (slot_ne (Or.inr (hw _ (List.mem_of_getElem? (i := 21) rfl))) (Or.inr (hw _ (List.mem_of_getElem? (i := 38) rfl))) (by decide) (by decide : parseFieldDescriptor "I" = some .int) (by decide : parseFieldDescriptor "Z" = some .boolean)))
    have fld_o_names_9 := fld_o_names_8.other W9 (Or.inr (slot_ne (Or.inr (hw _ (List.mem_of_getElem? (i := 23) rfl))) (Or.inr (hw _ (List.mem_of_getElem? (i := 38) rfl))) (by decide) (by decide : parseFieldDescriptor "Lcom/example/liblocpath/liblocpath/tree/NameTable;" = some (.object "com/example/liblocpath/liblocpath/tree/NameTable")) (by decide : parseFieldDescriptor "Z" = some .boolean)))
    have fld_o_readsEachName_9 := fld_o_readsEachName_8.other W9 (Or.inr (slot_ne (Or.inr (hw _ (List.mem_of_getElem? (i := 25) rfl))) (Or.inr (hw _ (List.mem_of_getElem? (i := 38) rfl))) (by decide) (by decide : parseFieldDescriptor "Z" = some .boolean) (by decide : parseFieldDescriptor "Z" = some .boolean)))
    have fld_o_kindOrdinal_9 := fld_o_kindOrdinal_8.other W9 (Or.inr (slot_ne (Or.inr (hw _ (List.mem_of_getElem? (i := 36) rfl))) (Or.inr (hw _ (List.mem_of_getElem? (i := 38) rfl))) (by decide) (by decide : parseFieldDescriptor "I" = some .int) (by decide : parseFieldDescriptor "Z" = some .boolean)))
    have fld_o_keepsAnyName_9 := fld_o_keepsAnyName_8.same W9
    refine Go.on (g' := (mkF m 69 _ [])) (st9) ?_
    exact Go.ret0 X9 hx hlk hret hby d2_69 (by decide) (by decide) (by rw [e9]; exact ⟨rfl, N9, KP_9, exa_o_9, fld_o_kind_9, fld_o_expandedNameCode_9, fld_o_namespaceCode_9, fld_o_readsEachName_9⟩)
  · have q1 := iNe.2 q
    clear q
    show Go p e below _ _ (mkF m 55 _ [(.ref o)])
    refine Go.on (g' := (mkF m 56 _ [(.int x3), (.ref o)])) (fun t_ k_ => XS.iloadN X8.here hx rfl (hb hby d2_55) rfl k_) ?_
    refine Go.on (g' := (mkF m 58 _ [(.int ((-3) : Int32)), (.int x3), (.ref o)])) (fun t_ k_ => XS.bipush X8.here hx rfl (hb hby d2_56) k_) ?_
    refine Go.icmp X8 hx hby d2_58 (pcT := 65) (pcF := 61) (by decide) (by decide) rfl (fun q => ?_) (fun q => ?_)
    · have q2 := iNe.1 q
      clear q
      show Go p e below _ _ (mkF m 65 _ [(.ref o)])
      refine Go.on (g' := (mkF m 66 _ [(.int (0 : Int32)), (.ref o)])) (fun t_ k_ => XS.iconst X8.here hx rfl (hb hby d2_65) k_) ?_
      obtain ⟨T10, h10, X10, e10, W10, st10⟩ := putF X8 hx hZ hown (host := "") (Or.inl (hw _ (List.mem_of_getElem? (i := 37) rfl))) Via.refl e8 fld_o_keepsAnyName_8 exa_o_8 (Or.inr ⟨(hw _ (List.mem_of_getElem? (i := 38) rfl)), rfl, hnm⟩) (hw _ (List.mem_of_getElem? (i := 8) rfl)) (ty := .boolean) (by decide) rfl rfl (g := (mkF m 66 #[.val (.ref o), .val (.ref ka), .val (.int x2), .val (.int x3), .val .null, .val (.int x5)] [(.int (0 : Int32)), (.ref o)])) rfl rfl (hb hby d2_66)
      have N10 := Fr.snoc X10 N8 no
      have Z10 : n0 ≤ h10.size := by rw [W10.size]; exact Z8
      have KP_10 := KP_8.wr W10 (Or.inl (List.mem_of_getElem? (i := 0) rfl))
      have exa_o_10 := exa_o_8.wr W10
      have exa_ka_10 := exa_ka_8.wr W10
      have fld_ka_ordinal_10 := fld_ka_ordinal_8.other W10 (Or.inl hne)
      have fld_o_kind_10 := fld_o_kind_8.other W10 (Or.inr (slot_ne (Or.inr (hw _ (List.mem_of_getElem? (i := 17) rfl))) (Or.inr (hw _ (List.mem_of_getElem? (i := 38) rfl))) (by decide) (by decide : parseFieldDescriptor "Lcom/example/liblocpath/liblocpath/tree/NodeKind;" = some (.object "com/example/liblocpath/liblocpath/tree/NodeKind")) (by decide : parseFieldDescriptor "Z" = some .boolean)))
      have fld_o_expandedNameCode_10 := fld_o_expandedNameCode_8.other W10 (Or.inr (slot_ne (Or.inr (hw _ (List.mem_of_getElem? (i := 19) rfl))) (Or.inr (hw _ (List.mem_of_getElem? (i := 38) rfl))) (by decide) (by decide : parseFieldDescriptor "I" = some .int) (by decide : parseFieldDescriptor "Z" = some .boolean)))
      have fld_o_namespaceCode_10 := fld_o_namespaceCode_8.other W10 (Or.inr (slot_ne (Or.inr (hw _ (List.mem_of_getElem? (i := 21) rfl))) (Or.inr (hw _ (List.mem_of_getElem? (i := 38) rfl))) (by decide) (by decide : parseFieldDescriptor "I" = some .int) (by decide : parseFieldDescriptor "Z" = some .boolean)))
      have fld_o_names_10 := fld_o_names_8.other W10 (Or.inr (slot_ne (Or.inr (hw _ (List.mem_of_getElem? (i := 23) rfl))) (Or.inr (hw _ (List.mem_of_getElem? (i := 38) rfl))) (by decide) (by decide : parseFieldDescriptor "Lcom/example/liblocpath/liblocpath/tree/NameTable;" = some (.object "com/example/liblocpath/liblocpath/tree/NameTable")) (by decide : parseFieldDescriptor "Z" = some .boolean)))
      have fld_o_readsEachName_10 := fld_o_readsEachName_8.other W10 (Or.inr (slot_ne (Or.inr (hw _ (List.mem_of_getElem? (i := 25) rfl))) (Or.inr (hw _ (List.mem_of_getElem? (i := 38) rfl))) (by decide) (by decide : parseFieldDescriptor "Z" = some .boolean) (by decide : parseFieldDescriptor "Z" = some .boolean)))
      have fld_o_kindOrdinal_10 := fld_o_kindOrdinal_8.other W10 (Or.inr (slot_ne (Or.inr (hw _ (List.mem_of_getElem? (i := 36) rfl))) (Or.inr (hw _ (List.mem_of_getElem? (i := 38) rfl))) (by decide) (by decide : parseFieldDescriptor "I" = some .int) (by decide : parseFieldDescriptor "Z" = some .boolean)))
      have fld_o_keepsAnyName_10 := fld_o_keepsAnyName_8.same W10
      refine Go.on (g' := (mkF m 69 _ [])) (st10) ?_
      exact Go.ret0 X10 hx hlk hret hby d2_69 (by decide) (by decide) (by rw [e10]; exact ⟨rfl, N10, KP_10, exa_o_10, fld_o_kind_10, fld_o_expandedNameCode_10, fld_o_namespaceCode_10, fld_o_readsEachName_10⟩)
    · have q2 := iNe.2 q
      clear q
      show Go p e below _ _ (mkF m 61 _ [(.ref o)])
      refine Go.on (g' := (mkF m 62 _ [(.int (1 : Int32)), (.ref o)])) (fun t_ k_ => XS.iconst X8.here hx rfl (hb hby d2_61) k_) ?_
      refine Go.on (g' := (mkF m 66 _ [(.int (1 : Int32)), (.ref o)])) (fun t_ k_ => XS.goto X8.here hx rfl (pc0 := 62) (pc' := 66) rfl (hb hby d2_62) (by decide) (by decide) k_) ?_
      obtain ⟨T11, h11, X11, e11, W11, st11⟩ := putF X8 hx hZ hown (host := "") (Or.inl (hw _ (List.mem_of_getElem? (i := 37) rfl))) Via.refl e8 fld_o_keepsAnyName_8 exa_o_8 (Or.inr ⟨(hw _ (List.mem_of_getElem? (i := 38) rfl)), rfl, hnm⟩) (hw _ (List.mem_of_getElem? (i := 8) rfl)) (ty := .boolean) (by decide) rfl rfl (g := (mkF m 66 #[.val (.ref o), .val (.ref ka), .val (.int x2), .val (.int x3), .val .null, .val (.int x5)] [(.int (1 : Int32)), (.ref o)])) rfl rfl (hb hby d2_66)
      have N11 := Fr.snoc X11 N8 no
      have Z11 : n0 ≤ h11.size := by rw [W11.size]; exact Z8
      have KP_11 := KP_8.wr W11 (Or.inl (List.mem_of_getElem? (i := 0) rfl))
      have exa_o_11 := exa_o_8.wr W11
      have exa_ka_11 := exa_ka_8.wr W11
      have fld_ka_ordinal_11 := fld_ka_ordinal_8.other W11 (Or.inl hne)
      have fld_o_kind_11 := fld_o_kind_8.other W11 (Or.inr (slot_ne (Or.inr (hw _ (List.mem_of_getElem? (i := 17) rfl))) (Or.inr (hw _ (List.mem_of_getElem? (i := 38) rfl))) (by decide) (by decide : parseFieldDescriptor "Lcom/example/liblocpath/liblocpath/tree/NodeKind;" = some (.object "com/example/liblocpath/liblocpath/tree/NodeKind")) (by decide : parseFieldDescriptor "Z" = some .boolean)))
      have fld_o_expandedNameCode_11 := fld_o_expandedNameCode_8.other W11 (Or.inr (slot_ne (Or.inr (hw _ (List.mem_of_getElem? (i := 19) rfl))) (Or.inr (hw _ (List.mem_of_getElem? (i := 38) rfl))) (by decide) (by decide : parseFieldDescriptor "I" = some .int) (by decide : parseFieldDescriptor "Z" = some .boolean)))
      have fld_o_namespaceCode_11 := fld_o_namespaceCode_8.other W11 (Or.inr (slot_ne (Or.inr (hw _ (List.mem_of_getElem? (i := 21) rfl))) (Or.inr (hw _ (List.mem_of_getElem? (i := 38) rfl))) (by decide) (by decide : parseFieldDescriptor "I" = some .int) (by decide : parseFieldDescriptor "Z" = some .boolean)))
      have fld_o_names_11 := fld_o_names_8.other W11 (Or.inr (slot_ne (Or.inr (hw _ (List.mem_of_getElem? (i := 23) rfl))) (Or.inr (hw _ (List.mem_of_getElem? (i := 38) rfl))) (by decide) (by decide : parseFieldDescriptor "Lcom/example/liblocpath/liblocpath/tree/NameTable;" = some (.object "com/example/liblocpath/liblocpath/tree/NameTable")) (by decide : parseFieldDescriptor "Z" = some .boolean)))
      have fld_o_readsEachName_11 := fld_o_readsEachName_8.other W11 (Or.inr (slot_ne (Or.inr (hw _ (List.mem_of_getElem? (i := 25) rfl))) (Or.inr (hw _ (List.mem_of_getElem? (i := 38) rfl))) (by decide) (by decide : parseFieldDescriptor "Z" = some .boolean) (by decide : parseFieldDescriptor "Z" = some .boolean)))
      have fld_o_kindOrdinal_11 := fld_o_kindOrdinal_8.other W11 (Or.inr (slot_ne (Or.inr (hw _ (List.mem_of_getElem? (i := 36) rfl))) (Or.inr (hw _ (List.mem_of_getElem? (i := 38) rfl))) (by decide) (by decide : parseFieldDescriptor "I" = some .int) (by decide : parseFieldDescriptor "Z" = some .boolean)))
      have fld_o_keepsAnyName_11 := fld_o_keepsAnyName_8.same W11
      refine Go.on (g' := (mkF m 69 _ [])) (st11) ?_
      exact Go.ret0 X11 hx hlk hret hby d2_69 (by decide) (by decide) (by rw [e11]; exact ⟨rfl, N11, KP_11, exa_o_11, fld_o_kind_11, fld_o_expandedNameCode_11, fld_o_namespaceCode_11, fld_o_readsEachName_11⟩)
theorem rmI (l : Launch) (Z : State) (w0 : Array Value) (hw : ∀ d ∈ tables_1, d.before w0 Z = true) (ws : List Jvm.Cond) (o : Addr) (kv : Value) (x2 x3 x5 : Int32) (h0 : Heap) (n0 : Nat) (Z0 : n0 ≤ h0.size) (no : n0 ≤ o) (E0 : Exa Z h0 o "com/example/liblocpath/liblocpath/tree/BoundNodeTest") (G0 : Fld Z h0 o "com/example/liblocpath/liblocpath/tree/BoundNodeTest" "kind" "Lcom/example/liblocpath/liblocpath/tree/NodeKind;" .null) (G1 : Fld Z h0 o "com/example/liblocpath/liblocpath/tree/BoundNodeTest" "expandedNameCode" "I" (.int (0 : Int32))) (G2 : Fld Z h0 o "com/example/liblocpath/liblocpath/tree/BoundNodeTest" "namespaceCode" "I" (.int (0 : Int32))) (G3 : Fld Z h0 o "com/example/liblocpath/liblocpath/tree/BoundNodeTest" "names" "Lcom/example/liblocpath/liblocpath/tree/NameTable;" .null) (G4 : Fld Z h0 o "com/example/liblocpath/liblocpath/tree/BoundNodeTest" "readsEachName" "Z" (.int (0 : Int32))) (G5 : Fld Z h0 o "com/example/liblocpath/liblocpath/tree/BoundNodeTest" "kindOrdinal" "I" (.int (0 : Int32))) (G6 : Fld Z h0 o "com/example/liblocpath/liblocpath/tree/BoundNodeTest" "keepsAnyName" "Z" (.int (0 : Int32))) (hrd : narrow .boolean (.int x5) = .int x5) (frd : fits .boolean (.int x5) = true) (hk : own_Kd Z h0 kv) : Pact l Z (⟨"com/example/liblocpath/liblocpath/tree/BoundNodeTest", "<init>", "(Lcom/example/liblocpath/liblocpath/tree/NodeKind;IILcom/example/liblocpath/liblocpath/tree/NameTable;Z)V"⟩ : MethodName) prog_78_method_1_code 6 none ws ({ frames := 1, cells := 0, slots := 0, locals := 13 } : Room) #[.ref o, kv, .int x2, .int x3, .null, .int x5] h0 (own_QI Z o kv x2 x3 x5 h0 n0) := by
  rcases hk with rfl | ⟨ka, ko, rfl, EK, FK⟩
  · exact rmIn l Z w0 hw ws o x2 x3 x5 h0 n0 Z0 no E0 G0 G1 G2 G3 G4 G5 G6 hrd frd
  · exact rmIr l Z w0 hw ws o ka ko x2 x3 x5 h0 n0 Z0 no E0 G0 G1 G2 G3 G4 G5 G6 hrd frd EK FK
def own_B (Z : State) (h : Heap) (a0 a1 a2 a3 a4 a5 a6 b0 b1 b2 b3 b4 b5 b6 b7 ok kd : Addr) (cl ck : Cell) : Prop := (Sta Z h "com/example/liblocpath/liblocpath/tree/BoundNodeTest" "OF_KIND" "[Lcom/example/liblocpath/liblocpath/tree/BoundNodeTest;" (.ref ok)) ∧ (Arr Z h ok cl (.object "com/example/liblocpath/liblocpath/tree/BoundNodeTest")) ∧ (Sta Z h "com/example/liblocpath/liblocpath/tree/BoundNodeTest" "KINDS" "[Lcom/example/liblocpath/liblocpath/tree/NodeKind;" (.ref kd)) ∧ (Arr Z h kd ck (.object "com/example/liblocpath/liblocpath/tree/NodeKind")) ∧ (Exa Z h b0 "com/example/liblocpath/liblocpath/tree/BoundNodeTest") ∧ (Exa Z h b1 "com/example/liblocpath/liblocpath/tree/BoundNodeTest") ∧ (Exa Z h b2 "com/example/liblocpath/liblocpath/tree/BoundNodeTest") ∧ (Exa Z h b3 "com/example/liblocpath/liblocpath/tree/BoundNodeTest") ∧ (Exa Z h b4 "com/example/liblocpath/liblocpath/tree/BoundNodeTest") ∧ (Exa Z h b5 "com/example/liblocpath/liblocpath/tree/BoundNodeTest") ∧ (Exa Z h b6 "com/example/liblocpath/liblocpath/tree/BoundNodeTest") ∧ (Exa Z h b7 "com/example/liblocpath/liblocpath/tree/BoundNodeTest") ∧ (Fld Z h b0 "com/example/liblocpath/liblocpath/tree/BoundNodeTest" "kind" "Lcom/example/liblocpath/liblocpath/tree/NodeKind;" (.ref a0)) ∧ (Fld Z h b1 "com/example/liblocpath/liblocpath/tree/BoundNodeTest" "kind" "Lcom/example/liblocpath/liblocpath/tree/NodeKind;" (.ref a1)) ∧ (Fld Z h b2 "com/example/liblocpath/liblocpath/tree/BoundNodeTest" "kind" "Lcom/example/liblocpath/liblocpath/tree/NodeKind;" (.ref a2)) ∧ (Fld Z h b3 "com/example/liblocpath/liblocpath/tree/BoundNodeTest" "kind" "Lcom/example/liblocpath/liblocpath/tree/NodeKind;" (.ref a3)) ∧ (Fld Z h b4 "com/example/liblocpath/liblocpath/tree/BoundNodeTest" "kind" "Lcom/example/liblocpath/liblocpath/tree/NodeKind;" (.ref a4)) ∧ (Fld Z h b5 "com/example/liblocpath/liblocpath/tree/BoundNodeTest" "kind" "Lcom/example/liblocpath/liblocpath/tree/NodeKind;" (.ref a5)) ∧ (Fld Z h b6 "com/example/liblocpath/liblocpath/tree/BoundNodeTest" "kind" "Lcom/example/liblocpath/liblocpath/tree/NodeKind;" (.ref a6)) ∧ (Fld Z h b7 "com/example/liblocpath/liblocpath/tree/BoundNodeTest" "kind" "Lcom/example/liblocpath/liblocpath/tree/NodeKind;" .null) ∧ (Fld Z h b7 "com/example/liblocpath/liblocpath/tree/BoundNodeTest" "expandedNameCode" "I" (.int ((-3) : Int32))) ∧ (Fld Z h b7 "com/example/liblocpath/liblocpath/tree/BoundNodeTest" "namespaceCode" "I" (.int ((-3) : Int32)))
theorem own_B.so {Z : State} {h : Heap} {a0 a1 a2 a3 a4 a5 a6 b0 b1 b2 b3 b4 b5 b6 b7 ok kd : Addr} {cl ck : Cell} (K : own_B Z h a0 a1 a2 a3 a4 a5 a6 b0 b1 b2 b3 b4 b5 b6 b7 ok kd cl ck) : Sta Z h "com/example/liblocpath/liblocpath/tree/BoundNodeTest" "OF_KIND" "[Lcom/example/liblocpath/liblocpath/tree/BoundNodeTest;" (.ref ok) := K.1
theorem own_B.ao {Z : State} {h : Heap} {a0 a1 a2 a3 a4 a5 a6 b0 b1 b2 b3 b4 b5 b6 b7 ok kd : Addr} {cl ck : Cell} (K : own_B Z h a0 a1 a2 a3 a4 a5 a6 b0 b1 b2 b3 b4 b5 b6 b7 ok kd cl ck) : Arr Z h ok cl (.object "com/example/liblocpath/liblocpath/tree/BoundNodeTest") := K.2.1
theorem own_B.sk {Z : State} {h : Heap} {a0 a1 a2 a3 a4 a5 a6 b0 b1 b2 b3 b4 b5 b6 b7 ok kd : Addr} {cl ck : Cell} (K : own_B Z h a0 a1 a2 a3 a4 a5 a6 b0 b1 b2 b3 b4 b5 b6 b7 ok kd cl ck) : Sta Z h "com/example/liblocpath/liblocpath/tree/BoundNodeTest" "KINDS" "[Lcom/example/liblocpath/liblocpath/tree/NodeKind;" (.ref kd) := K.2.2.1
theorem own_B.ak {Z : State} {h : Heap} {a0 a1 a2 a3 a4 a5 a6 b0 b1 b2 b3 b4 b5 b6 b7 ok kd : Addr} {cl ck : Cell} (K : own_B Z h a0 a1 a2 a3 a4 a5 a6 b0 b1 b2 b3 b4 b5 b6 b7 ok kd cl ck) : Arr Z h kd ck (.object "com/example/liblocpath/liblocpath/tree/NodeKind") := K.2.2.2.1
theorem own_B.e0 {Z : State} {h : Heap} {a0 a1 a2 a3 a4 a5 a6 b0 b1 b2 b3 b4 b5 b6 b7 ok kd : Addr} {cl ck : Cell} (K : own_B Z h a0 a1 a2 a3 a4 a5 a6 b0 b1 b2 b3 b4 b5 b6 b7 ok kd cl ck) : Exa Z h b0 "com/example/liblocpath/liblocpath/tree/BoundNodeTest" := K.2.2.2.2.1
theorem own_B.e1 {Z : State} {h : Heap} {a0 a1 a2 a3 a4 a5 a6 b0 b1 b2 b3 b4 b5 b6 b7 ok kd : Addr} {cl ck : Cell} (K : own_B Z h a0 a1 a2 a3 a4 a5 a6 b0 b1 b2 b3 b4 b5 b6 b7 ok kd cl ck) : Exa Z h b1 "com/example/liblocpath/liblocpath/tree/BoundNodeTest" := K.2.2.2.2.2.1
theorem own_B.e2 {Z : State} {h : Heap} {a0 a1 a2 a3 a4 a5 a6 b0 b1 b2 b3 b4 b5 b6 b7 ok kd : Addr} {cl ck : Cell} (K : own_B Z h a0 a1 a2 a3 a4 a5 a6 b0 b1 b2 b3 b4 b5 b6 b7 ok kd cl ck) : Exa Z h b2 "com/example/liblocpath/liblocpath/tree/BoundNodeTest" := K.2.2.2.2.2.2.1
theorem own_B.e3 {Z : State} {h : Heap} {a0 a1 a2 a3 a4 a5 a6 b0 b1 b2 b3 b4 b5 b6 b7 ok kd : Addr} {cl ck : Cell} (K : own_B Z h a0 a1 a2 a3 a4 a5 a6 b0 b1 b2 b3 b4 b5 b6 b7 ok kd cl ck) : Exa Z h b3 "com/example/liblocpath/liblocpath/tree/BoundNodeTest" := K.2.2.2.2.2.2.2.1
theorem own_B.e4 {Z : State} {h : Heap} {a0 a1 a2 a3 a4 a5 a6 b0 b1 b2 b3 b4 b5 b6 b7 ok kd : Addr} {cl ck : Cell} (K : own_B Z h a0 a1 a2 a3 a4 a5 a6 b0 b1 b2 b3 b4 b5 b6 b7 ok kd cl ck) : Exa Z h b4 "com/example/liblocpath/liblocpath/tree/BoundNodeTest" := K.2.2.2.2.2.2.2.2.1
theorem own_B.e5 {Z : State} {h : Heap} {a0 a1 a2 a3 a4 a5 a6 b0 b1 b2 b3 b4 b5 b6 b7 ok kd : Addr} {cl ck : Cell} (K : own_B Z h a0 a1 a2 a3 a4 a5 a6 b0 b1 b2 b3 b4 b5 b6 b7 ok kd cl ck) : Exa Z h b5 "com/example/liblocpath/liblocpath/tree/BoundNodeTest" := K.2.2.2.2.2.2.2.2.2.1
theorem own_B.e6 {Z : State} {h : Heap} {a0 a1 a2 a3 a4 a5 a6 b0 b1 b2 b3 b4 b5 b6 b7 ok kd : Addr} {cl ck : Cell} (K : own_B Z h a0 a1 a2 a3 a4 a5 a6 b0 b1 b2 b3 b4 b5 b6 b7 ok kd cl ck) : Exa Z h b6 "com/example/liblocpath/liblocpath/tree/BoundNodeTest" := K.2.2.2.2.2.2.2.2.2.2.1
theorem own_B.e7 {Z : State} {h : Heap} {a0 a1 a2 a3 a4 a5 a6 b0 b1 b2 b3 b4 b5 b6 b7 ok kd : Addr} {cl ck : Cell} (K : own_B Z h a0 a1 a2 a3 a4 a5 a6 b0 b1 b2 b3 b4 b5 b6 b7 ok kd cl ck) : Exa Z h b7 "com/example/liblocpath/liblocpath/tree/BoundNodeTest" := K.2.2.2.2.2.2.2.2.2.2.2.1
theorem own_B.k0 {Z : State} {h : Heap} {a0 a1 a2 a3 a4 a5 a6 b0 b1 b2 b3 b4 b5 b6 b7 ok kd : Addr} {cl ck : Cell} (K : own_B Z h a0 a1 a2 a3 a4 a5 a6 b0 b1 b2 b3 b4 b5 b6 b7 ok kd cl ck) : Fld Z h b0 "com/example/liblocpath/liblocpath/tree/BoundNodeTest" "kind" "Lcom/example/liblocpath/liblocpath/tree/NodeKind;" (.ref a0) := K.2.2.2.2.2.2.2.2.2.2.2.2.1
theorem own_B.k1 {Z : State} {h : Heap} {a0 a1 a2 a3 a4 a5 a6 b0 b1 b2 b3 b4 b5 b6 b7 ok kd : Addr} {cl ck : Cell} (K : own_B Z h a0 a1 a2 a3 a4 a5 a6 b0 b1 b2 b3 b4 b5 b6 b7 ok kd cl ck) : Fld Z h b1 "com/example/liblocpath/liblocpath/tree/BoundNodeTest" "kind" "Lcom/example/liblocpath/liblocpath/tree/NodeKind;" (.ref a1) := K.2.2.2.2.2.2.2.2.2.2.2.2.2.1
theorem own_B.k2 {Z : State} {h : Heap} {a0 a1 a2 a3 a4 a5 a6 b0 b1 b2 b3 b4 b5 b6 b7 ok kd : Addr} {cl ck : Cell} (K : own_B Z h a0 a1 a2 a3 a4 a5 a6 b0 b1 b2 b3 b4 b5 b6 b7 ok kd cl ck) : Fld Z h b2 "com/example/liblocpath/liblocpath/tree/BoundNodeTest" "kind" "Lcom/example/liblocpath/liblocpath/tree/NodeKind;" (.ref a2) := K.2.2.2.2.2.2.2.2.2.2.2.2.2.2.1
theorem own_B.k3 {Z : State} {h : Heap} {a0 a1 a2 a3 a4 a5 a6 b0 b1 b2 b3 b4 b5 b6 b7 ok kd : Addr} {cl ck : Cell} (K : own_B Z h a0 a1 a2 a3 a4 a5 a6 b0 b1 b2 b3 b4 b5 b6 b7 ok kd cl ck) : Fld Z h b3 "com/example/liblocpath/liblocpath/tree/BoundNodeTest" "kind" "Lcom/example/liblocpath/liblocpath/tree/NodeKind;" (.ref a3) := K.2.2.2.2.2.2.2.2.2.2.2.2.2.2.2.1
theorem own_B.k4 {Z : State} {h : Heap} {a0 a1 a2 a3 a4 a5 a6 b0 b1 b2 b3 b4 b5 b6 b7 ok kd : Addr} {cl ck : Cell} (K : own_B Z h a0 a1 a2 a3 a4 a5 a6 b0 b1 b2 b3 b4 b5 b6 b7 ok kd cl ck) : Fld Z h b4 "com/example/liblocpath/liblocpath/tree/BoundNodeTest" "kind" "Lcom/example/liblocpath/liblocpath/tree/NodeKind;" (.ref a4) := K.2.2.2.2.2.2.2.2.2.2.2.2.2.2.2.2.1
theorem own_B.k5 {Z : State} {h : Heap} {a0 a1 a2 a3 a4 a5 a6 b0 b1 b2 b3 b4 b5 b6 b7 ok kd : Addr} {cl ck : Cell} (K : own_B Z h a0 a1 a2 a3 a4 a5 a6 b0 b1 b2 b3 b4 b5 b6 b7 ok kd cl ck) : Fld Z h b5 "com/example/liblocpath/liblocpath/tree/BoundNodeTest" "kind" "Lcom/example/liblocpath/liblocpath/tree/NodeKind;" (.ref a5) := K.2.2.2.2.2.2.2.2.2.2.2.2.2.2.2.2.2.1
theorem own_B.k6 {Z : State} {h : Heap} {a0 a1 a2 a3 a4 a5 a6 b0 b1 b2 b3 b4 b5 b6 b7 ok kd : Addr} {cl ck : Cell} (K : own_B Z h a0 a1 a2 a3 a4 a5 a6 b0 b1 b2 b3 b4 b5 b6 b7 ok kd cl ck) : Fld Z h b6 "com/example/liblocpath/liblocpath/tree/BoundNodeTest" "kind" "Lcom/example/liblocpath/liblocpath/tree/NodeKind;" (.ref a6) := K.2.2.2.2.2.2.2.2.2.2.2.2.2.2.2.2.2.2.1
theorem own_B.k7 {Z : State} {h : Heap} {a0 a1 a2 a3 a4 a5 a6 b0 b1 b2 b3 b4 b5 b6 b7 ok kd : Addr} {cl ck : Cell} (K : own_B Z h a0 a1 a2 a3 a4 a5 a6 b0 b1 b2 b3 b4 b5 b6 b7 ok kd cl ck) : Fld Z h b7 "com/example/liblocpath/liblocpath/tree/BoundNodeTest" "kind" "Lcom/example/liblocpath/liblocpath/tree/NodeKind;" .null := K.2.2.2.2.2.2.2.2.2.2.2.2.2.2.2.2.2.2.2.1
theorem own_B.x7 {Z : State} {h : Heap} {a0 a1 a2 a3 a4 a5 a6 b0 b1 b2 b3 b4 b5 b6 b7 ok kd : Addr} {cl ck : Cell} (K : own_B Z h a0 a1 a2 a3 a4 a5 a6 b0 b1 b2 b3 b4 b5 b6 b7 ok kd cl ck) : Fld Z h b7 "com/example/liblocpath/liblocpath/tree/BoundNodeTest" "expandedNameCode" "I" (.int ((-3) : Int32)) := K.2.2.2.2.2.2.2.2.2.2.2.2.2.2.2.2.2.2.2.2.1
theorem own_B.y7 {Z : State} {h : Heap} {a0 a1 a2 a3 a4 a5 a6 b0 b1 b2 b3 b4 b5 b6 b7 ok kd : Addr} {cl ck : Cell} (K : own_B Z h a0 a1 a2 a3 a4 a5 a6 b0 b1 b2 b3 b4 b5 b6 b7 ok kd cl ck) : Fld Z h b7 "com/example/liblocpath/liblocpath/tree/BoundNodeTest" "namespaceCode" "I" (.int ((-3) : Int32)) := K.2.2.2.2.2.2.2.2.2.2.2.2.2.2.2.2.2.2.2.2.2
theorem own_B.ext {Z : State} {h h' : Heap} {a0 a1 a2 a3 a4 a5 a6 b0 b1 b2 b3 b4 b5 b6 b7 ok kd : Addr} {cl ck : Cell} (K : own_B Z h a0 a1 a2 a3 a4 a5 a6 b0 b1 b2 b3 b4 b5 b6 b7 ok kd cl ck) (E : Ext h h') : own_B Z h' a0 a1 a2 a3 a4 a5 a6 b0 b1 b2 b3 b4 b5 b6 b7 ok kd cl ck := ⟨K.so.ext E, K.ao.ext E, K.sk.ext E, K.ak.ext E, K.e0.ext E, K.e1.ext E, K.e2.ext E, K.e3.ext E, K.e4.ext E, K.e5.ext E, K.e6.ext E, K.e7.ext E, K.k0.ext E, K.k1.ext E, K.k2.ext E, K.k3.ext E, K.k4.ext E, K.k5.ext E, K.k6.ext E, K.k7.ext E, K.x7.ext E, K.y7.ext E⟩
def own_ka (k : Int32) (a0 a1 a2 a3 a4 a5 a6 : Addr) : Addr := if k = 0 then a0 else if k = 1 then a1 else if k = 2 then a2 else if k = 3 then a3 else if k = 4 then a4 else if k = 5 then a5 else a6
theorem own_cases (k : Int32) (h : 0 ≤ k.toInt ∧ k.toInt < 7) : k = 0 ∨ k = 1 ∨ k = 2 ∨ k = 3 ∨ k = 4 ∨ k = 5 ∨ k = 6 := by
  have e : ∀ i : Int32, k.toInt = i.toInt → k = i := fun i q => Int32.toInt_inj.mp q
  have q : k.toInt = 0 ∨ k.toInt = 1 ∨ k.toInt = 2 ∨ k.toInt = 3 ∨ k.toInt = 4 ∨ k.toInt = 5 ∨ k.toInt = 6 := by omega
  rcases q with q | q | q | q | q | q | q
  · exact Or.inl (e 0 q)
  · exact Or.inr (Or.inl (e 1 q))
  · exact Or.inr (Or.inr (Or.inl (e 2 q)))
  · exact Or.inr (Or.inr (Or.inr (Or.inl (e 3 q))))
  · exact Or.inr (Or.inr (Or.inr (Or.inr (Or.inl (e 4 q)))))
  · exact Or.inr (Or.inr (Or.inr (Or.inr (Or.inr (Or.inl (e 5 q))))))
  · exact Or.inr (Or.inr (Or.inr (Or.inr (Or.inr (Or.inr (e 6 q))))))
theorem own_range (x : Int32) : 0 ≤ ((x &&& (2147483647 : Int32)) % (7 : Int32)).toInt ∧ ((x &&& (2147483647 : Int32)) % (7 : Int32)).toInt < 7 := by
  have e := c_and x (2147483647 : Int32) (by decide)
  have r := (c_irem (x &&& (2147483647 : Int32)) (7 : Int32) 7 (by decide)).1 e.1
  rw [r]
  omega
theorem own_kind_a (k : Int32) (a0 a1 a2 a3 a4 a5 a6 : Addr) (h : 0 ≤ k.toInt ∧ k.toInt < 7) : own_kind k a0 a1 a2 a3 a4 a5 a6 = .ref (own_ka k a0 a1 a2 a3 a4 a5 a6) := by
  rcases own_cases k h with rfl | rfl | rfl | rfl | rfl | rfl | rfl
  all_goals rfl
theorem own_ka_o {Z : State} {h : Heap} (k : Int32) {a0 a1 a2 a3 a4 a5 a6 : Addr} (K : own_K Z h a0 a1 a2 a3 a4 a5 a6) (hk : 0 ≤ k.toInt ∧ k.toInt < 7) : Exa Z h (own_ka k a0 a1 a2 a3 a4 a5 a6) "com/example/liblocpath/liblocpath/tree/NodeKind" ∧ Fld Z h (own_ka k a0 a1 a2 a3 a4 a5 a6) "java/lang/Enum" "ordinal" "I" (.int k) := by
  rcases own_cases k hk with rfl | rfl | rfl | rfl | rfl | rfl | rfl
  · exact ⟨K.e0, K.o0⟩
  · exact ⟨K.e1, K.o1⟩
  · exact ⟨K.e2, K.o2⟩
  · exact ⟨K.e3, K.o3⟩
  · exact ⟨K.e4, K.o4⟩
  · exact ⟨K.e5, K.o5⟩
  · exact ⟨K.e6, K.o6⟩
def own_At (cl : Cell) (b0 b1 b2 b3 b4 b5 b6 b7 : Addr) : Prop := (¬ ((0 : Int32) < 0 ∨ cl.slots.size ≤ (0 : Int32).toNatClampNeg) ∧ cl.slots[(0 : Int32).toNatClampNeg]? = some (.ref b0)) ∧ (¬ ((1 : Int32) < 0 ∨ cl.slots.size ≤ (1 : Int32).toNatClampNeg) ∧ cl.slots[(1 : Int32).toNatClampNeg]? = some (.ref b1)) ∧ (¬ ((2 : Int32) < 0 ∨ cl.slots.size ≤ (2 : Int32).toNatClampNeg) ∧ cl.slots[(2 : Int32).toNatClampNeg]? = some (.ref b2)) ∧ (¬ ((3 : Int32) < 0 ∨ cl.slots.size ≤ (3 : Int32).toNatClampNeg) ∧ cl.slots[(3 : Int32).toNatClampNeg]? = some (.ref b3)) ∧ (¬ ((4 : Int32) < 0 ∨ cl.slots.size ≤ (4 : Int32).toNatClampNeg) ∧ cl.slots[(4 : Int32).toNatClampNeg]? = some (.ref b4)) ∧ (¬ ((5 : Int32) < 0 ∨ cl.slots.size ≤ (5 : Int32).toNatClampNeg) ∧ cl.slots[(5 : Int32).toNatClampNeg]? = some (.ref b5)) ∧ (¬ ((6 : Int32) < 0 ∨ cl.slots.size ≤ (6 : Int32).toNatClampNeg) ∧ cl.slots[(6 : Int32).toNatClampNeg]? = some (.ref b6)) ∧ (¬ ((7 : Int32) < 0 ∨ cl.slots.size ≤ (7 : Int32).toNatClampNeg) ∧ cl.slots[(7 : Int32).toNatClampNeg]? = some (.ref b7))
theorem own_at_n {cl : Cell} {b0 b1 b2 b3 b4 b5 b6 b7 : Addr} (A : own_At cl b0 b1 b2 b3 b4 b5 b6 b7) : ¬ ((7 : Int32) < 0 ∨ cl.slots.size ≤ (7 : Int32).toNatClampNeg) ∧ cl.slots[(7 : Int32).toNatClampNeg]? = some (.ref b7) := by
  obtain ⟨q0, q1, q2, q3, q4, q5, q6, q7⟩ := A
  exact q7
theorem own_at_k {cl : Cell} {b0 b1 b2 b3 b4 b5 b6 b7 : Addr} (A : own_At cl b0 b1 b2 b3 b4 b5 b6 b7) (k : Int32) (hk : 0 ≤ k.toInt ∧ k.toInt < 7) : ¬ (k < 0 ∨ cl.slots.size ≤ k.toNatClampNeg) ∧ cl.slots[k.toNatClampNeg]? = some (.ref (own_ka k b0 b1 b2 b3 b4 b5 b6)) := by
  obtain ⟨q0, q1, q2, q3, q4, q5, q6, q7⟩ := A
  rcases own_cases k hk with rfl | rfl | rfl | rfl | rfl | rfl | rfl
  · exact q0
  · exact q1
  · exact q2
  · exact q3
  · exact q4
  · exact q5
  · exact q6
theorem own_ka_b {Z : State} {h : Heap} (k : Int32) {a0 a1 a2 a3 a4 a5 a6 b0 b1 b2 b3 b4 b5 b6 b7 ok kd : Addr} {cl ck : Cell} (K : own_B Z h a0 a1 a2 a3 a4 a5 a6 b0 b1 b2 b3 b4 b5 b6 b7 ok kd cl ck) (hk : 0 ≤ k.toInt ∧ k.toInt < 7) : Exa Z h (own_ka k b0 b1 b2 b3 b4 b5 b6) "com/example/liblocpath/liblocpath/tree/BoundNodeTest" ∧ Fld Z h (own_ka k b0 b1 b2 b3 b4 b5 b6) "com/example/liblocpath/liblocpath/tree/BoundNodeTest" "kind" "Lcom/example/liblocpath/liblocpath/tree/NodeKind;" (.ref (own_ka k a0 a1 a2 a3 a4 a5 a6)) := by
  rcases own_cases k hk with rfl | rfl | rfl | rfl | rfl | rfl | rfl
  · exact ⟨K.e0, K.k0⟩
  · exact ⟨K.e1, K.k1⟩
  · exact ⟨K.e2, K.k2⟩
  · exact ⟨K.e3, K.k3⟩
  · exact ⟨K.e4, K.k4⟩
  · exact ⟨K.e5, K.k5⟩
  · exact ⟨K.e6, K.k6⟩
def own_me (x y : Int32) : Int32 := if x = (-3) then (if y = (-3) then 1 else 0) else 0
theorem d1_0 : decode method_2_code 0 = .ok (.iload_n 0, 1) := by decide +kernel
theorem d1_1 : decode method_2_code 1 = .ok (.ifCond .ne 7, 3) := by decide +kernel
theorem d1_4 : decode method_2_code 4 = .ok (.getstatic 7, 3) := by decide +kernel
theorem d1_7 : decode method_2_code 7 = .ok (.areturn, 1) := by decide +kernel
theorem d1_8 : decode method_2_code 8 = .ok (.iload_n 0, 1) := by decide +kernel
theorem d1_9 : decode method_2_code 9 = .ok (.iconst 1, 1) := by decide +kernel
theorem d1_10 : decode method_2_code 10 = .ok (.if_icmp .ne 7, 3) := by decide +kernel
theorem d1_13 : decode method_2_code 13 = .ok (.getstatic 13, 3) := by decide +kernel
theorem d1_16 : decode method_2_code 16 = .ok (.areturn, 1) := by decide +kernel
theorem d1_17 : decode method_2_code 17 = .ok (.iload_n 0, 1) := by decide +kernel
theorem d1_18 : decode method_2_code 18 = .ok (.iconst 2, 1) := by decide +kernel
theorem d1_19 : decode method_2_code 19 = .ok (.if_icmp .ne 7, 3) := by decide +kernel
theorem d1_22 : decode method_2_code 22 = .ok (.getstatic 16, 3) := by decide +kernel
theorem d1_25 : decode method_2_code 25 = .ok (.areturn, 1) := by decide +kernel
theorem d1_26 : decode method_2_code 26 = .ok (.iload_n 0, 1) := by decide +kernel
theorem d1_27 : decode method_2_code 27 = .ok (.iconst 3, 1) := by decide +kernel
theorem d1_28 : decode method_2_code 28 = .ok (.if_icmp .ne 7, 3) := by decide +kernel
theorem d1_31 : decode method_2_code 31 = .ok (.getstatic 19, 3) := by decide +kernel
theorem d1_34 : decode method_2_code 34 = .ok (.areturn, 1) := by decide +kernel
theorem d1_35 : decode method_2_code 35 = .ok (.iload_n 0, 1) := by decide +kernel
theorem d1_36 : decode method_2_code 36 = .ok (.iconst 4, 1) := by decide +kernel
theorem d1_37 : decode method_2_code 37 = .ok (.if_icmp .ne 7, 3) := by decide +kernel
theorem d1_40 : decode method_2_code 40 = .ok (.getstatic 22, 3) := by decide +kernel
theorem d1_43 : decode method_2_code 43 = .ok (.areturn, 1) := by decide +kernel
theorem d1_44 : decode method_2_code 44 = .ok (.iload_n 0, 1) := by decide +kernel
theorem d1_45 : decode method_2_code 45 = .ok (.iconst 5, 1) := by decide +kernel
theorem d1_46 : decode method_2_code 46 = .ok (.if_icmp .ne 7, 3) := by decide +kernel
theorem d1_49 : decode method_2_code 49 = .ok (.getstatic 25, 3) := by decide +kernel
theorem d1_52 : decode method_2_code 52 = .ok (.areturn, 1) := by decide +kernel
theorem d1_53 : decode method_2_code 53 = .ok (.iload_n 0, 1) := by decide +kernel
theorem d1_54 : decode method_2_code 54 = .ok (.bipush 6, 2) := by decide +kernel
theorem d1_56 : decode method_2_code 56 = .ok (.if_icmp .ne 7, 3) := by decide +kernel
theorem d1_59 : decode method_2_code 59 = .ok (.getstatic 28, 3) := by decide +kernel
theorem d1_62 : decode method_2_code 62 = .ok (.areturn, 1) := by decide +kernel
theorem d1_63 : decode method_2_code 63 = .ok (.aconst_null, 1) := by decide +kernel
theorem d1_64 : decode method_2_code 64 = .ok (.areturn, 1) := by decide +kernel
set_option maxRecDepth 65536 in
set_option maxHeartbeats 40000000 in
theorem rmK (l : Launch) (Z : State) (w0 : Array Value) (hw : ∀ d ∈ tables_1, d.before w0 Z = true) (ws : List Jvm.Cond) (k : Int32) (a0 a1 a2 a3 a4 a5 a6 : Addr) (h0 : Heap) (K0 : own_K Z h0 a0 a1 a2 a3 a4 a5 a6) : Pact l Z (⟨"com/example/liblocpath/liblocpath/tree/BoundNodeTestMatchesEveryNodePinLaw", "kindOf", "(I)Lcom/example/liblocpath/liblocpath/tree/NodeKind;"⟩ : MethodName) method_2_code 1 (some (.object "com/example/liblocpath/liblocpath/tree/NodeKind")) ws ({ frames := 0, cells := 0, slots := 0, locals := 0 } : Room) #[.int k] h0 (own_QR h0 (own_kind k a0 a1 a2 a3 a4 a5 a6)) := by
  refine Pact.intro (plainFor_of_name pnLaw) ?_
  intro p e s m below meth c T0 X0 hx hby hml hret hlk hown hnm hZ e0
  refine Go.at (efK m k) ?_
  refine Go.on (g' := (mkF m 1 _ [(.int k)])) (fun t_ k_ => XS.iloadN X0.here hx rfl (hb hby d1_0) rfl k_) ?_
  refine Go.ifc X0 hx hby d1_1 (pcT := 8) (pcF := 4) (by decide) (by decide) rfl (fun q => ?_) (fun q => ?_)
  · have q1 := iNe.1 q
    clear q
    show Go p e below _ _ (mkF m 8 _ [])
    refine Go.on (g' := (mkF m 9 _ [(.int k)])) (fun t_ k_ => XS.iloadN X0.here hx rfl (hb hby d1_8) rfl k_) ?_
    refine Go.on (g' := (mkF m 10 _ [(.int (1 : Int32)), (.int k)])) (fun t_ k_ => XS.iconst X0.here hx rfl (hb hby d1_9) k_) ?_
    refine Go.icmp X0 hx hby d1_10 (pcT := 17) (pcF := 13) (by decide) (by decide) rfl (fun q => ?_) (fun q => ?_)
    · have q2 := iNe.1 q
      clear q
      show Go p e below _ _ (mkF m 17 _ [])
      refine Go.on (g' := (mkF m 18 _ [(.int k)])) (fun t_ k_ => XS.iloadN X0.here hx rfl (hb hby d1_17) rfl k_) ?_
      refine Go.on (g' := (mkF m 19 _ [(.int (2 : Int32)), (.int k)])) (fun t_ k_ => XS.iconst X0.here hx rfl (hb hby d1_18) k_) ?_
      refine Go.icmp X0 hx hby d1_19 (pcT := 26) (pcF := 22) (by decide) (by decide) rfl (fun q => ?_) (fun q => ?_)
      · have q3 := iNe.1 q
        clear q
        show Go p e below _ _ (mkF m 26 _ [])
        refine Go.on (g' := (mkF m 27 _ [(.int k)])) (fun t_ k_ => XS.iloadN X0.here hx rfl (hb hby d1_26) rfl k_) ?_
        refine Go.on (g' := (mkF m 28 _ [(.int (3 : Int32)), (.int k)])) (fun t_ k_ => XS.iconst X0.here hx rfl (hb hby d1_27) k_) ?_
        refine Go.icmp X0 hx hby d1_28 (pcT := 35) (pcF := 31) (by decide) (by decide) rfl (fun q => ?_) (fun q => ?_)
        · have q4 := iNe.1 q
          clear q
          show Go p e below _ _ (mkF m 35 _ [])
          refine Go.on (g' := (mkF m 36 _ [(.int k)])) (fun t_ k_ => XS.iloadN X0.here hx rfl (hb hby d1_35) rfl k_) ?_
          refine Go.on (g' := (mkF m 37 _ [(.int (4 : Int32)), (.int k)])) (fun t_ k_ => XS.iconst X0.here hx rfl (hb hby d1_36) k_) ?_
          refine Go.icmp X0 hx hby d1_37 (pcT := 44) (pcF := 40) (by decide) (by decide) rfl (fun q => ?_) (fun q => ?_)
          · have q5 := iNe.1 q
            clear q
            show Go p e below _ _ (mkF m 44 _ [])
            refine Go.on (g' := (mkF m 45 _ [(.int k)])) (fun t_ k_ => XS.iloadN X0.here hx rfl (hb hby d1_44) rfl k_) ?_
            refine Go.on (g' := (mkF m 46 _ [(.int (5 : Int32)), (.int k)])) (fun t_ k_ => XS.iconst X0.here hx rfl (hb hby d1_45) k_) ?_
            refine Go.icmp X0 hx hby d1_46 (pcT := 53) (pcF := 49) (by decide) (by decide) rfl (fun q => ?_) (fun q => ?_)
            · have q6 := iNe.1 q
              clear q
              show Go p e below _ _ (mkF m 53 _ [])
              refine Go.on (g' := (mkF m 54 _ [(.int k)])) (fun t_ k_ => XS.iloadN X0.here hx rfl (hb hby d1_53) rfl k_) ?_
              refine Go.on (g' := (mkF m 56 _ [(.int (6 : Int32)), (.int k)])) (fun t_ k_ => XS.bipush X0.here hx rfl (hb hby d1_54) k_) ?_
              refine Go.icmp X0 hx hby d1_56 (pcT := 63) (pcF := 59) (by decide) (by decide) rfl (fun q => ?_) (fun q => ?_)
              · have q7 := iNe.1 q
                clear q
                show Go p e below _ _ (mkF m 63 _ [])
                refine Go.on (g' := (mkF m 64 _ [.null])) (fun t_ k_ => XS.aconstNull X0.here hx rfl (hb hby d1_63) k_) ?_
                exact Go.retA X0 hx hlk hret hby d1_64 rfl rfl (by decide) (by decide) ⟨by rw [own_kind, if_neg q1, if_neg q2, if_neg q3, if_neg q4, if_neg q5, if_neg q6, if_neg q7], rfl, e0⟩
              · have q7 := iNe.2 q
                clear q
                show Go p e below _ _ (mkF m 59 _ [])
                obtain ⟨T1, X1, e1, st1⟩ := getS (host := "") X0 hx hZ hown (hw _ (List.mem_of_getElem? (i := 62) rfl)) Via.refl e0 (K0).s6 (g := (mkF m 59 #[.val (.int k)] [])) rfl (hb hby d1_59)
                refine Go.on (g' := (mkF m 62 _ [(.ref a6)])) (st1) ?_
                exact Go.retA X1 hx hlk hret hby d1_62 rfl rfl (by decide) (by decide) ⟨by rw [own_kind, if_neg q1, if_neg q2, if_neg q3, if_neg q4, if_neg q5, if_neg q6, if_pos q7], rfl, e1⟩
            · have q6 := iNe.2 q
              clear q
              show Go p e below _ _ (mkF m 49 _ [])
              obtain ⟨T2, X2, e2, st2⟩ := getS (host := "") X0 hx hZ hown (hw _ (List.mem_of_getElem? (i := 56) rfl)) Via.refl e0 (K0).s5 (g := (mkF m 49 #[.val (.int k)] [])) rfl (hb hby d1_49)
              refine Go.on (g' := (mkF m 52 _ [(.ref a5)])) (st2) ?_
              exact Go.retA X2 hx hlk hret hby d1_52 rfl rfl (by decide) (by decide) ⟨by rw [own_kind, if_neg q1, if_neg q2, if_neg q3, if_neg q4, if_neg q5, if_pos q6], rfl, e2⟩
          · have q5 := iNe.2 q
            clear q
            show Go p e below _ _ (mkF m 40 _ [])
            obtain ⟨T3, X3, e3, st3⟩ := getS (host := "") X0 hx hZ hown (hw _ (List.mem_of_getElem? (i := 52) rfl)) Via.refl e0 (K0).s4 (g := (mkF m 40 #[.val (.int k)] [])) rfl (hb hby d1_40)
            refine Go.on (g' := (mkF m 43 _ [(.ref a4)])) (st3) ?_
            exact Go.retA X3 hx hlk hret hby d1_43 rfl rfl (by decide) (by decide) ⟨by rw [own_kind, if_neg q1, if_neg q2, if_neg q3, if_neg q4, if_pos q5], rfl, e3⟩
        · have q4 := iNe.2 q
          clear q
          show Go p e below _ _ (mkF m 31 _ [])
          obtain ⟨T4, X4, e4, st4⟩ := getS (host := "") X0 hx hZ hown (hw _ (List.mem_of_getElem? (i := 60) rfl)) Via.refl e0 (K0).s3 (g := (mkF m 31 #[.val (.int k)] [])) rfl (hb hby d1_31)
          refine Go.on (g' := (mkF m 34 _ [(.ref a3)])) (st4) ?_
          exact Go.retA X4 hx hlk hret hby d1_34 rfl rfl (by decide) (by decide) ⟨by rw [own_kind, if_neg q1, if_neg q2, if_neg q3, if_pos q4], rfl, e4⟩
      · have q3 := iNe.2 q
        clear q
        show Go p e below _ _ (mkF m 22 _ [])
        obtain ⟨T5, X5, e5, st5⟩ := getS (host := "") X0 hx hZ hown (hw _ (List.mem_of_getElem? (i := 58) rfl)) Via.refl e0 (K0).s2 (g := (mkF m 22 #[.val (.int k)] [])) rfl (hb hby d1_22)
        refine Go.on (g' := (mkF m 25 _ [(.ref a2)])) (st5) ?_
        exact Go.retA X5 hx hlk hret hby d1_25 rfl rfl (by decide) (by decide) ⟨by rw [own_kind, if_neg q1, if_neg q2, if_pos q3], rfl, e5⟩
    · have q2 := iNe.2 q
      clear q
      show Go p e below _ _ (mkF m 13 _ [])
      obtain ⟨T6, X6, e6, st6⟩ := getS (host := "") X0 hx hZ hown (hw _ (List.mem_of_getElem? (i := 54) rfl)) Via.refl e0 (K0).s1 (g := (mkF m 13 #[.val (.int k)] [])) rfl (hb hby d1_13)
      refine Go.on (g' := (mkF m 16 _ [(.ref a1)])) (st6) ?_
      exact Go.retA X6 hx hlk hret hby d1_16 rfl rfl (by decide) (by decide) ⟨by rw [own_kind, if_neg q1, if_pos q2], rfl, e6⟩
  · have q1 := iNe.2 q
    clear q
    show Go p e below _ _ (mkF m 4 _ [])
    obtain ⟨T7, X7, e7, st7⟩ := getS (host := "") X0 hx hZ hown (hw _ (List.mem_of_getElem? (i := 4) rfl)) Via.refl e0 (K0).s0 (g := (mkF m 4 #[.val (.int k)] [])) rfl (hb hby d1_4)
    refine Go.on (g' := (mkF m 7 _ [(.ref a0)])) (st7) ?_
    exact Go.retA X7 hx hlk hret hby d1_7 rfl rfl (by decide) (by decide) ⟨by rw [own_kind, if_pos q1], rfl, e7⟩
theorem d5_0 : decode prog_78_method_8_code 0 = .ok (.aload_n 0, 1) := by decide +kernel
theorem d5_1 : decode prog_78_method_8_code 1 = .ok (.getfield 7, 3) := by decide +kernel
theorem d5_4 : decode prog_78_method_8_code 4 = .ok (.ifnonnull 25, 3) := by decide +kernel
theorem d5_7 : decode prog_78_method_8_code 7 = .ok (.aload_n 0, 1) := by decide +kernel
theorem d5_8 : decode prog_78_method_8_code 8 = .ok (.getfield 13, 3) := by decide +kernel
theorem d5_11 : decode prog_78_method_8_code 11 = .ok (.bipush (-3), 2) := by decide +kernel
theorem d5_13 : decode prog_78_method_8_code 13 = .ok (.if_icmp .ne 16, 3) := by decide +kernel
theorem d5_16 : decode prog_78_method_8_code 16 = .ok (.aload_n 0, 1) := by decide +kernel
theorem d5_17 : decode prog_78_method_8_code 17 = .ok (.getfield 17, 3) := by decide +kernel
theorem d5_20 : decode prog_78_method_8_code 20 = .ok (.bipush (-3), 2) := by decide +kernel
theorem d5_22 : decode prog_78_method_8_code 22 = .ok (.if_icmp .ne 7, 3) := by decide +kernel
theorem d5_25 : decode prog_78_method_8_code 25 = .ok (.iconst 1, 1) := by decide +kernel
theorem d5_26 : decode prog_78_method_8_code 26 = .ok (.goto 4, 3) := by decide +kernel
theorem d5_29 : decode prog_78_method_8_code 29 = .ok (.iconst 0, 1) := by decide +kernel
theorem d5_30 : decode prog_78_method_8_code 30 = .ok (.ireturn, 1) := by decide +kernel
set_option maxRecDepth 65536 in
set_option maxHeartbeats 40000000 in
theorem rmEn (l : Launch) (Z : State) (w0 : Array Value) (hw : ∀ d ∈ tables_1, d.before w0 Z = true) (ws : List Jvm.Cond) (r : Addr) (x2 x3 : Int32) (h0 : Heap) (FA : Fld Z h0 r "com/example/liblocpath/liblocpath/tree/BoundNodeTest" "kind" "Lcom/example/liblocpath/liblocpath/tree/NodeKind;" .null) (FB : Fld Z h0 r "com/example/liblocpath/liblocpath/tree/BoundNodeTest" "expandedNameCode" "I" (.int x2)) (FC : Fld Z h0 r "com/example/liblocpath/liblocpath/tree/BoundNodeTest" "namespaceCode" "I" (.int x3)) : Pact l Z (⟨"com/example/liblocpath/liblocpath/tree/BoundNodeTest", "matchesEveryNode", "()Z"⟩ : MethodName) prog_78_method_8_code 1 (some .boolean) ws ({ frames := 0, cells := 0, slots := 0, locals := 0 } : Room) #[.ref r] h0 (own_QR h0 (.int (own_me x2 x3))) := by
  refine Pact.intro (plainFor_of_name pnBN) ?_
  intro p e s m below meth c T0 X0 hx hby hml hret hlk hown hnm hZ e0
  refine Go.at (efE m r) ?_
  refine Go.on (g' := (mkF m 1 _ [(.ref r)])) (fun t_ k_ => XS.aloadN X0.here hx rfl (hb hby d5_0) rfl rfl k_) ?_
  obtain ⟨T1, X1, e1, st1⟩ := getF X0 hx hZ hown (host := "") (Or.inl (hw _ (List.mem_of_getElem? (i := 16) rfl))) Via.refl e0 FA (g := (mkF m 1 #[.val (.ref r)] [(.ref r)])) rfl rfl (hb hby d5_1)
  refine Go.on (g' := (mkF m 4 _ [.null])) (st1) ?_
  refine Go.on (g' := (mkF m 7 _ [])) (fun t_ k_ => XT.ifnonnullNo X1.here hx rfl (hb hby d5_4) rfl k_) ?_
  refine Go.on (g' := (mkF m 8 _ [(.ref r)])) (fun t_ k_ => XS.aloadN X1.here hx rfl (hb hby d5_7) rfl rfl k_) ?_
  obtain ⟨T2, X2, e2, st2⟩ := getF X1 hx hZ hown (host := "") (Or.inl (hw _ (List.mem_of_getElem? (i := 18) rfl))) Via.refl e1 FB (g := (mkF m 8 #[.val (.ref r)] [(.ref r)])) rfl rfl (hb hby d5_8)
  refine Go.on (g' := (mkF m 11 _ [(.int x2)])) (st2) ?_
  refine Go.on (g' := (mkF m 13 _ [(.int ((-3) : Int32)), (.int x2)])) (fun t_ k_ => XS.bipush X2.here hx rfl (hb hby d5_11) k_) ?_
  refine Go.icmp X2 hx hby d5_13 (pcT := 29) (pcF := 16) (by decide) (by decide) rfl (fun q => ?_) (fun q => ?_)
  · have q1 := iNe.1 q
    clear q
    show Go p e below _ _ (mkF m 29 _ [])
    refine Go.on (g' := (mkF m 30 _ [(.int (0 : Int32))])) (fun t_ k_ => XS.iconst X2.here hx rfl (hb hby d5_29) k_) ?_
    exact Go.retI X2 hx hlk hret hby d5_30 rfl (by simp) (by decide) (by decide) ⟨by rw [own_me, if_neg q1], rfl, e2⟩
  · have q1 := iNe.2 q
    clear q
    show Go p e below _ _ (mkF m 16 _ [])
    refine Go.on (g' := (mkF m 17 _ [(.ref r)])) (fun t_ k_ => XS.aloadN X2.here hx rfl (hb hby d5_16) rfl rfl k_) ?_
    obtain ⟨T3, X3, e3, st3⟩ := getF X2 hx hZ hown (host := "") (Or.inl (hw _ (List.mem_of_getElem? (i := 20) rfl))) Via.refl e2 FC (g := (mkF m 17 #[.val (.ref r)] [(.ref r)])) rfl rfl (hb hby d5_17)
    refine Go.on (g' := (mkF m 20 _ [(.int x3)])) (st3) ?_
    refine Go.on (g' := (mkF m 22 _ [(.int ((-3) : Int32)), (.int x3)])) (fun t_ k_ => XS.bipush X3.here hx rfl (hb hby d5_20) k_) ?_
    refine Go.icmp X3 hx hby d5_22 (pcT := 29) (pcF := 25) (by decide) (by decide) rfl (fun q => ?_) (fun q => ?_)
    · have q2 := iNe.1 q
      clear q
      show Go p e below _ _ (mkF m 29 _ [])
      refine Go.on (g' := (mkF m 30 _ [(.int (0 : Int32))])) (fun t_ k_ => XS.iconst X3.here hx rfl (hb hby d5_29) k_) ?_
      exact Go.retI X3 hx hlk hret hby d5_30 rfl (by simp) (by decide) (by decide) ⟨by rw [own_me, if_pos q1, if_neg q2], rfl, e3⟩
    · have q2 := iNe.2 q
      clear q
      show Go p e below _ _ (mkF m 25 _ [])
      refine Go.on (g' := (mkF m 26 _ [(.int (1 : Int32))])) (fun t_ k_ => XS.iconst X3.here hx rfl (hb hby d5_25) k_) ?_
      refine Go.on (g' := (mkF m 30 _ [(.int (1 : Int32))])) (fun t_ k_ => XS.goto X3.here hx rfl (pc0 := 26) (pc' := 30) rfl (hb hby d5_26) (by decide) (by decide) k_) ?_
      exact Go.retI X3 hx hlk hret hby d5_30 rfl (by simp) (by decide) (by decide) ⟨by rw [own_me, if_pos q1, if_pos q2], rfl, e3⟩
set_option maxRecDepth 65536 in
set_option maxHeartbeats 40000000 in
theorem rmEr (l : Launch) (Z : State) (w0 : Array Value) (hw : ∀ d ∈ tables_1, d.before w0 Z = true) (ws : List Jvm.Cond) (r : Addr) (ka : Addr) (h0 : Heap) (FA : Fld Z h0 r "com/example/liblocpath/liblocpath/tree/BoundNodeTest" "kind" "Lcom/example/liblocpath/liblocpath/tree/NodeKind;" (.ref ka)) : Pact l Z (⟨"com/example/liblocpath/liblocpath/tree/BoundNodeTest", "matchesEveryNode", "()Z"⟩ : MethodName) prog_78_method_8_code 1 (some .boolean) ws ({ frames := 0, cells := 0, slots := 0, locals := 0 } : Room) #[.ref r] h0 (own_QR h0 (.int 0)) := by
  refine Pact.intro (plainFor_of_name pnBN) ?_
  intro p e s m below meth c T0 X0 hx hby hml hret hlk hown hnm hZ e0
  refine Go.at (efE m r) ?_
  refine Go.on (g' := (mkF m 1 _ [(.ref r)])) (fun t_ k_ => XS.aloadN X0.here hx rfl (hb hby d5_0) rfl rfl k_) ?_
  obtain ⟨T1, X1, e1, st1⟩ := getF X0 hx hZ hown (host := "") (Or.inl (hw _ (List.mem_of_getElem? (i := 16) rfl))) Via.refl e0 FA (g := (mkF m 1 #[.val (.ref r)] [(.ref r)])) rfl rfl (hb hby d5_1)
  refine Go.on (g' := (mkF m 4 _ [(.ref ka)])) (st1) ?_
  refine Go.on (g' := (mkF m 29 _ [])) (fun t_ k_ => XT.ifnonnullYes X1.here hx rfl (pc0 := 4) (pc' := 29) rfl (hb hby d5_4) rfl (by decide) (by decide) k_) ?_
  refine Go.on (g' := (mkF m 30 _ [(.int (0 : Int32))])) (fun t_ k_ => XS.iconst X1.here hx rfl (hb hby d5_29) k_) ?_
  exact Go.retI X1 hx hlk hret hby d5_30 rfl (by simp) (by decide) (by decide) ⟨rfl, rfl, e1⟩
theorem d6_0 : decode prog_78_method_2_code 0 = .ok (.getstatic 40, 3) := by decide +kernel
theorem d6_3 : decode prog_78_method_2_code 3 = .ok (.aload_n 0, 1) := by decide +kernel
theorem d6_4 : decode prog_78_method_2_code 4 = .ok (.ifnonnull 10, 3) := by decide +kernel
theorem d6_7 : decode prog_78_method_2_code 7 = .ok (.getstatic 44, 3) := by decide +kernel
theorem d6_10 : decode prog_78_method_2_code 10 = .ok (.arraylength, 1) := by decide +kernel
theorem d6_11 : decode prog_78_method_2_code 11 = .ok (.goto 7, 3) := by decide +kernel
theorem d6_14 : decode prog_78_method_2_code 14 = .ok (.aload_n 0, 1) := by decide +kernel
theorem d6_15 : decode prog_78_method_2_code 15 = .ok (.invokevirtual 28, 3) := by decide +kernel
theorem d6_18 : decode prog_78_method_2_code 18 = .ok (.aaload, 1) := by decide +kernel
theorem d6_19 : decode prog_78_method_2_code 19 = .ok (.areturn, 1) := by decide +kernel
set_option maxRecDepth 65536 in
set_option maxHeartbeats 40000000 in
theorem rmFn (l : Launch) (Z : State) (w0 : Array Value) (hw : ∀ d ∈ tables_1, d.before w0 Z = true) (ws : List Jvm.Cond) (a0 a1 a2 a3 a4 a5 a6 b0 b1 b2 b3 b4 b5 b6 b7 ok kd : Addr) (cl ck : Cell) (h0 : Heap) (B0 : own_B Z h0 a0 a1 a2 a3 a4 a5 a6 b0 b1 b2 b3 b4 b5 b6 b7 ok kd cl ck) (A0 : own_At cl b0 b1 b2 b3 b4 b5 b6 b7) (hck : ck.slots.size.toInt32 = 7) : Pact l Z (⟨"com/example/liblocpath/liblocpath/tree/BoundNodeTest", "ofKind", "(Lcom/example/liblocpath/liblocpath/tree/NodeKind;)Lcom/example/liblocpath/liblocpath/tree/BoundNodeTest;"⟩ : MethodName) prog_78_method_2_code 1 (some (.object "com/example/liblocpath/liblocpath/tree/BoundNodeTest")) ws ({ frames := 1, cells := 0, slots := 0, locals := 13 } : Room) #[.null] h0 (own_QR h0 (.ref b7)) := by
  refine Pact.intro (plainFor_of_name pnBN) ?_
  intro p e s m below meth c T0 X0 hx hby hml hret hlk hown hnm hZ e0
  refine Go.at (efFn m) ?_
  obtain ⟨T1, X1, e1, st1⟩ := getS (host := "") X0 hx hZ hown (hw _ (List.mem_of_getElem? (i := 48) rfl)) Via.refl e0 B0.so (g := (mkF m 0 #[.val .null] [])) rfl (hb hby d6_0)
  refine Go.on (g' := (mkF m 3 _ [(.ref ok)])) (st1) ?_
  refine Go.on (g' := (mkF m 4 _ [.null, (.ref ok)])) (fun t_ k_ => XS.aloadN X1.here hx rfl (hb hby d6_3) rfl rfl k_) ?_
  refine Go.on (g' := (mkF m 7 _ [(.ref ok)])) (fun t_ k_ => XT.ifnonnullNo X1.here hx rfl (hb hby d6_4) rfl k_) ?_
  obtain ⟨T2, X2, e2, st2⟩ := getS (host := "") X1 hx hZ hown (hw _ (List.mem_of_getElem? (i := 50) rfl)) Via.refl e1 B0.sk (g := (mkF m 7 #[.val .null] [(.ref ok)])) rfl (hb hby d6_7)
  refine Go.on (g' := (mkF m 10 _ [(.ref kd), (.ref ok)])) (st2) ?_
  refine Go.on (T' := T2) (g' := (mkF m 11 _ [(.int (7 : Int32)), (.ref ok)])) (fun t_ k_ => X2.arraylength hx (by rw [e2]; exact B0.ak.1) (State.isArrayOf_alike hZ.alike B0.ak.2.1) (g := (mkF m 10 #[.val .null] [(.ref kd), (.ref ok)])) rfl rfl (hb hby d6_10) t_ (by rw [hck]; exact k_)) ?_
  refine Go.on (g' := (mkF m 18 _ [(.int (7 : Int32)), (.ref ok)])) (fun t_ k_ => XS.goto X2.here hx rfl (pc0 := 11) (pc' := 18) rfl (hb hby d6_11) (by decide) (by decide) k_) ?_
  refine Go.on (g' := (mkF m 19 _ [(.ref b7)])) (X2.aaload hx (j := (7 : Int32)) (v := (.ref b7)) (by rw [e2]; exact B0.ao.1) (State.isArrayOf_alike hZ.alike B0.ao.2.1) rfl B0.ao.2.2 (own_at_n A0).1 (own_at_n A0).2 (g := (mkF m 18 #[.val .null] [(.int (7 : Int32)), (.ref ok)])) rfl rfl (hb hby d6_18)) ?_
  exact Go.retA X2 hx hlk hret hby d6_19 rfl rfl (by decide) (by decide) ⟨rfl, rfl, e2⟩
set_option maxRecDepth 65536 in
set_option maxHeartbeats 40000000 in
theorem rmFr (l : Launch) (Z : State) (w0 : Array Value) (hw : ∀ d ∈ tables_1, d.before w0 Z = true) (ws : List Jvm.Cond) (a0 a1 a2 a3 a4 a5 a6 b0 b1 b2 b3 b4 b5 b6 b7 ok kd : Addr) (cl ck : Cell) (h0 : Heap) (B0 : own_B Z h0 a0 a1 a2 a3 a4 a5 a6 b0 b1 b2 b3 b4 b5 b6 b7 ok kd cl ck) (A0 : own_At cl b0 b1 b2 b3 b4 b5 b6 b7) (hck : ck.slots.size.toInt32 = 7) (ka b : Addr) (ko : Int32) (EK : Exa Z h0 ka "com/example/liblocpath/liblocpath/tree/NodeKind") (FK : Fld Z h0 ka "java/lang/Enum" "ordinal" "I" (.int ko)) (hin : ¬ (ko < 0 ∨ cl.slots.size ≤ ko.toNatClampNeg)) (hat : cl.slots[ko.toNatClampNeg]? = some (.ref b)) : Pact l Z (⟨"com/example/liblocpath/liblocpath/tree/BoundNodeTest", "ofKind", "(Lcom/example/liblocpath/liblocpath/tree/NodeKind;)Lcom/example/liblocpath/liblocpath/tree/BoundNodeTest;"⟩ : MethodName) prog_78_method_2_code 1 (some (.object "com/example/liblocpath/liblocpath/tree/BoundNodeTest")) ws ({ frames := 1, cells := 0, slots := 0, locals := 13 } : Room) #[(.ref ka)] h0 (own_QR h0 (.ref b)) := by
  refine Pact.intro (plainFor_of_name pnBN) ?_
  intro p e s m below meth c T0 X0 hx hby hml hret hlk hown hnm hZ e0
  refine Go.at (efFr m ka) ?_
  obtain ⟨T1, X1, e1, st1⟩ := getS (host := "") X0 hx hZ hown (hw _ (List.mem_of_getElem? (i := 48) rfl)) Via.refl e0 B0.so (g := (mkF m 0 #[.val (.ref ka)] [])) rfl (hb hby d6_0)
  refine Go.on (g' := (mkF m 3 _ [(.ref ok)])) (st1) ?_
  refine Go.on (g' := (mkF m 4 _ [(.ref ka), (.ref ok)])) (fun t_ k_ => XS.aloadN X1.here hx rfl (hb hby d6_3) rfl rfl k_) ?_
  refine Go.on (g' := (mkF m 14 _ [(.ref ok)])) (fun t_ k_ => XT.ifnonnullYes X1.here hx rfl (pc0 := 4) (pc' := 14) rfl (hb hby d6_4) rfl (by decide) (by decide) k_) ?_
  refine Go.on (g' := (mkF m 15 _ [(.ref ka), (.ref ok)])) (fun t_ k_ => XS.aloadN X1.here hx rfl (hb hby d6_14) rfl rfl k_) ?_
  refine Go.callU X1 hx hZ hby (by rw [hml]; rfl) (C := "com/example/liblocpath/liblocpath/tree/NodeKind") (owner := "java/lang/Enum") (y := (⟨"com/example/liblocpath/liblocpath/tree/NodeKind", "ordinal", "()I"⟩ : MethodName)) (z := (⟨"java/lang/Enum", "ordinal", "()I"⟩ : MethodName)) hown (hw _ (List.mem_of_getElem? (i := 26) rfl)) (hw _ (List.mem_of_getElem? (i := 27) rfl)) (hw _ (List.mem_of_getElem? (i := 28) rfl)) (hw _ (List.mem_of_getElem? (i := 30) rfl)) (hw _ (List.mem_of_getElem? (i := 29) rfl)) (hw _ (List.mem_of_getElem? (i := 32) rfl)) (hw _ (List.mem_of_getElem? (i := 31) rfl)) (by decide) (b := ka) (argsL := []) (rest := [(.ref ok)]) (rmO l Z w0 hw [] ka ko h0 FK) e1 EK 1 (by decide) (by decide) (by decide) (by decide) rfl pdO rfl (Nat.le_of_eq rfl) d6_15 (pcF := 18) rfl ?_
  intro v2 T2 L2 X2 hQ2
  obtain ⟨rfl, rfl, e2⟩ := hQ2
  rw [List.append_nil] at X2
  show Go p e below _ _ (mkF m 18 _ [(.int ko), (.ref ok)])
  refine Go.on (g' := (mkF m 19 _ [(.ref b)])) (X2.aaload hx (j := ko) (v := (.ref b)) (by rw [e2]; exact B0.ao.1) (State.isArrayOf_alike hZ.alike B0.ao.2.1) rfl B0.ao.2.2 hin hat (g := (mkF m 18 #[.val (.ref ka)] [(.int ko), (.ref ok)])) rfl rfl (hb hby d6_18)) ?_
  exact Go.retA X2 hx hlk hret hby d6_19 rfl rfl (by decide) (by decide) ⟨rfl, rfl, e2⟩
theorem d8_0 : decode prog_78_method_6_code 0 = .ok (.aload_n 0, 1) := by decide +kernel
theorem d8_1 : decode prog_78_method_6_code 1 = .ok (.getfield 13, 3) := by decide +kernel
theorem d8_4 : decode prog_78_method_6_code 4 = .ok (.bipush (-3), 2) := by decide +kernel
theorem d8_6 : decode prog_78_method_6_code 6 = .ok (.if_icmp .eq 18, 3) := by decide +kernel
theorem d8_24 : decode prog_78_method_6_code 24 = .ok (.aload_n 0, 1) := by decide +kernel
theorem d8_25 : decode prog_78_method_6_code 25 = .ok (.getfield 17, 3) := by decide +kernel
theorem d8_28 : decode prog_78_method_6_code 28 = .ok (.bipush (-3), 2) := by decide +kernel
theorem d8_30 : decode prog_78_method_6_code 30 = .ok (.if_icmp .eq 18, 3) := by decide +kernel
theorem d8_48 : decode prog_78_method_6_code 48 = .ok (.iconst 1, 1) := by decide +kernel
theorem d8_49 : decode prog_78_method_6_code 49 = .ok (.goto 4, 3) := by decide +kernel
theorem d8_53 : decode prog_78_method_6_code 53 = .ok (.ireturn, 1) := by decide +kernel
set_option maxRecDepth 65536 in
set_option maxHeartbeats 40000000 in
theorem rmN (l : Launch) (Z : State) (w0 : Array Value) (hw : ∀ d ∈ tables_1, d.before w0 Z = true) (ws : List Jvm.Cond) (r : Addr) (k : Int32) (h0 : Heap) (FB : Fld Z h0 r "com/example/liblocpath/liblocpath/tree/BoundNodeTest" "expandedNameCode" "I" (.int ((-3) : Int32))) (FC : Fld Z h0 r "com/example/liblocpath/liblocpath/tree/BoundNodeTest" "namespaceCode" "I" (.int ((-3) : Int32))) : Pact l Z (⟨"com/example/liblocpath/liblocpath/tree/BoundNodeTest", "matchesName", "(I)Z"⟩ : MethodName) prog_78_method_6_code 2 (some .boolean) ws ({ frames := 0, cells := 0, slots := 0, locals := 0 } : Room) #[.ref r, .int k] h0 (own_QR h0 (.int 1)) := by
  refine Pact.intro (plainFor_of_name pnBN) ?_
  intro p e s m below meth c T0 X0 hx hby hml hret hlk hown hnm hZ e0
  refine Go.at (efN m r k) ?_
  refine Go.on (g' := (mkF m 1 _ [(.ref r)])) (fun t_ k_ => XS.aloadN X0.here hx rfl (hb hby d8_0) rfl rfl k_) ?_
  obtain ⟨T1, X1, e1, st1⟩ := getF X0 hx hZ hown (host := "") (Or.inl (hw _ (List.mem_of_getElem? (i := 18) rfl))) Via.refl e0 FB (g := (mkF m 1 #[.val (.ref r), .val (.int k)] [(.ref r)])) rfl rfl (hb hby d8_1)
  refine Go.on (g' := (mkF m 4 _ [(.int ((-3) : Int32))])) (st1) ?_
  refine Go.on (g' := (mkF m 6 _ [(.int ((-3) : Int32)), (.int ((-3) : Int32))])) (fun t_ k_ => XS.bipush X1.here hx rfl (hb hby d8_4) k_) ?_
  refine Go.icmp X1 hx hby d8_6 (pcT := 24) (pcF := 9) (by decide) (by decide) rfl (fun q => ?_) (fun q => absurd q (by decide))
  clear q
  show Go p e below _ _ (mkF m 24 _ [])
  refine Go.on (g' := (mkF m 25 _ [(.ref r)])) (fun t_ k_ => XS.aloadN X1.here hx rfl (hb hby d8_24) rfl rfl k_) ?_
  obtain ⟨T2, X2, e2, st2⟩ := getF X1 hx hZ hown (host := "") (Or.inl (hw _ (List.mem_of_getElem? (i := 20) rfl))) Via.refl e1 FC (g := (mkF m 25 #[.val (.ref r), .val (.int k)] [(.ref r)])) rfl rfl (hb hby d8_25)
  refine Go.on (g' := (mkF m 28 _ [(.int ((-3) : Int32))])) (st2) ?_
  refine Go.on (g' := (mkF m 30 _ [(.int ((-3) : Int32)), (.int ((-3) : Int32))])) (fun t_ k_ => XS.bipush X2.here hx rfl (hb hby d8_28) k_) ?_
  refine Go.icmp X2 hx hby d8_30 (pcT := 48) (pcF := 33) (by decide) (by decide) rfl (fun q => ?_) (fun q => absurd q (by decide))
  clear q
  show Go p e below _ _ (mkF m 48 _ [])
  refine Go.on (g' := (mkF m 49 _ [(.int (1 : Int32))])) (fun t_ k_ => XS.iconst X2.here hx rfl (hb hby d8_48) k_) ?_
  refine Go.on (g' := (mkF m 53 _ [(.int (1 : Int32))])) (fun t_ k_ => XS.goto X2.here hx rfl (pc0 := 49) (pc' := 53) rfl (hb hby d8_49) (by decide) (by decide) k_) ?_
  exact Go.retI X2 hx hlk hret hby d8_53 rfl (by simp) (by decide) (by decide) ⟨rfl, rfl, e2⟩
theorem d7_0 : decode prog_78_method_3_code 0 = .ok (.aload_n 0, 1) := by decide +kernel
theorem d7_1 : decode prog_78_method_3_code 1 = .ok (.getfield 7, 3) := by decide +kernel
theorem d7_4 : decode prog_78_method_3_code 4 = .ok (.ifnull 11, 3) := by decide +kernel
theorem d7_15 : decode prog_78_method_3_code 15 = .ok (.aload_n 0, 1) := by decide +kernel
theorem d7_16 : decode prog_78_method_3_code 16 = .ok (.iload_n 2, 1) := by decide +kernel
theorem d7_17 : decode prog_78_method_3_code 17 = .ok (.invokevirtual 48, 3) := by decide +kernel
theorem d7_20 : decode prog_78_method_3_code 20 = .ok (.ifCond .eq 7, 3) := by decide +kernel
theorem d7_23 : decode prog_78_method_3_code 23 = .ok (.iconst 1, 1) := by decide +kernel
theorem d7_24 : decode prog_78_method_3_code 24 = .ok (.goto 4, 3) := by decide +kernel
theorem d7_28 : decode prog_78_method_3_code 28 = .ok (.ireturn, 1) := by decide +kernel
set_option maxRecDepth 65536 in
set_option maxHeartbeats 40000000 in
theorem rmT (l : Launch) (Z : State) (w0 : Array Value) (hw : ∀ d ∈ tables_1, d.before w0 Z = true) (ws : List Jvm.Cond) (r q : Addr) (k : Int32) (h0 : Heap) (E0 : Exa Z h0 r "com/example/liblocpath/liblocpath/tree/BoundNodeTest") (FA : Fld Z h0 r "com/example/liblocpath/liblocpath/tree/BoundNodeTest" "kind" "Lcom/example/liblocpath/liblocpath/tree/NodeKind;" .null) (FB : Fld Z h0 r "com/example/liblocpath/liblocpath/tree/BoundNodeTest" "expandedNameCode" "I" (.int ((-3) : Int32))) (FC : Fld Z h0 r "com/example/liblocpath/liblocpath/tree/BoundNodeTest" "namespaceCode" "I" (.int ((-3) : Int32))) : Pact l Z (⟨"com/example/liblocpath/liblocpath/tree/BoundNodeTest", "matches", "(Lcom/example/liblocpath/liblocpath/tree/NodeKind;I)Z"⟩ : MethodName) prog_78_method_3_code 3 (some .boolean) ws ({ frames := 1, cells := 0, slots := 0, locals := 13 } : Room) #[.ref r, .ref q, .int k] h0 (own_QR h0 (.int 1)) := by
  refine Pact.intro (plainFor_of_name pnBN) ?_
  intro p e s m below meth c T0 X0 hx hby hml hret hlk hown hnm hZ e0
  refine Go.at (efT m r q k) ?_
  refine Go.on (g' := (mkF m 1 _ [(.ref r)])) (fun t_ k_ => XS.aloadN X0.here hx rfl (hb hby d7_0) rfl rfl k_) ?_
  obtain ⟨T1, X1, e1, st1⟩ := getF X0 hx hZ hown (host := "") (Or.inl (hw _ (List.mem_of_getElem? (i := 16) rfl))) Via.refl e0 FA (g := (mkF m 1 #[.val (.ref r), .val (.ref q), .val (.int k)] [(.ref r)])) rfl rfl (hb hby d7_1)
  refine Go.on (g' := (mkF m 4 _ [.null])) (st1) ?_
  refine Go.on (g' := (mkF m 15 _ [])) (fun t_ k_ => XS.ifnullYes X1.here hx rfl (pc0 := 4) (pc' := 15) rfl (hb hby d7_4) rfl (by decide) (by decide) k_) ?_
  refine Go.on (g' := (mkF m 16 _ [(.ref r)])) (fun t_ k_ => XS.aloadN X1.here hx rfl (hb hby d7_15) rfl rfl k_) ?_
  refine Go.on (g' := (mkF m 17 _ [(.int k), (.ref r)])) (fun t_ k_ => XS.iloadN X1.here hx rfl (hb hby d7_16) rfl k_) ?_
  refine Go.callP X1 hx hZ hby (by rw [hml]; rfl) (y := (⟨"com/example/liblocpath/liblocpath/tree/BoundNodeTest", "matchesName", "(I)Z"⟩ : MethodName)) hown (hw _ (List.mem_of_getElem? (i := 69) rfl)) (hw _ (List.mem_of_getElem? (i := 8) rfl)) (hw _ (List.mem_of_getElem? (i := 71) rfl)) (hw _ (List.mem_of_getElem? (i := 70) rfl)) (hw _ (List.mem_of_getElem? (i := 72) rfl)) (hw _ (List.mem_of_getElem? (i := 9) rfl)) (by decide) (b := r) (argsL := [(.int k)]) (rest := []) (rmN l Z w0 hw [] r k h0 FB FC) e1 E0 0 (by decide) (by decide) (by decide) (by decide) rfl pdN rfl (Nat.le_of_eq rfl) d7_17 (pcF := 20) rfl ?_
  intro v2 T2 L2 X2 hQ2
  obtain ⟨rfl, rfl, e2⟩ := hQ2
  rw [List.append_nil] at X2
  show Go p e below _ _ (mkF m 20 _ [(.int (1 : Int32))])
  refine Go.ifc X2 hx hby d7_20 (pcT := 27) (pcF := 23) (by decide) (by decide) rfl (fun q => absurd q (by decide)) (fun q => ?_)
  clear q
  show Go p e below _ _ (mkF m 23 _ [])
  refine Go.on (g' := (mkF m 24 _ [(.int (1 : Int32))])) (fun t_ k_ => XS.iconst X2.here hx rfl (hb hby d7_23) k_) ?_
  refine Go.on (g' := (mkF m 28 _ [(.int (1 : Int32))])) (fun t_ k_ => XS.goto X2.here hx rfl (pc0 := 24) (pc' := 28) rfl (hb hby d7_24) (by decide) (by decide) k_) ?_
  exact Go.retI X2 hx hlk hret hby d7_28 rfl (by simp) (by decide) (by decide) ⟨rfl, rfl, e2⟩
def own_Q0 (n0 : Nat) (v : Option Value) (h : Heap) (L : List Loc) : Prop := v = some (.int 1) ∧ Fr n0 L
set_option maxRecDepth 65536 in
set_option maxHeartbeats 40000000 in
theorem rmLaw (l : Launch) (Z : State) (w0 : Array Value) (hw : ∀ d ∈ tables_1, d.before w0 Z = true) (ws : List Jvm.Cond) (p0 p1 p2 p3 p4 p5 : Int32) (h0 : Heap) (n0 : Nat) (Z0 : n0 ≤ h0.size) (a0 a1 a2 a3 a4 a5 a6 b0 b1 b2 b3 b4 b5 b6 b7 ok kd : Addr) (cl ck : Cell) (K0 : own_K Z Z.heap a0 a1 a2 a3 a4 a5 a6) (B0 : own_B Z Z.heap a0 a1 a2 a3 a4 a5 a6 b0 b1 b2 b3 b4 b5 b6 b7 ok kd cl ck) (A0 : own_At cl b0 b1 b2 b3 b4 b5 b6 b7) (hck : ck.slots.size.toInt32 = 7) (O0 : Old Z n0 h0) : Pact l Z x code maxLocals ret ws room_1 #[.int p0, .int p1, .int p2, .int p3, .int p4, .int p5] h0 (own_Q0 n0) := by
  refine Pact.intro (plainFor_of_name pnLaw) ?_
  intro p e s m below meth c T0 X0 hx hby hml hret hlk hown hnm hZ e0
  refine Go.at (ef0 m p0 p1 p2 p3 p4 p5) ?_
  have hown : s.vm.findClass "com/example/liblocpath/liblocpath/tree/BoundNodeTestMatchesEveryNodePinLaw" = some m.cls := hown
  have N0 := Fr.nil n0
  refine Go.on (g' := (mkF m 1 _ [(.int p0)])) (fun t_ k_ => XS.iloadN X0.here hx rfl (hb hby at_0) rfl k_) ?_
  refine Go.on (g' := (mkF m 3 _ [(.int (7 : Int32)), (.int p0)])) (fun t_ k_ => XS.bipush X0.here hx rfl (hb hby at_1) k_) ?_
  refine Go.on (g' := (mkF m 4 _ [(.int (p0 &&& (7 : Int32)))])) (fun t_ k_ => XS.iand X0.here hx rfl (hb hby at_3) rfl k_) ?_
  refine Go.callS X0 hx hZ hby (by rw [hml]; rfl) (y := (⟨"com/example/liblocpath/liblocpath/tree/BoundNodeTestMatchesEveryNodePinLaw", "kindOf", "(I)Lcom/example/liblocpath/liblocpath/tree/NodeKind;"⟩ : MethodName)) hown (hw _ (List.mem_of_getElem? (i := 0) rfl)) (hw _ (List.mem_of_getElem? (i := 1) rfl)) (hw _ (List.mem_of_getElem? (i := 2) rfl)) (hw _ (List.mem_of_getElem? (i := 3) rfl)) (by decide) (argsL := [(.int (p0 &&& (7 : Int32)))]) (rest := []) (rmK l Z w0 hw [] (p0 &&& (7 : Int32)) a0 a1 a2 a3 a4 a5 a6 h0 (K0.ext O0.2)) e0 0 (by decide) (by decide) (by decide) (by decide) rfl pdK rfl (Nat.le_of_eq rfl) at_4 (pcF := 7) rfl ?_
  intro v1 T1 L1 X1 hQ1
  obtain ⟨rfl, rfl, e1⟩ := hQ1
  rw [List.append_nil] at X1
  obtain ⟨kv, hkv⟩ : ∃ z : Value, z = own_kind (p0 &&& (7 : Int32)) a0 a1 a2 a3 a4 a5 a6 := ⟨_, rfl⟩
  rw [← hkv]
  have hkd : own_Kd Z h0 kv := by rw [hkv]; exact own_kind_h _ (K0.ext O0.2)
  show Go p e below _ _ (mkF m 7 _ [kv])
  rcases hkd with rfl | ⟨ka, ko, rfl, EK, FK⟩
  · show Go p e below _ _ (mkF m 7 #[.val (.int p0), .val (.int p1), .val (.int p2), .val (.int p3), .val (.int p4), .val (.int p5), .unset, .unset, .unset, .unset, .unset, .unset, .unset, .unset] [.null])
    have hkd : own_Kd Z h0 .null := Or.inl rfl
    refine Go.on (g' := (mkF m 9 #[.val (.int p0), .val (.int p1), .val (.int p2), .val (.int p3), .val (.int p4), .val (.int p5), .val .null, .unset, .unset, .unset, .unset, .unset, .unset, .unset] [])) (fun t_ k_ => XS.astore X1.here hx rfl (hb hby at_7) rfl rfl (l' := #[.val (.int p0), .val (.int p1), .val (.int p2), .val (.int p3), .val (.int p4), .val (.int p5), .val .null, .unset, .unset, .unset, .unset, .unset, .unset, .unset]) rfl k_) ?_
    refine Go.on (g' := (mkF m 10 _ [(.int p3)])) (fun t_ k_ => XS.iloadN X1.here hx rfl (hb hby at_9) rfl k_) ?_
    refine Go.on (g' := (mkF m 11 _ [(.int (1 : Int32)), (.int p3)])) (fun t_ k_ => XS.iconst X1.here hx rfl (hb hby at_10) k_) ?_
    refine Go.on (g' := (mkF m 12 _ [(.int (p3 &&& (1 : Int32)))])) (fun t_ k_ => XS.iand X1.here hx rfl (hb hby at_11) rfl k_) ?_
    refine Go.join (P := fun ec : Int32 => True) (g := fun ec => (mkF m 21 #[.val (.int p0), .val (.int p1), .val (.int p2), .val (.int p3), .val (.int p4), .val (.int p5), .val .null, .unset, .unset, .unset, .unset, .unset, .unset, .unset] [(.int ec)])) (fun ec hec => ?_) (fun J21 => ?_)
    · show Go p e below _ _ (mkF m 21 #[.val (.int p0), .val (.int p1), .val (.int p2), .val (.int p3), .val (.int p4), .val (.int p5), .val .null, .unset, .unset, .unset, .unset, .unset, .unset, .unset] [(.int ec)])
      refine Go.on (g' := (mkF m 23 #[.val (.int p0), .val (.int p1), .val (.int p2), .val (.int p3), .val (.int p4), .val (.int p5), .val .null, .val (.int ec), .unset, .unset, .unset, .unset, .unset, .unset] [])) (fun t_ k_ => XS.istore X1.here hx rfl (hb hby at_21) rfl (l' := #[.val (.int p0), .val (.int p1), .val (.int p2), .val (.int p3), .val (.int p4), .val (.int p5), .val .null, .val (.int ec), .unset, .unset, .unset, .unset, .unset, .unset]) rfl k_) ?_
      refine Go.on (g' := (mkF m 24 _ [(.int p3)])) (fun t_ k_ => XS.iloadN X1.here hx rfl (hb hby at_23) rfl k_) ?_
      refine Go.on (g' := (mkF m 25 _ [(.int (2 : Int32)), (.int p3)])) (fun t_ k_ => XS.iconst X1.here hx rfl (hb hby at_24) k_) ?_
      refine Go.on (g' := (mkF m 26 _ [(.int (p3 &&& (2 : Int32)))])) (fun t_ k_ => XS.iand X1.here hx rfl (hb hby at_25) rfl k_) ?_
      refine Go.join (P := fun nc : Int32 => True) (g := fun nc => (mkF m 35 #[.val (.int p0), .val (.int p1), .val (.int p2), .val (.int p3), .val (.int p4), .val (.int p5), .val .null, .val (.int ec), .unset, .unset, .unset, .unset, .unset, .unset] [(.int nc)])) (fun nc hnc => ?_) (fun J35 => ?_)
      · show Go p e below _ _ (mkF m 35 #[.val (.int p0), .val (.int p1), .val (.int p2), .val (.int p3), .val (.int p4), .val (.int p5), .val .null, .val (.int ec), .unset, .unset, .unset, .unset, .unset, .unset] [(.int nc)])
        refine Go.on (g' := (mkF m 37 #[.val (.int p0), .val (.int p1), .val (.int p2), .val (.int p3), .val (.int p4), .val (.int p5), .val .null, .val (.int ec), .val (.int nc), .unset, .unset, .unset, .unset, .unset] [])) (fun t_ k_ => XS.istore X1.here hx rfl (hb hby at_35) rfl (l' := #[.val (.int p0), .val (.int p1), .val (.int p2), .val (.int p3), .val (.int p4), .val (.int p5), .val .null, .val (.int ec), .val (.int nc), .unset, .unset, .unset, .unset, .unset]) rfl k_) ?_
        refine Go.on (g' := (mkF m 38 _ [(.int p3)])) (fun t_ k_ => XS.iloadN X1.here hx rfl (hb hby at_37) rfl k_) ?_
        refine Go.on (g' := (mkF m 39 _ [(.int (4 : Int32)), (.int p3)])) (fun t_ k_ => XS.iconst X1.here hx rfl (hb hby at_38) k_) ?_
        refine Go.on (g' := (mkF m 40 _ [(.int (p3 &&& (4 : Int32)))])) (fun t_ k_ => XS.iand X1.here hx rfl (hb hby at_39) rfl k_) ?_
        refine Go.join (P := fun rd : Int32 => narrow .boolean (.int rd) = .int rd ∧ fits .boolean (.int rd) = true) (g := fun rd => (mkF m 48 #[.val (.int p0), .val (.int p1), .val (.int p2), .val (.int p3), .val (.int p4), .val (.int p5), .val .null, .val (.int ec), .val (.int nc), .unset, .unset, .unset, .unset, .unset] [(.int rd)])) (fun rd hrd => ?_) (fun J48 => ?_)
        · show Go p e below _ _ (mkF m 48 #[.val (.int p0), .val (.int p1), .val (.int p2), .val (.int p3), .val (.int p4), .val (.int p5), .val .null, .val (.int ec), .val (.int nc), .unset, .unset, .unset, .unset, .unset] [(.int rd)])
          refine Go.on (g' := (mkF m 50 #[.val (.int p0), .val (.int p1), .val (.int p2), .val (.int p3), .val (.int p4), .val (.int p5), .val .null, .val (.int ec), .val (.int nc), .val (.int rd), .unset, .unset, .unset, .unset] [])) (fun t_ k_ => XS.istore X1.here hx rfl (hb hby at_48) rfl (l' := #[.val (.int p0), .val (.int p1), .val (.int p2), .val (.int p3), .val (.int p4), .val (.int p5), .val .null, .val (.int ec), .val (.int nc), .val (.int rd), .unset, .unset, .unset, .unset]) rfl k_) ?_
          obtain ⟨T2, h2, X2, e2, E2, A2, D2, -, st2⟩ := newO X1 hx hZ hown (hw _ (List.mem_of_getElem? (i := 7) rfl)) (hw _ (List.mem_of_getElem? (i := 8) rfl)) (hw _ (List.mem_of_getElem? (i := 9) rfl)) e1 (g := (mkF m 50 #[.val (.int p0), .val (.int p1), .val (.int p2), .val (.int p3), .val (.int p4), .val (.int p5), .val .null, .val (.int ec), .val (.int nc), .val (.int rd), .unset, .unset, .unset, .unset] [])) rfl (hb hby at_50) (by decide) (by decide)
          obtain ⟨o2, go2⟩ : ∃ z, z = (h0).size := ⟨_, rfl⟩
          rw [← go2] at A2 D2 st2
          have no2 : n0 ≤ o2 := Nat.le_trans Z0 (Nat.le_of_eq go2.symm)
          have Z2 : n0 ≤ h2.size := Nat.le_trans Z0 E2.1
          have OLD_2 := O0.ext E2
          have fld_o2_kind_2 := D2 (Or.inr (hw _ (List.mem_of_getElem? (i := 17) rfl))) (ty := (.object "com/example/liblocpath/liblocpath/tree/NodeKind")) (by decide)
          have fld_o2_expandedNameCode_2 := D2 (Or.inr (hw _ (List.mem_of_getElem? (i := 19) rfl))) (ty := .int) (by decide)
          have fld_o2_namespaceCode_2 := D2 (Or.inr (hw _ (List.mem_of_getElem? (i := 21) rfl))) (ty := .int) (by decide)
          have fld_o2_names_2 := D2 (Or.inr (hw _ (List.mem_of_getElem? (i := 23) rfl))) (ty := (.object "com/example/liblocpath/liblocpath/tree/NameTable")) (by decide)
          have fld_o2_readsEachName_2 := D2 (Or.inr (hw _ (List.mem_of_getElem? (i := 25) rfl))) (ty := .boolean) (by decide)
          have fld_o2_kindOrdinal_2 := D2 (Or.inr (hw _ (List.mem_of_getElem? (i := 36) rfl))) (ty := .int) (by decide)
          have fld_o2_keepsAnyName_2 := D2 (Or.inr (hw _ (List.mem_of_getElem? (i := 38) rfl))) (ty := .boolean) (by decide)
          refine Go.on (g' := (mkF m 53 _ [(.ref o2)])) (st2) ?_
          have hkd_cur := hkd.ext E2
          refine Go.on (g' := (mkF m 54 _ [(.ref o2), (.ref o2)])) (fun t_ k_ => XS.dup X2.here hx rfl (hb hby at_53) rfl rfl k_) ?_
          refine Go.on (g' := (mkF m 56 _ [.null, (.ref o2), (.ref o2)])) (fun t_ k_ => XS.aload X2.here hx rfl (hb hby at_54) rfl rfl k_) ?_
          refine Go.on (g' := (mkF m 58 _ [(.int ec), .null, (.ref o2), (.ref o2)])) (fun t_ k_ => XS.iload X2.here hx rfl (hb hby at_56) rfl k_) ?_
          refine Go.on (g' := (mkF m 60 _ [(.int nc), (.int ec), .null, (.ref o2), (.ref o2)])) (fun t_ k_ => XS.iload X2.here hx rfl (hb hby at_58) rfl k_) ?_
          refine Go.on (g' := (mkF m 61 _ [.null, (.int nc), (.int ec), .null, (.ref o2), (.ref o2)])) (fun t_ k_ => XS.aconstNull X2.here hx rfl (hb hby at_60) k_) ?_
          refine Go.on (g' := (mkF m 63 _ [(.int rd), .null, (.int nc), (.int ec), .null, (.ref o2), (.ref o2)])) (fun t_ k_ => XS.iload X2.here hx rfl (hb hby at_61) rfl k_) ?_
          refine Go.callI X2 hx hZ hby (by rw [hml]; rfl) (y := (⟨"com/example/liblocpath/liblocpath/tree/BoundNodeTest", "<init>", "(Lcom/example/liblocpath/liblocpath/tree/NodeKind;IILcom/example/liblocpath/liblocpath/tree/NameTable;Z)V"⟩ : MethodName)) rfl hown (hw _ (List.mem_of_getElem? (i := 10) rfl)) (hw _ (List.mem_of_getElem? (i := 11) rfl)) (hw _ (List.mem_of_getElem? (i := 12) rfl)) (hw _ (List.mem_of_getElem? (i := 9) rfl)) (by decide) (b := o2) (argsL := [.null, (.int ec), (.int nc), .null, (.int rd)]) (rest := [(.ref o2)]) (rmI l Z w0 hw [] o2 .null ec nc rd h2 n0 Z2 no2 A2 fld_o2_kind_2 fld_o2_expandedNameCode_2 fld_o2_namespaceCode_2 fld_o2_names_2 fld_o2_readsEachName_2 fld_o2_kindOrdinal_2 fld_o2_keepsAnyName_2 hrd.1 hrd.2 hkd_cur) e2 1 (by decide) (by decide) (by decide) (by decide) rfl pdI rfl (Nat.le_of_eq rfl) at_63 (pcF := 66) rfl ?_
          intro v3 T3 L3 X3 hQ3
          obtain ⟨rfl, M3, K3, E3, FA3, FB3, FC3, FR3⟩ := hQ3
          have N3 := Fr.app N0 M3
          have Z3 : n0 ≤ T3.heap.size := Nat.le_trans Z2 K3.1
          have O3 := OLD_2.keep K3 (allS no2 all0)
          have e3 : T3.heap = T3.heap := rfl
          show Go p e below _ _ (mkF m 66 _ [(.ref o2)])
          refine Go.on (g' := (mkF m 68 #[.val (.int p0), .val (.int p1), .val (.int p2), .val (.int p3), .val (.int p4), .val (.int p5), .val .null, .val (.int ec), .val (.int nc), .val (.int rd), .val (.ref o2), .unset, .unset, .unset] [])) (fun t_ k_ => XS.astore X3.here hx rfl (hb hby at_66) rfl rfl (l' := #[.val (.int p0), .val (.int p1), .val (.int p2), .val (.int p3), .val (.int p4), .val (.int p5), .val .null, .val (.int ec), .val (.int nc), .val (.int rd), .val (.ref o2), .unset, .unset, .unset]) rfl k_) ?_
          refine Go.on (g' := (mkF m 70 _ [.null])) (fun t_ k_ => XS.aload X3.here hx rfl (hb hby at_68) rfl rfl k_) ?_
          refine Go.on (g' := (mkF m 73 _ [])) (fun t_ k_ => XT.ifnonnullNo X3.here hx rfl (hb hby at_70) rfl k_) ?_
          refine Go.on (g' := (mkF m 75 _ [(.int ec)])) (fun t_ k_ => XS.iload X3.here hx rfl (hb hby at_73) rfl k_) ?_
          refine Go.on (g' := (mkF m 77 _ [(.int ((-3) : Int32)), (.int ec)])) (fun t_ k_ => XS.bipush X3.here hx rfl (hb hby at_75) k_) ?_
          refine Go.icmp X3 hx hby at_77 (pcT := 91) (pcF := 80) (by decide) (by decide) rfl (fun q => ?_) (fun q => ?_)
          · have q1 := iNe.1 q
            clear q
            show Go p e below _ _ (mkF m 91 _ [])
            refine Go.on (g' := (mkF m 92 _ [(.int (0 : Int32))])) (fun t_ k_ => XS.iconst X3.here hx rfl (hb hby at_91) k_) ?_
            refine Go.on (g' := (mkF m 94 #[.val (.int p0), .val (.int p1), .val (.int p2), .val (.int p3), .val (.int p4), .val (.int p5), .val .null, .val (.int ec), .val (.int nc), .val (.int rd), .val (.ref o2), .val (.int (0 : Int32)), .unset, .unset] [])) (fun t_ k_ => XS.istore X3.here hx rfl (hb hby at_92) rfl (l' := #[.val (.int p0), .val (.int p1), .val (.int p2), .val (.int p3), .val (.int p4), .val (.int p5), .val .null, .val (.int ec), .val (.int nc), .val (.int rd), .val (.ref o2), .val (.int (0 : Int32)), .unset, .unset]) rfl k_) ?_
            refine Go.on (g' := (mkF m 96 _ [(.ref o2)])) (fun t_ k_ => XS.aload X3.here hx rfl (hb hby at_94) rfl rfl k_) ?_
            refine Go.callV X3 hx hZ hby (by rw [hml]; rfl) (C := "com/example/liblocpath/liblocpath/tree/BoundNodeTest") (y := (⟨"com/example/liblocpath/liblocpath/tree/BoundNodeTest", "matchesEveryNode", "()Z"⟩ : MethodName)) hown (hw _ (List.mem_of_getElem? (i := 39) rfl)) (hw _ (List.mem_of_getElem? (i := 40) rfl)) (hw _ (List.mem_of_getElem? (i := 42) rfl)) (hw _ (List.mem_of_getElem? (i := 41) rfl)) (hw _ (List.mem_of_getElem? (i := 43) rfl)) (hw _ (List.mem_of_getElem? (i := 9) rfl)) (by decide) (b := o2) (argsL := []) (rest := []) (rmEn l Z w0 hw [] o2 ec nc T3.heap FA3 FB3 FC3) e3 E3 0 (by decide) (by decide) (by decide) (by decide) rfl pdE rfl (Nat.le_of_eq rfl) at_96 (pcF := 99) rfl ?_
            intro v4 T4 L4 X4 hQ4
            obtain ⟨rfl, rfl, e4⟩ := hQ4
            rw [List.append_nil] at X4
            show Go p e below _ _ (mkF m 99 _ [(.int (own_me ec nc))])
            refine Go.on (g' := (mkF m 101 #[.val (.int p0), .val (.int p1), .val (.int p2), .val (.int p3), .val (.int p4), .val (.int p5), .val .null, .val (.int ec), .val (.int nc), .val (.int rd), .val (.ref o2), .val (.int (0 : Int32)), .val (.int (own_me ec nc)), .unset] [])) (fun t_ k_ => XS.istore X4.here hx rfl (hb hby at_99) rfl (l' := #[.val (.int p0), .val (.int p1), .val (.int p2), .val (.int p3), .val (.int p4), .val (.int p5), .val .null, .val (.int ec), .val (.int nc), .val (.int rd), .val (.ref o2), .val (.int (0 : Int32)), .val (.int (own_me ec nc)), .unset]) rfl k_) ?_
            refine Go.on (g' := (mkF m 103 _ [(.int (own_me ec nc))])) (fun t_ k_ => XS.iload X4.here hx rfl (hb hby at_101) rfl k_) ?_
            refine Go.on (g' := (mkF m 105 _ [(.int (0 : Int32)), (.int (own_me ec nc))])) (fun t_ k_ => XS.iload X4.here hx rfl (hb hby at_103) rfl k_) ?_
            refine Go.icmp X4 hx hby at_105 (pcT := 110) (pcF := 108) (by decide) (by decide) rfl (fun q => ?_) (fun q => absurd q (fun q => (iEq.2 q) (by rw [own_me, if_neg q1])))
            clear q
            show Go p e below _ _ (mkF m 110 _ [])
            refine Go.on (g' := (mkF m 112 _ [(.int p4)])) (fun t_ k_ => XS.iload X4.here hx rfl (hb hby at_110) rfl k_) ?_
            refine Go.on (g' := (mkF m 114 _ [(.int (2147483647 : Int32)), (.int p4)])) (X4.ldcInt hx hown (mvT hZ (hw _ (List.mem_of_getElem? (i := 44) rfl))) (g := (mkF m 112 #[.val (.int p0), .val (.int p1), .val (.int p2), .val (.int p3), .val (.int p4), .val (.int p5), .val .null, .val (.int ec), .val (.int nc), .val (.int rd), .val (.ref o2), .val (.int (0 : Int32)), .val (.int (own_me ec nc)), .unset] [(.int p4)])) rfl (hb hby at_112)) ?_
            refine Go.on (g' := (mkF m 115 _ [(.int (p4 &&& (2147483647 : Int32)))])) (fun t_ k_ => XS.iand X4.here hx rfl (hb hby at_114) rfl k_) ?_
            refine Go.on (g' := (mkF m 117 _ [(.int (7 : Int32)), (.int (p4 &&& (2147483647 : Int32)))])) (fun t_ k_ => XS.bipush X4.here hx rfl (hb hby at_115) k_) ?_
            refine Go.on (g' := (mkF m 118 _ [(.int ((p4 &&& (2147483647 : Int32)) % (7 : Int32)))])) (fun t_ k_ => iremM X4 hx rfl (hb hby at_117) rfl (by decide) k_) ?_
            have hr := own_range p4
            obtain ⟨kk, hkk⟩ : ∃ z : Int32, z = ((p4 &&& (2147483647 : Int32)) % (7 : Int32)) := ⟨_, rfl⟩
            rw [← hkk] at hr ⊢
            refine Go.callS X4 hx hZ hby (by rw [hml]; rfl) (y := (⟨"com/example/liblocpath/liblocpath/tree/BoundNodeTestMatchesEveryNodePinLaw", "kindOf", "(I)Lcom/example/liblocpath/liblocpath/tree/NodeKind;"⟩ : MethodName)) hown (hw _ (List.mem_of_getElem? (i := 0) rfl)) (hw _ (List.mem_of_getElem? (i := 1) rfl)) (hw _ (List.mem_of_getElem? (i := 2) rfl)) (hw _ (List.mem_of_getElem? (i := 3) rfl)) (by decide) (argsL := [(.int kk)]) (rest := []) (rmK l Z w0 hw [] kk a0 a1 a2 a3 a4 a5 a6 T3.heap (K0.ext O3.2)) e4 0 (by decide) (by decide) (by decide) (by decide) rfl pdK rfl (Nat.le_of_eq rfl) at_118 (pcF := 121) rfl ?_
            intro v5 T5 L5 X5 hQ5
            obtain ⟨rfl, rfl, e5⟩ := hQ5
            rw [List.append_nil] at X5
            rw [own_kind_a kk a0 a1 a2 a3 a4 a5 a6 hr]
            show Go p e below _ _ (mkF m 121 _ [(.ref (own_ka kk a0 a1 a2 a3 a4 a5 a6))])
            refine Go.on (g' := (mkF m 123 #[.val (.int p0), .val (.int p1), .val (.int p2), .val (.int p3), .val (.int p4), .val (.int p5), .val .null, .val (.int ec), .val (.int nc), .val (.int rd), .val (.ref o2), .val (.int (0 : Int32)), .val (.int (own_me ec nc)), .val (.ref (own_ka kk a0 a1 a2 a3 a4 a5 a6))] [])) (fun t_ k_ => XS.astore X5.here hx rfl (hb hby at_121) rfl rfl (l' := #[.val (.int p0), .val (.int p1), .val (.int p2), .val (.int p3), .val (.int p4), .val (.int p5), .val .null, .val (.int ec), .val (.int nc), .val (.int rd), .val (.ref o2), .val (.int (0 : Int32)), .val (.int (own_me ec nc)), .val (.ref (own_ka kk a0 a1 a2 a3 a4 a5 a6))]) rfl k_) ?_
            refine Go.on (g' := (mkF m 125 _ [(.int (own_me ec nc))])) (fun t_ k_ => XS.iload X5.here hx rfl (hb hby at_123) rfl k_) ?_
            refine Go.ifc X5 hx hby at_125 (pcT := 142) (pcF := 128) (by decide) (by decide) rfl (fun q => ?_) (fun q => absurd q (fun q => (iEq.2 q) (by rw [own_me, if_neg q1])))
            clear q
            show Go p e below _ _ (mkF m 142 _ [])
            refine Go.on (g' := (mkF m 143 _ [.null])) (fun t_ k_ => XS.aconstNull X5.here hx rfl (hb hby at_142) k_) ?_
            refine Go.callS X5 hx hZ hby (by rw [hml]; rfl) (y := (⟨"com/example/liblocpath/liblocpath/tree/BoundNodeTest", "ofKind", "(Lcom/example/liblocpath/liblocpath/tree/NodeKind;)Lcom/example/liblocpath/liblocpath/tree/BoundNodeTest;"⟩ : MethodName)) hown (hw _ (List.mem_of_getElem? (i := 45) rfl)) (hw _ (List.mem_of_getElem? (i := 46) rfl)) (hw _ (List.mem_of_getElem? (i := 9) rfl)) (hw _ (List.mem_of_getElem? (i := 47) rfl)) (by decide) (argsL := [.null]) (rest := []) (rmFn l Z w0 hw [] a0 a1 a2 a3 a4 a5 a6 b0 b1 b2 b3 b4 b5 b6 b7 ok kd cl ck T3.heap (B0.ext O3.2) A0 hck) e5 0 (by decide) (by decide) (by decide) (by decide) rfl pdF rfl (Nat.le_of_eq rfl) at_143 (pcF := 146) rfl ?_
            intro v6 T6 L6 X6 hQ6
            obtain ⟨rfl, rfl, e6⟩ := hQ6
            rw [List.append_nil] at X6
            show Go p e below _ _ (mkF m 146 _ [(.ref b7)])
            refine Go.callV X6 hx hZ hby (by rw [hml]; rfl) (C := "com/example/liblocpath/liblocpath/tree/BoundNodeTest") (y := (⟨"com/example/liblocpath/liblocpath/tree/BoundNodeTest", "matchesEveryNode", "()Z"⟩ : MethodName)) hown (hw _ (List.mem_of_getElem? (i := 39) rfl)) (hw _ (List.mem_of_getElem? (i := 40) rfl)) (hw _ (List.mem_of_getElem? (i := 42) rfl)) (hw _ (List.mem_of_getElem? (i := 41) rfl)) (hw _ (List.mem_of_getElem? (i := 43) rfl)) (hw _ (List.mem_of_getElem? (i := 9) rfl)) (by decide) (b := b7) (argsL := []) (rest := []) (rmEn l Z w0 hw [] b7 ((-3) : Int32) ((-3) : Int32) T3.heap (B0.ext O3.2).k7 (B0.ext O3.2).x7 (B0.ext O3.2).y7) e6 (B0.ext O3.2).e7 0 (by decide) (by decide) (by decide) (by decide) rfl pdE rfl (Nat.le_of_eq rfl) at_146 (pcF := 149) rfl ?_
            intro v7 T7 L7 X7 hQ7
            obtain ⟨rfl, rfl, e7⟩ := hQ7
            rw [List.append_nil] at X7
            show Go p e below _ _ (mkF m 149 _ [(.int (1 : Int32))])
            refine Go.ifc X7 hx hby at_149 (pcT := 154) (pcF := 152) (by decide) (by decide) rfl (fun q => ?_) (fun q => absurd q (by decide))
            clear q
            show Go p e below _ _ (mkF m 154 _ [])
            refine Go.on (g' := (mkF m 156 _ [(.ref (own_ka kk a0 a1 a2 a3 a4 a5 a6))])) (fun t_ k_ => XS.aload X7.here hx rfl (hb hby at_154) rfl rfl k_) ?_
            refine Go.callS X7 hx hZ hby (by rw [hml]; rfl) (y := (⟨"com/example/liblocpath/liblocpath/tree/BoundNodeTest", "ofKind", "(Lcom/example/liblocpath/liblocpath/tree/NodeKind;)Lcom/example/liblocpath/liblocpath/tree/BoundNodeTest;"⟩ : MethodName)) hown (hw _ (List.mem_of_getElem? (i := 45) rfl)) (hw _ (List.mem_of_getElem? (i := 46) rfl)) (hw _ (List.mem_of_getElem? (i := 9) rfl)) (hw _ (List.mem_of_getElem? (i := 47) rfl)) (by decide) (argsL := [(.ref (own_ka kk a0 a1 a2 a3 a4 a5 a6))]) (rest := []) (rmFr l Z w0 hw [] a0 a1 a2 a3 a4 a5 a6 b0 b1 b2 b3 b4 b5 b6 b7 ok kd cl ck T3.heap (B0.ext O3.2) A0 hck _ _ kk (own_ka_o kk (K0.ext O3.2) hr).1 (own_ka_o kk (K0.ext O3.2) hr).2 (own_at_k A0 kk hr).1 (own_at_k A0 kk hr).2) e7 0 (by decide) (by decide) (by decide) (by decide) rfl pdF rfl (Nat.le_of_eq rfl) at_156 (pcF := 159) rfl ?_
            intro v8 T8 L8 X8 hQ8
            obtain ⟨rfl, rfl, e8⟩ := hQ8
            rw [List.append_nil] at X8
            show Go p e below _ _ (mkF m 159 _ [(.ref (own_ka kk b0 b1 b2 b3 b4 b5 b6))])
            refine Go.callV X8 hx hZ hby (by rw [hml]; rfl) (C := "com/example/liblocpath/liblocpath/tree/BoundNodeTest") (y := (⟨"com/example/liblocpath/liblocpath/tree/BoundNodeTest", "matchesEveryNode", "()Z"⟩ : MethodName)) hown (hw _ (List.mem_of_getElem? (i := 39) rfl)) (hw _ (List.mem_of_getElem? (i := 40) rfl)) (hw _ (List.mem_of_getElem? (i := 42) rfl)) (hw _ (List.mem_of_getElem? (i := 41) rfl)) (hw _ (List.mem_of_getElem? (i := 43) rfl)) (hw _ (List.mem_of_getElem? (i := 9) rfl)) (by decide) (b := (own_ka kk b0 b1 b2 b3 b4 b5 b6)) (argsL := []) (rest := []) (rmEr l Z w0 hw [] (own_ka kk b0 b1 b2 b3 b4 b5 b6) _ T3.heap (own_ka_b kk (B0.ext O3.2) hr).2) e8 (own_ka_b kk (B0.ext O3.2) hr).1 0 (by decide) (by decide) (by decide) (by decide) rfl pdE rfl (Nat.le_of_eq rfl) at_159 (pcF := 162) rfl ?_
            intro v9 T9 L9 X9 hQ9
            obtain ⟨rfl, rfl, e9⟩ := hQ9
            rw [List.append_nil] at X9
            show Go p e below _ _ (mkF m 162 _ [(.int (0 : Int32))])
            refine Go.ifc X9 hx hby at_162 (pcT := 169) (pcF := 165) (by decide) (by decide) rfl (fun q => absurd q (by decide)) (fun q => ?_)
            clear q
            show Go p e below _ _ (mkF m 165 _ [])
            refine Go.on (g' := (mkF m 166 _ [(.int (1 : Int32))])) (fun t_ k_ => XS.iconst X9.here hx rfl (hb hby at_165) k_) ?_
            refine Go.on (g' := (mkF m 170 _ [(.int (1 : Int32))])) (fun t_ k_ => XS.goto X9.here hx rfl (pc0 := 166) (pc' := 170) rfl (hb hby at_166) (by decide) (by decide) k_) ?_
            exact Go.retI X9 hx hlk hret hby at_170 rfl (by simp) (by decide) (by decide) ⟨rfl, N3⟩
          · have q1 := iNe.2 q
            clear q
            show Go p e below _ _ (mkF m 80 _ [])
            refine Go.on (g' := (mkF m 82 _ [(.int nc)])) (fun t_ k_ => XS.iload X3.here hx rfl (hb hby at_80) rfl k_) ?_
            refine Go.on (g' := (mkF m 84 _ [(.int ((-3) : Int32)), (.int nc)])) (fun t_ k_ => XS.bipush X3.here hx rfl (hb hby at_82) k_) ?_
            refine Go.icmp X3 hx hby at_84 (pcT := 91) (pcF := 87) (by decide) (by decide) rfl (fun q => ?_) (fun q => ?_)
            · have q2 := iNe.1 q
              clear q
              show Go p e below _ _ (mkF m 91 _ [])
              refine Go.on (g' := (mkF m 92 _ [(.int (0 : Int32))])) (fun t_ k_ => XS.iconst X3.here hx rfl (hb hby at_91) k_) ?_
              refine Go.on (g' := (mkF m 94 #[.val (.int p0), .val (.int p1), .val (.int p2), .val (.int p3), .val (.int p4), .val (.int p5), .val .null, .val (.int ec), .val (.int nc), .val (.int rd), .val (.ref o2), .val (.int (0 : Int32)), .unset, .unset] [])) (fun t_ k_ => XS.istore X3.here hx rfl (hb hby at_92) rfl (l' := #[.val (.int p0), .val (.int p1), .val (.int p2), .val (.int p3), .val (.int p4), .val (.int p5), .val .null, .val (.int ec), .val (.int nc), .val (.int rd), .val (.ref o2), .val (.int (0 : Int32)), .unset, .unset]) rfl k_) ?_
              refine Go.on (g' := (mkF m 96 _ [(.ref o2)])) (fun t_ k_ => XS.aload X3.here hx rfl (hb hby at_94) rfl rfl k_) ?_
              refine Go.callV X3 hx hZ hby (by rw [hml]; rfl) (C := "com/example/liblocpath/liblocpath/tree/BoundNodeTest") (y := (⟨"com/example/liblocpath/liblocpath/tree/BoundNodeTest", "matchesEveryNode", "()Z"⟩ : MethodName)) hown (hw _ (List.mem_of_getElem? (i := 39) rfl)) (hw _ (List.mem_of_getElem? (i := 40) rfl)) (hw _ (List.mem_of_getElem? (i := 42) rfl)) (hw _ (List.mem_of_getElem? (i := 41) rfl)) (hw _ (List.mem_of_getElem? (i := 43) rfl)) (hw _ (List.mem_of_getElem? (i := 9) rfl)) (by decide) (b := o2) (argsL := []) (rest := []) (rmEn l Z w0 hw [] o2 ec nc T3.heap FA3 FB3 FC3) e3 E3 0 (by decide) (by decide) (by decide) (by decide) rfl pdE rfl (Nat.le_of_eq rfl) at_96 (pcF := 99) rfl ?_
              intro v10 T10 L10 X10 hQ10
              obtain ⟨rfl, rfl, e10⟩ := hQ10
              rw [List.append_nil] at X10
              show Go p e below _ _ (mkF m 99 _ [(.int (own_me ec nc))])
              refine Go.on (g' := (mkF m 101 #[.val (.int p0), .val (.int p1), .val (.int p2), .val (.int p3), .val (.int p4), .val (.int p5), .val .null, .val (.int ec), .val (.int nc), .val (.int rd), .val (.ref o2), .val (.int (0 : Int32)), .val (.int (own_me ec nc)), .unset] [])) (fun t_ k_ => XS.istore X10.here hx rfl (hb hby at_99) rfl (l' := #[.val (.int p0), .val (.int p1), .val (.int p2), .val (.int p3), .val (.int p4), .val (.int p5), .val .null, .val (.int ec), .val (.int nc), .val (.int rd), .val (.ref o2), .val (.int (0 : Int32)), .val (.int (own_me ec nc)), .unset]) rfl k_) ?_
              refine Go.on (g' := (mkF m 103 _ [(.int (own_me ec nc))])) (fun t_ k_ => XS.iload X10.here hx rfl (hb hby at_101) rfl k_) ?_
              refine Go.on (g' := (mkF m 105 _ [(.int (0 : Int32)), (.int (own_me ec nc))])) (fun t_ k_ => XS.iload X10.here hx rfl (hb hby at_103) rfl k_) ?_
              refine Go.icmp X10 hx hby at_105 (pcT := 110) (pcF := 108) (by decide) (by decide) rfl (fun q => ?_) (fun q => absurd q (fun q => (iEq.2 q) (by rw [own_me, if_pos q1, if_neg q2])))
              clear q
              show Go p e below _ _ (mkF m 110 _ [])
              refine Go.on (g' := (mkF m 112 _ [(.int p4)])) (fun t_ k_ => XS.iload X10.here hx rfl (hb hby at_110) rfl k_) ?_
              refine Go.on (g' := (mkF m 114 _ [(.int (2147483647 : Int32)), (.int p4)])) (X10.ldcInt hx hown (mvT hZ (hw _ (List.mem_of_getElem? (i := 44) rfl))) (g := (mkF m 112 #[.val (.int p0), .val (.int p1), .val (.int p2), .val (.int p3), .val (.int p4), .val (.int p5), .val .null, .val (.int ec), .val (.int nc), .val (.int rd), .val (.ref o2), .val (.int (0 : Int32)), .val (.int (own_me ec nc)), .unset] [(.int p4)])) rfl (hb hby at_112)) ?_
              refine Go.on (g' := (mkF m 115 _ [(.int (p4 &&& (2147483647 : Int32)))])) (fun t_ k_ => XS.iand X10.here hx rfl (hb hby at_114) rfl k_) ?_
              refine Go.on (g' := (mkF m 117 _ [(.int (7 : Int32)), (.int (p4 &&& (2147483647 : Int32)))])) (fun t_ k_ => XS.bipush X10.here hx rfl (hb hby at_115) k_) ?_
              refine Go.on (g' := (mkF m 118 _ [(.int ((p4 &&& (2147483647 : Int32)) % (7 : Int32)))])) (fun t_ k_ => iremM X10 hx rfl (hb hby at_117) rfl (by decide) k_) ?_
              have hr := own_range p4
              obtain ⟨kk, hkk⟩ : ∃ z : Int32, z = ((p4 &&& (2147483647 : Int32)) % (7 : Int32)) := ⟨_, rfl⟩
              rw [← hkk] at hr ⊢
              refine Go.callS X10 hx hZ hby (by rw [hml]; rfl) (y := (⟨"com/example/liblocpath/liblocpath/tree/BoundNodeTestMatchesEveryNodePinLaw", "kindOf", "(I)Lcom/example/liblocpath/liblocpath/tree/NodeKind;"⟩ : MethodName)) hown (hw _ (List.mem_of_getElem? (i := 0) rfl)) (hw _ (List.mem_of_getElem? (i := 1) rfl)) (hw _ (List.mem_of_getElem? (i := 2) rfl)) (hw _ (List.mem_of_getElem? (i := 3) rfl)) (by decide) (argsL := [(.int kk)]) (rest := []) (rmK l Z w0 hw [] kk a0 a1 a2 a3 a4 a5 a6 T3.heap (K0.ext O3.2)) e10 0 (by decide) (by decide) (by decide) (by decide) rfl pdK rfl (Nat.le_of_eq rfl) at_118 (pcF := 121) rfl ?_
              intro v11 T11 L11 X11 hQ11
              obtain ⟨rfl, rfl, e11⟩ := hQ11
              rw [List.append_nil] at X11
              rw [own_kind_a kk a0 a1 a2 a3 a4 a5 a6 hr]
              show Go p e below _ _ (mkF m 121 _ [(.ref (own_ka kk a0 a1 a2 a3 a4 a5 a6))])
              refine Go.on (g' := (mkF m 123 #[.val (.int p0), .val (.int p1), .val (.int p2), .val (.int p3), .val (.int p4), .val (.int p5), .val .null, .val (.int ec), .val (.int nc), .val (.int rd), .val (.ref o2), .val (.int (0 : Int32)), .val (.int (own_me ec nc)), .val (.ref (own_ka kk a0 a1 a2 a3 a4 a5 a6))] [])) (fun t_ k_ => XS.astore X11.here hx rfl (hb hby at_121) rfl rfl (l' := #[.val (.int p0), .val (.int p1), .val (.int p2), .val (.int p3), .val (.int p4), .val (.int p5), .val .null, .val (.int ec), .val (.int nc), .val (.int rd), .val (.ref o2), .val (.int (0 : Int32)), .val (.int (own_me ec nc)), .val (.ref (own_ka kk a0 a1 a2 a3 a4 a5 a6))]) rfl k_) ?_
              refine Go.on (g' := (mkF m 125 _ [(.int (own_me ec nc))])) (fun t_ k_ => XS.iload X11.here hx rfl (hb hby at_123) rfl k_) ?_
              refine Go.ifc X11 hx hby at_125 (pcT := 142) (pcF := 128) (by decide) (by decide) rfl (fun q => ?_) (fun q => absurd q (fun q => (iEq.2 q) (by rw [own_me, if_pos q1, if_neg q2])))
              clear q
              show Go p e below _ _ (mkF m 142 _ [])
              refine Go.on (g' := (mkF m 143 _ [.null])) (fun t_ k_ => XS.aconstNull X11.here hx rfl (hb hby at_142) k_) ?_
              refine Go.callS X11 hx hZ hby (by rw [hml]; rfl) (y := (⟨"com/example/liblocpath/liblocpath/tree/BoundNodeTest", "ofKind", "(Lcom/example/liblocpath/liblocpath/tree/NodeKind;)Lcom/example/liblocpath/liblocpath/tree/BoundNodeTest;"⟩ : MethodName)) hown (hw _ (List.mem_of_getElem? (i := 45) rfl)) (hw _ (List.mem_of_getElem? (i := 46) rfl)) (hw _ (List.mem_of_getElem? (i := 9) rfl)) (hw _ (List.mem_of_getElem? (i := 47) rfl)) (by decide) (argsL := [.null]) (rest := []) (rmFn l Z w0 hw [] a0 a1 a2 a3 a4 a5 a6 b0 b1 b2 b3 b4 b5 b6 b7 ok kd cl ck T3.heap (B0.ext O3.2) A0 hck) e11 0 (by decide) (by decide) (by decide) (by decide) rfl pdF rfl (Nat.le_of_eq rfl) at_143 (pcF := 146) rfl ?_
              intro v12 T12 L12 X12 hQ12
              obtain ⟨rfl, rfl, e12⟩ := hQ12
              rw [List.append_nil] at X12
              show Go p e below _ _ (mkF m 146 _ [(.ref b7)])
              refine Go.callV X12 hx hZ hby (by rw [hml]; rfl) (C := "com/example/liblocpath/liblocpath/tree/BoundNodeTest") (y := (⟨"com/example/liblocpath/liblocpath/tree/BoundNodeTest", "matchesEveryNode", "()Z"⟩ : MethodName)) hown (hw _ (List.mem_of_getElem? (i := 39) rfl)) (hw _ (List.mem_of_getElem? (i := 40) rfl)) (hw _ (List.mem_of_getElem? (i := 42) rfl)) (hw _ (List.mem_of_getElem? (i := 41) rfl)) (hw _ (List.mem_of_getElem? (i := 43) rfl)) (hw _ (List.mem_of_getElem? (i := 9) rfl)) (by decide) (b := b7) (argsL := []) (rest := []) (rmEn l Z w0 hw [] b7 ((-3) : Int32) ((-3) : Int32) T3.heap (B0.ext O3.2).k7 (B0.ext O3.2).x7 (B0.ext O3.2).y7) e12 (B0.ext O3.2).e7 0 (by decide) (by decide) (by decide) (by decide) rfl pdE rfl (Nat.le_of_eq rfl) at_146 (pcF := 149) rfl ?_
              intro v13 T13 L13 X13 hQ13
              obtain ⟨rfl, rfl, e13⟩ := hQ13
              rw [List.append_nil] at X13
              show Go p e below _ _ (mkF m 149 _ [(.int (1 : Int32))])
              refine Go.ifc X13 hx hby at_149 (pcT := 154) (pcF := 152) (by decide) (by decide) rfl (fun q => ?_) (fun q => absurd q (by decide))
              clear q
              show Go p e below _ _ (mkF m 154 _ [])
              refine Go.on (g' := (mkF m 156 _ [(.ref (own_ka kk a0 a1 a2 a3 a4 a5 a6))])) (fun t_ k_ => XS.aload X13.here hx rfl (hb hby at_154) rfl rfl k_) ?_
              refine Go.callS X13 hx hZ hby (by rw [hml]; rfl) (y := (⟨"com/example/liblocpath/liblocpath/tree/BoundNodeTest", "ofKind", "(Lcom/example/liblocpath/liblocpath/tree/NodeKind;)Lcom/example/liblocpath/liblocpath/tree/BoundNodeTest;"⟩ : MethodName)) hown (hw _ (List.mem_of_getElem? (i := 45) rfl)) (hw _ (List.mem_of_getElem? (i := 46) rfl)) (hw _ (List.mem_of_getElem? (i := 9) rfl)) (hw _ (List.mem_of_getElem? (i := 47) rfl)) (by decide) (argsL := [(.ref (own_ka kk a0 a1 a2 a3 a4 a5 a6))]) (rest := []) (rmFr l Z w0 hw [] a0 a1 a2 a3 a4 a5 a6 b0 b1 b2 b3 b4 b5 b6 b7 ok kd cl ck T3.heap (B0.ext O3.2) A0 hck _ _ kk (own_ka_o kk (K0.ext O3.2) hr).1 (own_ka_o kk (K0.ext O3.2) hr).2 (own_at_k A0 kk hr).1 (own_at_k A0 kk hr).2) e13 0 (by decide) (by decide) (by decide) (by decide) rfl pdF rfl (Nat.le_of_eq rfl) at_156 (pcF := 159) rfl ?_
              intro v14 T14 L14 X14 hQ14
              obtain ⟨rfl, rfl, e14⟩ := hQ14
              rw [List.append_nil] at X14
              show Go p e below _ _ (mkF m 159 _ [(.ref (own_ka kk b0 b1 b2 b3 b4 b5 b6))])
              refine Go.callV X14 hx hZ hby (by rw [hml]; rfl) (C := "com/example/liblocpath/liblocpath/tree/BoundNodeTest") (y := (⟨"com/example/liblocpath/liblocpath/tree/BoundNodeTest", "matchesEveryNode", "()Z"⟩ : MethodName)) hown (hw _ (List.mem_of_getElem? (i := 39) rfl)) (hw _ (List.mem_of_getElem? (i := 40) rfl)) (hw _ (List.mem_of_getElem? (i := 42) rfl)) (hw _ (List.mem_of_getElem? (i := 41) rfl)) (hw _ (List.mem_of_getElem? (i := 43) rfl)) (hw _ (List.mem_of_getElem? (i := 9) rfl)) (by decide) (b := (own_ka kk b0 b1 b2 b3 b4 b5 b6)) (argsL := []) (rest := []) (rmEr l Z w0 hw [] (own_ka kk b0 b1 b2 b3 b4 b5 b6) _ T3.heap (own_ka_b kk (B0.ext O3.2) hr).2) e14 (own_ka_b kk (B0.ext O3.2) hr).1 0 (by decide) (by decide) (by decide) (by decide) rfl pdE rfl (Nat.le_of_eq rfl) at_159 (pcF := 162) rfl ?_
              intro v15 T15 L15 X15 hQ15
              obtain ⟨rfl, rfl, e15⟩ := hQ15
              rw [List.append_nil] at X15
              show Go p e below _ _ (mkF m 162 _ [(.int (0 : Int32))])
              refine Go.ifc X15 hx hby at_162 (pcT := 169) (pcF := 165) (by decide) (by decide) rfl (fun q => absurd q (by decide)) (fun q => ?_)
              clear q
              show Go p e below _ _ (mkF m 165 _ [])
              refine Go.on (g' := (mkF m 166 _ [(.int (1 : Int32))])) (fun t_ k_ => XS.iconst X15.here hx rfl (hb hby at_165) k_) ?_
              refine Go.on (g' := (mkF m 170 _ [(.int (1 : Int32))])) (fun t_ k_ => XS.goto X15.here hx rfl (pc0 := 166) (pc' := 170) rfl (hb hby at_166) (by decide) (by decide) k_) ?_
              exact Go.retI X15 hx hlk hret hby at_170 rfl (by simp) (by decide) (by decide) ⟨rfl, N3⟩
            · have q2 := iNe.2 q
              clear q
              show Go p e below _ _ (mkF m 87 _ [])
              refine Go.on (g' := (mkF m 88 _ [(.int (1 : Int32))])) (fun t_ k_ => XS.iconst X3.here hx rfl (hb hby at_87) k_) ?_
              refine Go.on (g' := (mkF m 92 _ [(.int (1 : Int32))])) (fun t_ k_ => XS.goto X3.here hx rfl (pc0 := 88) (pc' := 92) rfl (hb hby at_88) (by decide) (by decide) k_) ?_
              refine Go.on (g' := (mkF m 94 #[.val (.int p0), .val (.int p1), .val (.int p2), .val (.int p3), .val (.int p4), .val (.int p5), .val .null, .val (.int ec), .val (.int nc), .val (.int rd), .val (.ref o2), .val (.int (1 : Int32)), .unset, .unset] [])) (fun t_ k_ => XS.istore X3.here hx rfl (hb hby at_92) rfl (l' := #[.val (.int p0), .val (.int p1), .val (.int p2), .val (.int p3), .val (.int p4), .val (.int p5), .val .null, .val (.int ec), .val (.int nc), .val (.int rd), .val (.ref o2), .val (.int (1 : Int32)), .unset, .unset]) rfl k_) ?_
              refine Go.on (g' := (mkF m 96 _ [(.ref o2)])) (fun t_ k_ => XS.aload X3.here hx rfl (hb hby at_94) rfl rfl k_) ?_
              refine Go.callV X3 hx hZ hby (by rw [hml]; rfl) (C := "com/example/liblocpath/liblocpath/tree/BoundNodeTest") (y := (⟨"com/example/liblocpath/liblocpath/tree/BoundNodeTest", "matchesEveryNode", "()Z"⟩ : MethodName)) hown (hw _ (List.mem_of_getElem? (i := 39) rfl)) (hw _ (List.mem_of_getElem? (i := 40) rfl)) (hw _ (List.mem_of_getElem? (i := 42) rfl)) (hw _ (List.mem_of_getElem? (i := 41) rfl)) (hw _ (List.mem_of_getElem? (i := 43) rfl)) (hw _ (List.mem_of_getElem? (i := 9) rfl)) (by decide) (b := o2) (argsL := []) (rest := []) (rmEn l Z w0 hw [] o2 ec nc T3.heap FA3 FB3 FC3) e3 E3 0 (by decide) (by decide) (by decide) (by decide) rfl pdE rfl (Nat.le_of_eq rfl) at_96 (pcF := 99) rfl ?_
              intro v16 T16 L16 X16 hQ16
              obtain ⟨rfl, rfl, e16⟩ := hQ16
              rw [List.append_nil] at X16
              show Go p e below _ _ (mkF m 99 _ [(.int (own_me ec nc))])
              refine Go.on (g' := (mkF m 101 #[.val (.int p0), .val (.int p1), .val (.int p2), .val (.int p3), .val (.int p4), .val (.int p5), .val .null, .val (.int ec), .val (.int nc), .val (.int rd), .val (.ref o2), .val (.int (1 : Int32)), .val (.int (own_me ec nc)), .unset] [])) (fun t_ k_ => XS.istore X16.here hx rfl (hb hby at_99) rfl (l' := #[.val (.int p0), .val (.int p1), .val (.int p2), .val (.int p3), .val (.int p4), .val (.int p5), .val .null, .val (.int ec), .val (.int nc), .val (.int rd), .val (.ref o2), .val (.int (1 : Int32)), .val (.int (own_me ec nc)), .unset]) rfl k_) ?_
              refine Go.on (g' := (mkF m 103 _ [(.int (own_me ec nc))])) (fun t_ k_ => XS.iload X16.here hx rfl (hb hby at_101) rfl k_) ?_
              refine Go.on (g' := (mkF m 105 _ [(.int (1 : Int32)), (.int (own_me ec nc))])) (fun t_ k_ => XS.iload X16.here hx rfl (hb hby at_103) rfl k_) ?_
              refine Go.icmp X16 hx hby at_105 (pcT := 110) (pcF := 108) (by decide) (by decide) rfl (fun q => ?_) (fun q => absurd q (fun q => (iEq.2 q) (by rw [own_me, if_pos q1, if_pos q2])))
              clear q
              show Go p e below _ _ (mkF m 110 _ [])
              refine Go.on (g' := (mkF m 112 _ [(.int p4)])) (fun t_ k_ => XS.iload X16.here hx rfl (hb hby at_110) rfl k_) ?_
              refine Go.on (g' := (mkF m 114 _ [(.int (2147483647 : Int32)), (.int p4)])) (X16.ldcInt hx hown (mvT hZ (hw _ (List.mem_of_getElem? (i := 44) rfl))) (g := (mkF m 112 #[.val (.int p0), .val (.int p1), .val (.int p2), .val (.int p3), .val (.int p4), .val (.int p5), .val .null, .val (.int ec), .val (.int nc), .val (.int rd), .val (.ref o2), .val (.int (1 : Int32)), .val (.int (own_me ec nc)), .unset] [(.int p4)])) rfl (hb hby at_112)) ?_
              refine Go.on (g' := (mkF m 115 _ [(.int (p4 &&& (2147483647 : Int32)))])) (fun t_ k_ => XS.iand X16.here hx rfl (hb hby at_114) rfl k_) ?_
              refine Go.on (g' := (mkF m 117 _ [(.int (7 : Int32)), (.int (p4 &&& (2147483647 : Int32)))])) (fun t_ k_ => XS.bipush X16.here hx rfl (hb hby at_115) k_) ?_
              refine Go.on (g' := (mkF m 118 _ [(.int ((p4 &&& (2147483647 : Int32)) % (7 : Int32)))])) (fun t_ k_ => iremM X16 hx rfl (hb hby at_117) rfl (by decide) k_) ?_
              have hr := own_range p4
              obtain ⟨kk, hkk⟩ : ∃ z : Int32, z = ((p4 &&& (2147483647 : Int32)) % (7 : Int32)) := ⟨_, rfl⟩
              rw [← hkk] at hr ⊢
              refine Go.callS X16 hx hZ hby (by rw [hml]; rfl) (y := (⟨"com/example/liblocpath/liblocpath/tree/BoundNodeTestMatchesEveryNodePinLaw", "kindOf", "(I)Lcom/example/liblocpath/liblocpath/tree/NodeKind;"⟩ : MethodName)) hown (hw _ (List.mem_of_getElem? (i := 0) rfl)) (hw _ (List.mem_of_getElem? (i := 1) rfl)) (hw _ (List.mem_of_getElem? (i := 2) rfl)) (hw _ (List.mem_of_getElem? (i := 3) rfl)) (by decide) (argsL := [(.int kk)]) (rest := []) (rmK l Z w0 hw [] kk a0 a1 a2 a3 a4 a5 a6 T3.heap (K0.ext O3.2)) e16 0 (by decide) (by decide) (by decide) (by decide) rfl pdK rfl (Nat.le_of_eq rfl) at_118 (pcF := 121) rfl ?_
              intro v17 T17 L17 X17 hQ17
              obtain ⟨rfl, rfl, e17⟩ := hQ17
              rw [List.append_nil] at X17
              rw [own_kind_a kk a0 a1 a2 a3 a4 a5 a6 hr]
              show Go p e below _ _ (mkF m 121 _ [(.ref (own_ka kk a0 a1 a2 a3 a4 a5 a6))])
              refine Go.on (g' := (mkF m 123 #[.val (.int p0), .val (.int p1), .val (.int p2), .val (.int p3), .val (.int p4), .val (.int p5), .val .null, .val (.int ec), .val (.int nc), .val (.int rd), .val (.ref o2), .val (.int (1 : Int32)), .val (.int (own_me ec nc)), .val (.ref (own_ka kk a0 a1 a2 a3 a4 a5 a6))] [])) (fun t_ k_ => XS.astore X17.here hx rfl (hb hby at_121) rfl rfl (l' := #[.val (.int p0), .val (.int p1), .val (.int p2), .val (.int p3), .val (.int p4), .val (.int p5), .val .null, .val (.int ec), .val (.int nc), .val (.int rd), .val (.ref o2), .val (.int (1 : Int32)), .val (.int (own_me ec nc)), .val (.ref (own_ka kk a0 a1 a2 a3 a4 a5 a6))]) rfl k_) ?_
              refine Go.on (g' := (mkF m 125 _ [(.int (own_me ec nc))])) (fun t_ k_ => XS.iload X17.here hx rfl (hb hby at_123) rfl k_) ?_
              refine Go.ifc X17 hx hby at_125 (pcT := 142) (pcF := 128) (by decide) (by decide) rfl (fun q => absurd q (fun q => absurd (iEq.1 q) (by rw [own_me, if_pos q1, if_pos q2]; decide))) (fun q => ?_)
              clear q
              show Go p e below _ _ (mkF m 128 _ [])
              refine Go.on (g' := (mkF m 130 _ [(.ref o2)])) (fun t_ k_ => XS.aload X17.here hx rfl (hb hby at_128) rfl rfl k_) ?_
              refine Go.on (g' := (mkF m 132 _ [(.ref (own_ka kk a0 a1 a2 a3 a4 a5 a6)), (.ref o2)])) (fun t_ k_ => XS.aload X17.here hx rfl (hb hby at_130) rfl rfl k_) ?_
              refine Go.on (g' := (mkF m 134 _ [(.int p5), (.ref (own_ka kk a0 a1 a2 a3 a4 a5 a6)), (.ref o2)])) (fun t_ k_ => XS.iload X17.here hx rfl (hb hby at_132) rfl k_) ?_
              refine Go.callV X17 hx hZ hby (by rw [hml]; rfl) (C := "com/example/liblocpath/liblocpath/tree/BoundNodeTest") (y := (⟨"com/example/liblocpath/liblocpath/tree/BoundNodeTest", "matches", "(Lcom/example/liblocpath/liblocpath/tree/NodeKind;I)Z"⟩ : MethodName)) hown (hw _ (List.mem_of_getElem? (i := 64) rfl)) (hw _ (List.mem_of_getElem? (i := 65) rfl)) (hw _ (List.mem_of_getElem? (i := 67) rfl)) (hw _ (List.mem_of_getElem? (i := 66) rfl)) (hw _ (List.mem_of_getElem? (i := 68) rfl)) (hw _ (List.mem_of_getElem? (i := 9) rfl)) (by decide) (b := o2) (argsL := [(.ref (own_ka kk a0 a1 a2 a3 a4 a5 a6)), (.int p5)]) (rest := []) (rmT l Z w0 hw [] o2 _ p5 T3.heap E3 FA3 (by rw [← q1]; exact FB3) (by rw [← q2]; exact FC3)) e17 E3 0 (by decide) (by decide) (by decide) (by decide) rfl pdT rfl (Nat.le_of_eq rfl) at_134 (pcF := 137) rfl ?_
              intro v18 T18 L18 X18 hQ18
              obtain ⟨rfl, rfl, e18⟩ := hQ18
              rw [List.append_nil] at X18
              show Go p e below _ _ (mkF m 137 _ [(.int (1 : Int32))])
              refine Go.ifc X18 hx hby at_137 (pcT := 142) (pcF := 140) (by decide) (by decide) rfl (fun q => ?_) (fun q => absurd q (by decide))
              clear q
              show Go p e below _ _ (mkF m 142 _ [])
              refine Go.on (g' := (mkF m 143 _ [.null])) (fun t_ k_ => XS.aconstNull X18.here hx rfl (hb hby at_142) k_) ?_
              refine Go.callS X18 hx hZ hby (by rw [hml]; rfl) (y := (⟨"com/example/liblocpath/liblocpath/tree/BoundNodeTest", "ofKind", "(Lcom/example/liblocpath/liblocpath/tree/NodeKind;)Lcom/example/liblocpath/liblocpath/tree/BoundNodeTest;"⟩ : MethodName)) hown (hw _ (List.mem_of_getElem? (i := 45) rfl)) (hw _ (List.mem_of_getElem? (i := 46) rfl)) (hw _ (List.mem_of_getElem? (i := 9) rfl)) (hw _ (List.mem_of_getElem? (i := 47) rfl)) (by decide) (argsL := [.null]) (rest := []) (rmFn l Z w0 hw [] a0 a1 a2 a3 a4 a5 a6 b0 b1 b2 b3 b4 b5 b6 b7 ok kd cl ck T3.heap (B0.ext O3.2) A0 hck) e18 0 (by decide) (by decide) (by decide) (by decide) rfl pdF rfl (Nat.le_of_eq rfl) at_143 (pcF := 146) rfl ?_
              intro v19 T19 L19 X19 hQ19
              obtain ⟨rfl, rfl, e19⟩ := hQ19
              rw [List.append_nil] at X19
              show Go p e below _ _ (mkF m 146 _ [(.ref b7)])
              refine Go.callV X19 hx hZ hby (by rw [hml]; rfl) (C := "com/example/liblocpath/liblocpath/tree/BoundNodeTest") (y := (⟨"com/example/liblocpath/liblocpath/tree/BoundNodeTest", "matchesEveryNode", "()Z"⟩ : MethodName)) hown (hw _ (List.mem_of_getElem? (i := 39) rfl)) (hw _ (List.mem_of_getElem? (i := 40) rfl)) (hw _ (List.mem_of_getElem? (i := 42) rfl)) (hw _ (List.mem_of_getElem? (i := 41) rfl)) (hw _ (List.mem_of_getElem? (i := 43) rfl)) (hw _ (List.mem_of_getElem? (i := 9) rfl)) (by decide) (b := b7) (argsL := []) (rest := []) (rmEn l Z w0 hw [] b7 ((-3) : Int32) ((-3) : Int32) T3.heap (B0.ext O3.2).k7 (B0.ext O3.2).x7 (B0.ext O3.2).y7) e19 (B0.ext O3.2).e7 0 (by decide) (by decide) (by decide) (by decide) rfl pdE rfl (Nat.le_of_eq rfl) at_146 (pcF := 149) rfl ?_
              intro v20 T20 L20 X20 hQ20
              obtain ⟨rfl, rfl, e20⟩ := hQ20
              rw [List.append_nil] at X20
              show Go p e below _ _ (mkF m 149 _ [(.int (1 : Int32))])
              refine Go.ifc X20 hx hby at_149 (pcT := 154) (pcF := 152) (by decide) (by decide) rfl (fun q => ?_) (fun q => absurd q (by decide))
              clear q
              show Go p e below _ _ (mkF m 154 _ [])
              refine Go.on (g' := (mkF m 156 _ [(.ref (own_ka kk a0 a1 a2 a3 a4 a5 a6))])) (fun t_ k_ => XS.aload X20.here hx rfl (hb hby at_154) rfl rfl k_) ?_
              refine Go.callS X20 hx hZ hby (by rw [hml]; rfl) (y := (⟨"com/example/liblocpath/liblocpath/tree/BoundNodeTest", "ofKind", "(Lcom/example/liblocpath/liblocpath/tree/NodeKind;)Lcom/example/liblocpath/liblocpath/tree/BoundNodeTest;"⟩ : MethodName)) hown (hw _ (List.mem_of_getElem? (i := 45) rfl)) (hw _ (List.mem_of_getElem? (i := 46) rfl)) (hw _ (List.mem_of_getElem? (i := 9) rfl)) (hw _ (List.mem_of_getElem? (i := 47) rfl)) (by decide) (argsL := [(.ref (own_ka kk a0 a1 a2 a3 a4 a5 a6))]) (rest := []) (rmFr l Z w0 hw [] a0 a1 a2 a3 a4 a5 a6 b0 b1 b2 b3 b4 b5 b6 b7 ok kd cl ck T3.heap (B0.ext O3.2) A0 hck _ _ kk (own_ka_o kk (K0.ext O3.2) hr).1 (own_ka_o kk (K0.ext O3.2) hr).2 (own_at_k A0 kk hr).1 (own_at_k A0 kk hr).2) e20 0 (by decide) (by decide) (by decide) (by decide) rfl pdF rfl (Nat.le_of_eq rfl) at_156 (pcF := 159) rfl ?_
              intro v21 T21 L21 X21 hQ21
              obtain ⟨rfl, rfl, e21⟩ := hQ21
              rw [List.append_nil] at X21
              show Go p e below _ _ (mkF m 159 _ [(.ref (own_ka kk b0 b1 b2 b3 b4 b5 b6))])
              refine Go.callV X21 hx hZ hby (by rw [hml]; rfl) (C := "com/example/liblocpath/liblocpath/tree/BoundNodeTest") (y := (⟨"com/example/liblocpath/liblocpath/tree/BoundNodeTest", "matchesEveryNode", "()Z"⟩ : MethodName)) hown (hw _ (List.mem_of_getElem? (i := 39) rfl)) (hw _ (List.mem_of_getElem? (i := 40) rfl)) (hw _ (List.mem_of_getElem? (i := 42) rfl)) (hw _ (List.mem_of_getElem? (i := 41) rfl)) (hw _ (List.mem_of_getElem? (i := 43) rfl)) (hw _ (List.mem_of_getElem? (i := 9) rfl)) (by decide) (b := (own_ka kk b0 b1 b2 b3 b4 b5 b6)) (argsL := []) (rest := []) (rmEr l Z w0 hw [] (own_ka kk b0 b1 b2 b3 b4 b5 b6) _ T3.heap (own_ka_b kk (B0.ext O3.2) hr).2) e21 (own_ka_b kk (B0.ext O3.2) hr).1 0 (by decide) (by decide) (by decide) (by decide) rfl pdE rfl (Nat.le_of_eq rfl) at_159 (pcF := 162) rfl ?_
              intro v22 T22 L22 X22 hQ22
              obtain ⟨rfl, rfl, e22⟩ := hQ22
              rw [List.append_nil] at X22
              show Go p e below _ _ (mkF m 162 _ [(.int (0 : Int32))])
              refine Go.ifc X22 hx hby at_162 (pcT := 169) (pcF := 165) (by decide) (by decide) rfl (fun q => absurd q (by decide)) (fun q => ?_)
              clear q
              show Go p e below _ _ (mkF m 165 _ [])
              refine Go.on (g' := (mkF m 166 _ [(.int (1 : Int32))])) (fun t_ k_ => XS.iconst X22.here hx rfl (hb hby at_165) k_) ?_
              refine Go.on (g' := (mkF m 170 _ [(.int (1 : Int32))])) (fun t_ k_ => XS.goto X22.here hx rfl (pc0 := 166) (pc' := 170) rfl (hb hby at_166) (by decide) (by decide) k_) ?_
              exact Go.retI X22 hx hlk hret hby at_170 rfl (by simp) (by decide) (by decide) ⟨rfl, N3⟩
        · show Go p e below _ _ (mkF m 40 #[.val (.int p0), .val (.int p1), .val (.int p2), .val (.int p3), .val (.int p4), .val (.int p5), .val .null, .val (.int ec), .val (.int nc), .unset, .unset, .unset, .unset, .unset] [(.int (p3 &&& (4 : Int32)))])
          refine Go.ifc X1 hx hby at_40 (pcT := 47) (pcF := 43) (by decide) (by decide) rfl (fun q => ?_) (fun q => ?_)
          · have q3 := iEq.1 q
            clear q
            show Go p e below _ _ (mkF m 47 _ [])
            refine Go.on (g' := (mkF m 48 _ [(.int (0 : Int32))])) (fun t_ k_ => XS.iconst X1.here hx rfl (hb hby at_47) k_) ?_
            exact J48 (0 : Int32) ⟨rfl, rfl⟩
          · have q3 := iEq.2 q
            clear q
            show Go p e below _ _ (mkF m 43 _ [])
            refine Go.on (g' := (mkF m 44 _ [(.int (1 : Int32))])) (fun t_ k_ => XS.iconst X1.here hx rfl (hb hby at_43) k_) ?_
            refine Go.on (g' := (mkF m 48 _ [(.int (1 : Int32))])) (fun t_ k_ => XS.goto X1.here hx rfl (pc0 := 44) (pc' := 48) rfl (hb hby at_44) (by decide) (by decide) k_) ?_
            exact J48 (1 : Int32) ⟨rfl, rfl⟩
      · show Go p e below _ _ (mkF m 26 #[.val (.int p0), .val (.int p1), .val (.int p2), .val (.int p3), .val (.int p4), .val (.int p5), .val .null, .val (.int ec), .unset, .unset, .unset, .unset, .unset, .unset] [(.int (p3 &&& (2 : Int32)))])
        refine Go.ifc X1 hx hby at_26 (pcT := 34) (pcF := 29) (by decide) (by decide) rfl (fun q => ?_) (fun q => ?_)
        · have q4 := iEq.1 q
          clear q
          show Go p e below _ _ (mkF m 34 _ [])
          refine Go.on (g' := (mkF m 35 _ [(.int p2)])) (fun t_ k_ => XS.iloadN X1.here hx rfl (hb hby at_34) rfl k_) ?_
          exact J35 p2 trivial
        · have q4 := iEq.2 q
          clear q
          show Go p e below _ _ (mkF m 29 _ [])
          refine Go.on (g' := (mkF m 31 _ [(.int ((-3) : Int32))])) (fun t_ k_ => XS.bipush X1.here hx rfl (hb hby at_29) k_) ?_
          refine Go.on (g' := (mkF m 35 _ [(.int ((-3) : Int32))])) (fun t_ k_ => XS.goto X1.here hx rfl (pc0 := 31) (pc' := 35) rfl (hb hby at_31) (by decide) (by decide) k_) ?_
          exact J35 ((-3) : Int32) trivial
    · show Go p e below _ _ (mkF m 12 #[.val (.int p0), .val (.int p1), .val (.int p2), .val (.int p3), .val (.int p4), .val (.int p5), .val .null, .unset, .unset, .unset, .unset, .unset, .unset, .unset] [(.int (p3 &&& (1 : Int32)))])
      refine Go.ifc X1 hx hby at_12 (pcT := 20) (pcF := 15) (by decide) (by decide) rfl (fun q => ?_) (fun q => ?_)
      · have q5 := iEq.1 q
        clear q
        show Go p e below _ _ (mkF m 20 _ [])
        refine Go.on (g' := (mkF m 21 _ [(.int p1)])) (fun t_ k_ => XS.iloadN X1.here hx rfl (hb hby at_20) rfl k_) ?_
        exact J21 p1 trivial
      · have q5 := iEq.2 q
        clear q
        show Go p e below _ _ (mkF m 15 _ [])
        refine Go.on (g' := (mkF m 17 _ [(.int ((-3) : Int32))])) (fun t_ k_ => XS.bipush X1.here hx rfl (hb hby at_15) k_) ?_
        refine Go.on (g' := (mkF m 21 _ [(.int ((-3) : Int32))])) (fun t_ k_ => XS.goto X1.here hx rfl (pc0 := 17) (pc' := 21) rfl (hb hby at_17) (by decide) (by decide) k_) ?_
        exact J21 ((-3) : Int32) trivial
  · show Go p e below _ _ (mkF m 7 #[.val (.int p0), .val (.int p1), .val (.int p2), .val (.int p3), .val (.int p4), .val (.int p5), .unset, .unset, .unset, .unset, .unset, .unset, .unset, .unset] [(.ref ka)])
    have hkd : own_Kd Z h0 (.ref ka) := Or.inr ⟨_, _, rfl, EK, FK⟩
    refine Go.on (g' := (mkF m 9 #[.val (.int p0), .val (.int p1), .val (.int p2), .val (.int p3), .val (.int p4), .val (.int p5), .val (.ref ka), .unset, .unset, .unset, .unset, .unset, .unset, .unset] [])) (fun t_ k_ => XS.astore X1.here hx rfl (hb hby at_7) rfl rfl (l' := #[.val (.int p0), .val (.int p1), .val (.int p2), .val (.int p3), .val (.int p4), .val (.int p5), .val (.ref ka), .unset, .unset, .unset, .unset, .unset, .unset, .unset]) rfl k_) ?_
    refine Go.on (g' := (mkF m 10 _ [(.int p3)])) (fun t_ k_ => XS.iloadN X1.here hx rfl (hb hby at_9) rfl k_) ?_
    refine Go.on (g' := (mkF m 11 _ [(.int (1 : Int32)), (.int p3)])) (fun t_ k_ => XS.iconst X1.here hx rfl (hb hby at_10) k_) ?_
    refine Go.on (g' := (mkF m 12 _ [(.int (p3 &&& (1 : Int32)))])) (fun t_ k_ => XS.iand X1.here hx rfl (hb hby at_11) rfl k_) ?_
    refine Go.join (P := fun ec : Int32 => True) (g := fun ec => (mkF m 21 #[.val (.int p0), .val (.int p1), .val (.int p2), .val (.int p3), .val (.int p4), .val (.int p5), .val (.ref ka), .unset, .unset, .unset, .unset, .unset, .unset, .unset] [(.int ec)])) (fun ec hec => ?_) (fun J21 => ?_)
    · show Go p e below _ _ (mkF m 21 #[.val (.int p0), .val (.int p1), .val (.int p2), .val (.int p3), .val (.int p4), .val (.int p5), .val (.ref ka), .unset, .unset, .unset, .unset, .unset, .unset, .unset] [(.int ec)])
      refine Go.on (g' := (mkF m 23 #[.val (.int p0), .val (.int p1), .val (.int p2), .val (.int p3), .val (.int p4), .val (.int p5), .val (.ref ka), .val (.int ec), .unset, .unset, .unset, .unset, .unset, .unset] [])) (fun t_ k_ => XS.istore X1.here hx rfl (hb hby at_21) rfl (l' := #[.val (.int p0), .val (.int p1), .val (.int p2), .val (.int p3), .val (.int p4), .val (.int p5), .val (.ref ka), .val (.int ec), .unset, .unset, .unset, .unset, .unset, .unset]) rfl k_) ?_
      refine Go.on (g' := (mkF m 24 _ [(.int p3)])) (fun t_ k_ => XS.iloadN X1.here hx rfl (hb hby at_23) rfl k_) ?_
      refine Go.on (g' := (mkF m 25 _ [(.int (2 : Int32)), (.int p3)])) (fun t_ k_ => XS.iconst X1.here hx rfl (hb hby at_24) k_) ?_
      refine Go.on (g' := (mkF m 26 _ [(.int (p3 &&& (2 : Int32)))])) (fun t_ k_ => XS.iand X1.here hx rfl (hb hby at_25) rfl k_) ?_
      refine Go.join (P := fun nc : Int32 => True) (g := fun nc => (mkF m 35 #[.val (.int p0), .val (.int p1), .val (.int p2), .val (.int p3), .val (.int p4), .val (.int p5), .val (.ref ka), .val (.int ec), .unset, .unset, .unset, .unset, .unset, .unset] [(.int nc)])) (fun nc hnc => ?_) (fun J35 => ?_)
      · show Go p e below _ _ (mkF m 35 #[.val (.int p0), .val (.int p1), .val (.int p2), .val (.int p3), .val (.int p4), .val (.int p5), .val (.ref ka), .val (.int ec), .unset, .unset, .unset, .unset, .unset, .unset] [(.int nc)])
        refine Go.on (g' := (mkF m 37 #[.val (.int p0), .val (.int p1), .val (.int p2), .val (.int p3), .val (.int p4), .val (.int p5), .val (.ref ka), .val (.int ec), .val (.int nc), .unset, .unset, .unset, .unset, .unset] [])) (fun t_ k_ => XS.istore X1.here hx rfl (hb hby at_35) rfl (l' := #[.val (.int p0), .val (.int p1), .val (.int p2), .val (.int p3), .val (.int p4), .val (.int p5), .val (.ref ka), .val (.int ec), .val (.int nc), .unset, .unset, .unset, .unset, .unset]) rfl k_) ?_
        refine Go.on (g' := (mkF m 38 _ [(.int p3)])) (fun t_ k_ => XS.iloadN X1.here hx rfl (hb hby at_37) rfl k_) ?_
        refine Go.on (g' := (mkF m 39 _ [(.int (4 : Int32)), (.int p3)])) (fun t_ k_ => XS.iconst X1.here hx rfl (hb hby at_38) k_) ?_
        refine Go.on (g' := (mkF m 40 _ [(.int (p3 &&& (4 : Int32)))])) (fun t_ k_ => XS.iand X1.here hx rfl (hb hby at_39) rfl k_) ?_
        refine Go.join (P := fun rd : Int32 => narrow .boolean (.int rd) = .int rd ∧ fits .boolean (.int rd) = true) (g := fun rd => (mkF m 48 #[.val (.int p0), .val (.int p1), .val (.int p2), .val (.int p3), .val (.int p4), .val (.int p5), .val (.ref ka), .val (.int ec), .val (.int nc), .unset, .unset, .unset, .unset, .unset] [(.int rd)])) (fun rd hrd => ?_) (fun J48 => ?_)
        · show Go p e below _ _ (mkF m 48 #[.val (.int p0), .val (.int p1), .val (.int p2), .val (.int p3), .val (.int p4), .val (.int p5), .val (.ref ka), .val (.int ec), .val (.int nc), .unset, .unset, .unset, .unset, .unset] [(.int rd)])
          refine Go.on (g' := (mkF m 50 #[.val (.int p0), .val (.int p1), .val (.int p2), .val (.int p3), .val (.int p4), .val (.int p5), .val (.ref ka), .val (.int ec), .val (.int nc), .val (.int rd), .unset, .unset, .unset, .unset] [])) (fun t_ k_ => XS.istore X1.here hx rfl (hb hby at_48) rfl (l' := #[.val (.int p0), .val (.int p1), .val (.int p2), .val (.int p3), .val (.int p4), .val (.int p5), .val (.ref ka), .val (.int ec), .val (.int nc), .val (.int rd), .unset, .unset, .unset, .unset]) rfl k_) ?_
          obtain ⟨T23, h23, X23, e23, E23, A23, D23, -, st23⟩ := newO X1 hx hZ hown (hw _ (List.mem_of_getElem? (i := 7) rfl)) (hw _ (List.mem_of_getElem? (i := 8) rfl)) (hw _ (List.mem_of_getElem? (i := 9) rfl)) e1 (g := (mkF m 50 #[.val (.int p0), .val (.int p1), .val (.int p2), .val (.int p3), .val (.int p4), .val (.int p5), .val (.ref ka), .val (.int ec), .val (.int nc), .val (.int rd), .unset, .unset, .unset, .unset] [])) rfl (hb hby at_50) (by decide) (by decide)
          obtain ⟨o23, go23⟩ : ∃ z, z = (h0).size := ⟨_, rfl⟩
          rw [← go23] at A23 D23 st23
          have no23 : n0 ≤ o23 := Nat.le_trans Z0 (Nat.le_of_eq go23.symm)
          have Z23 : n0 ≤ h23.size := Nat.le_trans Z0 E23.1
          have OLD_23 := O0.ext E23
          have fld_o23_kind_23 := D23 (Or.inr (hw _ (List.mem_of_getElem? (i := 17) rfl))) (ty := (.object "com/example/liblocpath/liblocpath/tree/NodeKind")) (by decide)
          have fld_o23_expandedNameCode_23 := D23 (Or.inr (hw _ (List.mem_of_getElem? (i := 19) rfl))) (ty := .int) (by decide)
          have fld_o23_namespaceCode_23 := D23 (Or.inr (hw _ (List.mem_of_getElem? (i := 21) rfl))) (ty := .int) (by decide)
          have fld_o23_names_23 := D23 (Or.inr (hw _ (List.mem_of_getElem? (i := 23) rfl))) (ty := (.object "com/example/liblocpath/liblocpath/tree/NameTable")) (by decide)
          have fld_o23_readsEachName_23 := D23 (Or.inr (hw _ (List.mem_of_getElem? (i := 25) rfl))) (ty := .boolean) (by decide)
          have fld_o23_kindOrdinal_23 := D23 (Or.inr (hw _ (List.mem_of_getElem? (i := 36) rfl))) (ty := .int) (by decide)
          have fld_o23_keepsAnyName_23 := D23 (Or.inr (hw _ (List.mem_of_getElem? (i := 38) rfl))) (ty := .boolean) (by decide)
          refine Go.on (g' := (mkF m 53 _ [(.ref o23)])) (st23) ?_
          have hkd_cur := hkd.ext E23
          refine Go.on (g' := (mkF m 54 _ [(.ref o23), (.ref o23)])) (fun t_ k_ => XS.dup X23.here hx rfl (hb hby at_53) rfl rfl k_) ?_
          refine Go.on (g' := (mkF m 56 _ [(.ref ka), (.ref o23), (.ref o23)])) (fun t_ k_ => XS.aload X23.here hx rfl (hb hby at_54) rfl rfl k_) ?_
          refine Go.on (g' := (mkF m 58 _ [(.int ec), (.ref ka), (.ref o23), (.ref o23)])) (fun t_ k_ => XS.iload X23.here hx rfl (hb hby at_56) rfl k_) ?_
          refine Go.on (g' := (mkF m 60 _ [(.int nc), (.int ec), (.ref ka), (.ref o23), (.ref o23)])) (fun t_ k_ => XS.iload X23.here hx rfl (hb hby at_58) rfl k_) ?_
          refine Go.on (g' := (mkF m 61 _ [.null, (.int nc), (.int ec), (.ref ka), (.ref o23), (.ref o23)])) (fun t_ k_ => XS.aconstNull X23.here hx rfl (hb hby at_60) k_) ?_
          refine Go.on (g' := (mkF m 63 _ [(.int rd), .null, (.int nc), (.int ec), (.ref ka), (.ref o23), (.ref o23)])) (fun t_ k_ => XS.iload X23.here hx rfl (hb hby at_61) rfl k_) ?_
          refine Go.callI X23 hx hZ hby (by rw [hml]; rfl) (y := (⟨"com/example/liblocpath/liblocpath/tree/BoundNodeTest", "<init>", "(Lcom/example/liblocpath/liblocpath/tree/NodeKind;IILcom/example/liblocpath/liblocpath/tree/NameTable;Z)V"⟩ : MethodName)) rfl hown (hw _ (List.mem_of_getElem? (i := 10) rfl)) (hw _ (List.mem_of_getElem? (i := 11) rfl)) (hw _ (List.mem_of_getElem? (i := 12) rfl)) (hw _ (List.mem_of_getElem? (i := 9) rfl)) (by decide) (b := o23) (argsL := [(.ref ka), (.int ec), (.int nc), .null, (.int rd)]) (rest := [(.ref o23)]) (rmI l Z w0 hw [] o23 (.ref ka) ec nc rd h23 n0 Z23 no23 A23 fld_o23_kind_23 fld_o23_expandedNameCode_23 fld_o23_namespaceCode_23 fld_o23_names_23 fld_o23_readsEachName_23 fld_o23_kindOrdinal_23 fld_o23_keepsAnyName_23 hrd.1 hrd.2 hkd_cur) e23 1 (by decide) (by decide) (by decide) (by decide) rfl pdI rfl (Nat.le_of_eq rfl) at_63 (pcF := 66) rfl ?_
          intro v24 T24 L24 X24 hQ24
          obtain ⟨rfl, M24, K24, E24, FA24, FB24, FC24, FR24⟩ := hQ24
          have N24 := Fr.app N0 M24
          have Z24 : n0 ≤ T24.heap.size := Nat.le_trans Z23 K24.1
          have O24 := OLD_23.keep K24 (allS no23 all0)
          have e24 : T24.heap = T24.heap := rfl
          show Go p e below _ _ (mkF m 66 _ [(.ref o23)])
          refine Go.on (g' := (mkF m 68 #[.val (.int p0), .val (.int p1), .val (.int p2), .val (.int p3), .val (.int p4), .val (.int p5), .val (.ref ka), .val (.int ec), .val (.int nc), .val (.int rd), .val (.ref o23), .unset, .unset, .unset] [])) (fun t_ k_ => XS.astore X24.here hx rfl (hb hby at_66) rfl rfl (l' := #[.val (.int p0), .val (.int p1), .val (.int p2), .val (.int p3), .val (.int p4), .val (.int p5), .val (.ref ka), .val (.int ec), .val (.int nc), .val (.int rd), .val (.ref o23), .unset, .unset, .unset]) rfl k_) ?_
          refine Go.on (g' := (mkF m 70 _ [(.ref ka)])) (fun t_ k_ => XS.aload X24.here hx rfl (hb hby at_68) rfl rfl k_) ?_
          refine Go.on (g' := (mkF m 91 _ [])) (fun t_ k_ => XT.ifnonnullYes X24.here hx rfl (pc0 := 70) (pc' := 91) rfl (hb hby at_70) rfl (by decide) (by decide) k_) ?_
          refine Go.on (g' := (mkF m 92 _ [(.int (0 : Int32))])) (fun t_ k_ => XS.iconst X24.here hx rfl (hb hby at_91) k_) ?_
          refine Go.on (g' := (mkF m 94 #[.val (.int p0), .val (.int p1), .val (.int p2), .val (.int p3), .val (.int p4), .val (.int p5), .val (.ref ka), .val (.int ec), .val (.int nc), .val (.int rd), .val (.ref o23), .val (.int (0 : Int32)), .unset, .unset] [])) (fun t_ k_ => XS.istore X24.here hx rfl (hb hby at_92) rfl (l' := #[.val (.int p0), .val (.int p1), .val (.int p2), .val (.int p3), .val (.int p4), .val (.int p5), .val (.ref ka), .val (.int ec), .val (.int nc), .val (.int rd), .val (.ref o23), .val (.int (0 : Int32)), .unset, .unset]) rfl k_) ?_
          refine Go.on (g' := (mkF m 96 _ [(.ref o23)])) (fun t_ k_ => XS.aload X24.here hx rfl (hb hby at_94) rfl rfl k_) ?_
          refine Go.callV X24 hx hZ hby (by rw [hml]; rfl) (C := "com/example/liblocpath/liblocpath/tree/BoundNodeTest") (y := (⟨"com/example/liblocpath/liblocpath/tree/BoundNodeTest", "matchesEveryNode", "()Z"⟩ : MethodName)) hown (hw _ (List.mem_of_getElem? (i := 39) rfl)) (hw _ (List.mem_of_getElem? (i := 40) rfl)) (hw _ (List.mem_of_getElem? (i := 42) rfl)) (hw _ (List.mem_of_getElem? (i := 41) rfl)) (hw _ (List.mem_of_getElem? (i := 43) rfl)) (hw _ (List.mem_of_getElem? (i := 9) rfl)) (by decide) (b := o23) (argsL := []) (rest := []) (rmEr l Z w0 hw [] o23 ka T24.heap FA24) e24 E24 0 (by decide) (by decide) (by decide) (by decide) rfl pdE rfl (Nat.le_of_eq rfl) at_96 (pcF := 99) rfl ?_
          intro v25 T25 L25 X25 hQ25
          obtain ⟨rfl, rfl, e25⟩ := hQ25
          rw [List.append_nil] at X25
          show Go p e below _ _ (mkF m 99 _ [(.int (0 : Int32))])
          refine Go.on (g' := (mkF m 101 #[.val (.int p0), .val (.int p1), .val (.int p2), .val (.int p3), .val (.int p4), .val (.int p5), .val (.ref ka), .val (.int ec), .val (.int nc), .val (.int rd), .val (.ref o23), .val (.int (0 : Int32)), .val (.int (0 : Int32)), .unset] [])) (fun t_ k_ => XS.istore X25.here hx rfl (hb hby at_99) rfl (l' := #[.val (.int p0), .val (.int p1), .val (.int p2), .val (.int p3), .val (.int p4), .val (.int p5), .val (.ref ka), .val (.int ec), .val (.int nc), .val (.int rd), .val (.ref o23), .val (.int (0 : Int32)), .val (.int (0 : Int32)), .unset]) rfl k_) ?_
          refine Go.on (g' := (mkF m 103 _ [(.int (0 : Int32))])) (fun t_ k_ => XS.iload X25.here hx rfl (hb hby at_101) rfl k_) ?_
          refine Go.on (g' := (mkF m 105 _ [(.int (0 : Int32)), (.int (0 : Int32))])) (fun t_ k_ => XS.iload X25.here hx rfl (hb hby at_103) rfl k_) ?_
          refine Go.icmp X25 hx hby at_105 (pcT := 110) (pcF := 108) (by decide) (by decide) rfl (fun q => ?_) (fun q => absurd q (by decide))
          clear q
          show Go p e below _ _ (mkF m 110 _ [])
          refine Go.on (g' := (mkF m 112 _ [(.int p4)])) (fun t_ k_ => XS.iload X25.here hx rfl (hb hby at_110) rfl k_) ?_
          refine Go.on (g' := (mkF m 114 _ [(.int (2147483647 : Int32)), (.int p4)])) (X25.ldcInt hx hown (mvT hZ (hw _ (List.mem_of_getElem? (i := 44) rfl))) (g := (mkF m 112 #[.val (.int p0), .val (.int p1), .val (.int p2), .val (.int p3), .val (.int p4), .val (.int p5), .val (.ref ka), .val (.int ec), .val (.int nc), .val (.int rd), .val (.ref o23), .val (.int (0 : Int32)), .val (.int (0 : Int32)), .unset] [(.int p4)])) rfl (hb hby at_112)) ?_
          refine Go.on (g' := (mkF m 115 _ [(.int (p4 &&& (2147483647 : Int32)))])) (fun t_ k_ => XS.iand X25.here hx rfl (hb hby at_114) rfl k_) ?_
          refine Go.on (g' := (mkF m 117 _ [(.int (7 : Int32)), (.int (p4 &&& (2147483647 : Int32)))])) (fun t_ k_ => XS.bipush X25.here hx rfl (hb hby at_115) k_) ?_
          refine Go.on (g' := (mkF m 118 _ [(.int ((p4 &&& (2147483647 : Int32)) % (7 : Int32)))])) (fun t_ k_ => iremM X25 hx rfl (hb hby at_117) rfl (by decide) k_) ?_
          have hr := own_range p4
          obtain ⟨kk, hkk⟩ : ∃ z : Int32, z = ((p4 &&& (2147483647 : Int32)) % (7 : Int32)) := ⟨_, rfl⟩
          rw [← hkk] at hr ⊢
          refine Go.callS X25 hx hZ hby (by rw [hml]; rfl) (y := (⟨"com/example/liblocpath/liblocpath/tree/BoundNodeTestMatchesEveryNodePinLaw", "kindOf", "(I)Lcom/example/liblocpath/liblocpath/tree/NodeKind;"⟩ : MethodName)) hown (hw _ (List.mem_of_getElem? (i := 0) rfl)) (hw _ (List.mem_of_getElem? (i := 1) rfl)) (hw _ (List.mem_of_getElem? (i := 2) rfl)) (hw _ (List.mem_of_getElem? (i := 3) rfl)) (by decide) (argsL := [(.int kk)]) (rest := []) (rmK l Z w0 hw [] kk a0 a1 a2 a3 a4 a5 a6 T24.heap (K0.ext O24.2)) e25 0 (by decide) (by decide) (by decide) (by decide) rfl pdK rfl (Nat.le_of_eq rfl) at_118 (pcF := 121) rfl ?_
          intro v26 T26 L26 X26 hQ26
          obtain ⟨rfl, rfl, e26⟩ := hQ26
          rw [List.append_nil] at X26
          rw [own_kind_a kk a0 a1 a2 a3 a4 a5 a6 hr]
          show Go p e below _ _ (mkF m 121 _ [(.ref (own_ka kk a0 a1 a2 a3 a4 a5 a6))])
          refine Go.on (g' := (mkF m 123 #[.val (.int p0), .val (.int p1), .val (.int p2), .val (.int p3), .val (.int p4), .val (.int p5), .val (.ref ka), .val (.int ec), .val (.int nc), .val (.int rd), .val (.ref o23), .val (.int (0 : Int32)), .val (.int (0 : Int32)), .val (.ref (own_ka kk a0 a1 a2 a3 a4 a5 a6))] [])) (fun t_ k_ => XS.astore X26.here hx rfl (hb hby at_121) rfl rfl (l' := #[.val (.int p0), .val (.int p1), .val (.int p2), .val (.int p3), .val (.int p4), .val (.int p5), .val (.ref ka), .val (.int ec), .val (.int nc), .val (.int rd), .val (.ref o23), .val (.int (0 : Int32)), .val (.int (0 : Int32)), .val (.ref (own_ka kk a0 a1 a2 a3 a4 a5 a6))]) rfl k_) ?_
          refine Go.on (g' := (mkF m 125 _ [(.int (0 : Int32))])) (fun t_ k_ => XS.iload X26.here hx rfl (hb hby at_123) rfl k_) ?_
          refine Go.ifc X26 hx hby at_125 (pcT := 142) (pcF := 128) (by decide) (by decide) rfl (fun q => ?_) (fun q => absurd q (by decide))
          clear q
          show Go p e below _ _ (mkF m 142 _ [])
          refine Go.on (g' := (mkF m 143 _ [.null])) (fun t_ k_ => XS.aconstNull X26.here hx rfl (hb hby at_142) k_) ?_
          refine Go.callS X26 hx hZ hby (by rw [hml]; rfl) (y := (⟨"com/example/liblocpath/liblocpath/tree/BoundNodeTest", "ofKind", "(Lcom/example/liblocpath/liblocpath/tree/NodeKind;)Lcom/example/liblocpath/liblocpath/tree/BoundNodeTest;"⟩ : MethodName)) hown (hw _ (List.mem_of_getElem? (i := 45) rfl)) (hw _ (List.mem_of_getElem? (i := 46) rfl)) (hw _ (List.mem_of_getElem? (i := 9) rfl)) (hw _ (List.mem_of_getElem? (i := 47) rfl)) (by decide) (argsL := [.null]) (rest := []) (rmFn l Z w0 hw [] a0 a1 a2 a3 a4 a5 a6 b0 b1 b2 b3 b4 b5 b6 b7 ok kd cl ck T24.heap (B0.ext O24.2) A0 hck) e26 0 (by decide) (by decide) (by decide) (by decide) rfl pdF rfl (Nat.le_of_eq rfl) at_143 (pcF := 146) rfl ?_
          intro v27 T27 L27 X27 hQ27
          obtain ⟨rfl, rfl, e27⟩ := hQ27
          rw [List.append_nil] at X27
          show Go p e below _ _ (mkF m 146 _ [(.ref b7)])
          refine Go.callV X27 hx hZ hby (by rw [hml]; rfl) (C := "com/example/liblocpath/liblocpath/tree/BoundNodeTest") (y := (⟨"com/example/liblocpath/liblocpath/tree/BoundNodeTest", "matchesEveryNode", "()Z"⟩ : MethodName)) hown (hw _ (List.mem_of_getElem? (i := 39) rfl)) (hw _ (List.mem_of_getElem? (i := 40) rfl)) (hw _ (List.mem_of_getElem? (i := 42) rfl)) (hw _ (List.mem_of_getElem? (i := 41) rfl)) (hw _ (List.mem_of_getElem? (i := 43) rfl)) (hw _ (List.mem_of_getElem? (i := 9) rfl)) (by decide) (b := b7) (argsL := []) (rest := []) (rmEn l Z w0 hw [] b7 ((-3) : Int32) ((-3) : Int32) T24.heap (B0.ext O24.2).k7 (B0.ext O24.2).x7 (B0.ext O24.2).y7) e27 (B0.ext O24.2).e7 0 (by decide) (by decide) (by decide) (by decide) rfl pdE rfl (Nat.le_of_eq rfl) at_146 (pcF := 149) rfl ?_
          intro v28 T28 L28 X28 hQ28
          obtain ⟨rfl, rfl, e28⟩ := hQ28
          rw [List.append_nil] at X28
          show Go p e below _ _ (mkF m 149 _ [(.int (1 : Int32))])
          refine Go.ifc X28 hx hby at_149 (pcT := 154) (pcF := 152) (by decide) (by decide) rfl (fun q => ?_) (fun q => absurd q (by decide))
          clear q
          show Go p e below _ _ (mkF m 154 _ [])
          refine Go.on (g' := (mkF m 156 _ [(.ref (own_ka kk a0 a1 a2 a3 a4 a5 a6))])) (fun t_ k_ => XS.aload X28.here hx rfl (hb hby at_154) rfl rfl k_) ?_
          refine Go.callS X28 hx hZ hby (by rw [hml]; rfl) (y := (⟨"com/example/liblocpath/liblocpath/tree/BoundNodeTest", "ofKind", "(Lcom/example/liblocpath/liblocpath/tree/NodeKind;)Lcom/example/liblocpath/liblocpath/tree/BoundNodeTest;"⟩ : MethodName)) hown (hw _ (List.mem_of_getElem? (i := 45) rfl)) (hw _ (List.mem_of_getElem? (i := 46) rfl)) (hw _ (List.mem_of_getElem? (i := 9) rfl)) (hw _ (List.mem_of_getElem? (i := 47) rfl)) (by decide) (argsL := [(.ref (own_ka kk a0 a1 a2 a3 a4 a5 a6))]) (rest := []) (rmFr l Z w0 hw [] a0 a1 a2 a3 a4 a5 a6 b0 b1 b2 b3 b4 b5 b6 b7 ok kd cl ck T24.heap (B0.ext O24.2) A0 hck _ _ kk (own_ka_o kk (K0.ext O24.2) hr).1 (own_ka_o kk (K0.ext O24.2) hr).2 (own_at_k A0 kk hr).1 (own_at_k A0 kk hr).2) e28 0 (by decide) (by decide) (by decide) (by decide) rfl pdF rfl (Nat.le_of_eq rfl) at_156 (pcF := 159) rfl ?_
          intro v29 T29 L29 X29 hQ29
          obtain ⟨rfl, rfl, e29⟩ := hQ29
          rw [List.append_nil] at X29
          show Go p e below _ _ (mkF m 159 _ [(.ref (own_ka kk b0 b1 b2 b3 b4 b5 b6))])
          refine Go.callV X29 hx hZ hby (by rw [hml]; rfl) (C := "com/example/liblocpath/liblocpath/tree/BoundNodeTest") (y := (⟨"com/example/liblocpath/liblocpath/tree/BoundNodeTest", "matchesEveryNode", "()Z"⟩ : MethodName)) hown (hw _ (List.mem_of_getElem? (i := 39) rfl)) (hw _ (List.mem_of_getElem? (i := 40) rfl)) (hw _ (List.mem_of_getElem? (i := 42) rfl)) (hw _ (List.mem_of_getElem? (i := 41) rfl)) (hw _ (List.mem_of_getElem? (i := 43) rfl)) (hw _ (List.mem_of_getElem? (i := 9) rfl)) (by decide) (b := (own_ka kk b0 b1 b2 b3 b4 b5 b6)) (argsL := []) (rest := []) (rmEr l Z w0 hw [] (own_ka kk b0 b1 b2 b3 b4 b5 b6) _ T24.heap (own_ka_b kk (B0.ext O24.2) hr).2) e29 (own_ka_b kk (B0.ext O24.2) hr).1 0 (by decide) (by decide) (by decide) (by decide) rfl pdE rfl (Nat.le_of_eq rfl) at_159 (pcF := 162) rfl ?_
          intro v30 T30 L30 X30 hQ30
          obtain ⟨rfl, rfl, e30⟩ := hQ30
          rw [List.append_nil] at X30
          show Go p e below _ _ (mkF m 162 _ [(.int (0 : Int32))])
          refine Go.ifc X30 hx hby at_162 (pcT := 169) (pcF := 165) (by decide) (by decide) rfl (fun q => absurd q (by decide)) (fun q => ?_)
          clear q
          show Go p e below _ _ (mkF m 165 _ [])
          refine Go.on (g' := (mkF m 166 _ [(.int (1 : Int32))])) (fun t_ k_ => XS.iconst X30.here hx rfl (hb hby at_165) k_) ?_
          refine Go.on (g' := (mkF m 170 _ [(.int (1 : Int32))])) (fun t_ k_ => XS.goto X30.here hx rfl (pc0 := 166) (pc' := 170) rfl (hb hby at_166) (by decide) (by decide) k_) ?_
          exact Go.retI X30 hx hlk hret hby at_170 rfl (by simp) (by decide) (by decide) ⟨rfl, N24⟩
        · show Go p e below _ _ (mkF m 40 #[.val (.int p0), .val (.int p1), .val (.int p2), .val (.int p3), .val (.int p4), .val (.int p5), .val (.ref ka), .val (.int ec), .val (.int nc), .unset, .unset, .unset, .unset, .unset] [(.int (p3 &&& (4 : Int32)))])
          refine Go.ifc X1 hx hby at_40 (pcT := 47) (pcF := 43) (by decide) (by decide) rfl (fun q => ?_) (fun q => ?_)
          · have q6 := iEq.1 q
            clear q
            show Go p e below _ _ (mkF m 47 _ [])
            refine Go.on (g' := (mkF m 48 _ [(.int (0 : Int32))])) (fun t_ k_ => XS.iconst X1.here hx rfl (hb hby at_47) k_) ?_
            exact J48 (0 : Int32) ⟨rfl, rfl⟩
          · have q6 := iEq.2 q
            clear q
            show Go p e below _ _ (mkF m 43 _ [])
            refine Go.on (g' := (mkF m 44 _ [(.int (1 : Int32))])) (fun t_ k_ => XS.iconst X1.here hx rfl (hb hby at_43) k_) ?_
            refine Go.on (g' := (mkF m 48 _ [(.int (1 : Int32))])) (fun t_ k_ => XS.goto X1.here hx rfl (pc0 := 44) (pc' := 48) rfl (hb hby at_44) (by decide) (by decide) k_) ?_
            exact J48 (1 : Int32) ⟨rfl, rfl⟩
      · show Go p e below _ _ (mkF m 26 #[.val (.int p0), .val (.int p1), .val (.int p2), .val (.int p3), .val (.int p4), .val (.int p5), .val (.ref ka), .val (.int ec), .unset, .unset, .unset, .unset, .unset, .unset] [(.int (p3 &&& (2 : Int32)))])
        refine Go.ifc X1 hx hby at_26 (pcT := 34) (pcF := 29) (by decide) (by decide) rfl (fun q => ?_) (fun q => ?_)
        · have q7 := iEq.1 q
          clear q
          show Go p e below _ _ (mkF m 34 _ [])
          refine Go.on (g' := (mkF m 35 _ [(.int p2)])) (fun t_ k_ => XS.iloadN X1.here hx rfl (hb hby at_34) rfl k_) ?_
          exact J35 p2 trivial
        · have q7 := iEq.2 q
          clear q
          show Go p e below _ _ (mkF m 29 _ [])
          refine Go.on (g' := (mkF m 31 _ [(.int ((-3) : Int32))])) (fun t_ k_ => XS.bipush X1.here hx rfl (hb hby at_29) k_) ?_
          refine Go.on (g' := (mkF m 35 _ [(.int ((-3) : Int32))])) (fun t_ k_ => XS.goto X1.here hx rfl (pc0 := 31) (pc' := 35) rfl (hb hby at_31) (by decide) (by decide) k_) ?_
          exact J35 ((-3) : Int32) trivial
    · show Go p e below _ _ (mkF m 12 #[.val (.int p0), .val (.int p1), .val (.int p2), .val (.int p3), .val (.int p4), .val (.int p5), .val (.ref ka), .unset, .unset, .unset, .unset, .unset, .unset, .unset] [(.int (p3 &&& (1 : Int32)))])
      refine Go.ifc X1 hx hby at_12 (pcT := 20) (pcF := 15) (by decide) (by decide) rfl (fun q => ?_) (fun q => ?_)
      · have q8 := iEq.1 q
        clear q
        show Go p e below _ _ (mkF m 20 _ [])
        refine Go.on (g' := (mkF m 21 _ [(.int p1)])) (fun t_ k_ => XS.iloadN X1.here hx rfl (hb hby at_20) rfl k_) ?_
        exact J21 p1 trivial
      · have q8 := iEq.2 q
        clear q
        show Go p e below _ _ (mkF m 15 _ [])
        refine Go.on (g' := (mkF m 17 _ [(.int ((-3) : Int32))])) (fun t_ k_ => XS.bipush X1.here hx rfl (hb hby at_15) k_) ?_
        refine Go.on (g' := (mkF m 21 _ [(.int ((-3) : Int32))])) (fun t_ k_ => XS.goto X1.here hx rfl (pc0 := 17) (pc' := 21) rfl (hb hby at_17) (by decide) (by decide) k_) ?_
        exact J21 ((-3) : Int32) trivial
theorem own_len {s : State} {args : Array Value} {t : Term} {a : Addr} {c : Cell} {ty : FieldType} {n : Int32} (ev : t.eval args s none [] s = some (.ref a)) (A : Arr s s.heap a c ty) (h : (Term.length t).eval args s none [] s = some (.int n)) : c.slots.size.toInt32 = n := by
  obtain ⟨b, cell, e1, e2, e3⟩ := Term.length_spec h
  cases e1.symm.trans ev
  have q := Arr.fin (Vm.Alike.refl _) A
  cases e2.symm.trans q
  exact (Value.int.inj e3).symm
set_option maxRecDepth 65536 in
set_option maxHeartbeats 40000000 in
theorem comes_1 {Post : Tables → Env → Array Value → State → Outcome → State → Prop} (hpost : ∀ tb e args s v u, (limb_1_1.after args s (.returned v) u = true ∧ limb_1_2.after args s (.returned v) u = true ∧ True) → FrameEnd s (.returned v) u (Jvm.fieldLocs frame_1_writes args s ++ Jvm.arrayLocs frame_1_arrays args s ++ Jvm.staticLocs frame_1_statics s) 16 128 → Post tb e args s (.returned v) u) :
    ArmFor flags0 classFile x code maxLocals ret World_1 tables_1 room_1 Calls_1 rest_1 Pre_1 Post := by
  intro l hfl _ _ p e ha hc hk s m args below hf hA hF happ hP
  obtain ⟨hcalls, hrest, hpre⟩ := hP
  obtain ⟨-, -, -, hnamed, -, -, -, hat⟩ := (Spec.applies_iff hf).mp happ
  obtain ⟨hg, hn⟩ := and_e (Cond.before_iff.mp (show (Jvm.Cond.and given_1 narrow_1).before args s = true from hpre))
  obtain ⟨hcount, hg⟩ := and_e hg
  obtain ⟨g0, hg⟩ := and_e hg
  obtain ⟨g1, hg⟩ := and_e hg
  obtain ⟨g2, hg⟩ := and_e hg
  obtain ⟨g3, hg⟩ := and_e hg
  obtain ⟨g4, hg⟩ := and_e hg
  have g5 := hg
  obtain ⟨w0, w1, w2, w3, w4, w5, rfl⟩ : ∃ w0 w1 w2 w3 w4 w5 : Value, args = #[w0, w1, w2, w3, w4, w5] := by
    have hs : args.size = 6 := by simpa [Cond.value, given_1] using hcount
    obtain ⟨L⟩ := args
    match L, hs with
    | [w0, w1, w2, w3, w4, w5], _ => exact ⟨w0, w1, w2, w3, w4, w5, rfl⟩
  have hw := fun d (hd : d ∈ tables_1) => atoms_spec (ws := Jvm.Cond.code x code maxLocals ret :: tables_1) hat d (List.mem_cons_of_mem _ hd)
  have hfit : Fit s := fun {y c} hc i hi => by
    obtain ⟨ha, rfl⟩ := Array.getElem?_eq_some_iff.mp hc
    have q := List.all_eq_true.mp ((Array.all_eq_true_iff_forall_mem.mp hF) _ (Array.getElem_mem ha)) i (List.mem_range.mpr hi)
    simpa [Array.getElem?_eq_getElem hi] using q
  obtain ⟨i0, ev0⟩ := is_v g0
  obtain rfl : w0 = (.int i0) := Option.some.inj ev0
  obtain ⟨i1, ev1⟩ := is_v g1
  obtain rfl : w1 = (.int i1) := Option.some.inj ev1
  obtain ⟨i2, ev2⟩ := is_v g2
  obtain rfl : w2 = (.int i2) := Option.some.inj ev2
  obtain ⟨i3, ev3⟩ := is_v g3
  obtain rfl : w3 = (.int i3) := Option.some.inj ev3
  obtain ⟨i4, ev4⟩ := is_v g4
  obtain rfl : w4 = (.int i4) := Option.some.inj ev4
  obtain ⟨i5, ev5⟩ := is_v g5
  obtain rfl : w5 = (.int i5) := Option.some.inj ev5
  obtain ⟨z0, hn⟩ := and_e hn
  obtain ⟨z1, hn⟩ := and_e hn
  obtain ⟨z2, hn⟩ := and_e hn
  obtain ⟨z3, hn⟩ := and_e hn
  obtain ⟨z4, hn⟩ := and_e hn
  obtain ⟨z5, hn⟩ := and_e hn
  obtain ⟨z6, hn⟩ := and_e hn
  obtain ⟨z7, hn⟩ := and_e hn
  obtain ⟨z8, hn⟩ := and_e hn
  obtain ⟨z9, hn⟩ := and_e hn
  obtain ⟨z10, hn⟩ := and_e hn
  obtain ⟨z11, hn⟩ := and_e hn
  obtain ⟨z12, hn⟩ := and_e hn
  obtain ⟨z13, hn⟩ := and_e hn
  obtain ⟨z14, hn⟩ := and_e hn
  obtain ⟨z15, hn⟩ := and_e hn
  obtain ⟨z16, hn⟩ := and_e hn
  obtain ⟨z17, hn⟩ := and_e hn
  obtain ⟨z18, hn⟩ := and_e hn
  obtain ⟨z19, hn⟩ := and_e hn
  obtain ⟨z20, hn⟩ := and_e hn
  obtain ⟨z21, hn⟩ := and_e hn
  obtain ⟨z22, hn⟩ := and_e hn
  obtain ⟨z23, hn⟩ := and_e hn
  obtain ⟨z24, hn⟩ := and_e hn
  obtain ⟨z25, hn⟩ := and_e hn
  obtain ⟨z26, hn⟩ := and_e hn
  obtain ⟨z27, hn⟩ := and_e hn
  obtain ⟨z28, hn⟩ := and_e hn
  obtain ⟨z29, hn⟩ := and_e hn
  obtain ⟨z30, hn⟩ := and_e hn
  obtain ⟨z31, hn⟩ := and_e hn
  obtain ⟨z32, hn⟩ := and_e hn
  obtain ⟨z33, hn⟩ := and_e hn
  obtain ⟨z34, hn⟩ := and_e hn
  obtain ⟨z35, hn⟩ := and_e hn
  obtain ⟨z36, hn⟩ := and_e hn
  obtain ⟨z37, hn⟩ := and_e hn
  obtain ⟨z38, hn⟩ := and_e hn
  obtain ⟨z39, hn⟩ := and_e hn
  obtain ⟨z40, hn⟩ := and_e hn
  obtain ⟨z41, hn⟩ := and_e hn
  obtain ⟨z42, hn⟩ := and_e hn
  obtain ⟨z43, hn⟩ := and_e hn
  obtain ⟨z44, hn⟩ := and_e hn
  obtain ⟨z45, hn⟩ := and_e hn
  obtain ⟨z46, hn⟩ := and_e hn
  obtain ⟨z47, hn⟩ := and_e hn
  obtain ⟨z48, hn⟩ := and_e hn
  have z49 := hn
  obtain ⟨a0, va0⟩ := exa_v z0
  have Sa0 := Sta.start va0 (Or.inr ⟨(hw _ (List.mem_of_getElem? (i := 5) rfl)), (hw _ (List.mem_of_getElem? (i := 6) rfl))⟩)
  have Ea0 := Exa.start va0 z0
  have Oa0 := fldInt va0 z1
  obtain ⟨a1, va1⟩ := exa_v z14
  have Sa1 := Sta.start va1 (Or.inr ⟨(hw _ (List.mem_of_getElem? (i := 5) rfl)), (hw _ (List.mem_of_getElem? (i := 55) rfl))⟩)
  have Ea1 := Exa.start va1 z14
  have Oa1 := fldInt va1 z15
  obtain ⟨a2, va2⟩ := exa_v z22
  have Sa2 := Sta.start va2 (Or.inr ⟨(hw _ (List.mem_of_getElem? (i := 5) rfl)), (hw _ (List.mem_of_getElem? (i := 59) rfl))⟩)
  have Ea2 := Exa.start va2 z22
  have Oa2 := fldInt va2 z23
  obtain ⟨a3, va3⟩ := exa_v z26
  have Sa3 := Sta.start va3 (Or.inr ⟨(hw _ (List.mem_of_getElem? (i := 5) rfl)), (hw _ (List.mem_of_getElem? (i := 61) rfl))⟩)
  have Ea3 := Exa.start va3 z26
  have Oa3 := fldInt va3 z27
  obtain ⟨a4, va4⟩ := exa_v z12
  have Sa4 := Sta.start va4 (Or.inr ⟨(hw _ (List.mem_of_getElem? (i := 5) rfl)), (hw _ (List.mem_of_getElem? (i := 53) rfl))⟩)
  have Ea4 := Exa.start va4 z12
  have Oa4 := fldInt va4 z13
  obtain ⟨a5, va5⟩ := exa_v z18
  have Sa5 := Sta.start va5 (Or.inr ⟨(hw _ (List.mem_of_getElem? (i := 5) rfl)), (hw _ (List.mem_of_getElem? (i := 57) rfl))⟩)
  have Ea5 := Exa.start va5 z18
  have Oa5 := fldInt va5 z19
  obtain ⟨a6, va6⟩ := exa_v z30
  have Sa6 := Sta.start va6 (Or.inr ⟨(hw _ (List.mem_of_getElem? (i := 5) rfl)), (hw _ (List.mem_of_getElem? (i := 63) rfl))⟩)
  have Ea6 := Exa.start va6 z30
  have Oa6 := fldInt va6 z31
  have K : own_K s s.heap a0 a1 a2 a3 a4 a5 a6 := ⟨Sa0, Ea0, Oa0, Sa1, Ea1, Oa1, Sa2, Ea2, Oa2, Sa3, Ea3, Oa3, Sa4, Ea4, Oa4, Sa5, Ea5, Oa5, Sa6, Ea6, Oa6⟩
  obtain ⟨ok, vok⟩ := arr_v z2
  have Sok := Sta.start vok (Or.inr ⟨(hw _ (List.mem_of_getElem? (i := 9) rfl)), (hw _ (List.mem_of_getElem? (i := 49) rfl))⟩)
  obtain ⟨cl, Aok⟩ := Arr.start vok z2
  have lok : cl.slots.size.toInt32 = 8 := own_len vok Aok (eqInt z3)
  obtain ⟨kd, vkd⟩ := arr_v z4
  have Skd := Sta.start vkd (Or.inr ⟨(hw _ (List.mem_of_getElem? (i := 9) rfl)), (hw _ (List.mem_of_getElem? (i := 51) rfl))⟩)
  obtain ⟨ck, Akd⟩ := Arr.start vkd z4
  have lkd : ck.slots.size.toInt32 = 7 := own_len vkd Akd (eqInt z5)
  obtain ⟨b0, vb0⟩ := exa_v z10
  have Eb0 := Exa.start vb0 z10
  have qb0 := elem_in vb0 vok (Term.int_eval _) Aok.1
  have kb0 := fldRef vb0 va0 z11
  obtain ⟨b1, vb1⟩ := exa_v z16
  have Eb1 := Exa.start vb1 z16
  have qb1 := elem_in vb1 vok (Term.int_eval _) Aok.1
  have kb1 := fldRef vb1 va1 z17
  obtain ⟨b2, vb2⟩ := exa_v z24
  have Eb2 := Exa.start vb2 z24
  have qb2 := elem_in vb2 vok (Term.int_eval _) Aok.1
  have kb2 := fldRef vb2 va2 z25
  obtain ⟨b3, vb3⟩ := exa_v z28
  have Eb3 := Exa.start vb3 z28
  have qb3 := elem_in vb3 vok (Term.int_eval _) Aok.1
  have kb3 := fldRef vb3 va3 z29
  obtain ⟨b4, vb4⟩ := exa_v z20
  have Eb4 := Exa.start vb4 z20
  have qb4 := elem_in vb4 vok (Term.int_eval _) Aok.1
  have kb4 := fldRef vb4 va4 z21
  obtain ⟨b5, vb5⟩ := exa_v z34
  have Eb5 := Exa.start vb5 z34
  have qb5 := elem_in vb5 vok (Term.int_eval _) Aok.1
  have kb5 := fldRef vb5 va5 z35
  obtain ⟨b6, vb6⟩ := exa_v z32
  have Eb6 := Exa.start vb6 z32
  have qb6 := elem_in vb6 vok (Term.int_eval _) Aok.1
  have kb6 := fldRef vb6 va6 z33
  obtain ⟨b7, vb7⟩ := exa_v z6
  have Eb7 := Exa.start vb7 z6
  have qb7 := elem_in vb7 vok (Term.int_eval _) Aok.1
  have kb7 := fldNull vb7 z7
  have xb7 := fldInt vb7 z8
  have yb7 := fldInt vb7 z9
  have B : own_B s s.heap a0 a1 a2 a3 a4 a5 a6 b0 b1 b2 b3 b4 b5 b6 b7 ok kd cl ck := ⟨Sok, Aok, Skd, Akd, Eb0, Eb1, Eb2, Eb3, Eb4, Eb5, Eb6, Eb7, kb0, kb1, kb2, kb3, kb4, kb5, kb6, kb7, xb7, yb7⟩
  have A : own_At cl b0 b1 b2 b3 b4 b5 b6 b7 := ⟨qb0, qb1, qb2, qb3, qb4, qb5, qb6, qb7⟩
  obtain ⟨n, o, h1, h2, h3, _, L, rfl, ⟨rfl, N⟩, hq⟩ := rmLaw l s _ hw tables_1 i0 i1 i2 i3 i4 i5 s.heap s.heap.size (Nat.le_refl _) a0 a1 a2 a3 a4 a5 a6 b0 b1 b2 b3 b4 b5 b6 b7 ok kd cl ck K B A lkd (Old.start s) p e ha hc hk s m _ below hf ((Spec.applies_iff_loose hf).mp happ).1 ⟨rfl, State.Warmed39.refl s, rfl⟩ trivial
  refine ⟨n, _, h1, h2, h3, hpost _ _ _ _ _ _ ⟨Cond.after_iff.mpr rfl, Cond.after_iff.mpr (eq_i res_at (Term.int_eval (1)) rfl), trivial⟩ ⟨hq.1, hq.2.1, (hq.2.2.sift fun y hy => Or.inr (N y hy)).mono (by decide) (by decide)⟩⟩
theorem main_1_1 : Claimed_1_1 := comes_1 fun _ _ _ _ _ _ h hF => ⟨h.1, hF⟩
theorem main_1_2 : Claimed_1_2 := comes_1 fun _ _ _ _ _ _ h hF => ⟨h.2.1, hF⟩

end Jvm.Pilot.@@N@@
namespace Jvm.Pilot.@@N@@
open Jvm Jvm.ClassFile Sem Op Lib Jvm.Free Jvm.Stand Jvm.Pilot.@@N@@.Jvm.D
/-! MADE BY PROGRAM (witnessworld.py) out of the Statement's table words and the real class files: 15 classes; the members and pool entries that the words name. The judged class is class 1, her method 2. -/
namespace start1
open Jvm.ClassFile
def u (s : String) : CpInfo := .utf8 (stringToUtf16 s)
/-- a pool by its gaps: so many unusable entries, then the entry; so many at the end -/
def gap : Nat → List CpInfo → List CpInfo
  | 0, r => r
  | n + 1, r => .unusable :: gap n r
def poolList (es : List (Nat × CpInfo)) (last : Nat) : List CpInfo := es.foldr (fun e r => gap e.1 (e.2 :: r)) (gap last [])
def pool (es : List (Nat × CpInfo)) (last : Nat) : Array CpInfo := ⟨poolList es last⟩
def fileOf (pool : Array CpInfo) (this : Nat) (attrs : Array Attribute := #[]) (ms : Array MethodInfo := #[]) (fl : Nat := 33) (sup : Nat := 0) (ifs : Array Nat := #[]) (fds : Array FieldInfo := #[]) : ClassFile where
  minorVersion := 0
  majorVersion := 65
  constantPool := pool
  accessFlags := fl
  thisClass := this
  superClass := sup
  interfaces := ifs
  fields := fds
  methods := ms
  attributes := attrs
def plain (name : String) (sup : Option ClassId) : Class where
  name := name
  kind := .ordinary
  loader := none
  accessFlags := 33
  super := sup
  interfaces := #[]
  cf := none
  fields := #[]
  methods := #[]
  instanceTypes := #[]
  staticTypes := #[]
  resolved := #[]
  callSites := []
  init := .initialized
  statics := none
  mirror := none

def pool0 : Array CpInfo := pool [(5, u "<init>"), (0, u "()V"), (1, .class_ 10), (1, u "java/lang/Object")] 113

def k0c0 : Code := { maxStack := 0, maxLocals := 1, code := object_method_1_code, exceptionTable := #[], attributes := #[] }
def k0m0 : Method := { name := "<init>", desc := "()V", sig := { parameters := [], returnType := none }, accessFlags := 1, code := some k0c0 }
/-- java/lang/Object -/
def k0 : Class := { plain "java/lang/Object" none with
  accessFlags := 33
  interfaces := #[]
  cf := some (fileOf pool0 8 #[] #[{ accessFlags := 1, nameIndex := 5, descriptorIndex := 6, attributes := #[] }] 33 0 #[] #[])
  fields := #[]
  methods := #[k0m0]
  instanceTypes := #[]
  staticTypes := #[]
  resolved := Array.replicate 124 none
  statics := none }

def pool1 : Array CpInfo := pool [(2, .class_ 4), (1, u "java/lang/Object"), (0, u "<init>"), (0, u "()V"), (0, .fieldref 8 9), (0, .class_ 10), (0, .nameAndType 11 12), (0, u "com/example/liblocpath/liblocpath/tree/NodeKind"), (0, u "ROOT"), (0, u "Lcom/example/liblocpath/liblocpath/tree/NodeKind;"), (0, .fieldref 8 14), (0, .nameAndType 15 12), (0, u "ELEMENT"), (0, .fieldref 8 17), (0, .nameAndType 18 12), (0, u "ATTRIBUTE"), (0, .fieldref 8 20), (0, .nameAndType 21 12), (0, u "NAMESPACE"), (0, .fieldref 8 23), (0, .nameAndType 24 12), (0, u "TEXT"), (0, .fieldref 8 26), (0, .nameAndType 27 12), (0, u "COMMENT"), (0, .fieldref 8 29), (0, .nameAndType 30 12), (0, u "PROCESSING_INSTRUCTION"), (0, .methodref 32 33), (0, .class_ 34), (0, .nameAndType 35 36), (0, u "com/example/liblocpath/liblocpath/tree/BoundNodeTestMatchesEveryNodePinLaw"), (0, u "kindOf"), (0, u "(I)Lcom/example/liblocpath/liblocpath/tree/NodeKind;"), (0, .class_ 38), (0, u "com/example/liblocpath/liblocpath/tree/BoundNodeTest"), (0, .methodref 37 40), (0, .nameAndType 5 41), (0, u "(Lcom/example/liblocpath/liblocpath/tree/NodeKind;IILcom/example/liblocpath/liblocpath/tree/NameTable;Z)V"), (0, .methodref 37 43), (0, .nameAndType 44 45), (0, u "matchesEveryNode"), (0, u "()Z"), (0, .integer 2147483647), (0, .methodref 37 48), (0, .nameAndType 49 50), (0, u "matches"), (0, u "(Lcom/example/liblocpath/liblocpath/tree/NodeKind;I)Z"), (0, .methodref 37 52), (0, .nameAndType 53 54), (0, u "ofKind"), (0, u "(Lcom/example/liblocpath/liblocpath/tree/NodeKind;)Lcom/example/liblocpath/liblocpath/tree/BoundNodeTest;"), (3, u "law"), (0, u "(IIIIII)Z")] 2

def k1m0 : Method := { name := "<init>", desc := "()V", sig := { parameters := [], returnType := none }, accessFlags := 1, code := none }
def k1c1 : Code := { maxStack := 2, maxLocals := 1, code := method_2_code, exceptionTable := #[], attributes := #[] }
def k1m1 : Method := { name := "kindOf", desc := "(I)Lcom/example/liblocpath/liblocpath/tree/NodeKind;", sig := { parameters := [.int], returnType := some (.object "com/example/liblocpath/liblocpath/tree/NodeKind") }, accessFlags := 10, code := some k1c1 }
def k1c2 : Code := { maxStack := 7, maxLocals := 14, code := code, exceptionTable := #[], attributes := #[] }
def k1m2 : Method := { name := "law", desc := "(IIIIII)Z", sig := { parameters := [.int, .int, .int, .int, .int, .int], returnType := some .boolean }, accessFlags := 9, code := some k1c2 }
/-- com/example/liblocpath/liblocpath/tree/BoundNodeTestMatchesEveryNodePinLaw -/
def k1 : Class := { plain "com/example/liblocpath/liblocpath/tree/BoundNodeTestMatchesEveryNodePinLaw" (some 0) with
  accessFlags := 49
  interfaces := #[]
  cf := some (fileOf pool1 32 #[] #[{ accessFlags := 1, nameIndex := 5, descriptorIndex := 6, attributes := #[] }, { accessFlags := 10, nameIndex := 35, descriptorIndex := 36, attributes := #[] }, { accessFlags := 9, nameIndex := 58, descriptorIndex := 59, attributes := #[] }] 49 2 #[] #[])
  fields := #[]
  methods := #[k1m0, k1m1, k1m2]
  instanceTypes := #[]
  staticTypes := #[]
  resolved := Array.replicate 62 none
  statics := none }

def pool2 : Array CpInfo := pool [(1, .class_ 2), (0, u "java/lang/constant/Constable"), (0, .class_ 4), (0, u "java/lang/Object")] 6

/-- java/lang/constant/Constable -/
def k2 : Class := { plain "java/lang/constant/Constable" (some 0) with
  accessFlags := 1537
  interfaces := #[]
  cf := some (fileOf pool2 1 #[] #[] 1537 3 #[] #[])
  fields := #[]
  methods := #[]
  instanceTypes := #[]
  staticTypes := #[]
  resolved := Array.replicate 11 none
  statics := none }

def pool3 : Array CpInfo := pool [(1, .class_ 2), (0, u "java/lang/Comparable"), (0, .class_ 4), (0, u "java/lang/Object")] 7

/-- java/lang/Comparable -/
def k3 : Class := { plain "java/lang/Comparable" (some 0) with
  accessFlags := 1537
  interfaces := #[]
  cf := some (fileOf pool3 1 #[] #[] 1537 3 #[] #[])
  fields := #[]
  methods := #[]
  instanceTypes := #[]
  staticTypes := #[]
  resolved := Array.replicate 12 none
  statics := none }

def pool4 : Array CpInfo := pool [(1, .class_ 2), (0, u "java/io/Serializable"), (0, .class_ 4), (0, u "java/lang/Object")] 2

/-- java/io/Serializable -/
def k4 : Class := { plain "java/io/Serializable" (some 0) with
  accessFlags := 1537
  interfaces := #[]
  cf := some (fileOf pool4 1 #[] #[] 1537 3 #[] #[])
  fields := #[]
  methods := #[]
  instanceTypes := #[]
  staticTypes := #[]
  resolved := Array.replicate 7 none
  statics := none }

def pool5 : Array CpInfo := pool [(2, .class_ 4), (1, u "java/lang/Enum"), (0, u "name"), (0, u "Ljava/lang/String;"), (0, .fieldref 2 8), (0, .nameAndType 9 10), (0, u "ordinal"), (0, u "I"), (1, .class_ 14), (1, u "java/lang/Object"), (4, u "hash"), (86, .class_ 108), (1, u "java/lang/Enum$EnumDesc"), (2, .class_ 112), (0, u "java/lang/constant/Constable"), (0, .class_ 114), (0, u "java/lang/Comparable"), (0, .class_ 116), (0, u "java/io/Serializable"), (9, u "()I")] 77

def k5c0 : Code := { maxStack := 1, maxLocals := 1, code := jdk_37_method_2_code, exceptionTable := #[], attributes := #[] }
def k5m0 : Method := { name := "ordinal", desc := "()I", sig := { parameters := [], returnType := some .int }, accessFlags := 17, code := some k5c0 }
/-- java/lang/Enum -/
def k5 : Class := { plain "java/lang/Enum" (some 0) with
  accessFlags := 1057
  interfaces := #[2, 3, 4]
  cf := some (fileOf pool5 2 #[.nestMembers #[106]] #[{ accessFlags := 17, nameIndex := 9, descriptorIndex := 126, attributes := #[] }] 1057 12 #[111, 113, 115] #[{ accessFlags := 18, nameIndex := 5, descriptorIndex := 6, attributes := #[] }, { accessFlags := 18, nameIndex := 9, descriptorIndex := 10, attributes := #[] }, { accessFlags := 2, nameIndex := 19, descriptorIndex := 10, attributes := #[] }])
  fields := #[{ name := "name", type := (.object "java/lang/String"), accessFlags := 18, slot := 0, constantValue := 0 }, { name := "ordinal", type := .int, accessFlags := 18, slot := 1, constantValue := 0 }, { name := "hash", type := .int, accessFlags := 2, slot := 2, constantValue := 0 }]
  methods := #[k5m0]
  instanceTypes := #[(.object "java/lang/String"), .int, .int]
  staticTypes := #[]
  resolved := Array.replicate 204 none
  statics := none }

def pool6 : Array CpInfo := pool [(1, .class_ 2), (0, u "com/example/liblocpath/liblocpath/tree/NodeKind"), (2, u "ROOT"), (0, u "Lcom/example/liblocpath/liblocpath/tree/NodeKind;"), (2, u "ELEMENT"), (2, u "ATTRIBUTE"), (2, u "NAMESPACE"), (2, u "TEXT"), (2, u "COMMENT"), (2, u "PROCESSING_INSTRUCTION"), (2, u "$VALUES"), (0, u "[Lcom/example/liblocpath/liblocpath/tree/NodeKind;"), (6, .class_ 37), (1, u "java/lang/Enum")] 29

/-- com/example/liblocpath/liblocpath/tree/NodeKind -/
def k6 : Class := { plain "com/example/liblocpath/liblocpath/tree/NodeKind" (some 5) with
  accessFlags := 16433
  interfaces := #[]
  cf := some (fileOf pool6 1 #[] #[] 16433 35 #[] #[{ accessFlags := 16409, nameIndex := 5, descriptorIndex := 6, attributes := #[] }, { accessFlags := 16409, nameIndex := 9, descriptorIndex := 6, attributes := #[] }, { accessFlags := 16409, nameIndex := 12, descriptorIndex := 6, attributes := #[] }, { accessFlags := 16409, nameIndex := 15, descriptorIndex := 6, attributes := #[] }, { accessFlags := 16409, nameIndex := 18, descriptorIndex := 6, attributes := #[] }, { accessFlags := 16409, nameIndex := 21, descriptorIndex := 6, attributes := #[] }, { accessFlags := 16409, nameIndex := 24, descriptorIndex := 6, attributes := #[] }, { accessFlags := 4122, nameIndex := 27, descriptorIndex := 28, attributes := #[] }])
  fields := #[{ name := "ROOT", type := (.object "com/example/liblocpath/liblocpath/tree/NodeKind"), accessFlags := 16409, slot := 0, constantValue := 0 }, { name := "ELEMENT", type := (.object "com/example/liblocpath/liblocpath/tree/NodeKind"), accessFlags := 16409, slot := 1, constantValue := 0 }, { name := "ATTRIBUTE", type := (.object "com/example/liblocpath/liblocpath/tree/NodeKind"), accessFlags := 16409, slot := 2, constantValue := 0 }, { name := "NAMESPACE", type := (.object "com/example/liblocpath/liblocpath/tree/NodeKind"), accessFlags := 16409, slot := 3, constantValue := 0 }, { name := "TEXT", type := (.object "com/example/liblocpath/liblocpath/tree/NodeKind"), accessFlags := 16409, slot := 4, constantValue := 0 }, { name := "COMMENT", type := (.object "com/example/liblocpath/liblocpath/tree/NodeKind"), accessFlags := 16409, slot := 5, constantValue := 0 }, { name := "PROCESSING_INSTRUCTION", type := (.object "com/example/liblocpath/liblocpath/tree/NodeKind"), accessFlags := 16409, slot := 6, constantValue := 0 }, { name := "$VALUES", type := (.array (.object "com/example/liblocpath/liblocpath/tree/NodeKind")), accessFlags := 4122, slot := 7, constantValue := 0 }]
  methods := #[]
  instanceTypes := #[(.object "java/lang/String"), .int, .int]
  staticTypes := #[(.object "com/example/liblocpath/liblocpath/tree/NodeKind"), (.object "com/example/liblocpath/liblocpath/tree/NodeKind"), (.object "com/example/liblocpath/liblocpath/tree/NodeKind"), (.object "com/example/liblocpath/liblocpath/tree/NodeKind"), (.object "com/example/liblocpath/liblocpath/tree/NodeKind"), (.object "com/example/liblocpath/liblocpath/tree/NodeKind"), (.object "com/example/liblocpath/liblocpath/tree/NodeKind"), (.array (.object "com/example/liblocpath/liblocpath/tree/NodeKind"))]
  resolved := Array.replicate 67 none
  statics := some 0 }

def pool7 : Array CpInfo := pool [(1, .methodref 2 3), (0, .class_ 4), (0, .nameAndType 5 6), (0, u "java/lang/Object"), (0, u "<init>"), (0, u "()V"), (0, .fieldref 8 9), (0, .class_ 10), (0, .nameAndType 11 12), (0, u "com/example/liblocpath/liblocpath/tree/BoundNodeTest"), (0, u "kind"), (0, u "Lcom/example/liblocpath/liblocpath/tree/NodeKind;"), (0, .fieldref 8 14), (0, .nameAndType 15 16), (0, u "expandedNameCode"), (0, u "I"), (0, .fieldref 8 18), (0, .nameAndType 19 16), (0, u "namespaceCode"), (0, .fieldref 8 21), (0, .nameAndType 22 23), (0, u "names"), (0, u "Lcom/example/liblocpath/liblocpath/tree/NameTable;"), (0, .fieldref 8 25), (0, .nameAndType 26 27), (0, u "readsEachName"), (0, u "Z"), (0, .methodref 29 30), (0, .class_ 31), (0, .nameAndType 32 33), (0, u "com/example/liblocpath/liblocpath/tree/NodeKind"), (0, u "ordinal"), (0, u "()I"), (0, .fieldref 8 35), (0, .nameAndType 36 16), (0, u "kindOrdinal"), (0, .fieldref 8 38), (0, .nameAndType 39 27), (0, u "keepsAnyName"), (0, .fieldref 8 41), (0, .nameAndType 42 43), (0, u "OF_KIND"), (0, u "[Lcom/example/liblocpath/liblocpath/tree/BoundNodeTest;"), (0, .fieldref 8 45), (0, .nameAndType 46 47), (0, u "KINDS"), (0, u "[Lcom/example/liblocpath/liblocpath/tree/NodeKind;"), (0, .methodref 8 49), (0, .nameAndType 50 51), (0, u "matchesName"), (0, u "(I)Z"), (18, u "matches"), (0, u "(Lcom/example/liblocpath/liblocpath/tree/NodeKind;I)Z"), (17, u "(Lcom/example/liblocpath/liblocpath/tree/NodeKind;IILcom/example/liblocpath/liblocpath/tree/NameTable;Z)V"), (0, u "ANY"), (2, u "NOT_ONE_ELEMENT_NAME"), (4, u "ofKind"), (0, u "(Lcom/example/liblocpath/liblocpath/tree/NodeKind;)Lcom/example/liblocpath/liblocpath/tree/BoundNodeTest;"), (6, u "matchesEveryNode"), (0, u "()Z")] 6

def k7c0 : Code := { maxStack := 3, maxLocals := 6, code := prog_78_method_1_code, exceptionTable := #[], attributes := #[] }
def k7m0 : Method := { name := "<init>", desc := "(Lcom/example/liblocpath/liblocpath/tree/NodeKind;IILcom/example/liblocpath/liblocpath/tree/NameTable;Z)V", sig := { parameters := [(.object "com/example/liblocpath/liblocpath/tree/NodeKind"), .int, .int, (.object "com/example/liblocpath/liblocpath/tree/NameTable"), .boolean], returnType := none }, accessFlags := 0, code := some k7c0 }
def k7c1 : Code := { maxStack := 2, maxLocals := 1, code := prog_78_method_2_code, exceptionTable := #[], attributes := #[] }
def k7m1 : Method := { name := "ofKind", desc := "(Lcom/example/liblocpath/liblocpath/tree/NodeKind;)Lcom/example/liblocpath/liblocpath/tree/BoundNodeTest;", sig := { parameters := [(.object "com/example/liblocpath/liblocpath/tree/NodeKind")], returnType := some (.object "com/example/liblocpath/liblocpath/tree/BoundNodeTest") }, accessFlags := 8, code := some k7c1 }
def k7c2 : Code := { maxStack := 2, maxLocals := 3, code := prog_78_method_3_code, exceptionTable := #[], attributes := #[] }
def k7m2 : Method := { name := "matches", desc := "(Lcom/example/liblocpath/liblocpath/tree/NodeKind;I)Z", sig := { parameters := [(.object "com/example/liblocpath/liblocpath/tree/NodeKind"), .int], returnType := some .boolean }, accessFlags := 0, code := some k7c2 }
def k7c3 : Code := { maxStack := 2, maxLocals := 2, code := prog_78_method_6_code, exceptionTable := #[], attributes := #[] }
def k7m3 : Method := { name := "matchesName", desc := "(I)Z", sig := { parameters := [.int], returnType := some .boolean }, accessFlags := 2, code := some k7c3 }
def k7c4 : Code := { maxStack := 2, maxLocals := 1, code := prog_78_method_8_code, exceptionTable := #[], attributes := #[] }
def k7m4 : Method := { name := "matchesEveryNode", desc := "()Z", sig := { parameters := [], returnType := some .boolean }, accessFlags := 0, code := some k7c4 }
/-- com/example/liblocpath/liblocpath/tree/BoundNodeTest -/
def k7 : Class := { plain "com/example/liblocpath/liblocpath/tree/BoundNodeTest" (some 0) with
  accessFlags := 48
  interfaces := #[]
  cf := some (fileOf pool7 8 #[] #[{ accessFlags := 0, nameIndex := 5, descriptorIndex := 89, attributes := #[] }, { accessFlags := 8, nameIndex := 98, descriptorIndex := 99, attributes := #[] }, { accessFlags := 0, nameIndex := 70, descriptorIndex := 71, attributes := #[] }, { accessFlags := 2, nameIndex := 50, descriptorIndex := 51, attributes := #[] }, { accessFlags := 0, nameIndex := 106, descriptorIndex := 107, attributes := #[] }] 48 2 #[] #[{ accessFlags := 24, nameIndex := 90, descriptorIndex := 16, attributes := #[] }, { accessFlags := 24, nameIndex := 93, descriptorIndex := 16, attributes := #[] }, { accessFlags := 26, nameIndex := 46, descriptorIndex := 47, attributes := #[] }, { accessFlags := 26, nameIndex := 42, descriptorIndex := 43, attributes := #[] }, { accessFlags := 18, nameIndex := 11, descriptorIndex := 12, attributes := #[] }, { accessFlags := 18, nameIndex := 15, descriptorIndex := 16, attributes := #[] }, { accessFlags := 18, nameIndex := 19, descriptorIndex := 16, attributes := #[] }, { accessFlags := 18, nameIndex := 22, descriptorIndex := 23, attributes := #[] }, { accessFlags := 18, nameIndex := 36, descriptorIndex := 16, attributes := #[] }, { accessFlags := 18, nameIndex := 39, descriptorIndex := 27, attributes := #[] }, { accessFlags := 18, nameIndex := 26, descriptorIndex := 27, attributes := #[] }])
  fields := #[{ name := "ANY", type := .int, accessFlags := 24, slot := 0, constantValue := 0 }, { name := "NOT_ONE_ELEMENT_NAME", type := .int, accessFlags := 24, slot := 1, constantValue := 0 }, { name := "KINDS", type := (.array (.object "com/example/liblocpath/liblocpath/tree/NodeKind")), accessFlags := 26, slot := 2, constantValue := 0 }, { name := "OF_KIND", type := (.array (.object "com/example/liblocpath/liblocpath/tree/BoundNodeTest")), accessFlags := 26, slot := 3, constantValue := 0 }, { name := "kind", type := (.object "com/example/liblocpath/liblocpath/tree/NodeKind"), accessFlags := 18, slot := 0, constantValue := 0 }, { name := "expandedNameCode", type := .int, accessFlags := 18, slot := 1, constantValue := 0 }, { name := "namespaceCode", type := .int, accessFlags := 18, slot := 2, constantValue := 0 }, { name := "names", type := (.object "com/example/liblocpath/liblocpath/tree/NameTable"), accessFlags := 18, slot := 3, constantValue := 0 }, { name := "kindOrdinal", type := .int, accessFlags := 18, slot := 4, constantValue := 0 }, { name := "keepsAnyName", type := .boolean, accessFlags := 18, slot := 5, constantValue := 0 }, { name := "readsEachName", type := .boolean, accessFlags := 18, slot := 6, constantValue := 0 }]
  methods := #[k7m0, k7m1, k7m2, k7m3, k7m4]
  instanceTypes := #[(.object "com/example/liblocpath/liblocpath/tree/NodeKind"), .int, .int, (.object "com/example/liblocpath/liblocpath/tree/NameTable"), .int, .boolean, .boolean]
  staticTypes := #[.int, .int, (.array (.object "com/example/liblocpath/liblocpath/tree/NodeKind")), (.array (.object "com/example/liblocpath/liblocpath/tree/BoundNodeTest"))]
  resolved := Array.replicate 114 none
  statics := some 1 }

def pool8 : Array CpInfo := pool [(1, u "java/lang/Cloneable"), (0, .class_ 1), (0, u "java/lang/Object"), (0, .class_ 3)] 3

/-- java/lang/Cloneable -/
def k8 : Class := { plain "java/lang/Cloneable" (some 0) with
  accessFlags := 1537
  interfaces := #[]
  cf := some (fileOf pool8 2 #[] #[] 1537 4 #[] #[])
  fields := #[]
  methods := #[]
  instanceTypes := #[]
  staticTypes := #[]
  resolved := Array.replicate 8 none
  statics := none }

/-- the primitive byte -/
def k9 : Class := { plain "byte" none with kind := .primitive 'B', accessFlags := 0x411 }
/-- [B -/
def k10 : Class := { plain "[B" (some 0) with kind := .array 9 .byte, interfaces := #[8, 4], accessFlags := 1041 }

/-- the primitive int -/
def k11 : Class := { plain "int" none with kind := .primitive 'I', accessFlags := 0x411 }
/-- [I -/
def k12 : Class := { plain "[I" (some 0) with kind := .array 11 .int, interfaces := #[8, 4], accessFlags := 1041 }

/-- [Lcom/example/liblocpath/liblocpath/tree/BoundNodeTest; -/
def k13 : Class := { plain "[Lcom/example/liblocpath/liblocpath/tree/BoundNodeTest;" (some 0) with kind := .array 7 (.object "com/example/liblocpath/liblocpath/tree/BoundNodeTest"), interfaces := #[8, 4], accessFlags := 1041 }

/-- [Lcom/example/liblocpath/liblocpath/tree/NodeKind; -/
def k14 : Class := { plain "[Lcom/example/liblocpath/liblocpath/tree/NodeKind;" (some 0) with kind := .array 6 (.object "com/example/liblocpath/liblocpath/tree/NodeKind"), interfaces := #[8, 4], accessFlags := 1041 }

def heap : Heap := #[{ cls := 6, slots := #[.ref 4, .ref 5, .ref 6, .ref 7, .ref 8, .ref 9, .ref 10, .null], vm := .statics 6 },
  { cls := 7, slots := #[.int 0, .int 0, .ref 3, .ref 2], vm := .statics 7 },
  { cls := 13, slots := #[.ref 11, .ref 12, .ref 13, .ref 14, .ref 15, .ref 16, .ref 17, .ref 18], vm := .none },
  { cls := 14, slots := #[.ref 4, .ref 5, .ref 6, .ref 7, .ref 8, .ref 9, .ref 10], vm := .none },
  { cls := 6, slots := #[.null, .int 0, .int 0], vm := .none },
  { cls := 6, slots := #[.null, .int 1, .int 0], vm := .none },
  { cls := 6, slots := #[.null, .int 2, .int 0], vm := .none },
  { cls := 6, slots := #[.null, .int 3, .int 0], vm := .none },
  { cls := 6, slots := #[.null, .int 4, .int 0], vm := .none },
  { cls := 6, slots := #[.null, .int 5, .int 0], vm := .none },
  { cls := 6, slots := #[.null, .int 6, .int 0], vm := .none },
  { cls := 7, slots := #[.ref 4, .int (-3), .int (-3), .null, .int 0, .int 0, .int 1], vm := .none },
  { cls := 7, slots := #[.ref 5, .int (-3), .int (-3), .null, .int 1, .int 0, .int 1], vm := .none },
  { cls := 7, slots := #[.ref 6, .int (-3), .int (-3), .null, .int 2, .int 0, .int 1], vm := .none },
  { cls := 7, slots := #[.ref 7, .int (-3), .int (-3), .null, .int 3, .int 0, .int 1], vm := .none },
  { cls := 7, slots := #[.ref 8, .int (-3), .int (-3), .null, .int 4, .int 0, .int 1], vm := .none },
  { cls := 7, slots := #[.ref 9, .int (-3), .int (-3), .null, .int 5, .int 0, .int 1], vm := .none },
  { cls := 7, slots := #[.ref 10, .int (-3), .int (-3), .null, .int 6, .int 0, .int 1], vm := .none },
  { cls := 7, slots := #[.null, .int (-3), .int (-3), .null, .int 7, .int 0, .int 1], vm := .none }]
def classes : Array Class := #[k0, k1, k2, k3, k4, k5, k6, k7, k8, k9, k10, k11, k12, k13, k14]
def interned : List (Array UInt16 × Addr) := []
def slotsUsed : Nat := 104
def theMethod : MethodId := ⟨1, 2⟩
def args0 : Array Value := #[.int 7, .int 5, .int 7, .int 3, .int 2, .int 9]
def aboutOver (below : List Frame) : State where
  vm := { classes := classes, interned := interned.toArray }
  heap := heap
  slotsUsed := slotsUsed
  threads := #[{ frames := .invoking theMethod args0 :: below }]
def below0 : List Frame := [.native { method := ⟨0, 0⟩, args := #[] }]
def about1 : State := aboutOver below0
def p0 : Program := .bare "" "" ""
def e0 : Env := launch0.env 0 0 0
theorem w_frames : about1.frames = Frame.invoking theMethod args0 :: below0 := rfl
set_option maxRecDepth 65536 in
theorem w_args : argsFit about1.vm theMethod args0 = true := by decide +kernel
set_option maxRecDepth 65536 in
theorem w_heap : heapFits about1 = true := by decide +kernel
set_option maxRecDepth 65536 in
theorem w_runnable : about1.curStatus? = some .runnable := by decide +kernel
set_option maxRecDepth 65536 in
theorem w_alone : about1.alone = true := by decide +kernel
set_option maxRecDepth 65536 in
theorem w_named : about1.methodNamed? x = some theMethod := by decide +kernel
set_option maxRecDepth 65536 in
theorem w_hears : about1.hears theMethod below0 = true := by decide +kernel
set_option maxRecDepth 65536 in
theorem w_ripe : about1.ripe theMethod args0 below0 = true := by decide +kernel
theorem w_running : about1.status = .running := rfl
set_option maxRecDepth 65536 in
theorem w_room : about1.hasRoom e0.platform room_1 = true :=
  launch0.hasRoom_least _ room_1 (by decide +kernel) (by decide +kernel) (by decide +kernel) (by decide +kernel) (by decide +kernel) (by decide +kernel)
theorem allAtoms_all (ts : List Jvm.Cond) (a : Array Jvm.Value) (st : Jvm.State) : (allAtoms ts).before a st = ts.all (fun c => c.before a st) := by
  induction ts with
  | nil => rfl
  | cons c t ih =>
    show (Jvm.Cond.and c (allAtoms t)).before a st = _
    rw [Jvm.Cond.before_and, ih, List.all_cons]
def words1 : List Jvm.Cond := Jvm.Cond.code x code maxLocals ret :: tables_1
/-- a 'code' word, met by the world's own term for the bytes: nothing is compared byte by byte -/
theorem code_word {y : MethodName} {bytes : ByteArray} {mx : Nat} {rt : Option FieldType} {a : Array Value} {s : State} {m : MethodId} {meth : Method} {c : Code} (h1 : s.methodNamed? y = some m) (h2 : s.vm.method? m = some meth) (h3 : meth.code = some c) (h4 : c.code = bytes)
    (h5 : (c.maxLocals == mx && c.exceptionTable.isEmpty && decide (c.maxStack ≤ mostOperands) && decide (meth.sig.returnType = rt) && !meth.locks && decide (parseMethodDescriptor y.desc = some meth.sig)) = true) : (Jvm.Cond.code y bytes mx rt).before a s = true := by
  simp only [Bool.and_eq_true, beq_iff_eq, Bool.not_eq_true', decide_eq_true_eq] at h5
  obtain ⟨⟨⟨⟨⟨g1, g2⟩, g3⟩, g4⟩, g5⟩, g6⟩ := h5
  simp [Cond.before, Cond.holds, Cond.value, h1, h2, h3, h4, g1, g2, g3, g4, g5, g6]
def isCode : Jvm.Cond → Bool
  | .code _ _ _ _ => true
  | _ => false
theorem all_split {L : List Jvm.Cond} {P : Jvm.Cond → Bool} (h1 : L.all (fun c => isCode c || P c) = true) (h2 : ∀ c ∈ L.filter isCode, P c = true) : L.all P = true := by
  refine List.all_eq_true.mpr fun c hc => ?_
  have h := List.all_eq_true.mp h1 c hc
  rcases Bool.eq_false_or_eq_true (isCode c) with hi | hi
  · exact h2 c (List.mem_filter.mpr ⟨hc, hi⟩)
  · simpa [hi] using h
set_option maxRecDepth 65536 in
theorem w_c0 : (Jvm.Cond.code x code maxLocals ret).before args0 about1 = true := code_word (m := ⟨1, 2⟩) (meth := k1m2) (c := k1c2) (by decide +kernel) rfl rfl rfl (by decide +kernel)
set_option maxRecDepth 65536 in
theorem w_c1 : (Jvm.Cond.code ({ cls := "com/example/liblocpath/liblocpath/tree/BoundNodeTestMatchesEveryNodePinLaw", name := "kindOf", desc := "(I)Lcom/example/liblocpath/liblocpath/tree/NodeKind;" } : Jvm.MethodName) method_2_code (1 : Nat) (Option.some (Jvm.ClassFile.FieldType.object "com/example/liblocpath/liblocpath/tree/NodeKind"))).before args0 about1 = true := code_word (m := ⟨1, 1⟩) (meth := k1m1) (c := k1c1) (by decide +kernel) rfl rfl rfl (by decide +kernel)
set_option maxRecDepth 65536 in
theorem w_c2 : (Jvm.Cond.code ({ cls := "com/example/liblocpath/liblocpath/tree/BoundNodeTest", name := "<init>", desc := "(Lcom/example/liblocpath/liblocpath/tree/NodeKind;IILcom/example/liblocpath/liblocpath/tree/NameTable;Z)V" } : Jvm.MethodName) prog_78_method_1_code (6 : Nat) (Option.none : Option Jvm.ClassFile.FieldType)).before args0 about1 = true := code_word (m := ⟨7, 0⟩) (meth := k7m0) (c := k7c0) (by decide +kernel) rfl rfl rfl (by decide +kernel)
set_option maxRecDepth 65536 in
theorem w_c3 : (Jvm.Cond.code ({ cls := "java/lang/Object", name := "<init>", desc := "()V" } : Jvm.MethodName) object_method_1_code (1 : Nat) (Option.none : Option Jvm.ClassFile.FieldType)).before args0 about1 = true := code_word (m := ⟨0, 0⟩) (meth := k0m0) (c := k0c0) (by decide +kernel) rfl rfl rfl (by decide +kernel)
set_option maxRecDepth 65536 in
theorem w_c4 : (Jvm.Cond.code ({ cls := "java/lang/Enum", name := "ordinal", desc := "()I" } : Jvm.MethodName) jdk_37_method_2_code (1 : Nat) (Option.some Jvm.ClassFile.FieldType.int)).before args0 about1 = true := code_word (m := ⟨5, 0⟩) (meth := k5m0) (c := k5c0) (by decide +kernel) rfl rfl rfl (by decide +kernel)
set_option maxRecDepth 65536 in
theorem w_c5 : (Jvm.Cond.code ({ cls := "com/example/liblocpath/liblocpath/tree/BoundNodeTest", name := "matchesEveryNode", desc := "()Z" } : Jvm.MethodName) prog_78_method_8_code (1 : Nat) (Option.some Jvm.ClassFile.FieldType.boolean)).before args0 about1 = true := code_word (m := ⟨7, 4⟩) (meth := k7m4) (c := k7c4) (by decide +kernel) rfl rfl rfl (by decide +kernel)
set_option maxRecDepth 65536 in
theorem w_c6 : (Jvm.Cond.code ({ cls := "com/example/liblocpath/liblocpath/tree/BoundNodeTest", name := "ofKind", desc := "(Lcom/example/liblocpath/liblocpath/tree/NodeKind;)Lcom/example/liblocpath/liblocpath/tree/BoundNodeTest;" } : Jvm.MethodName) prog_78_method_2_code (1 : Nat) (Option.some (Jvm.ClassFile.FieldType.object "com/example/liblocpath/liblocpath/tree/BoundNodeTest"))).before args0 about1 = true := code_word (m := ⟨7, 1⟩) (meth := k7m1) (c := k7c1) (by decide +kernel) rfl rfl rfl (by decide +kernel)
set_option maxRecDepth 65536 in
theorem w_c7 : (Jvm.Cond.code ({ cls := "com/example/liblocpath/liblocpath/tree/BoundNodeTest", name := "matches", desc := "(Lcom/example/liblocpath/liblocpath/tree/NodeKind;I)Z" } : Jvm.MethodName) prog_78_method_3_code (3 : Nat) (Option.some Jvm.ClassFile.FieldType.boolean)).before args0 about1 = true := code_word (m := ⟨7, 2⟩) (meth := k7m2) (c := k7c2) (by decide +kernel) rfl rfl rfl (by decide +kernel)
set_option maxRecDepth 65536 in
theorem w_c8 : (Jvm.Cond.code ({ cls := "com/example/liblocpath/liblocpath/tree/BoundNodeTest", name := "matchesName", desc := "(I)Z" } : Jvm.MethodName) prog_78_method_6_code (2 : Nat) (Option.some Jvm.ClassFile.FieldType.boolean)).before args0 about1 = true := code_word (m := ⟨7, 3⟩) (meth := k7m3) (c := k7c3) (by decide +kernel) rfl rfl rfl (by decide +kernel)
def codes1 : List Jvm.Cond := [Jvm.Cond.code x code maxLocals ret, Jvm.Cond.code ({ cls := "com/example/liblocpath/liblocpath/tree/BoundNodeTestMatchesEveryNodePinLaw", name := "kindOf", desc := "(I)Lcom/example/liblocpath/liblocpath/tree/NodeKind;" } : Jvm.MethodName) method_2_code (1 : Nat) (Option.some (Jvm.ClassFile.FieldType.object "com/example/liblocpath/liblocpath/tree/NodeKind")), Jvm.Cond.code ({ cls := "com/example/liblocpath/liblocpath/tree/BoundNodeTest", name := "<init>", desc := "(Lcom/example/liblocpath/liblocpath/tree/NodeKind;IILcom/example/liblocpath/liblocpath/tree/NameTable;Z)V" } : Jvm.MethodName) prog_78_method_1_code (6 : Nat) (Option.none : Option Jvm.ClassFile.FieldType), Jvm.Cond.code ({ cls := "java/lang/Object", name := "<init>", desc := "()V" } : Jvm.MethodName) object_method_1_code (1 : Nat) (Option.none : Option Jvm.ClassFile.FieldType), Jvm.Cond.code ({ cls := "java/lang/Enum", name := "ordinal", desc := "()I" } : Jvm.MethodName) jdk_37_method_2_code (1 : Nat) (Option.some Jvm.ClassFile.FieldType.int), Jvm.Cond.code ({ cls := "com/example/liblocpath/liblocpath/tree/BoundNodeTest", name := "matchesEveryNode", desc := "()Z" } : Jvm.MethodName) prog_78_method_8_code (1 : Nat) (Option.some Jvm.ClassFile.FieldType.boolean), Jvm.Cond.code ({ cls := "com/example/liblocpath/liblocpath/tree/BoundNodeTest", name := "ofKind", desc := "(Lcom/example/liblocpath/liblocpath/tree/NodeKind;)Lcom/example/liblocpath/liblocpath/tree/BoundNodeTest;" } : Jvm.MethodName) prog_78_method_2_code (1 : Nat) (Option.some (Jvm.ClassFile.FieldType.object "com/example/liblocpath/liblocpath/tree/BoundNodeTest")), Jvm.Cond.code ({ cls := "com/example/liblocpath/liblocpath/tree/BoundNodeTest", name := "matches", desc := "(Lcom/example/liblocpath/liblocpath/tree/NodeKind;I)Z" } : Jvm.MethodName) prog_78_method_3_code (3 : Nat) (Option.some Jvm.ClassFile.FieldType.boolean), Jvm.Cond.code ({ cls := "com/example/liblocpath/liblocpath/tree/BoundNodeTest", name := "matchesName", desc := "(I)Z" } : Jvm.MethodName) prog_78_method_6_code (2 : Nat) (Option.some Jvm.ClassFile.FieldType.boolean)]
set_option maxRecDepth 65536 in
theorem codes_eq : words1.filter isCode = codes1 := rfl
theorem w_codes : ∀ c ∈ words1.filter isCode, c.before args0 about1 = true := by
  rw [codes_eq]
  intro c hc
  simp only [codes1, List.mem_cons, List.not_mem_nil, or_false] at hc
  rcases hc with rfl | rfl | rfl | rfl | rfl | rfl | rfl | rfl | rfl
  · exact w_c0
  · exact w_c1
  · exact w_c2
  · exact w_c3
  · exact w_c4
  · exact w_c5
  · exact w_c6
  · exact w_c7
  · exact w_c8
set_option maxRecDepth 65536 in
theorem w_t1 : (words1.take 24).all (fun c => isCode c || c.before args0 about1) = true := by decide +kernel
set_option maxRecDepth 65536 in
theorem w_t2 : ((words1.drop 24).take 24).all (fun c => isCode c || c.before args0 about1) = true := by decide +kernel
set_option maxRecDepth 65536 in
theorem w_t3 : (((words1.drop 24).drop 24).take 24).all (fun c => isCode c || c.before args0 about1) = true := by decide +kernel
set_option maxRecDepth 65536 in
theorem w_t4 : (((words1.drop 24).drop 24).drop 24).all (fun c => isCode c || c.before args0 about1) = true := by decide +kernel
theorem w_tables : (allAtoms (Jvm.Cond.code x code maxLocals ret :: tables_1)).before args0 about1 = true := by
  rw [allAtoms_all]
  show words1.all (fun c => c.before args0 about1) = true
  refine all_split ?_ w_codes
  rw [← List.take_append_drop 24 words1, List.all_append, w_t1, ← List.take_append_drop 24 (words1.drop 24), List.all_append, w_t2, ← List.take_append_drop 24 ((words1.drop 24).drop 24), List.all_append, w_t3, w_t4]
  rfl
set_option maxRecDepth 65536 in
theorem w_case : (Jvm.Cond.and given_1 narrow_1).before args0 about1 = true := by decide +kernel
theorem w_applies : (headSpec (Jvm.Cond.code x code maxLocals ret :: tables_1) room_1).applies x e0.platform about1 = true :=
  (Spec.applies_iff w_frames).mpr ⟨w_running, w_runnable, w_alone, w_named, w_hears, w_ripe, w_room, w_tables⟩
theorem atStart : AtStart classFile x code maxLocals ret World_1 tables_1 room_1 Calls_1 rest_1 Pre_1 launch0 p0 e0 about1 theMethod args0 below0 :=
  ⟨lists_1, trivial, launch0.admits_env _ _ _, launch0.least_env, fairChoices_fair.cas, fairChoices_fair.clock, w_frames, w_args, w_heap, w_applies, trivial, trivial, w_case⟩
end start1
theorem witness_1 : WitnessClaimed_1 := ⟨start1.p0, start1.e0, start1.about1, start1.theMethod, start1.args0, start1.below0, start1.atStart⟩
end Jvm.Pilot.@@N@@
