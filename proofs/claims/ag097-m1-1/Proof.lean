import JvmDerived
import JvmDerived.Pilot.@@N@@Statement
import JvmDerived.Pilot.@@N@@Code
set_option linter.unusedVariables false
set_option linter.unusedSimpArgs false

namespace Jvm.RoadKit
open Sem ClassFile Op Lib Jvm.Stand Jvm.Free Jvm.LawKit
section Go
variable {p : Program} {l : Launch} {e : Env} {R : Room} {s : State} {m : MethodId} {args : Array Value} {below : List Frame} {meth : Method} {c : Code} {T T' : State} {locs : List Loc} {cells slots : Nat} {Z : State} {a0 : Array Value} {h : Heap} {B : ByteArray} {K : Outcome → State → Prop} {pc pcT pcF : Nat} {ls : Array Slot} {st : List Value}
/-- from T with the frame g the run comes to an end of which K holds -/
def Go (p : Program) (e : Env) (below : List Frame) (K : Outcome → State → Prop) (T : State) (g : JFrame) : Prop :=
  ∃ u o, Steps p.tables e below (T.setTop g) u ∧ u.status = .running ∧ Ended u below o ∧ K o u
theorem Go.on {g g' : JFrame} (st : ∀ t, Steps p.tables e below (T'.setTop g') t → Steps p.tables e below (T.setTop g) t) (h : Go p e below K T' g') : Go p e below K T g := by
  obtain ⟨u, o, h1, h2⟩ := h; exact ⟨u, o, st _ h1, h2⟩
theorem Go.join {α : Type} {P : α → Prop} {g : α → JFrame} {g0 : JFrame} (rest : ∀ z, P z → Go p e below K T (g z)) (here : (∀ z, P z → Go p e below K T (g z)) → Go p e below K T g0) : Go p e below K T g0 := here rest
theorem Go.joinV {α : Type} {P : α → Prop} {g : α → JFrame} {g0 : JFrame} (X : Stand p l e R s m args below meth c T locs cells slots) (eT : T.heap = h) (rest : ∀ (T' : State) (z : α), Stand p l e R s m args below meth c T' locs cells slots → T'.heap = h → P z → Go p e below K T' (g z))
    (here : (∀ (T' : State) (z : α), Stand p l e R s m args below meth c T' locs cells slots → T'.heap = h → P z → Go p e below K T' (g z)) → Go p e below K T g0) : Go p e below K T g0 := here rest
theorem Go.at {g g' : JFrame} (q : g = g') (h : Go p e below K T g') : Go p e below K T g := q ▸ h
def EndK (s : State) (Q : Option Value → Heap → List Loc → Prop) (k n : Nat) : Outcome → State → Prop := fun o u => ∃ v L, o = .returned v ∧ Q v u.heap L ∧ FrameEnd s o u L k n
abbrev Pact (l : Launch) (Z : State) (y : MethodName) (bytes : ByteArray) (ml : Nat) (ret : Option FieldType) (ws : List Jvm.Cond) (rm : Room) (as : Array Value) (h0 : Heap) (Q : Option Value → Heap → List Loc → Prop) : Prop :=
  MetFree l y (head1 (Jvm.Cond.code y bytes ml ret :: ws) rm) (fun a U => a = as ∧ Z.Warmed39 U.vm ∧ U.heap = h0) (fun _ _ _ _ _ => True) (fun _ U o U' => ∃ v L, o = .returned v ∧ Q v U'.heap L ∧ FrameEnd U o U' L rm.cells rm.slots)
theorem Pact.intro {y : MethodName} {bytes : ByteArray} {ml : Nat} {ret : Option FieldType} {ws : List Jvm.Cond} {rm : Room} {as : Array Value} {h0 : Heap} {Q : Option Value → Heap → List Loc → Prop} (hp : plainFor y = true)
    (body : ∀ (p : Program) (e : Env) (s : State) (m : MethodId) (below : List Frame) (meth : Method) (c : Code) (T : State), Stand p l e rm s m as below meth c T [] 0 0 → p.tables.exec = Jvm.exec → c.code = bytes → c.maxLocals = ml → meth.sig.returnType = ret → meth.locks = false →
      s.vm.findClass y.cls = some m.cls → meth.name = y.name → Z.Warmed39 s.vm → T.heap = h0 → Go p e below (EndK s Q rm.cells rm.slots) T (entryFrame m as ml)) : Pact l Z y bytes ml ret ws rm as h0 Q := by
  refine MetFree.of_bodySF hp hisR ?_
  intro p e s m args below meth c s₁ Bd hml0 hP hK
  obtain ⟨rfl, hZ, hh⟩ := hP
  exact body p e s m below meth c s₁ (Stand.of_body Bd) Bd.exec Bd.bytes hml0 Bd.returns (BodyLoose.notSynchronized Bd) (findClass_of_methodNamed Bd.named) (name_of_methodNamed Bd.named Bd.method).1 hZ (by rw [← hh, Bd.state]; rfl)
theorem Go.icmp (X : Stand p l e R s m args below meth c T locs cells slots) (hx : p.tables.exec = Jvm.exec) (hby : c.code = B) {cd : ClassFile.Cond} {x y : Int32} {o : Int} (hd : decode B pc = .ok (.if_icmp cd o, 3)) (ho : 0 ≤ (pc : Int) + o) (hp : ((pc : Int) + o).toNat = pcT) (hq : pc + 3 = pcF)
    (hT : if_icmp.holds cd x y = true → Go p e below K T (mkF m pcT ls st)) (hF : if_icmp.holds cd x y = false → Go p e below K T (mkF m pcF ls st)) : Go p e below K T (mkF m pc ls (.int y :: .int x :: st)) := by
  subst hq
  cases q : if_icmp.holds cd x y
  · exact Go.on (fun t k => XS.icmpNo X.here hx rfl (hb hby hd) rfl q k) (hF q)
  · exact Go.on (fun t k => XS.icmpYes X.here hx rfl (pc0 := pc) rfl (hb hby hd) rfl q ho hp k) (hT q)
theorem Go.ifc (X : Stand p l e R s m args below meth c T locs cells slots) (hx : p.tables.exec = Jvm.exec) (hby : c.code = B) {cd : ClassFile.Cond} {x : Int32} {o : Int} (hd : decode B pc = .ok (.ifCond cd o, 3)) (ho : 0 ≤ (pc : Int) + o) (hp : ((pc : Int) + o).toNat = pcT) (hq : pc + 3 = pcF)
    (hT : if_icmp.holds cd x 0 = true → Go p e below K T (mkF m pcT ls st)) (hF : if_icmp.holds cd x 0 = false → Go p e below K T (mkF m pcF ls st)) : Go p e below K T (mkF m pc ls (.int x :: st)) := by
  subst hq
  rw [← if0] at hT hF
  cases q : ifCond.holds cd x
  · exact Go.on (fun t k => XS.ifNo X.here hx rfl (hb hby hd) rfl q k) (hF q)
  · exact Go.on (fun t k => XS.ifYes X.here hx rfl (pc0 := pc) rfl (hb hby hd) rfl q ho hp k) (hT q)
theorem iEq {x y : Int32} : (if_icmp.holds .eq x y = true → x = y) ∧ (if_icmp.holds .eq x y = false → ¬ x = y) := by constructor <;> intro h <;> simpa [if_icmp.holds] using h
theorem iNe {x y : Int32} : (if_icmp.holds .ne x y = true → ¬ x = y) ∧ (if_icmp.holds .ne x y = false → x = y) := by constructor <;> intro h <;> simpa [if_icmp.holds] using h
theorem iLt {x y : Int32} : (if_icmp.holds .lt x y = true → x < y) ∧ (if_icmp.holds .lt x y = false → ¬ x < y) := by constructor <;> intro h <;> simpa [if_icmp.holds] using h
theorem iGe {x y : Int32} : (if_icmp.holds .ge x y = true → ¬ x < y) ∧ (if_icmp.holds .ge x y = false → x < y) := by constructor <;> intro h <;> simpa [if_icmp.holds] using h
theorem iGt {x y : Int32} : (if_icmp.holds .gt x y = true → y < x) ∧ (if_icmp.holds .gt x y = false → ¬ y < x) := by constructor <;> intro h <;> simpa [if_icmp.holds] using h
theorem iLe {x y : Int32} : (if_icmp.holds .le x y = true → ¬ y < x) ∧ (if_icmp.holds .le x y = false → y < x) := by constructor <;> intro h <;> simpa [if_icmp.holds] using h
theorem Go.acmp (X : Stand p l e R s m args below meth c T locs cells slots) (hx : p.tables.exec = Jvm.exec) (hby : c.code = B) {cd : ACond} {x y : Value} (h1 : x.isRef = true) (h2 : y.isRef = true) {o : Int} (hd : decode B pc = .ok (.if_acmp cd o, 3)) (ho : 0 ≤ (pc : Int) + o) (hp : ((pc : Int) + o).toNat = pcT) (hq : pc + 3 = pcF)
    (hT : XT.acmp cd x y = true → Go p e below K T (mkF m pcT ls st)) (hF : XT.acmp cd x y = false → Go p e below K T (mkF m pcF ls st)) : Go p e below K T (mkF m pc ls (y :: x :: st)) := by
  subst hq
  cases q : XT.acmp cd x y
  · exact Go.on (fun t k => XT.acmpNo X.here hx rfl (hb hby hd) rfl h1 h2 q k) (hF q)
  · exact Go.on (fun t k => XT.acmpYes X.here hx rfl (pc0 := pc) rfl (hb hby hd) rfl h1 h2 q ho hp k) (hT q)
theorem aEq {x y : Value} : (XT.acmp .eq x y = true → x = y) ∧ (XT.acmp .eq x y = false → ¬ x = y) := by constructor <;> intro h <;> simpa [XT.acmp] using h
theorem aNe {x y : Value} : (XT.acmp .ne x y = true → ¬ x = y) ∧ (XT.acmp .ne x y = false → x = y) := by constructor <;> intro h <;> simpa [XT.acmp] using h
theorem rEq {x y : Addr} : (XT.acmp .eq (.ref x) (.ref y) = true → x = y) ∧ (XT.acmp .eq (.ref x) (.ref y) = false → ¬ x = y) := by constructor <;> intro h <;> simpa [XT.acmp] using h
theorem rNe {x y : Addr} : (XT.acmp .ne (.ref x) (.ref y) = true → ¬ x = y) ∧ (XT.acmp .ne (.ref x) (.ref y) = false → x = y) := by constructor <;> intro h <;> simpa [XT.acmp] using h
theorem cat_ref {x : Value} (h : x.isRef = true) : x.category = 1 := by rcases ref_cases h with rfl | ⟨a, rfl⟩ <;> rfl
theorem eqInt {first : State} {o : Option Outcome} {idx : List Nat} {t : Term} {k : Int32} (h : (Jvm.Cond.eq t (Term.int k)).value args first o s idx = some true) : t.eval args first o idx s = some (.int k) := by
  obtain ⟨x, y, hx, hy, k1, k2⟩ := cmp_v (Or.inl h)
  have e : y = .int k := Option.some.inj (hy.symm.trans (Term.int_eval k))
  subst e
  obtain ⟨z, rfl⟩ := k2
  have q : z = k := gotT (Cond.eq_ints hx hy) h
  rw [hx, q]
theorem fldInt {t : Term} {a : Addr} {C n d : String} {k : Int32} (ev : t.eval args Z none [] Z = some (.ref a)) (h : (Jvm.Cond.eq (Term.field t C n d) (Term.int k)).value args Z none Z [] = some true) : Fld Z Z.heap a C n d (.int k) :=
  Fld.start ((fld_at ev).symm.trans (eqInt h))
theorem fldNull {t : Term} {a : Addr} {C n d : String} (ev : t.eval args Z none [] Z = some (.ref a)) (h : (Jvm.Cond.eq (Term.field t C n d) Term.null).value args Z none Z [] = some true) : Fld Z Z.heap a C n d .null :=
  Fld.start ((fld_at ev).symm.trans (null_v h))
theorem fldRef {t u : Term} {a b : Addr} {C n d : String} (ev : t.eval args Z none [] Z = some (.ref a)) (hu : u.eval args Z none [] Z = some (.ref b)) (h : (Jvm.Cond.eq (Term.field t C n d) u).value args Z none Z [] = some true) : Fld Z Z.heap a C n d (.ref b) := by
  obtain ⟨x, y, hx, hy, k1, k2⟩ := cmp_v (Or.inl h)
  cases hy.symm.trans hu
  have q : x = .ref b := gotT (eq_R hx hy k2.2 rfl) h
  exact Fld.start ((fld_at ev).symm.trans (q ▸ hx))
theorem Go.retV (X : Stand p l e R s m args below meth c T locs cells slots) (hx : p.tables.exec = Jvm.exec) (hlk : meth.locks = false) {t : FieldType} (hret : meth.sig.returnType = some t) (hby : c.code = B) {i : Instr} (hd : decode B pc = .ok (i, 1)) {w : Value} (hn : narrow t w = w)
    (hi : (i = .ireturn ∧ (t = .int ∨ t = .boolean ∨ t = .byte ∨ t = .char ∨ t = .short) ∧ ∃ z, w = .int z) ∨ (i = .lreturn ∧ t = .long ∧ ∃ z, w = .long z) ∨ (i = .dreturn ∧ t = .double ∧ ∃ z, w = .double z) ∨ (i = .freturn ∧ t = .float ∧ ∃ z, w = .float z) ∨ (i = .areturn ∧ t.isReference = true ∧ w.isRef = true))
    {Q : Option Value → Heap → List Loc → Prop} {k n : Nat} (hc : cells ≤ k) (hs : slots ≤ n) (hq : Q (some w) T.heap locs) : Go p e below (EndK s Q k n) T (mkF m pc ls (w :: st)) := by
  obtain ⟨fs, hr, hrun, hended, hW, hsame⟩ := X.leave (v := some w) (fun h => by rw [hret] at h; cases h) hlk
  exact ⟨_, _, retOut X hx hret hn hi (hb hby hd) hr, hrun, hended, _, _, rfl, hq, ⟨_, rfl⟩, hW, hsame.mono hc hs⟩
theorem Go.retI (X : Stand p l e R s m args below meth c T locs cells slots) (hx : p.tables.exec = Jvm.exec) (hlk : meth.locks = false) {t : FieldType} (hret : meth.sig.returnType = some t) (hby : c.code = B) (hd : decode B pc = .ok (.ireturn, 1)) {z : Int32} (hn : narrow t (.int z) = .int z)
    (ht : t = .int ∨ t = .boolean ∨ t = .byte ∨ t = .char ∨ t = .short) {Q : Option Value → Heap → List Loc → Prop} {k n : Nat} (hc : cells ≤ k) (hs : slots ≤ n) (hq : Q (some (.int z)) T.heap locs) : Go p e below (EndK s Q k n) T (mkF m pc ls (.int z :: st)) :=
  Go.retV X hx hlk hret hby hd hn (Or.inl ⟨rfl, ht, z, rfl⟩) hc hs hq
theorem Go.retA (X : Stand p l e R s m args below meth c T locs cells slots) (hx : p.tables.exec = Jvm.exec) (hlk : meth.locks = false) {t : FieldType} (hret : meth.sig.returnType = some t) (hby : c.code = B) (hd : decode B pc = .ok (.areturn, 1)) {w : Value} (hw : w.isRef = true)
    (ht : t.isReference = true) {Q : Option Value → Heap → List Loc → Prop} {k n : Nat} (hc : cells ≤ k) (hs : slots ≤ n) (hq : Q (some w) T.heap locs) : Go p e below (EndK s Q k n) T (mkF m pc ls (w :: st)) :=
  Go.retV X hx hlk hret hby hd (by rcases ref_cases hw with rfl | ⟨a, rfl⟩ <;> cases t <;> first | rfl | cases ht) (Or.inr (Or.inr (Or.inr (Or.inr ⟨rfl, ht, hw⟩)))) hc hs hq
theorem Go.ret0 (X : Stand p l e R s m args below meth c T locs cells slots) (hx : p.tables.exec = Jvm.exec) (hlk : meth.locks = false) (hret : meth.sig.returnType = none) (hby : c.code = B) (hd : decode B pc = .ok (.return_, 1))
    {Q : Option Value → Heap → List Loc → Prop} {k n : Nat} (hc : cells ≤ k) (hs : slots ≤ n) (hq : Q none T.heap locs) : Go p e below (EndK s Q k n) T (mkF m pc ls []) := by
  obtain ⟨fs, hr, hrun, hended, hW, hsame⟩ := X.leave (v := none) (fun _ => rfl) hlk
  exact ⟨_, _, X.returnOut hx hret (hb hby hd) hr, hrun, hended, _, _, rfl, hq, ⟨_, rfl⟩, hW, hsame.mono hc hs⟩
theorem Go.callS (X : Stand p l e R s m args below meth c T locs cells slots) (hx : p.tables.exec = Jvm.exec) (hZ : Z.Warmed39 s.vm) (hby : c.code = B) (hml : ls.size = c.maxLocals) {own : String} {index : Nat} {y : MethodName} {bytes : ByteArray} {maxL : Nat} {ret : Option FieldType} {rm : Room} {Q : Option Value → Heap → List Loc → Prop}
    (hown : s.vm.findClass own = some m.cls) (w1 : (Jvm.Cond.methodLink own index y).before a0 Z = true) (w2 : (Jvm.Cond.static y).before a0 Z = true) (w3 : (Jvm.Cond.initialized y.cls).before a0 Z = true) (w4 : (Jvm.Cond.code y bytes maxL ret).before a0 Z = true) (hy : y.cls ≠ "java/lang/invoke/MethodHandle" ∧ y.cls ≠ "java/lang/invoke/VarHandle")
    {argsL rest : List Value} (hM : Pact l Z y bytes maxL ret [] rm argsL.toArray h Q) (eT : T.heap = h) (W : Nat) (hf : rm.frames + 1 ≤ R.frames) (hl : W + (maxL + 11) + rm.locals ≤ R.locals) (hc : cells + rm.cells ≤ R.cells) (hs : slots + rm.slots ≤ R.slots)
    (hst : st = argsL.reverse ++ rest) {ps : List FieldType} {rt : Option FieldType} (hdesc : parseMethodDescriptor y.desc = some ⟨ps, rt⟩) (hlen : argsL.length = ps.length) (hW : (rest.map fun v => v.category).sum ≤ W) (hd : decode B pc = .ok (.invokestatic index, 3)) (hq : pc + 3 = pcF)
    (next : ∀ (v : Option Value) (T' : State) (L : List Loc), Stand p l e R s m args below meth c T' (locs ++ L) (cells + rm.cells) (slots + rm.slots) → Q v T'.heap L → Go p e below K T' (mkF m pcF ls (v.toList ++ rest))) : Go p e below K T (mkF m pc ls st) := by
  subst hq
  obtain ⟨v, vm₁, ⟨T', L', k', n'⟩, -, X', ⟨Lc, hQ, l', y', z'⟩, st'⟩ := Jvm.LawKit.callS X hx (y := y) hown (mvT hZ w1) (mvT hZ w2) (mvT hZ w3) (mvT hZ w4) hy (backOf (W := W) hM hZ w4 w3 hf hl) (g := mkF m pc ls st) rfl hml (argsL := argsL) (rest := rest) (lenOf hdesc hlen) hst (by show 2 * 0 + _ ≤ W; omega) (hb hby hd) (fun _ _ => ⟨rfl, eT, hc, hs⟩)
  dsimp only [Pt.U, Pt.locs, Pt.cells, Pt.slots] at X' l' y' z' st' hQ
  subst l' y' z'
  exact Go.on st' (next v T' Lc X' hQ)
theorem Go.callV (X : Stand p l e R s m args below meth c T locs cells slots) (hx : p.tables.exec = Jvm.exec) (hZ : Z.Warmed39 s.vm) (hby : c.code = B) (hml : ls.size = c.maxLocals) {own C : String} {index : Nat} {y : MethodName} {bytes : ByteArray} {maxL : Nat} {ret : Option FieldType} {rm : Room} {Q : Option Value → Heap → List Loc → Prop}
    (hown : s.vm.findClass own = some m.cls) (w1 : (Jvm.Cond.methodLink own index y).before a0 Z = true) (w2 : (Jvm.Cond.declares y).before a0 Z = true) (w3 : (Jvm.Cond.selects C y y).before a0 Z = true) (w4 : (Jvm.Cond.instanceMethod y).before a0 Z = true) (w5 : (Jvm.Cond.code y bytes maxL ret).before a0 Z = true) (w6 : (Jvm.Cond.initialized y.cls).before a0 Z = true) (hy : y.cls ≠ "java/lang/invoke/MethodHandle" ∧ y.cls ≠ "java/lang/invoke/VarHandle")
    {b : Addr} {argsL rest : List Value} (hM : Pact l Z y bytes maxL ret [] rm (.ref b :: argsL).toArray h Q) (eT : T.heap = h) (E : Exa Z h b C) (W : Nat) (hf : rm.frames + 1 ≤ R.frames) (hl : W + (maxL + 11) + rm.locals ≤ R.locals) (hc : cells + rm.cells ≤ R.cells) (hs : slots + rm.slots ≤ R.slots)
    (hst : st = argsL.reverse ++ .ref b :: rest) {ps : List FieldType} {rt : Option FieldType} (hdesc : parseMethodDescriptor y.desc = some ⟨ps, rt⟩) (hlen : argsL.length = ps.length) (hW : (rest.map fun v => v.category).sum ≤ W) (hd : decode B pc = .ok (.invokevirtual index, 3)) (hq : pc + 3 = pcF)
    (next : ∀ (v : Option Value) (T' : State) (L : List Loc), Stand p l e R s m args below meth c T' (locs ++ L) (cells + rm.cells) (slots + rm.slots) → Q v T'.heap L → Go p e below K T' (mkF m pcF ls (v.toList ++ rest))) : Go p e below K T (mkF m pc ls st) := by
  subst hq
  obtain ⟨cq, kq, q1, q2, q3⟩ := isOf hZ eT E
  obtain ⟨v, vm₁, ⟨T', L', k', n'⟩, -, X', ⟨Lc, hQ, l', y', z'⟩, st'⟩ := X.virtualBack hx (y := y) (z := y) hown (mvT hZ w1) (mvT hZ w2) (notFace_of_selects (args := #[]) (mvT hZ w3)) (mvT hZ w3) (mvT hZ w4) hy (backOf (W := W) hM hZ w5 w6 hf hl) q1 q3 (g := mkF m pc ls st) rfl hml (Steps.refl _) (argsL := argsL) (rest := rest) (lenOf hdesc hlen) hst (by show 2 * 0 + _ ≤ W; omega) (hb hby hd) (fun _ _ => ⟨rfl, eT, hc, hs⟩)
  dsimp only [Pt.U, Pt.locs, Pt.cells, Pt.slots] at X' l' y' z' st' hQ
  subst l' y' z'
  exact Go.on (fun t k => st'.trans k) (next v T' Lc X' hQ)
theorem Go.callI (X : Stand p l e R s m args below meth c T locs cells slots) (hx : p.tables.exec = Jvm.exec) (hZ : Z.Warmed39 s.vm) (hby : c.code = B) (hml : ls.size = c.maxLocals) {own : String} {index : Nat} {y : MethodName} {bytes : ByteArray} {maxL : Nat} {rm : Room} {Q : Option Value → Heap → List Loc → Prop}
    (hinit : y.name = "<init>") (hown : s.vm.findClass own = some m.cls) (w1 : (Jvm.Cond.methodLink own index y).before a0 Z = true) (w4 : (Jvm.Cond.instanceMethod y).before a0 Z = true) (w5 : (Jvm.Cond.code y bytes maxL none).before a0 Z = true) (w6 : (Jvm.Cond.initialized y.cls).before a0 Z = true) (hy : y.cls ≠ "java/lang/invoke/MethodHandle" ∧ y.cls ≠ "java/lang/invoke/VarHandle")
    {b : Addr} {argsL rest : List Value} (hM : Pact l Z y bytes maxL none [] rm (.ref b :: argsL).toArray h Q) (eT : T.heap = h) (W : Nat) (hf : rm.frames + 1 ≤ R.frames) (hl : W + (maxL + 11) + rm.locals ≤ R.locals) (hc : cells + rm.cells ≤ R.cells) (hs : slots + rm.slots ≤ R.slots)
    (hst : st = argsL.reverse ++ .ref b :: rest) {ps : List FieldType} {rt : Option FieldType} (hdesc : parseMethodDescriptor y.desc = some ⟨ps, rt⟩) (hlen : argsL.length = ps.length) (hW : (rest.map fun v => v.category).sum ≤ W) (hd : decode B pc = .ok (.invokespecial index, 3)) (hq : pc + 3 = pcF)
    (next : ∀ (v : Option Value) (T' : State) (L : List Loc), Stand p l e R s m args below meth c T' (locs ++ L) (cells + rm.cells) (slots + rm.slots) → Q v T'.heap L → Go p e below K T' (mkF m pcF ls (v.toList ++ rest))) : Go p e below K T (mkF m pc ls st) := by
  subst hq
  obtain ⟨v, vm₁, ⟨T', L', k', n'⟩, -, X', ⟨Lc, hQ, l', y', z'⟩, st'⟩ := X.specialBack hx (y := y) hinit hown (mvT hZ w1) (mvT hZ w4) (mvT hZ w5) hy (backOf (W := W) hM hZ w5 w6 hf hl) (g := mkF m pc ls st) rfl hml (Steps.refl _) (a := b) (argsL := argsL) (rest := rest) (lenOf hdesc hlen) hst (by show 2 * 0 + _ ≤ W; omega) (hb hby hd) (fun _ _ => ⟨rfl, eT, hc, hs⟩)
  dsimp only [Pt.U, Pt.locs, Pt.cells, Pt.slots] at X' l' y' z' st' hQ
  subst l' y' z'
  exact Go.on (fun t k => st'.trans k) (next v T' Lc X' hQ)
theorem Go.callU (X : Stand p l e R s m args below meth c T locs cells slots) (hx : p.tables.exec = Jvm.exec) (hZ : Z.Warmed39 s.vm) (hby : c.code = B) (hml : ls.size = c.maxLocals) {own C owner : String} {index : Nat} {y z : MethodName} {bytes : ByteArray} {maxL : Nat} {ret : Option FieldType} {rm : Room} {Q : Option Value → Heap → List Loc → Prop}
    (hown : s.vm.findClass own = some m.cls) (w1 : (Jvm.Cond.methodLink own index y).before a0 Z = true) (wsm : (Jvm.Cond.sameMethod y.cls owner y.name y.desc).before a0 Z = true) (w2 : (Jvm.Cond.declares ⟨owner, y.name, y.desc⟩).before a0 Z = true) (w3 : (Jvm.Cond.selects C y z).before a0 Z = true) (w4 : (Jvm.Cond.instanceMethod z).before a0 Z = true) (w5 : (Jvm.Cond.code z bytes maxL ret).before a0 Z = true) (w6 : (Jvm.Cond.initialized z.cls).before a0 Z = true) (hy : owner ≠ "java/lang/invoke/MethodHandle" ∧ owner ≠ "java/lang/invoke/VarHandle")
    {b : Addr} {argsL rest : List Value} (hM : Pact l Z z bytes maxL ret [] rm (.ref b :: argsL).toArray h Q) (eT : T.heap = h) (E : Exa Z h b C) (W : Nat) (hf : rm.frames + 1 ≤ R.frames) (hl : W + (maxL + 11) + rm.locals ≤ R.locals) (hc : cells + rm.cells ≤ R.cells) (hs : slots + rm.slots ≤ R.slots)
    (hst : st = argsL.reverse ++ .ref b :: rest) {ps : List FieldType} {rt : Option FieldType} (hdesc : parseMethodDescriptor y.desc = some ⟨ps, rt⟩) (hlen : argsL.length = ps.length) (hW : (rest.map fun v => v.category).sum ≤ W) (hd : decode B pc = .ok (.invokevirtual index, 3)) (hq : pc + 3 = pcF)
    (next : ∀ (v : Option Value) (T' : State) (L : List Loc), Stand p l e R s m args below meth c T' (locs ++ L) (cells + rm.cells) (slots + rm.slots) → Q v T'.heap L → Go p e below K T' (mkF m pcF ls (v.toList ++ rest))) : Go p e below K T (mkF m pc ls st) := by
  subst hq
  obtain ⟨cq, kq, q1, q2, q3⟩ := isOf hZ eT E
  obtain ⟨v, vm₁, ⟨T', L', k', n'⟩, -, X', ⟨Lc, hQ, l', y', z'⟩, st'⟩ := X.virtualBackUp hx (x := y) (y := z) hown (mvT hZ w1) (mvT hZ wsm) (mvT hZ w2) hy (mvT hZ w3) (mvT hZ w4) (backOf (W := W) hM hZ w5 w6 hf hl) q1 q3 (g := mkF m pc ls st) rfl hml (Steps.refl _) (argsL := argsL) (rest := rest) (lenOf hdesc hlen) hst (by show 2 * 0 + _ ≤ W; omega) (hb hby hd) (fun _ _ => ⟨rfl, eT, hc, hs⟩)
  dsimp only [Pt.U, Pt.locs, Pt.cells, Pt.slots] at X' l' y' z' st' hQ
  subst l' y' z'
  exact Go.on (fun t k => st'.trans k) (next v T' Lc X' hQ)
theorem Go.callP (X : Stand p l e R s m args below meth c T locs cells slots) (hx : p.tables.exec = Jvm.exec) (hZ : Z.Warmed39 s.vm) (hby : c.code = B) (hml : ls.size = c.maxLocals) {own : String} {index kk : Nat} {y : MethodName} {bytes : ByteArray} {maxL : Nat} {ret : Option FieldType} {rm : Room} {Q : Option Value → Heap → List Loc → Prop}
    (hown : s.vm.findClass own = some m.cls) (w1 : (Jvm.Cond.methodLink own index y).before a0 Z = true) (w2 : (Jvm.Cond.instantiable y.cls kk).before a0 Z = true) (w3 : (Jvm.Cond.privateMethod y).before a0 Z = true) (w4 : (Jvm.Cond.instanceMethod y).before a0 Z = true) (w5 : (Jvm.Cond.code y bytes maxL ret).before a0 Z = true) (w6 : (Jvm.Cond.initialized y.cls).before a0 Z = true) (hy : y.cls ≠ "java/lang/invoke/MethodHandle" ∧ y.cls ≠ "java/lang/invoke/VarHandle")
    {b : Addr} {argsL rest : List Value} (hM : Pact l Z y bytes maxL ret [] rm (.ref b :: argsL).toArray h Q) (eT : T.heap = h) {C : String} (E : Exa Z h b C) (W : Nat) (hf : rm.frames + 1 ≤ R.frames) (hl : W + (maxL + 11) + rm.locals ≤ R.locals) (hc : cells + rm.cells ≤ R.cells) (hs : slots + rm.slots ≤ R.slots)
    (hst : st = argsL.reverse ++ .ref b :: rest) {ps : List FieldType} {rt : Option FieldType} (hdesc : parseMethodDescriptor y.desc = some ⟨ps, rt⟩) (hlen : argsL.length = ps.length) (hW : (rest.map fun v => v.category).sum ≤ W) (hd : decode B pc = .ok (.invokevirtual index, 3)) (hq : pc + 3 = pcF)
    (next : ∀ (v : Option Value) (T' : State) (L : List Loc), Stand p l e R s m args below meth c T' (locs ++ L) (cells + rm.cells) (slots + rm.slots) → Q v T'.heap L → Go p e below K T' (mkF m pcF ls (v.toList ++ rest))) : Go p e below K T (mkF m pc ls st) := by
  subst hq
  obtain ⟨cq, q, q'⟩ := E.cell
  have hpriv : s.PrivateAt y := Cond.privateMethod_at (mvP hZ w3 (args := #[]))
  obtain ⟨c2, k2, i1, i2, -, i4, -⟩ := Cond.instantiable_spec (mvT (args := #[]) (s := s) hZ w2)
  have hni : k2.isInterface = false := (Bool.or_eq_false_iff.mp i4).1
  obtain ⟨v, vm₁, ⟨T', L', k', n'⟩, -, X', ⟨Lc, hQ, l', y', z'⟩, st'⟩ := X.privateBack hx (y := y) hown (mvT hZ w1) (mvT hZ w4) (selects_self_of_private i1 i2 hni hpriv (mvT hZ w4) hy) hpriv (mvT hZ w5) hy (backOf (W := W) hM hZ w5 w6 hf hl) (g := mkF m pc ls st) rfl hml (Steps.refl _) (a := b) (by rw [eT]; exact q) q' (argsL := argsL) (rest := rest) (lenOf hdesc hlen) hst (by show 2 * 0 + _ ≤ W; omega) (hb hby hd) (fun _ _ => ⟨rfl, eT, hc, hs⟩)
  dsimp only [Pt.U, Pt.locs, Pt.cells, Pt.slots] at X' l' y' z' st' hQ
  subst l' y' z'
  exact Go.on (fun t k => st'.trans k) (next v T' Lc X' hQ)
theorem extWr {h0 h h' : Heap} {a : Addr} {sl : Nat} {v : Value} (E : Ext h0 h) (W : Wr h h' a sl v) (q : h0.size ≤ a) : Ext h0 h' := by
  refine ⟨by rw [W.size]; exact E.1, fun x c hx => ?_⟩
  obtain ⟨cb', r1, -, -, -, r5, -⟩ := wr_at W (E.2 x c hx)
  rw [r1, r5 (Nat.ne_of_lt (Nat.lt_of_lt_of_le (Array.getElem?_eq_some_iff.mp hx).1 q))]
theorem extKeep {h0 h h' : Heap} {a : Addr} (E : Ext h0 h) (K : Keep h h' [a]) (q : h0.size ≤ a) : Ext h0 h' :=
  ⟨Nat.le_trans E.1 K.1, fun x c hx => K.2.1 x c (E.2 x c hx) (ninS (Nat.ne_of_lt (Nat.lt_of_lt_of_le (Array.getElem?_eq_some_iff.mp hx).1 q)) nin0)⟩
theorem extTrans {h0 h h' : Heap} (E : Ext h0 h) (E' : Ext h h') : Ext h0 h' := ⟨Nat.le_trans E.1 E'.1, fun x c hx => E'.2 x c (E.2 x c hx)⟩
theorem arrKeep {h h' : Heap} {a b : Addr} {cl : Cell} {ty : FieldType} (A : Arr Z h a cl ty) (K : Keep h h' [b]) (hne : a ≠ b) : Arr Z h' a cl ty := ⟨K.2.1 _ _ A.1 (ninS hne nin0), A.2⟩
end Go
end Jvm.RoadKit

namespace Jvm.Pilot.@@N@@
open Jvm Jvm.ClassFile Sem Op Lib Jvm.Free Jvm.Stand Jvm.LawKit Jvm.RoadKit Bundle Jvm.Pilot.@@N@@.Jvm.D

theorem pnLaw : plainName "com/example/meridiana/meridiana/server/CoordinatorActionStatusIsEndedPinLaw" = true := by first | (simp [plainName, overriddenIn]; done) | decide +kernel
theorem pnE : plainName "com/example/meridiana/meridiana/server/CoordinatorActionStatus" = true := by first | (simp [plainName, overriddenIn]; done) | decide +kernel
theorem pdP : parseMethodDescriptor "(I)Lcom/example/meridiana/meridiana/server/CoordinatorActionStatus;" = some ⟨[.int], some (.object "com/example/meridiana/meridiana/server/CoordinatorActionStatus")⟩ := by decide +kernel
theorem pdE : parseMethodDescriptor "()Z" = some ⟨[], some .boolean⟩ := by decide +kernel
theorem efP (m : MethodId) (k : Int32) : entryFrame m #[(.int k)] 1 = mkF m 0 #[.val (.int k)] [] := by first | (simp [entryFrame, mkF, argsToLocals, Value.category, maxLocals]; done) | rfl
theorem efE (m : MethodId) (r : Addr) : entryFrame m #[(.ref r)] 1 = mkF m 0 #[.val (.ref r)] [] := by first | (simp [entryFrame, mkF, argsToLocals, Value.category, maxLocals]; done) | rfl
theorem ef0 (m : MethodId) (x0 : Int32) : entryFrame m #[(.int x0)] maxLocals = mkF m 0 #[.val (.int x0), .unset, .unset, .unset, .unset] [] := by first | (simp [entryFrame, mkF, argsToLocals, Value.category, maxLocals]; done) | rfl
def own_K (Z : State) (h : Heap) (a0 a1 a2 a3 a4 a5 a6 a7 a8 : Addr) : Prop := (Sta Z h "com/example/meridiana/meridiana/server/CoordinatorActionStatus" "WAITING" "Lcom/example/meridiana/meridiana/server/CoordinatorActionStatus;" (.ref a0) ∧ Exa Z h a0 "com/example/meridiana/meridiana/server/CoordinatorActionStatus") ∧ (Sta Z h "com/example/meridiana/meridiana/server/CoordinatorActionStatus" "READY" "Lcom/example/meridiana/meridiana/server/CoordinatorActionStatus;" (.ref a1) ∧ Exa Z h a1 "com/example/meridiana/meridiana/server/CoordinatorActionStatus") ∧ (Sta Z h "com/example/meridiana/meridiana/server/CoordinatorActionStatus" "SUBMITTED" "Lcom/example/meridiana/meridiana/server/CoordinatorActionStatus;" (.ref a2) ∧ Exa Z h a2 "com/example/meridiana/meridiana/server/CoordinatorActionStatus") ∧ (Sta Z h "com/example/meridiana/meridiana/server/CoordinatorActionStatus" "RUNNING" "Lcom/example/meridiana/meridiana/server/CoordinatorActionStatus;" (.ref a3) ∧ Exa Z h a3 "com/example/meridiana/meridiana/server/CoordinatorActionStatus") ∧ (Sta Z h "com/example/meridiana/meridiana/server/CoordinatorActionStatus" "SUCCEEDED" "Lcom/example/meridiana/meridiana/server/CoordinatorActionStatus;" (.ref a4) ∧ Exa Z h a4 "com/example/meridiana/meridiana/server/CoordinatorActionStatus") ∧ (Sta Z h "com/example/meridiana/meridiana/server/CoordinatorActionStatus" "KILLED" "Lcom/example/meridiana/meridiana/server/CoordinatorActionStatus;" (.ref a5) ∧ Exa Z h a5 "com/example/meridiana/meridiana/server/CoordinatorActionStatus") ∧ (Sta Z h "com/example/meridiana/meridiana/server/CoordinatorActionStatus" "FAILED" "Lcom/example/meridiana/meridiana/server/CoordinatorActionStatus;" (.ref a6) ∧ Exa Z h a6 "com/example/meridiana/meridiana/server/CoordinatorActionStatus") ∧ (Sta Z h "com/example/meridiana/meridiana/server/CoordinatorActionStatus" "TIMEDOUT" "Lcom/example/meridiana/meridiana/server/CoordinatorActionStatus;" (.ref a7) ∧ Exa Z h a7 "com/example/meridiana/meridiana/server/CoordinatorActionStatus") ∧ (Sta Z h "com/example/meridiana/meridiana/server/CoordinatorActionStatus" "SKIPPED" "Lcom/example/meridiana/meridiana/server/CoordinatorActionStatus;" (.ref a8) ∧ Exa Z h a8 "com/example/meridiana/meridiana/server/CoordinatorActionStatus")
theorem own_K.s0 {Z : State} {h : Heap} {a0 a1 a2 a3 a4 a5 a6 a7 a8 : Addr} (K : own_K Z h a0 a1 a2 a3 a4 a5 a6 a7 a8) : Sta Z h "com/example/meridiana/meridiana/server/CoordinatorActionStatus" "WAITING" "Lcom/example/meridiana/meridiana/server/CoordinatorActionStatus;" (.ref a0) := K.1.1
theorem own_K.e0 {Z : State} {h : Heap} {a0 a1 a2 a3 a4 a5 a6 a7 a8 : Addr} (K : own_K Z h a0 a1 a2 a3 a4 a5 a6 a7 a8) : Exa Z h a0 "com/example/meridiana/meridiana/server/CoordinatorActionStatus" := K.1.2
theorem own_K.s1 {Z : State} {h : Heap} {a0 a1 a2 a3 a4 a5 a6 a7 a8 : Addr} (K : own_K Z h a0 a1 a2 a3 a4 a5 a6 a7 a8) : Sta Z h "com/example/meridiana/meridiana/server/CoordinatorActionStatus" "READY" "Lcom/example/meridiana/meridiana/server/CoordinatorActionStatus;" (.ref a1) := K.2.1.1
theorem own_K.e1 {Z : State} {h : Heap} {a0 a1 a2 a3 a4 a5 a6 a7 a8 : Addr} (K : own_K Z h a0 a1 a2 a3 a4 a5 a6 a7 a8) : Exa Z h a1 "com/example/meridiana/meridiana/server/CoordinatorActionStatus" := K.2.1.2
theorem own_K.s2 {Z : State} {h : Heap} {a0 a1 a2 a3 a4 a5 a6 a7 a8 : Addr} (K : own_K Z h a0 a1 a2 a3 a4 a5 a6 a7 a8) : Sta Z h "com/example/meridiana/meridiana/server/CoordinatorActionStatus" "SUBMITTED" "Lcom/example/meridiana/meridiana/server/CoordinatorActionStatus;" (.ref a2) := K.2.2.1.1
theorem own_K.e2 {Z : State} {h : Heap} {a0 a1 a2 a3 a4 a5 a6 a7 a8 : Addr} (K : own_K Z h a0 a1 a2 a3 a4 a5 a6 a7 a8) : Exa Z h a2 "com/example/meridiana/meridiana/server/CoordinatorActionStatus" := K.2.2.1.2
theorem own_K.s3 {Z : State} {h : Heap} {a0 a1 a2 a3 a4 a5 a6 a7 a8 : Addr} (K : own_K Z h a0 a1 a2 a3 a4 a5 a6 a7 a8) : Sta Z h "com/example/meridiana/meridiana/server/CoordinatorActionStatus" "RUNNING" "Lcom/example/meridiana/meridiana/server/CoordinatorActionStatus;" (.ref a3) := K.2.2.2.1.1
theorem own_K.e3 {Z : State} {h : Heap} {a0 a1 a2 a3 a4 a5 a6 a7 a8 : Addr} (K : own_K Z h a0 a1 a2 a3 a4 a5 a6 a7 a8) : Exa Z h a3 "com/example/meridiana/meridiana/server/CoordinatorActionStatus" := K.2.2.2.1.2
theorem own_K.s4 {Z : State} {h : Heap} {a0 a1 a2 a3 a4 a5 a6 a7 a8 : Addr} (K : own_K Z h a0 a1 a2 a3 a4 a5 a6 a7 a8) : Sta Z h "com/example/meridiana/meridiana/server/CoordinatorActionStatus" "SUCCEEDED" "Lcom/example/meridiana/meridiana/server/CoordinatorActionStatus;" (.ref a4) := K.2.2.2.2.1.1
theorem own_K.e4 {Z : State} {h : Heap} {a0 a1 a2 a3 a4 a5 a6 a7 a8 : Addr} (K : own_K Z h a0 a1 a2 a3 a4 a5 a6 a7 a8) : Exa Z h a4 "com/example/meridiana/meridiana/server/CoordinatorActionStatus" := K.2.2.2.2.1.2
theorem own_K.s5 {Z : State} {h : Heap} {a0 a1 a2 a3 a4 a5 a6 a7 a8 : Addr} (K : own_K Z h a0 a1 a2 a3 a4 a5 a6 a7 a8) : Sta Z h "com/example/meridiana/meridiana/server/CoordinatorActionStatus" "KILLED" "Lcom/example/meridiana/meridiana/server/CoordinatorActionStatus;" (.ref a5) := K.2.2.2.2.2.1.1
theorem own_K.e5 {Z : State} {h : Heap} {a0 a1 a2 a3 a4 a5 a6 a7 a8 : Addr} (K : own_K Z h a0 a1 a2 a3 a4 a5 a6 a7 a8) : Exa Z h a5 "com/example/meridiana/meridiana/server/CoordinatorActionStatus" := K.2.2.2.2.2.1.2
theorem own_K.s6 {Z : State} {h : Heap} {a0 a1 a2 a3 a4 a5 a6 a7 a8 : Addr} (K : own_K Z h a0 a1 a2 a3 a4 a5 a6 a7 a8) : Sta Z h "com/example/meridiana/meridiana/server/CoordinatorActionStatus" "FAILED" "Lcom/example/meridiana/meridiana/server/CoordinatorActionStatus;" (.ref a6) := K.2.2.2.2.2.2.1.1
theorem own_K.e6 {Z : State} {h : Heap} {a0 a1 a2 a3 a4 a5 a6 a7 a8 : Addr} (K : own_K Z h a0 a1 a2 a3 a4 a5 a6 a7 a8) : Exa Z h a6 "com/example/meridiana/meridiana/server/CoordinatorActionStatus" := K.2.2.2.2.2.2.1.2
theorem own_K.s7 {Z : State} {h : Heap} {a0 a1 a2 a3 a4 a5 a6 a7 a8 : Addr} (K : own_K Z h a0 a1 a2 a3 a4 a5 a6 a7 a8) : Sta Z h "com/example/meridiana/meridiana/server/CoordinatorActionStatus" "TIMEDOUT" "Lcom/example/meridiana/meridiana/server/CoordinatorActionStatus;" (.ref a7) := K.2.2.2.2.2.2.2.1.1
theorem own_K.e7 {Z : State} {h : Heap} {a0 a1 a2 a3 a4 a5 a6 a7 a8 : Addr} (K : own_K Z h a0 a1 a2 a3 a4 a5 a6 a7 a8) : Exa Z h a7 "com/example/meridiana/meridiana/server/CoordinatorActionStatus" := K.2.2.2.2.2.2.2.1.2
theorem own_K.s8 {Z : State} {h : Heap} {a0 a1 a2 a3 a4 a5 a6 a7 a8 : Addr} (K : own_K Z h a0 a1 a2 a3 a4 a5 a6 a7 a8) : Sta Z h "com/example/meridiana/meridiana/server/CoordinatorActionStatus" "SKIPPED" "Lcom/example/meridiana/meridiana/server/CoordinatorActionStatus;" (.ref a8) := K.2.2.2.2.2.2.2.2.1
theorem own_K.e8 {Z : State} {h : Heap} {a0 a1 a2 a3 a4 a5 a6 a7 a8 : Addr} (K : own_K Z h a0 a1 a2 a3 a4 a5 a6 a7 a8) : Exa Z h a8 "com/example/meridiana/meridiana/server/CoordinatorActionStatus" := K.2.2.2.2.2.2.2.2.2
theorem own_K.ext {Z : State} {h h' : Heap} {a0 a1 a2 a3 a4 a5 a6 a7 a8 : Addr} (K : own_K Z h a0 a1 a2 a3 a4 a5 a6 a7 a8) (E : Ext h h') : own_K Z h' a0 a1 a2 a3 a4 a5 a6 a7 a8 := ⟨⟨K.s0.ext E, K.e0.ext E⟩, ⟨K.s1.ext E, K.e1.ext E⟩, ⟨K.s2.ext E, K.e2.ext E⟩, ⟨K.s3.ext E, K.e3.ext E⟩, ⟨K.s4.ext E, K.e4.ext E⟩, ⟨K.s5.ext E, K.e5.ext E⟩, ⟨K.s6.ext E, K.e6.ext E⟩, ⟨K.s7.ext E, K.e7.ext E⟩, ⟨K.s8.ext E, K.e8.ext E⟩⟩
theorem own_K.wr {Z : State} {h h' : Heap} {b : Addr} {sl : Nat} {w : Value} {a0 a1 a2 a3 a4 a5 a6 a7 a8 : Addr} (K : own_K Z h a0 a1 a2 a3 a4 a5 a6 a7 a8) (W : Wr h h' b sl w) : own_K Z h' a0 a1 a2 a3 a4 a5 a6 a7 a8 := ⟨⟨K.s0.wr W, K.e0.wr W⟩, ⟨K.s1.wr W, K.e1.wr W⟩, ⟨K.s2.wr W, K.e2.wr W⟩, ⟨K.s3.wr W, K.e3.wr W⟩, ⟨K.s4.wr W, K.e4.wr W⟩, ⟨K.s5.wr W, K.e5.wr W⟩, ⟨K.s6.wr W, K.e6.wr W⟩, ⟨K.s7.wr W, K.e7.wr W⟩, ⟨K.s8.wr W, K.e8.wr W⟩⟩
def own_pick (k : Int32) (a0 a1 a2 a3 a4 a5 a6 a7 a8 : Addr) : Addr := if k = 0 then a0 else if k = 1 then a1 else if k = 2 then a2 else if k = 3 then a3 else if k = 4 then a4 else if k = 5 then a5 else if k = 6 then a6 else if k = 7 then a7 else a8
theorem own_pick_e {Z : State} {h : Heap} (k : Int32) {a0 a1 a2 a3 a4 a5 a6 a7 a8 : Addr} (K : own_K Z h a0 a1 a2 a3 a4 a5 a6 a7 a8) : Exa Z h (own_pick k a0 a1 a2 a3 a4 a5 a6 a7 a8) "com/example/meridiana/meridiana/server/CoordinatorActionStatus" := by
  unfold own_pick
  repeat' split
  all_goals first | exact K.e0 | exact K.e1 | exact K.e2 | exact K.e3 | exact K.e4 | exact K.e5 | exact K.e6 | exact K.e7 | exact K.e8
theorem own_range (x : Int32) : 0 ≤ ((x &&& (2147483647 : Int32)) % (9 : Int32)).toInt ∧ ((x &&& (2147483647 : Int32)) % (9 : Int32)).toInt < 9 := by
  have e := c_and x (2147483647 : Int32) (by decide)
  have r := (c_irem (x &&& (2147483647 : Int32)) (9 : Int32) 9 (by decide)).1 e.1
  rw [r]
  omega
theorem own_cases (k : Int32) (h : 0 ≤ k.toInt ∧ k.toInt < 9) : k = 0 ∨ k = 1 ∨ k = 2 ∨ k = 3 ∨ k = 4 ∨ k = 5 ∨ k = 6 ∨ k = 7 ∨ k = 8 := by
  have e : ∀ i : Int32, k.toInt = i.toInt → k = i := fun i q => Int32.toInt_inj.mp q
  have q : k.toInt = 0 ∨ k.toInt = 1 ∨ k.toInt = 2 ∨ k.toInt = 3 ∨ k.toInt = 4 ∨ k.toInt = 5 ∨ k.toInt = 6 ∨ k.toInt = 7 ∨ k.toInt = 8 := by omega
  rcases q with q | q | q | q | q | q | q | q | q
  · exact Or.inl (e 0 q)
  · exact Or.inr (Or.inl (e 1 q))
  · exact Or.inr (Or.inr (Or.inl (e 2 q)))
  · exact Or.inr (Or.inr (Or.inr (Or.inl (e 3 q))))
  · exact Or.inr (Or.inr (Or.inr (Or.inr (Or.inl (e 4 q)))))
  · exact Or.inr (Or.inr (Or.inr (Or.inr (Or.inr (Or.inl (e 5 q))))))
  · exact Or.inr (Or.inr (Or.inr (Or.inr (Or.inr (Or.inr (Or.inl (e 6 q)))))))
  · exact Or.inr (Or.inr (Or.inr (Or.inr (Or.inr (Or.inr (Or.inr (Or.inl (e 7 q))))))))
  · exact Or.inr (Or.inr (Or.inr (Or.inr (Or.inr (Or.inr (Or.inr (Or.inr (e 8 q))))))))
def own_end (r b1 b2 b3 b4 b5 : Addr) : Int32 := if r = b1 then 1 else if r = b2 then 1 else if r = b3 then 1 else if r = b4 then 1 else if r = b5 then 1 else 0
theorem own_law (k : Int32) {a0 a1 a2 a3 a4 a5 a6 a7 a8 : Addr} (n04 : a0 ≠ a4) (n05 : a0 ≠ a5) (n06 : a0 ≠ a6) (n07 : a0 ≠ a7) (n08 : a0 ≠ a8) (n14 : a1 ≠ a4) (n15 : a1 ≠ a5) (n16 : a1 ≠ a6) (n17 : a1 ≠ a7) (n18 : a1 ≠ a8) (n24 : a2 ≠ a4) (n25 : a2 ≠ a5) (n26 : a2 ≠ a6) (n27 : a2 ≠ a7) (n28 : a2 ≠ a8) (n34 : a3 ≠ a4) (n35 : a3 ≠ a5) (n36 : a3 ≠ a6) (n37 : a3 ≠ a7) (n38 : a3 ≠ a8) (h : 0 ≤ k.toInt ∧ k.toInt < 9) : own_end (own_pick k a0 a1 a2 a3 a4 a5 a6 a7 a8) a4 a5 a6 a7 a8 = if 3 < k then 1 else 0 := by
  rcases own_cases k h with rfl | rfl | rfl | rfl | rfl | rfl | rfl | rfl | rfl
  all_goals simp [own_pick, own_end, n04, n05, n06, n07, n08, n14, n15, n16, n17, n18, n24, n25, n26, n27, n28, n34, n35, n36, n37, n38]
def own_QR (h0 : Heap) (r : Value) (v : Option Value) (h : Heap) (L : List Loc) : Prop := v = some r ∧ L = [] ∧ h = h0
theorem d1_0 : decode method_3_code 0 = .ok (.iload_n 0, 1) := by decide +kernel
theorem d1_1 : decode method_3_code 1 = .ok (.ifCond .ne 7, 3) := by decide +kernel
theorem d1_4 : decode method_3_code 4 = .ok (.getstatic 20, 3) := by decide +kernel
theorem d1_7 : decode method_3_code 7 = .ok (.areturn, 1) := by decide +kernel
theorem d1_8 : decode method_3_code 8 = .ok (.iload_n 0, 1) := by decide +kernel
theorem d1_9 : decode method_3_code 9 = .ok (.iconst 1, 1) := by decide +kernel
theorem d1_10 : decode method_3_code 10 = .ok (.if_icmp .ne 7, 3) := by decide +kernel
theorem d1_13 : decode method_3_code 13 = .ok (.getstatic 24, 3) := by decide +kernel
theorem d1_16 : decode method_3_code 16 = .ok (.areturn, 1) := by decide +kernel
theorem d1_17 : decode method_3_code 17 = .ok (.iload_n 0, 1) := by decide +kernel
theorem d1_18 : decode method_3_code 18 = .ok (.iconst 2, 1) := by decide +kernel
theorem d1_19 : decode method_3_code 19 = .ok (.if_icmp .ne 7, 3) := by decide +kernel
theorem d1_22 : decode method_3_code 22 = .ok (.getstatic 27, 3) := by decide +kernel
theorem d1_25 : decode method_3_code 25 = .ok (.areturn, 1) := by decide +kernel
theorem d1_26 : decode method_3_code 26 = .ok (.iload_n 0, 1) := by decide +kernel
theorem d1_27 : decode method_3_code 27 = .ok (.iconst 3, 1) := by decide +kernel
theorem d1_28 : decode method_3_code 28 = .ok (.if_icmp .ne 7, 3) := by decide +kernel
theorem d1_31 : decode method_3_code 31 = .ok (.getstatic 30, 3) := by decide +kernel
theorem d1_34 : decode method_3_code 34 = .ok (.areturn, 1) := by decide +kernel
theorem d1_35 : decode method_3_code 35 = .ok (.iload_n 0, 1) := by decide +kernel
theorem d1_36 : decode method_3_code 36 = .ok (.iconst 4, 1) := by decide +kernel
theorem d1_37 : decode method_3_code 37 = .ok (.if_icmp .ne 7, 3) := by decide +kernel
theorem d1_40 : decode method_3_code 40 = .ok (.getstatic 33, 3) := by decide +kernel
theorem d1_43 : decode method_3_code 43 = .ok (.areturn, 1) := by decide +kernel
theorem d1_44 : decode method_3_code 44 = .ok (.iload_n 0, 1) := by decide +kernel
theorem d1_45 : decode method_3_code 45 = .ok (.iconst 5, 1) := by decide +kernel
theorem d1_46 : decode method_3_code 46 = .ok (.if_icmp .ne 7, 3) := by decide +kernel
theorem d1_49 : decode method_3_code 49 = .ok (.getstatic 36, 3) := by decide +kernel
theorem d1_52 : decode method_3_code 52 = .ok (.areturn, 1) := by decide +kernel
theorem d1_53 : decode method_3_code 53 = .ok (.iload_n 0, 1) := by decide +kernel
theorem d1_54 : decode method_3_code 54 = .ok (.bipush 6, 2) := by decide +kernel
theorem d1_56 : decode method_3_code 56 = .ok (.if_icmp .ne 7, 3) := by decide +kernel
theorem d1_59 : decode method_3_code 59 = .ok (.getstatic 39, 3) := by decide +kernel
theorem d1_62 : decode method_3_code 62 = .ok (.areturn, 1) := by decide +kernel
theorem d1_63 : decode method_3_code 63 = .ok (.iload_n 0, 1) := by decide +kernel
theorem d1_64 : decode method_3_code 64 = .ok (.bipush 7, 2) := by decide +kernel
theorem d1_66 : decode method_3_code 66 = .ok (.if_icmp .ne 7, 3) := by decide +kernel
theorem d1_69 : decode method_3_code 69 = .ok (.getstatic 42, 3) := by decide +kernel
theorem d1_72 : decode method_3_code 72 = .ok (.areturn, 1) := by decide +kernel
theorem d1_73 : decode method_3_code 73 = .ok (.getstatic 45, 3) := by decide +kernel
theorem d1_76 : decode method_3_code 76 = .ok (.areturn, 1) := by decide +kernel
set_option maxRecDepth 65536 in
set_option maxHeartbeats 40000000 in
theorem rmP (l : Launch) (Z : State) (w0 : Array Value) (hw : ∀ d ∈ tables_1, d.before w0 Z = true) (ws : List Jvm.Cond) (k : Int32) (a0 a1 a2 a3 a4 a5 a6 a7 a8 : Addr) (h0 : Heap) (K0 : own_K Z h0 a0 a1 a2 a3 a4 a5 a6 a7 a8) : Pact l Z (⟨"com/example/meridiana/meridiana/server/CoordinatorActionStatusIsEndedPinLaw", "pick", "(I)Lcom/example/meridiana/meridiana/server/CoordinatorActionStatus;"⟩ : MethodName) method_3_code 1 (some (.object "com/example/meridiana/meridiana/server/CoordinatorActionStatus")) ws ({ frames := 0, cells := 0, slots := 0, locals := 0 } : Room) #[.int k] h0 (own_QR h0 (.ref (own_pick k a0 a1 a2 a3 a4 a5 a6 a7 a8))) := by
  refine Pact.intro (plainFor_of_name pnLaw) ?_
  intro p e s m below meth c T0 X0 hx hby hml hret hlk hown hnm hZ e0
  refine Go.at (efP m k) ?_
  refine Go.on (g' := (mkF m 1 _ [(.int k)])) (fun t k => XS.iloadN X0.here hx rfl (hb hby d1_0) rfl k) ?_
  refine Go.ifc X0 hx hby d1_1 (pcT := 8) (pcF := 4) (by decide) (by decide) rfl (fun q => ?_) (fun q => ?_)
  · have q1 := iNe.1 q
    clear q
    show Go p e below _ _ (mkF m 8 _ [])
    refine Go.on (g' := (mkF m 9 _ [(.int k)])) (fun t k => XS.iloadN X0.here hx rfl (hb hby d1_8) rfl k) ?_
    refine Go.on (g' := (mkF m 10 _ [(.int (1 : Int32)), (.int k)])) (fun t k => XS.iconst X0.here hx rfl (hb hby d1_9) k) ?_
    refine Go.icmp X0 hx hby d1_10 (pcT := 17) (pcF := 13) (by decide) (by decide) rfl (fun q => ?_) (fun q => ?_)
    · have q2 := iNe.1 q
      clear q
      show Go p e below _ _ (mkF m 17 _ [])
      refine Go.on (g' := (mkF m 18 _ [(.int k)])) (fun t k => XS.iloadN X0.here hx rfl (hb hby d1_17) rfl k) ?_
      refine Go.on (g' := (mkF m 19 _ [(.int (2 : Int32)), (.int k)])) (fun t k => XS.iconst X0.here hx rfl (hb hby d1_18) k) ?_
      refine Go.icmp X0 hx hby d1_19 (pcT := 26) (pcF := 22) (by decide) (by decide) rfl (fun q => ?_) (fun q => ?_)
      · have q3 := iNe.1 q
        clear q
        show Go p e below _ _ (mkF m 26 _ [])
        refine Go.on (g' := (mkF m 27 _ [(.int k)])) (fun t k => XS.iloadN X0.here hx rfl (hb hby d1_26) rfl k) ?_
        refine Go.on (g' := (mkF m 28 _ [(.int (3 : Int32)), (.int k)])) (fun t k => XS.iconst X0.here hx rfl (hb hby d1_27) k) ?_
        refine Go.icmp X0 hx hby d1_28 (pcT := 35) (pcF := 31) (by decide) (by decide) rfl (fun q => ?_) (fun q => ?_)
        · have q4 := iNe.1 q
          clear q
          show Go p e below _ _ (mkF m 35 _ [])
          refine Go.on (g' := (mkF m 36 _ [(.int k)])) (fun t k => XS.iloadN X0.here hx rfl (hb hby d1_35) rfl k) ?_
          refine Go.on (g' := (mkF m 37 _ [(.int (4 : Int32)), (.int k)])) (fun t k => XS.iconst X0.here hx rfl (hb hby d1_36) k) ?_
          refine Go.icmp X0 hx hby d1_37 (pcT := 44) (pcF := 40) (by decide) (by decide) rfl (fun q => ?_) (fun q => ?_)
          · have q5 := iNe.1 q
            clear q
            show Go p e below _ _ (mkF m 44 _ [])
            refine Go.on (g' := (mkF m 45 _ [(.int k)])) (fun t k => XS.iloadN X0.here hx rfl (hb hby d1_44) rfl k) ?_
            refine Go.on (g' := (mkF m 46 _ [(.int (5 : Int32)), (.int k)])) (fun t k => XS.iconst X0.here hx rfl (hb hby d1_45) k) ?_
            refine Go.icmp X0 hx hby d1_46 (pcT := 53) (pcF := 49) (by decide) (by decide) rfl (fun q => ?_) (fun q => ?_)
            · have q6 := iNe.1 q
              clear q
              show Go p e below _ _ (mkF m 53 _ [])
              refine Go.on (g' := (mkF m 54 _ [(.int k)])) (fun t k => XS.iloadN X0.here hx rfl (hb hby d1_53) rfl k) ?_
              refine Go.on (g' := (mkF m 56 _ [(.int (6 : Int32)), (.int k)])) (fun t k => XS.bipush X0.here hx rfl (hb hby d1_54) k) ?_
              refine Go.icmp X0 hx hby d1_56 (pcT := 63) (pcF := 59) (by decide) (by decide) rfl (fun q => ?_) (fun q => ?_)
              · have q7 := iNe.1 q
                clear q
                show Go p e below _ _ (mkF m 63 _ [])
                refine Go.on (g' := (mkF m 64 _ [(.int k)])) (fun t k => XS.iloadN X0.here hx rfl (hb hby d1_63) rfl k) ?_
                refine Go.on (g' := (mkF m 66 _ [(.int (7 : Int32)), (.int k)])) (fun t k => XS.bipush X0.here hx rfl (hb hby d1_64) k) ?_
                refine Go.icmp X0 hx hby d1_66 (pcT := 73) (pcF := 69) (by decide) (by decide) rfl (fun q => ?_) (fun q => ?_)
                · have q8 := iNe.1 q
                  clear q
                  show Go p e below _ _ (mkF m 73 _ [])
                  obtain ⟨T1, X1, e1, st1⟩ := getS (host := "") X0 hx hZ hown (hw _ (List.mem_of_getElem? (i := 31) rfl)) Via.refl e0 K0.s8 (g := (mkF m 73 #[.val (.int k)] [])) rfl (hb hby d1_73)
                  refine Go.on (g' := (mkF m 76 _ [(.ref a8)])) (st1) ?_
                  exact Go.retA X1 hx hlk hret hby d1_76 rfl rfl (by decide) (by decide) ⟨by rw [own_pick, if_neg q1, if_neg q2, if_neg q3, if_neg q4, if_neg q5, if_neg q6, if_neg q7, if_neg q8], rfl, e1⟩
                · have q8 := iNe.2 q
                  clear q
                  show Go p e below _ _ (mkF m 69 _ [])
                  obtain ⟨T2, X2, e2, st2⟩ := getS (host := "") X0 hx hZ hown (hw _ (List.mem_of_getElem? (i := 29) rfl)) Via.refl e0 K0.s7 (g := (mkF m 69 #[.val (.int k)] [])) rfl (hb hby d1_69)
                  refine Go.on (g' := (mkF m 72 _ [(.ref a7)])) (st2) ?_
                  exact Go.retA X2 hx hlk hret hby d1_72 rfl rfl (by decide) (by decide) ⟨by rw [own_pick, if_neg q1, if_neg q2, if_neg q3, if_neg q4, if_neg q5, if_neg q6, if_neg q7, if_pos q8], rfl, e2⟩
              · have q7 := iNe.2 q
                clear q
                show Go p e below _ _ (mkF m 59 _ [])
                obtain ⟨T3, X3, e3, st3⟩ := getS (host := "") X0 hx hZ hown (hw _ (List.mem_of_getElem? (i := 32) rfl)) Via.refl e0 K0.s6 (g := (mkF m 59 #[.val (.int k)] [])) rfl (hb hby d1_59)
                refine Go.on (g' := (mkF m 62 _ [(.ref a6)])) (st3) ?_
                exact Go.retA X3 hx hlk hret hby d1_62 rfl rfl (by decide) (by decide) ⟨by rw [own_pick, if_neg q1, if_neg q2, if_neg q3, if_neg q4, if_neg q5, if_neg q6, if_pos q7], rfl, e3⟩
            · have q6 := iNe.2 q
              clear q
              show Go p e below _ _ (mkF m 49 _ [])
              obtain ⟨T4, X4, e4, st4⟩ := getS (host := "") X0 hx hZ hown (hw _ (List.mem_of_getElem? (i := 33) rfl)) Via.refl e0 K0.s5 (g := (mkF m 49 #[.val (.int k)] [])) rfl (hb hby d1_49)
              refine Go.on (g' := (mkF m 52 _ [(.ref a5)])) (st4) ?_
              exact Go.retA X4 hx hlk hret hby d1_52 rfl rfl (by decide) (by decide) ⟨by rw [own_pick, if_neg q1, if_neg q2, if_neg q3, if_neg q4, if_neg q5, if_pos q6], rfl, e4⟩
          · have q5 := iNe.2 q
            clear q
            show Go p e below _ _ (mkF m 40 _ [])
            obtain ⟨T5, X5, e5, st5⟩ := getS (host := "") X0 hx hZ hown (hw _ (List.mem_of_getElem? (i := 30) rfl)) Via.refl e0 K0.s4 (g := (mkF m 40 #[.val (.int k)] [])) rfl (hb hby d1_40)
            refine Go.on (g' := (mkF m 43 _ [(.ref a4)])) (st5) ?_
            exact Go.retA X5 hx hlk hret hby d1_43 rfl rfl (by decide) (by decide) ⟨by rw [own_pick, if_neg q1, if_neg q2, if_neg q3, if_neg q4, if_pos q5], rfl, e5⟩
        · have q4 := iNe.2 q
          clear q
          show Go p e below _ _ (mkF m 31 _ [])
          obtain ⟨T6, X6, e6, st6⟩ := getS (host := "") X0 hx hZ hown (hw _ (List.mem_of_getElem? (i := 23) rfl)) Via.refl e0 K0.s3 (g := (mkF m 31 #[.val (.int k)] [])) rfl (hb hby d1_31)
          refine Go.on (g' := (mkF m 34 _ [(.ref a3)])) (st6) ?_
          exact Go.retA X6 hx hlk hret hby d1_34 rfl rfl (by decide) (by decide) ⟨by rw [own_pick, if_neg q1, if_neg q2, if_neg q3, if_pos q4], rfl, e6⟩
      · have q3 := iNe.2 q
        clear q
        show Go p e below _ _ (mkF m 22 _ [])
        obtain ⟨T7, X7, e7, st7⟩ := getS (host := "") X0 hx hZ hown (hw _ (List.mem_of_getElem? (i := 25) rfl)) Via.refl e0 K0.s2 (g := (mkF m 22 #[.val (.int k)] [])) rfl (hb hby d1_22)
        refine Go.on (g' := (mkF m 25 _ [(.ref a2)])) (st7) ?_
        exact Go.retA X7 hx hlk hret hby d1_25 rfl rfl (by decide) (by decide) ⟨by rw [own_pick, if_neg q1, if_neg q2, if_pos q3], rfl, e7⟩
    · have q2 := iNe.2 q
      clear q
      show Go p e below _ _ (mkF m 13 _ [])
      obtain ⟨T8, X8, e8, st8⟩ := getS (host := "") X0 hx hZ hown (hw _ (List.mem_of_getElem? (i := 27) rfl)) Via.refl e0 K0.s1 (g := (mkF m 13 #[.val (.int k)] [])) rfl (hb hby d1_13)
      refine Go.on (g' := (mkF m 16 _ [(.ref a1)])) (st8) ?_
      exact Go.retA X8 hx hlk hret hby d1_16 rfl rfl (by decide) (by decide) ⟨by rw [own_pick, if_neg q1, if_pos q2], rfl, e8⟩
  · have q1 := iNe.2 q
    clear q
    show Go p e below _ _ (mkF m 4 _ [])
    obtain ⟨T9, X9, e9, st9⟩ := getS (host := "") X0 hx hZ hown (hw _ (List.mem_of_getElem? (i := 5) rfl)) Via.refl e0 K0.s0 (g := (mkF m 4 #[.val (.int k)] [])) rfl (hb hby d1_4)
    refine Go.on (g' := (mkF m 7 _ [(.ref a0)])) (st9) ?_
    exact Go.retA X9 hx hlk hret hby d1_7 rfl rfl (by decide) (by decide) ⟨by rw [own_pick, if_pos q1], rfl, e9⟩
theorem d2_0 : decode prog_46_method_4_code 0 = .ok (.aload_n 0, 1) := by decide +kernel
theorem d2_1 : decode prog_46_method_4_code 1 = .ok (.getstatic 16, 3) := by decide +kernel
theorem d2_4 : decode prog_46_method_4_code 4 = .ok (.if_acmp .eq 31, 3) := by decide +kernel
theorem d2_7 : decode prog_46_method_4_code 7 = .ok (.aload_n 0, 1) := by decide +kernel
theorem d2_8 : decode prog_46_method_4_code 8 = .ok (.getstatic 19, 3) := by decide +kernel
theorem d2_11 : decode prog_46_method_4_code 11 = .ok (.if_acmp .eq 24, 3) := by decide +kernel
theorem d2_14 : decode prog_46_method_4_code 14 = .ok (.aload_n 0, 1) := by decide +kernel
theorem d2_15 : decode prog_46_method_4_code 15 = .ok (.getstatic 22, 3) := by decide +kernel
theorem d2_18 : decode prog_46_method_4_code 18 = .ok (.if_acmp .eq 17, 3) := by decide +kernel
theorem d2_21 : decode prog_46_method_4_code 21 = .ok (.aload_n 0, 1) := by decide +kernel
theorem d2_22 : decode prog_46_method_4_code 22 = .ok (.getstatic 25, 3) := by decide +kernel
theorem d2_25 : decode prog_46_method_4_code 25 = .ok (.if_acmp .eq 10, 3) := by decide +kernel
theorem d2_28 : decode prog_46_method_4_code 28 = .ok (.aload_n 0, 1) := by decide +kernel
theorem d2_29 : decode prog_46_method_4_code 29 = .ok (.getstatic 28, 3) := by decide +kernel
theorem d2_32 : decode prog_46_method_4_code 32 = .ok (.if_acmp .ne 7, 3) := by decide +kernel
theorem d2_35 : decode prog_46_method_4_code 35 = .ok (.iconst 1, 1) := by decide +kernel
theorem d2_36 : decode prog_46_method_4_code 36 = .ok (.goto 4, 3) := by decide +kernel
theorem d2_39 : decode prog_46_method_4_code 39 = .ok (.iconst 0, 1) := by decide +kernel
theorem d2_40 : decode prog_46_method_4_code 40 = .ok (.ireturn, 1) := by decide +kernel
set_option maxRecDepth 65536 in
set_option maxHeartbeats 40000000 in
theorem rmE (l : Launch) (Z : State) (w0 : Array Value) (hw : ∀ d ∈ tables_1, d.before w0 Z = true) (ws : List Jvm.Cond) (r : Addr) (a0 a1 a2 a3 a4 a5 a6 a7 a8 : Addr) (h0 : Heap) (K0 : own_K Z h0 a0 a1 a2 a3 a4 a5 a6 a7 a8) : Pact l Z (⟨"com/example/meridiana/meridiana/server/CoordinatorActionStatus", "isEnded", "()Z"⟩ : MethodName) prog_46_method_4_code 1 (some .boolean) ws ({ frames := 0, cells := 0, slots := 0, locals := 0 } : Room) #[.ref r] h0 (own_QR h0 (.int (own_end r a4 a5 a6 a7 a8))) := by
  refine Pact.intro (plainFor_of_name pnE) ?_
  intro p e s m below meth c T0 X0 hx hby hml hret hlk hown hnm hZ e0
  refine Go.at (efE m r) ?_
  refine Go.on (g' := (mkF m 1 _ [(.ref r)])) (fun t k => XS.aloadN X0.here hx rfl (hb hby d2_0) rfl rfl k) ?_
  obtain ⟨T1, X1, e1, st1⟩ := getS (host := "") X0 hx hZ hown (hw _ (List.mem_of_getElem? (i := 13) rfl)) Via.refl e0 K0.s4 (g := (mkF m 1 #[.val (.ref r)] [(.ref r)])) rfl (hb hby d2_1)
  refine Go.on (g' := (mkF m 4 _ [(.ref a4), (.ref r)])) (st1) ?_
  refine Go.acmp X1 hx hby rfl rfl d2_4 (pcT := 35) (pcF := 7) (by decide) (by decide) rfl (fun q => ?_) (fun q => ?_)
  · have q1 := rEq.1 q
    clear q
    show Go p e below _ _ (mkF m 35 _ [])
    refine Go.on (g' := (mkF m 36 _ [(.int (1 : Int32))])) (fun t k => XS.iconst X1.here hx rfl (hb hby d2_35) k) ?_
    refine Go.on (g' := (mkF m 40 _ [(.int (1 : Int32))])) (fun t k => XS.goto X1.here hx rfl (pc0 := 36) (pc' := 40) rfl (hb hby d2_36) (by decide) (by decide) k) ?_
    exact Go.retI X1 hx hlk hret hby d2_40 rfl (by simp) (by decide) (by decide) ⟨by rw [own_end, if_pos q1], rfl, e1⟩
  · have q1 := rEq.2 q
    clear q
    show Go p e below _ _ (mkF m 7 _ [])
    refine Go.on (g' := (mkF m 8 _ [(.ref r)])) (fun t k => XS.aloadN X1.here hx rfl (hb hby d2_7) rfl rfl k) ?_
    obtain ⟨T2, X2, e2, st2⟩ := getS (host := "") X1 hx hZ hown (hw _ (List.mem_of_getElem? (i := 15) rfl)) Via.refl e1 K0.s5 (g := (mkF m 8 #[.val (.ref r)] [(.ref r)])) rfl (hb hby d2_8)
    refine Go.on (g' := (mkF m 11 _ [(.ref a5), (.ref r)])) (st2) ?_
    refine Go.acmp X2 hx hby rfl rfl d2_11 (pcT := 35) (pcF := 14) (by decide) (by decide) rfl (fun q => ?_) (fun q => ?_)
    · have q2 := rEq.1 q
      clear q
      show Go p e below _ _ (mkF m 35 _ [])
      refine Go.on (g' := (mkF m 36 _ [(.int (1 : Int32))])) (fun t k => XS.iconst X2.here hx rfl (hb hby d2_35) k) ?_
      refine Go.on (g' := (mkF m 40 _ [(.int (1 : Int32))])) (fun t k => XS.goto X2.here hx rfl (pc0 := 36) (pc' := 40) rfl (hb hby d2_36) (by decide) (by decide) k) ?_
      exact Go.retI X2 hx hlk hret hby d2_40 rfl (by simp) (by decide) (by decide) ⟨by rw [own_end, if_neg q1, if_pos q2], rfl, e2⟩
    · have q2 := rEq.2 q
      clear q
      show Go p e below _ _ (mkF m 14 _ [])
      refine Go.on (g' := (mkF m 15 _ [(.ref r)])) (fun t k => XS.aloadN X2.here hx rfl (hb hby d2_14) rfl rfl k) ?_
      obtain ⟨T3, X3, e3, st3⟩ := getS (host := "") X2 hx hZ hown (hw _ (List.mem_of_getElem? (i := 17) rfl)) Via.refl e2 K0.s6 (g := (mkF m 15 #[.val (.ref r)] [(.ref r)])) rfl (hb hby d2_15)
      refine Go.on (g' := (mkF m 18 _ [(.ref a6), (.ref r)])) (st3) ?_
      refine Go.acmp X3 hx hby rfl rfl d2_18 (pcT := 35) (pcF := 21) (by decide) (by decide) rfl (fun q => ?_) (fun q => ?_)
      · have q3 := rEq.1 q
        clear q
        show Go p e below _ _ (mkF m 35 _ [])
        refine Go.on (g' := (mkF m 36 _ [(.int (1 : Int32))])) (fun t k => XS.iconst X3.here hx rfl (hb hby d2_35) k) ?_
        refine Go.on (g' := (mkF m 40 _ [(.int (1 : Int32))])) (fun t k => XS.goto X3.here hx rfl (pc0 := 36) (pc' := 40) rfl (hb hby d2_36) (by decide) (by decide) k) ?_
        exact Go.retI X3 hx hlk hret hby d2_40 rfl (by simp) (by decide) (by decide) ⟨by rw [own_end, if_neg q1, if_neg q2, if_pos q3], rfl, e3⟩
      · have q3 := rEq.2 q
        clear q
        show Go p e below _ _ (mkF m 21 _ [])
        refine Go.on (g' := (mkF m 22 _ [(.ref r)])) (fun t k => XS.aloadN X3.here hx rfl (hb hby d2_21) rfl rfl k) ?_
        obtain ⟨T4, X4, e4, st4⟩ := getS (host := "") X3 hx hZ hown (hw _ (List.mem_of_getElem? (i := 19) rfl)) Via.refl e3 K0.s7 (g := (mkF m 22 #[.val (.ref r)] [(.ref r)])) rfl (hb hby d2_22)
        refine Go.on (g' := (mkF m 25 _ [(.ref a7), (.ref r)])) (st4) ?_
        refine Go.acmp X4 hx hby rfl rfl d2_25 (pcT := 35) (pcF := 28) (by decide) (by decide) rfl (fun q => ?_) (fun q => ?_)
        · have q4 := rEq.1 q
          clear q
          show Go p e below _ _ (mkF m 35 _ [])
          refine Go.on (g' := (mkF m 36 _ [(.int (1 : Int32))])) (fun t k => XS.iconst X4.here hx rfl (hb hby d2_35) k) ?_
          refine Go.on (g' := (mkF m 40 _ [(.int (1 : Int32))])) (fun t k => XS.goto X4.here hx rfl (pc0 := 36) (pc' := 40) rfl (hb hby d2_36) (by decide) (by decide) k) ?_
          exact Go.retI X4 hx hlk hret hby d2_40 rfl (by simp) (by decide) (by decide) ⟨by rw [own_end, if_neg q1, if_neg q2, if_neg q3, if_pos q4], rfl, e4⟩
        · have q4 := rEq.2 q
          clear q
          show Go p e below _ _ (mkF m 28 _ [])
          refine Go.on (g' := (mkF m 29 _ [(.ref r)])) (fun t k => XS.aloadN X4.here hx rfl (hb hby d2_28) rfl rfl k) ?_
          obtain ⟨T5, X5, e5, st5⟩ := getS (host := "") X4 hx hZ hown (hw _ (List.mem_of_getElem? (i := 21) rfl)) Via.refl e4 K0.s8 (g := (mkF m 29 #[.val (.ref r)] [(.ref r)])) rfl (hb hby d2_29)
          refine Go.on (g' := (mkF m 32 _ [(.ref a8), (.ref r)])) (st5) ?_
          refine Go.acmp X5 hx hby rfl rfl d2_32 (pcT := 39) (pcF := 35) (by decide) (by decide) rfl (fun q => ?_) (fun q => ?_)
          · have q5 := rNe.1 q
            clear q
            show Go p e below _ _ (mkF m 39 _ [])
            refine Go.on (g' := (mkF m 40 _ [(.int (0 : Int32))])) (fun t k => XS.iconst X5.here hx rfl (hb hby d2_39) k) ?_
            exact Go.retI X5 hx hlk hret hby d2_40 rfl (by simp) (by decide) (by decide) ⟨by rw [own_end, if_neg q1, if_neg q2, if_neg q3, if_neg q4, if_neg q5], rfl, e5⟩
          · have q5 := rNe.2 q
            clear q
            show Go p e below _ _ (mkF m 35 _ [])
            refine Go.on (g' := (mkF m 36 _ [(.int (1 : Int32))])) (fun t k => XS.iconst X5.here hx rfl (hb hby d2_35) k) ?_
            refine Go.on (g' := (mkF m 40 _ [(.int (1 : Int32))])) (fun t k => XS.goto X5.here hx rfl (pc0 := 36) (pc' := 40) rfl (hb hby d2_36) (by decide) (by decide) k) ?_
            exact Go.retI X5 hx hlk hret hby d2_40 rfl (by simp) (by decide) (by decide) ⟨by rw [own_end, if_neg q1, if_neg q2, if_neg q3, if_neg q4, if_pos q5], rfl, e5⟩
def own_Q0 (n0 : Nat) (v : Option Value) (h : Heap) (L : List Loc) : Prop := v = some (.int 1) ∧ Fr n0 L
set_option maxRecDepth 65536 in
set_option maxHeartbeats 40000000 in
theorem rmLaw (l : Launch) (Z : State) (w0 : Array Value) (hw : ∀ d ∈ tables_1, d.before w0 Z = true) (ws : List Jvm.Cond) (p0 : Int32) (h0 : Heap) (n0 : Nat) (Z0 : n0 ≤ h0.size) (a0 a1 a2 a3 a4 a5 a6 a7 a8 : Addr) (K0 : own_K Z h0 a0 a1 a2 a3 a4 a5 a6 a7 a8) (n04 : a0 ≠ a4) (n05 : a0 ≠ a5) (n06 : a0 ≠ a6) (n07 : a0 ≠ a7) (n08 : a0 ≠ a8) (n14 : a1 ≠ a4) (n15 : a1 ≠ a5) (n16 : a1 ≠ a6) (n17 : a1 ≠ a7) (n18 : a1 ≠ a8) (n24 : a2 ≠ a4) (n25 : a2 ≠ a5) (n26 : a2 ≠ a6) (n27 : a2 ≠ a7) (n28 : a2 ≠ a8) (n34 : a3 ≠ a4) (n35 : a3 ≠ a5) (n36 : a3 ≠ a6) (n37 : a3 ≠ a7) (n38 : a3 ≠ a8) : Pact l Z x code maxLocals ret ws room_1 #[.int p0] h0 (own_Q0 n0) := by
  refine Pact.intro (plainFor_of_name pnLaw) ?_
  intro p e s m below meth c T0 X0 hx hby hml hret hlk hown hnm hZ e0
  refine Go.at (ef0 m p0) ?_
  have hown : s.vm.findClass "com/example/meridiana/meridiana/server/CoordinatorActionStatusIsEndedPinLaw" = some m.cls := hown
  have N0 := Fr.nil n0
  refine Go.on (g' := (mkF m 1 _ [(.int p0)])) (fun t k => XS.iloadN X0.here hx rfl (hb hby at_0) rfl k) ?_
  refine Go.on (g' := (mkF m 3 _ [(.int (2147483647 : Int32)), (.int p0)])) (X0.ldcInt hx hown (mvT hZ (hw _ (List.mem_of_getElem? (i := 0) rfl))) (g := (mkF m 1 #[.val (.int p0), .unset, .unset, .unset, .unset] [(.int p0)])) rfl (hb hby at_1)) ?_
  refine Go.on (g' := (mkF m 4 _ [(.int (p0 &&& (2147483647 : Int32)))])) (fun t k => XS.iand X0.here hx rfl (hb hby at_3) rfl k) ?_
  refine Go.on (g' := (mkF m 6 _ [(.int (9 : Int32)), (.int (p0 &&& (2147483647 : Int32)))])) (fun t k => XS.bipush X0.here hx rfl (hb hby at_4) k) ?_
  refine Go.on (g' := (mkF m 7 _ [(.int ((p0 &&& (2147483647 : Int32)) % (9 : Int32)))])) (fun t k => iremM X0 hx rfl (hb hby at_6) rfl (by decide) k) ?_
  refine Go.on (g' := (mkF m 8 #[.val (.int p0), .val (.int ((p0 &&& (2147483647 : Int32)) % (9 : Int32))), .unset, .unset, .unset] [])) (fun t k => XS.istoreN X0.here hx rfl (hb hby at_7) rfl (l' := #[.val (.int p0), .val (.int ((p0 &&& (2147483647 : Int32)) % (9 : Int32))), .unset, .unset, .unset]) rfl k) ?_
  obtain ⟨kk, hkk⟩ : ∃ z : Int32, z = ((p0 &&& (2147483647 : Int32)) % (9 : Int32)) := ⟨_, rfl⟩
  rw [← hkk]
  have hr := own_range p0
  rw [← hkk] at hr
  refine Go.on (g' := (mkF m 9 _ [(.int kk)])) (fun t k => XS.iloadN X0.here hx rfl (hb hby at_8) rfl k) ?_
  refine Go.callS X0 hx hZ hby (by rw [hml]; rfl) (y := (⟨"com/example/meridiana/meridiana/server/CoordinatorActionStatusIsEndedPinLaw", "pick", "(I)Lcom/example/meridiana/meridiana/server/CoordinatorActionStatus;"⟩ : MethodName)) hown (hw _ (List.mem_of_getElem? (i := 1) rfl)) (hw _ (List.mem_of_getElem? (i := 2) rfl)) (hw _ (List.mem_of_getElem? (i := 3) rfl)) (hw _ (List.mem_of_getElem? (i := 4) rfl)) (by decide) (argsL := [(.int kk)]) (rest := []) (rmP l Z w0 hw [] kk a0 a1 a2 a3 a4 a5 a6 a7 a8 h0 K0) e0 0 (by decide) (by decide) (by decide) (by decide) rfl pdP rfl (Nat.le_of_eq rfl) at_9 (pcF := 12) rfl ?_
  intro v1 T1 L1 X1 hQ1
  obtain ⟨rfl, rfl, e1⟩ := hQ1
  rw [List.append_nil] at X1
  show Go p e below _ _ (mkF m 12 _ [(.ref (own_pick kk a0 a1 a2 a3 a4 a5 a6 a7 a8))])
  refine Go.on (g' := (mkF m 13 #[.val (.int p0), .val (.int kk), .val (.ref (own_pick kk a0 a1 a2 a3 a4 a5 a6 a7 a8)), .unset, .unset] [])) (fun t k => XS.astoreN X1.here hx rfl (hb hby at_12) rfl rfl (l' := #[.val (.int p0), .val (.int kk), .val (.ref (own_pick kk a0 a1 a2 a3 a4 a5 a6 a7 a8)), .unset, .unset]) rfl k) ?_
  refine Go.on (g' := (mkF m 14 _ [(.int kk)])) (fun t k => XS.iloadN X1.here hx rfl (hb hby at_13) rfl k) ?_
  refine Go.on (g' := (mkF m 15 _ [(.int (3 : Int32)), (.int kk)])) (fun t k => XS.iconst X1.here hx rfl (hb hby at_14) k) ?_
  refine Go.icmp X1 hx hby at_15 (pcT := 22) (pcF := 18) (by decide) (by decide) rfl (fun q => ?_) (fun q => ?_)
  · have q1 := iGt.1 q
    clear q
    show Go p e below _ _ (mkF m 22 _ [])
    refine Go.on (g' := (mkF m 23 _ [(.int (0 : Int32))])) (fun t k => XS.iconst X1.here hx rfl (hb hby at_22) k) ?_
    refine Go.on (g' := (mkF m 24 #[.val (.int p0), .val (.int kk), .val (.ref (own_pick kk a0 a1 a2 a3 a4 a5 a6 a7 a8)), .val (.int (0 : Int32)), .unset] [])) (fun t k => XS.istoreN X1.here hx rfl (hb hby at_23) rfl (l' := #[.val (.int p0), .val (.int kk), .val (.ref (own_pick kk a0 a1 a2 a3 a4 a5 a6 a7 a8)), .val (.int (0 : Int32)), .unset]) rfl k) ?_
    refine Go.on (g' := (mkF m 25 _ [(.int (0 : Int32))])) (fun t k => XS.iloadN X1.here hx rfl (hb hby at_24) rfl k) ?_
    refine Go.ifc X1 hx hby at_25 (pcT := 32) (pcF := 28) (by decide) (by decide) rfl (fun q => absurd q (by decide)) (fun q => ?_)
    clear q
    show Go p e below _ _ (mkF m 28 _ [])
    refine Go.on (g' := (mkF m 29 _ [(.int (1 : Int32))])) (fun t k => XS.iconst X1.here hx rfl (hb hby at_28) k) ?_
    refine Go.on (g' := (mkF m 33 _ [(.int (1 : Int32))])) (fun t k => XS.goto X1.here hx rfl (pc0 := 29) (pc' := 33) rfl (hb hby at_29) (by decide) (by decide) k) ?_
    refine Go.on (g' := (mkF m 35 #[.val (.int p0), .val (.int kk), .val (.ref (own_pick kk a0 a1 a2 a3 a4 a5 a6 a7 a8)), .val (.int (0 : Int32)), .val (.int (1 : Int32))] [])) (fun t k => XS.istore X1.here hx rfl (hb hby at_33) rfl (l' := #[.val (.int p0), .val (.int kk), .val (.ref (own_pick kk a0 a1 a2 a3 a4 a5 a6 a7 a8)), .val (.int (0 : Int32)), .val (.int (1 : Int32))]) rfl k) ?_
    refine Go.on (g' := (mkF m 36 _ [(.ref (own_pick kk a0 a1 a2 a3 a4 a5 a6 a7 a8))])) (fun t k => XS.aloadN X1.here hx rfl (hb hby at_35) rfl rfl k) ?_
    refine Go.callV X1 hx hZ hby (by rw [hml]; rfl) (C := "com/example/meridiana/meridiana/server/CoordinatorActionStatus") (y := (⟨"com/example/meridiana/meridiana/server/CoordinatorActionStatus", "isEnded", "()Z"⟩ : MethodName)) hown (hw _ (List.mem_of_getElem? (i := 8) rfl)) (hw _ (List.mem_of_getElem? (i := 9) rfl)) (hw _ (List.mem_of_getElem? (i := 11) rfl)) (hw _ (List.mem_of_getElem? (i := 10) rfl)) (hw _ (List.mem_of_getElem? (i := 12) rfl)) (hw _ (List.mem_of_getElem? (i := 6) rfl)) (by decide) (b := (own_pick kk a0 a1 a2 a3 a4 a5 a6 a7 a8)) (argsL := []) (rest := []) (rmE l Z w0 hw [] (own_pick kk a0 a1 a2 a3 a4 a5 a6 a7 a8) a0 a1 a2 a3 a4 a5 a6 a7 a8 h0 K0) e1 (own_pick_e kk K0) 0 (by decide) (by decide) (by decide) (by decide) rfl pdE rfl (Nat.le_of_eq rfl) at_36 (pcF := 39) rfl ?_
    intro v2 T2 L2 X2 hQ2
    obtain ⟨rfl, rfl, e2⟩ := hQ2
    rw [List.append_nil] at X2
    show Go p e below _ _ (mkF m 39 _ [(.int (own_end (own_pick kk a0 a1 a2 a3 a4 a5 a6 a7 a8) a4 a5 a6 a7 a8))])
    refine Go.on (g' := (mkF m 41 _ [(.int (1 : Int32)), (.int (own_end (own_pick kk a0 a1 a2 a3 a4 a5 a6 a7 a8) a4 a5 a6 a7 a8))])) (fun t k => XS.iload X2.here hx rfl (hb hby at_39) rfl k) ?_
    refine Go.icmp X2 hx hby at_41 (pcT := 48) (pcF := 44) (by decide) (by decide) rfl (fun q => absurd q (fun q => (iNe.1 q) ((own_law kk n04 n05 n06 n07 n08 n14 n15 n16 n17 n18 n24 n25 n26 n27 n28 n34 n35 n36 n37 n38 hr).trans (if_pos q1)))) (fun q => ?_)
    clear q
    show Go p e below _ _ (mkF m 44 _ [])
    refine Go.on (g' := (mkF m 45 _ [(.int (1 : Int32))])) (fun t k => XS.iconst X2.here hx rfl (hb hby at_44) k) ?_
    refine Go.on (g' := (mkF m 49 _ [(.int (1 : Int32))])) (fun t k => XS.goto X2.here hx rfl (pc0 := 45) (pc' := 49) rfl (hb hby at_45) (by decide) (by decide) k) ?_
    exact Go.retI X2 hx hlk hret hby at_49 rfl (by simp) (by decide) (by decide) ⟨rfl, N0⟩
  · have q1 := iGt.2 q
    clear q
    show Go p e below _ _ (mkF m 18 _ [])
    refine Go.on (g' := (mkF m 19 _ [(.int (1 : Int32))])) (fun t k => XS.iconst X1.here hx rfl (hb hby at_18) k) ?_
    refine Go.on (g' := (mkF m 23 _ [(.int (1 : Int32))])) (fun t k => XS.goto X1.here hx rfl (pc0 := 19) (pc' := 23) rfl (hb hby at_19) (by decide) (by decide) k) ?_
    refine Go.on (g' := (mkF m 24 #[.val (.int p0), .val (.int kk), .val (.ref (own_pick kk a0 a1 a2 a3 a4 a5 a6 a7 a8)), .val (.int (1 : Int32)), .unset] [])) (fun t k => XS.istoreN X1.here hx rfl (hb hby at_23) rfl (l' := #[.val (.int p0), .val (.int kk), .val (.ref (own_pick kk a0 a1 a2 a3 a4 a5 a6 a7 a8)), .val (.int (1 : Int32)), .unset]) rfl k) ?_
    refine Go.on (g' := (mkF m 25 _ [(.int (1 : Int32))])) (fun t k => XS.iloadN X1.here hx rfl (hb hby at_24) rfl k) ?_
    refine Go.ifc X1 hx hby at_25 (pcT := 32) (pcF := 28) (by decide) (by decide) rfl (fun q => ?_) (fun q => absurd q (by decide))
    clear q
    show Go p e below _ _ (mkF m 32 _ [])
    refine Go.on (g' := (mkF m 33 _ [(.int (0 : Int32))])) (fun t k => XS.iconst X1.here hx rfl (hb hby at_32) k) ?_
    refine Go.on (g' := (mkF m 35 #[.val (.int p0), .val (.int kk), .val (.ref (own_pick kk a0 a1 a2 a3 a4 a5 a6 a7 a8)), .val (.int (1 : Int32)), .val (.int (0 : Int32))] [])) (fun t k => XS.istore X1.here hx rfl (hb hby at_33) rfl (l' := #[.val (.int p0), .val (.int kk), .val (.ref (own_pick kk a0 a1 a2 a3 a4 a5 a6 a7 a8)), .val (.int (1 : Int32)), .val (.int (0 : Int32))]) rfl k) ?_
    refine Go.on (g' := (mkF m 36 _ [(.ref (own_pick kk a0 a1 a2 a3 a4 a5 a6 a7 a8))])) (fun t k => XS.aloadN X1.here hx rfl (hb hby at_35) rfl rfl k) ?_
    refine Go.callV X1 hx hZ hby (by rw [hml]; rfl) (C := "com/example/meridiana/meridiana/server/CoordinatorActionStatus") (y := (⟨"com/example/meridiana/meridiana/server/CoordinatorActionStatus", "isEnded", "()Z"⟩ : MethodName)) hown (hw _ (List.mem_of_getElem? (i := 8) rfl)) (hw _ (List.mem_of_getElem? (i := 9) rfl)) (hw _ (List.mem_of_getElem? (i := 11) rfl)) (hw _ (List.mem_of_getElem? (i := 10) rfl)) (hw _ (List.mem_of_getElem? (i := 12) rfl)) (hw _ (List.mem_of_getElem? (i := 6) rfl)) (by decide) (b := (own_pick kk a0 a1 a2 a3 a4 a5 a6 a7 a8)) (argsL := []) (rest := []) (rmE l Z w0 hw [] (own_pick kk a0 a1 a2 a3 a4 a5 a6 a7 a8) a0 a1 a2 a3 a4 a5 a6 a7 a8 h0 K0) e1 (own_pick_e kk K0) 0 (by decide) (by decide) (by decide) (by decide) rfl pdE rfl (Nat.le_of_eq rfl) at_36 (pcF := 39) rfl ?_
    intro v3 T3 L3 X3 hQ3
    obtain ⟨rfl, rfl, e3⟩ := hQ3
    rw [List.append_nil] at X3
    show Go p e below _ _ (mkF m 39 _ [(.int (own_end (own_pick kk a0 a1 a2 a3 a4 a5 a6 a7 a8) a4 a5 a6 a7 a8))])
    refine Go.on (g' := (mkF m 41 _ [(.int (0 : Int32)), (.int (own_end (own_pick kk a0 a1 a2 a3 a4 a5 a6 a7 a8) a4 a5 a6 a7 a8))])) (fun t k => XS.iload X3.here hx rfl (hb hby at_39) rfl k) ?_
    refine Go.icmp X3 hx hby at_41 (pcT := 48) (pcF := 44) (by decide) (by decide) rfl (fun q => absurd q (fun q => (iNe.1 q) ((own_law kk n04 n05 n06 n07 n08 n14 n15 n16 n17 n18 n24 n25 n26 n27 n28 n34 n35 n36 n37 n38 hr).trans (if_neg q1)))) (fun q => ?_)
    clear q
    show Go p e below _ _ (mkF m 44 _ [])
    refine Go.on (g' := (mkF m 45 _ [(.int (1 : Int32))])) (fun t k => XS.iconst X3.here hx rfl (hb hby at_44) k) ?_
    refine Go.on (g' := (mkF m 49 _ [(.int (1 : Int32))])) (fun t k => XS.goto X3.here hx rfl (pc0 := 45) (pc' := 49) rfl (hb hby at_45) (by decide) (by decide) k) ?_
    exact Go.retI X3 hx hlk hret hby at_49 rfl (by simp) (by decide) (by decide) ⟨rfl, N0⟩
set_option maxRecDepth 65536 in
set_option maxHeartbeats 40000000 in
theorem comes_1 {Post : Tables → Env → Array Value → State → Outcome → State → Prop} (hpost : ∀ tb e args s v u, (limb_1_1.after args s (.returned v) u = true ∧ limb_1_2.after args s (.returned v) u = true ∧ True) → FrameEnd s (.returned v) u (Jvm.fieldLocs frame_1_writes args s ++ Jvm.arrayLocs frame_1_arrays args s ++ Jvm.staticLocs frame_1_statics s) 0 0 → Post tb e args s (.returned v) u) :
    ArmFor flags0 classFile x code maxLocals ret World_1 tables_1 room_1 Calls_1 rest_1 Pre_1 Post := by
  intro l hfl _ _ p e ha hc hk s m args below hf hA hF happ hP
  obtain ⟨hcalls, hrest, hpre⟩ := hP
  obtain ⟨-, -, -, hnamed, -, -, -, hat⟩ := (Spec.applies_iff hf).mp happ
  obtain ⟨hg, hn⟩ := and_e (Cond.before_iff.mp (show (Jvm.Cond.and given_1 narrow_1).before args s = true from hpre))
  obtain ⟨hcount, hg⟩ := and_e hg
  have g0 := hg
  obtain ⟨w0, rfl⟩ : ∃ w0 : Value, args = #[w0] := by
    have hs : args.size = 1 := by simpa [Cond.value, given_1] using hcount
    obtain ⟨L⟩ := args
    match L, hs with
    | [w0], _ => exact ⟨w0, rfl⟩
  have hw := fun d (hd : d ∈ tables_1) => atoms_spec (ws := Jvm.Cond.code x code maxLocals ret :: tables_1) hat d (List.mem_cons_of_mem _ hd)
  have hfit : Fit s := fun {y c} hc i hi => by
    obtain ⟨ha, rfl⟩ := Array.getElem?_eq_some_iff.mp hc
    have q := List.all_eq_true.mp ((Array.all_eq_true_iff_forall_mem.mp hF) _ (Array.getElem_mem ha)) i (List.mem_range.mpr hi)
    simpa [Array.getElem?_eq_getElem hi] using q
  obtain ⟨i0, ev0⟩ := is_v g0
  obtain rfl : w0 = (.int i0) := Option.some.inj ev0
  obtain ⟨z0, hn⟩ := and_e hn
  obtain ⟨z1, hn⟩ := and_e hn
  obtain ⟨z2, hn⟩ := and_e hn
  obtain ⟨z3, hn⟩ := and_e hn
  obtain ⟨z4, hn⟩ := and_e hn
  obtain ⟨z5, hn⟩ := and_e hn
  obtain ⟨z6, hn⟩ := and_e hn
  obtain ⟨z7, hn⟩ := and_e hn
  obtain ⟨z8, hn⟩ := and_e hn
  obtain ⟨z9, hn⟩ := and_e hn
  obtain ⟨z10, hn⟩ := and_e hn
  obtain ⟨z11, hn⟩ := and_e hn
  obtain ⟨z12, hn⟩ := and_e hn
  obtain ⟨z13, hn⟩ := and_e hn
  obtain ⟨z14, hn⟩ := and_e hn
  obtain ⟨z15, hn⟩ := and_e hn
  obtain ⟨z16, hn⟩ := and_e hn
  have z17 := hn
  obtain ⟨a0, va0⟩ := exa_v z0
  have Sa0 := Sta.start va0 (Or.inr ⟨(hw _ (List.mem_of_getElem? (i := 6) rfl)), (hw _ (List.mem_of_getElem? (i := 7) rfl))⟩)
  have Ea0 := Exa.start va0 z0
  have Oa0 := fldInt va0 z2
  obtain ⟨a1, va1⟩ := exa_v z16
  have Sa1 := Sta.start va1 (Or.inr ⟨(hw _ (List.mem_of_getElem? (i := 6) rfl)), (hw _ (List.mem_of_getElem? (i := 28) rfl))⟩)
  have Ea1 := Exa.start va1 z16
  have Oa1 := fldInt va1 z17
  obtain ⟨a2, va2⟩ := exa_v z14
  have Sa2 := Sta.start va2 (Or.inr ⟨(hw _ (List.mem_of_getElem? (i := 6) rfl)), (hw _ (List.mem_of_getElem? (i := 26) rfl))⟩)
  have Ea2 := Exa.start va2 z14
  have Oa2 := fldInt va2 z15
  obtain ⟨a3, va3⟩ := exa_v z12
  have Sa3 := Sta.start va3 (Or.inr ⟨(hw _ (List.mem_of_getElem? (i := 6) rfl)), (hw _ (List.mem_of_getElem? (i := 24) rfl))⟩)
  have Ea3 := Exa.start va3 z12
  have Oa3 := fldInt va3 z13
  obtain ⟨a4, va4⟩ := exa_v z1
  have Sa4 := Sta.start va4 (Or.inr ⟨(hw _ (List.mem_of_getElem? (i := 6) rfl)), (hw _ (List.mem_of_getElem? (i := 14) rfl))⟩)
  have Ea4 := Exa.start va4 z1
  have Oa4 := fldInt va4 z3
  obtain ⟨a5, va5⟩ := exa_v z4
  have Sa5 := Sta.start va5 (Or.inr ⟨(hw _ (List.mem_of_getElem? (i := 6) rfl)), (hw _ (List.mem_of_getElem? (i := 16) rfl))⟩)
  have Ea5 := Exa.start va5 z4
  have Oa5 := fldInt va5 z5
  obtain ⟨a6, va6⟩ := exa_v z6
  have Sa6 := Sta.start va6 (Or.inr ⟨(hw _ (List.mem_of_getElem? (i := 6) rfl)), (hw _ (List.mem_of_getElem? (i := 18) rfl))⟩)
  have Ea6 := Exa.start va6 z6
  have Oa6 := fldInt va6 z7
  obtain ⟨a7, va7⟩ := exa_v z8
  have Sa7 := Sta.start va7 (Or.inr ⟨(hw _ (List.mem_of_getElem? (i := 6) rfl)), (hw _ (List.mem_of_getElem? (i := 20) rfl))⟩)
  have Ea7 := Exa.start va7 z8
  have Oa7 := fldInt va7 z9
  obtain ⟨a8, va8⟩ := exa_v z10
  have Sa8 := Sta.start va8 (Or.inr ⟨(hw _ (List.mem_of_getElem? (i := 6) rfl)), (hw _ (List.mem_of_getElem? (i := 22) rfl))⟩)
  have Ea8 := Exa.start va8 z10
  have Oa8 := fldInt va8 z11
  have K : own_K s s.heap a0 a1 a2 a3 a4 a5 a6 a7 a8 := ⟨⟨Sa0, Ea0⟩, ⟨Sa1, Ea1⟩, ⟨Sa2, Ea2⟩, ⟨Sa3, Ea3⟩, ⟨Sa4, Ea4⟩, ⟨Sa5, Ea5⟩, ⟨Sa6, Ea6⟩, ⟨Sa7, Ea7⟩, ⟨Sa8, Ea8⟩⟩
  obtain ⟨n, o, h1, h2, h3, _, L, rfl, ⟨rfl, N⟩, hq⟩ := rmLaw l s _ hw tables_1 i0 s.heap s.heap.size (Nat.le_refl _) a0 a1 a2 a3 a4 a5 a6 a7 a8 K (Fld.ne Oa0 Oa4 (by decide)) (Fld.ne Oa0 Oa5 (by decide)) (Fld.ne Oa0 Oa6 (by decide)) (Fld.ne Oa0 Oa7 (by decide)) (Fld.ne Oa0 Oa8 (by decide)) (Fld.ne Oa1 Oa4 (by decide)) (Fld.ne Oa1 Oa5 (by decide)) (Fld.ne Oa1 Oa6 (by decide)) (Fld.ne Oa1 Oa7 (by decide)) (Fld.ne Oa1 Oa8 (by decide)) (Fld.ne Oa2 Oa4 (by decide)) (Fld.ne Oa2 Oa5 (by decide)) (Fld.ne Oa2 Oa6 (by decide)) (Fld.ne Oa2 Oa7 (by decide)) (Fld.ne Oa2 Oa8 (by decide)) (Fld.ne Oa3 Oa4 (by decide)) (Fld.ne Oa3 Oa5 (by decide)) (Fld.ne Oa3 Oa6 (by decide)) (Fld.ne Oa3 Oa7 (by decide)) (Fld.ne Oa3 Oa8 (by decide)) p e ha hc hk s m _ below hf ((Spec.applies_iff_loose hf).mp happ).1 ⟨rfl, State.Warmed39.refl s, rfl⟩ trivial
  refine ⟨n, _, h1, h2, h3, hpost _ _ _ _ _ _ ⟨Cond.after_iff.mpr rfl, Cond.after_iff.mpr (eq_i res_at (Term.int_eval (1)) rfl), trivial⟩ ⟨hq.1, hq.2.1, (hq.2.2.sift fun y hy => Or.inr (N y hy)).mono (by decide) (by decide)⟩⟩
theorem main_1_1 : Claimed_1_1 := comes_1 fun _ _ _ _ _ _ h hF => ⟨h.1, hF⟩
theorem main_1_2 : Claimed_1_2 := comes_1 fun _ _ _ _ _ _ h hF => ⟨h.2.1, hF⟩

end Jvm.Pilot.@@N@@
namespace Jvm.Pilot.@@N@@
open Jvm Jvm.ClassFile Sem Op Lib Jvm.Free Jvm.Stand Jvm.Pilot.@@N@@.Jvm.D
/-! MADE BY PROGRAM (witnessworld.py) out of the Statement's table words and the real class files: 12 classes; the members and pool entries that the words name. The judged class is class 1, her method 1. -/
namespace start1
open Jvm.ClassFile
def u (s : String) : CpInfo := .utf8 (stringToUtf16 s)
/-- a pool by its gaps: so many unusable entries, then the entry; so many at the end -/
def gap : Nat → List CpInfo → List CpInfo
  | 0, r => r
  | n + 1, r => .unusable :: gap n r
def poolList (es : List (Nat × CpInfo)) (last : Nat) : List CpInfo := es.foldr (fun e r => gap e.1 (e.2 :: r)) (gap last [])
def pool (es : List (Nat × CpInfo)) (last : Nat) : Array CpInfo := ⟨poolList es last⟩
def fileOf (pool : Array CpInfo) (this : Nat) (attrs : Array Attribute := #[]) (ms : Array MethodInfo := #[]) (fl : Nat := 33) (sup : Nat := 0) (ifs : Array Nat := #[]) (fds : Array FieldInfo := #[]) : ClassFile where
  minorVersion := 0
  majorVersion := 65
  constantPool := pool
  accessFlags := fl
  thisClass := this
  superClass := sup
  interfaces := ifs
  fields := fds
  methods := ms
  attributes := attrs
def plain (name : String) (sup : Option ClassId) : Class where
  name := name
  kind := .ordinary
  loader := none
  accessFlags := 33
  super := sup
  interfaces := #[]
  cf := none
  fields := #[]
  methods := #[]
  instanceTypes := #[]
  staticTypes := #[]
  resolved := #[]
  callSites := []
  init := .initialized
  statics := none
  mirror := none

def pool0 : Array CpInfo := pool [(5, u "<init>"), (0, u "()V"), (1, .class_ 10), (1, u "java/lang/Object")] 113

def k0m0 : Method := { name := "<init>", desc := "()V", sig := { parameters := [], returnType := none }, accessFlags := 1, code := none }
/-- java/lang/Object -/
def k0 : Class := { plain "java/lang/Object" none with
  accessFlags := 33
  interfaces := #[]
  cf := some (fileOf pool0 8 #[] #[{ accessFlags := 1, nameIndex := 5, descriptorIndex := 6, attributes := #[] }] 33 0 #[] #[])
  fields := #[]
  methods := #[k0m0]
  instanceTypes := #[]
  staticTypes := #[]
  resolved := Array.replicate 124 none
  statics := none }

def pool1 : Array CpInfo := pool [(2, .class_ 4), (1, u "java/lang/Object"), (0, u "<init>"), (0, u "()V"), (0, .integer 2147483647), (0, .methodref 9 10), (0, .class_ 11), (0, .nameAndType 12 13), (0, u "com/example/meridiana/meridiana/server/CoordinatorActionStatusIsEndedPinLaw"), (0, u "pick"), (0, u "(I)Lcom/example/meridiana/meridiana/server/CoordinatorActionStatus;"), (0, .methodref 15 16), (0, .class_ 17), (0, .nameAndType 18 19), (0, u "com/example/meridiana/meridiana/server/CoordinatorActionStatus"), (0, u "isEnded"), (0, u "()Z"), (0, .fieldref 15 21), (0, .nameAndType 22 23), (0, u "WAITING"), (0, u "Lcom/example/meridiana/meridiana/server/CoordinatorActionStatus;"), (0, .fieldref 15 25), (0, .nameAndType 26 23), (0, u "READY"), (0, .fieldref 15 28), (0, .nameAndType 29 23), (0, u "SUBMITTED"), (0, .fieldref 15 31), (0, .nameAndType 32 23), (0, u "RUNNING"), (0, .fieldref 15 34), (0, .nameAndType 35 23), (0, u "SUCCEEDED"), (0, .fieldref 15 37), (0, .nameAndType 38 23), (0, u "KILLED"), (0, .fieldref 15 40), (0, .nameAndType 41 23), (0, u "FAILED"), (0, .fieldref 15 43), (0, .nameAndType 44 23), (0, u "TIMEDOUT"), (0, .fieldref 15 46), (0, .nameAndType 47 23), (0, u "SKIPPED"), (2, u "law"), (0, u "(I)Z")] 3

def k1m0 : Method := { name := "<init>", desc := "()V", sig := { parameters := [], returnType := none }, accessFlags := 1, code := none }
def k1c1 : Code := { maxStack := 2, maxLocals := 5, code := code, exceptionTable := #[], attributes := #[] }
def k1m1 : Method := { name := "law", desc := "(I)Z", sig := { parameters := [.int], returnType := some .boolean }, accessFlags := 9, code := some k1c1 }
def k1c2 : Code := { maxStack := 2, maxLocals := 1, code := method_3_code, exceptionTable := #[], attributes := #[] }
def k1m2 : Method := { name := "pick", desc := "(I)Lcom/example/meridiana/meridiana/server/CoordinatorActionStatus;", sig := { parameters := [.int], returnType := some (.object "com/example/meridiana/meridiana/server/CoordinatorActionStatus") }, accessFlags := 10, code := some k1c2 }
/-- com/example/meridiana/meridiana/server/CoordinatorActionStatusIsEndedPinLaw -/
def k1 : Class := { plain "com/example/meridiana/meridiana/server/CoordinatorActionStatusIsEndedPinLaw" (some 0) with
  accessFlags := 49
  interfaces := #[]
  cf := some (fileOf pool1 9 #[] #[{ accessFlags := 1, nameIndex := 5, descriptorIndex := 6, attributes := #[] }, { accessFlags := 9, nameIndex := 50, descriptorIndex := 51, attributes := #[] }, { accessFlags := 10, nameIndex := 12, descriptorIndex := 13, attributes := #[] }] 49 2 #[] #[])
  fields := #[]
  methods := #[k1m0, k1m1, k1m2]
  instanceTypes := #[]
  staticTypes := #[]
  resolved := Array.replicate 55 none
  statics := none }

def pool2 : Array CpInfo := pool [(1, .class_ 2), (0, u "java/lang/constant/Constable"), (0, .class_ 4), (0, u "java/lang/Object")] 6

/-- java/lang/constant/Constable -/
def k2 : Class := { plain "java/lang/constant/Constable" (some 0) with
  accessFlags := 1537
  interfaces := #[]
  cf := some (fileOf pool2 1 #[] #[] 1537 3 #[] #[])
  fields := #[]
  methods := #[]
  instanceTypes := #[]
  staticTypes := #[]
  resolved := Array.replicate 11 none
  statics := none }

def pool3 : Array CpInfo := pool [(1, .class_ 2), (0, u "java/lang/Comparable"), (0, .class_ 4), (0, u "java/lang/Object")] 7

/-- java/lang/Comparable -/
def k3 : Class := { plain "java/lang/Comparable" (some 0) with
  accessFlags := 1537
  interfaces := #[]
  cf := some (fileOf pool3 1 #[] #[] 1537 3 #[] #[])
  fields := #[]
  methods := #[]
  instanceTypes := #[]
  staticTypes := #[]
  resolved := Array.replicate 12 none
  statics := none }

def pool4 : Array CpInfo := pool [(1, .class_ 2), (0, u "java/io/Serializable"), (0, .class_ 4), (0, u "java/lang/Object")] 2

/-- java/io/Serializable -/
def k4 : Class := { plain "java/io/Serializable" (some 0) with
  accessFlags := 1537
  interfaces := #[]
  cf := some (fileOf pool4 1 #[] #[] 1537 3 #[] #[])
  fields := #[]
  methods := #[]
  instanceTypes := #[]
  staticTypes := #[]
  resolved := Array.replicate 7 none
  statics := none }

def pool5 : Array CpInfo := pool [(2, .class_ 4), (1, u "java/lang/Enum"), (0, u "name"), (0, u "Ljava/lang/String;"), (2, u "ordinal"), (0, u "I"), (1, .class_ 14), (1, u "java/lang/Object"), (4, u "hash"), (86, .class_ 108), (1, u "java/lang/Enum$EnumDesc"), (2, .class_ 112), (0, u "java/lang/constant/Constable"), (0, .class_ 114), (0, u "java/lang/Comparable"), (0, .class_ 116), (0, u "java/io/Serializable")] 87

/-- java/lang/Enum -/
def k5 : Class := { plain "java/lang/Enum" (some 0) with
  accessFlags := 1057
  interfaces := #[2, 3, 4]
  cf := some (fileOf pool5 2 #[.nestMembers #[106]] #[] 1057 12 #[111, 113, 115] #[{ accessFlags := 18, nameIndex := 5, descriptorIndex := 6, attributes := #[] }, { accessFlags := 18, nameIndex := 9, descriptorIndex := 10, attributes := #[] }, { accessFlags := 2, nameIndex := 19, descriptorIndex := 10, attributes := #[] }])
  fields := #[{ name := "name", type := (.object "java/lang/String"), accessFlags := 18, slot := 0, constantValue := 0 }, { name := "ordinal", type := .int, accessFlags := 18, slot := 1, constantValue := 0 }, { name := "hash", type := .int, accessFlags := 2, slot := 2, constantValue := 0 }]
  methods := #[]
  instanceTypes := #[(.object "java/lang/String"), .int, .int]
  staticTypes := #[]
  resolved := Array.replicate 204 none
  statics := none }

def pool6 : Array CpInfo := pool [(1, .class_ 2), (0, u "com/example/meridiana/meridiana/server/CoordinatorActionStatus"), (2, u "WAITING"), (0, u "Lcom/example/meridiana/meridiana/server/CoordinatorActionStatus;"), (2, u "READY"), (2, u "SUBMITTED"), (2, u "RUNNING"), (0, .fieldref 1 17), (0, .nameAndType 18 6), (0, u "SUCCEEDED"), (0, .fieldref 1 20), (0, .nameAndType 21 6), (0, u "KILLED"), (0, .fieldref 1 23), (0, .nameAndType 24 6), (0, u "FAILED"), (0, .fieldref 1 26), (0, .nameAndType 27 6), (0, u "TIMEDOUT"), (0, .fieldref 1 29), (0, .nameAndType 30 6), (0, u "SKIPPED"), (2, u "$VALUES"), (0, u "[Lcom/example/meridiana/meridiana/server/CoordinatorActionStatus;"), (6, .class_ 43), (1, u "java/lang/Enum"), (27, u "isEnded"), (0, u "()Z")] 5

def k6c0 : Code := { maxStack := 2, maxLocals := 1, code := prog_46_method_4_code, exceptionTable := #[], attributes := #[] }
def k6m0 : Method := { name := "isEnded", desc := "()Z", sig := { parameters := [], returnType := some .boolean }, accessFlags := 0, code := some k6c0 }
/-- com/example/meridiana/meridiana/server/CoordinatorActionStatus -/
def k6 : Class := { plain "com/example/meridiana/meridiana/server/CoordinatorActionStatus" (some 5) with
  accessFlags := 16432
  interfaces := #[]
  cf := some (fileOf pool6 1 #[] #[{ accessFlags := 0, nameIndex := 71, descriptorIndex := 72, attributes := #[] }] 16432 41 #[] #[{ accessFlags := 16409, nameIndex := 5, descriptorIndex := 6, attributes := #[] }, { accessFlags := 16409, nameIndex := 9, descriptorIndex := 6, attributes := #[] }, { accessFlags := 16409, nameIndex := 12, descriptorIndex := 6, attributes := #[] }, { accessFlags := 16409, nameIndex := 15, descriptorIndex := 6, attributes := #[] }, { accessFlags := 16409, nameIndex := 18, descriptorIndex := 6, attributes := #[] }, { accessFlags := 16409, nameIndex := 21, descriptorIndex := 6, attributes := #[] }, { accessFlags := 16409, nameIndex := 24, descriptorIndex := 6, attributes := #[] }, { accessFlags := 16409, nameIndex := 27, descriptorIndex := 6, attributes := #[] }, { accessFlags := 16409, nameIndex := 30, descriptorIndex := 6, attributes := #[] }, { accessFlags := 4122, nameIndex := 33, descriptorIndex := 34, attributes := #[] }])
  fields := #[{ name := "WAITING", type := (.object "com/example/meridiana/meridiana/server/CoordinatorActionStatus"), accessFlags := 16409, slot := 0, constantValue := 0 }, { name := "READY", type := (.object "com/example/meridiana/meridiana/server/CoordinatorActionStatus"), accessFlags := 16409, slot := 1, constantValue := 0 }, { name := "SUBMITTED", type := (.object "com/example/meridiana/meridiana/server/CoordinatorActionStatus"), accessFlags := 16409, slot := 2, constantValue := 0 }, { name := "RUNNING", type := (.object "com/example/meridiana/meridiana/server/CoordinatorActionStatus"), accessFlags := 16409, slot := 3, constantValue := 0 }, { name := "SUCCEEDED", type := (.object "com/example/meridiana/meridiana/server/CoordinatorActionStatus"), accessFlags := 16409, slot := 4, constantValue := 0 }, { name := "KILLED", type := (.object "com/example/meridiana/meridiana/server/CoordinatorActionStatus"), accessFlags := 16409, slot := 5, constantValue := 0 }, { name := "FAILED", type := (.object "com/example/meridiana/meridiana/server/CoordinatorActionStatus"), accessFlags := 16409, slot := 6, constantValue := 0 }, { name := "TIMEDOUT", type := (.object "com/example/meridiana/meridiana/server/CoordinatorActionStatus"), accessFlags := 16409, slot := 7, constantValue := 0 }, { name := "SKIPPED", type := (.object "com/example/meridiana/meridiana/server/CoordinatorActionStatus"), accessFlags := 16409, slot := 8, constantValue := 0 }, { name := "$VALUES", type := (.array (.object "com/example/meridiana/meridiana/server/CoordinatorActionStatus")), accessFlags := 4122, slot := 9, constantValue := 0 }]
  methods := #[k6m0]
  instanceTypes := #[(.object "java/lang/String"), .int, .int]
  staticTypes := #[(.object "com/example/meridiana/meridiana/server/CoordinatorActionStatus"), (.object "com/example/meridiana/meridiana/server/CoordinatorActionStatus"), (.object "com/example/meridiana/meridiana/server/CoordinatorActionStatus"), (.object "com/example/meridiana/meridiana/server/CoordinatorActionStatus"), (.object "com/example/meridiana/meridiana/server/CoordinatorActionStatus"), (.object "com/example/meridiana/meridiana/server/CoordinatorActionStatus"), (.object "com/example/meridiana/meridiana/server/CoordinatorActionStatus"), (.object "com/example/meridiana/meridiana/server/CoordinatorActionStatus"), (.object "com/example/meridiana/meridiana/server/CoordinatorActionStatus"), (.array (.object "com/example/meridiana/meridiana/server/CoordinatorActionStatus"))]
  resolved := Array.replicate 78 none
  statics := some 0 }

def pool7 : Array CpInfo := pool [(1, u "java/lang/Cloneable"), (0, .class_ 1), (0, u "java/lang/Object"), (0, .class_ 3)] 3

/-- java/lang/Cloneable -/
def k7 : Class := { plain "java/lang/Cloneable" (some 0) with
  accessFlags := 1537
  interfaces := #[]
  cf := some (fileOf pool7 2 #[] #[] 1537 4 #[] #[])
  fields := #[]
  methods := #[]
  instanceTypes := #[]
  staticTypes := #[]
  resolved := Array.replicate 8 none
  statics := none }

/-- the primitive byte -/
def k8 : Class := { plain "byte" none with kind := .primitive 'B', accessFlags := 0x411 }
/-- [B -/
def k9 : Class := { plain "[B" (some 0) with kind := .array 8 .byte, interfaces := #[7, 4], accessFlags := 1041 }

/-- the primitive int -/
def k10 : Class := { plain "int" none with kind := .primitive 'I', accessFlags := 0x411 }
/-- [I -/
def k11 : Class := { plain "[I" (some 0) with kind := .array 10 .int, interfaces := #[7, 4], accessFlags := 1041 }

def heap : Heap := #[{ cls := 6, slots := #[.ref 1, .ref 2, .ref 3, .ref 4, .ref 5, .ref 6, .ref 7, .ref 8, .ref 9, .null], vm := .statics 6 },
  { cls := 6, slots := #[.null, .int 0, .int 0], vm := .none },
  { cls := 6, slots := #[.null, .int 1, .int 0], vm := .none },
  { cls := 6, slots := #[.null, .int 2, .int 0], vm := .none },
  { cls := 6, slots := #[.null, .int 3, .int 0], vm := .none },
  { cls := 6, slots := #[.null, .int 4, .int 0], vm := .none },
  { cls := 6, slots := #[.null, .int 5, .int 0], vm := .none },
  { cls := 6, slots := #[.null, .int 6, .int 0], vm := .none },
  { cls := 6, slots := #[.null, .int 7, .int 0], vm := .none },
  { cls := 6, slots := #[.null, .int 8, .int 0], vm := .none }]
def classes : Array Class := #[k0, k1, k2, k3, k4, k5, k6, k7, k8, k9, k10, k11]
def interned : List (Array UInt16 × Addr) := []
def slotsUsed : Nat := 37
def theMethod : MethodId := ⟨1, 1⟩
def args0 : Array Value := #[.int 5]
def aboutOver (below : List Frame) : State where
  vm := { classes := classes, interned := interned.toArray }
  heap := heap
  slotsUsed := slotsUsed
  threads := #[{ frames := .invoking theMethod args0 :: below }]
def below0 : List Frame := [.native { method := ⟨0, 0⟩, args := #[] }]
def about1 : State := aboutOver below0
def p0 : Program := .bare "" "" ""
def e0 : Env := launch0.env 0 0 0
theorem w_frames : about1.frames = Frame.invoking theMethod args0 :: below0 := rfl
set_option maxRecDepth 65536 in
theorem w_args : argsFit about1.vm theMethod args0 = true := by decide +kernel
set_option maxRecDepth 65536 in
theorem w_heap : heapFits about1 = true := by decide +kernel
set_option maxRecDepth 65536 in
theorem w_runnable : about1.curStatus? = some .runnable := by decide +kernel
set_option maxRecDepth 65536 in
theorem w_alone : about1.alone = true := by decide +kernel
set_option maxRecDepth 65536 in
theorem w_named : about1.methodNamed? x = some theMethod := by decide +kernel
set_option maxRecDepth 65536 in
theorem w_hears : about1.hears theMethod below0 = true := by decide +kernel
set_option maxRecDepth 65536 in
theorem w_ripe : about1.ripe theMethod args0 below0 = true := by decide +kernel
theorem w_running : about1.status = .running := rfl
set_option maxRecDepth 65536 in
theorem w_room : about1.hasRoom e0.platform room_1 = true :=
  launch0.hasRoom_least _ room_1 (by decide +kernel) (by decide +kernel) (by decide +kernel) (by decide +kernel) (by decide +kernel) (by decide +kernel)
theorem allAtoms_all (ts : List Jvm.Cond) (a : Array Jvm.Value) (st : Jvm.State) : (allAtoms ts).before a st = ts.all (fun c => c.before a st) := by
  induction ts with
  | nil => rfl
  | cons c t ih =>
    show (Jvm.Cond.and c (allAtoms t)).before a st = _
    rw [Jvm.Cond.before_and, ih, List.all_cons]
def words1 : List Jvm.Cond := Jvm.Cond.code x code maxLocals ret :: tables_1
/-- a 'code' word, met by the world's own term for the bytes: nothing is compared byte by byte -/
theorem code_word {y : MethodName} {bytes : ByteArray} {mx : Nat} {rt : Option FieldType} {a : Array Value} {s : State} {m : MethodId} {meth : Method} {c : Code} (h1 : s.methodNamed? y = some m) (h2 : s.vm.method? m = some meth) (h3 : meth.code = some c) (h4 : c.code = bytes)
    (h5 : (c.maxLocals == mx && c.exceptionTable.isEmpty && decide (c.maxStack ≤ mostOperands) && decide (meth.sig.returnType = rt) && !meth.locks && decide (parseMethodDescriptor y.desc = some meth.sig)) = true) : (Jvm.Cond.code y bytes mx rt).before a s = true := by
  simp only [Bool.and_eq_true, beq_iff_eq, Bool.not_eq_true', decide_eq_true_eq] at h5
  obtain ⟨⟨⟨⟨⟨g1, g2⟩, g3⟩, g4⟩, g5⟩, g6⟩ := h5
  simp [Cond.before, Cond.holds, Cond.value, h1, h2, h3, h4, g1, g2, g3, g4, g5, g6]
def isCode : Jvm.Cond → Bool
  | .code _ _ _ _ => true
  | _ => false
theorem all_split {L : List Jvm.Cond} {P : Jvm.Cond → Bool} (h1 : L.all (fun c => isCode c || P c) = true) (h2 : ∀ c ∈ L.filter isCode, P c = true) : L.all P = true := by
  refine List.all_eq_true.mpr fun c hc => ?_
  have h := List.all_eq_true.mp h1 c hc
  rcases Bool.eq_false_or_eq_true (isCode c) with hi | hi
  · exact h2 c (List.mem_filter.mpr ⟨hc, hi⟩)
  · simpa [hi] using h
set_option maxRecDepth 65536 in
theorem w_c0 : (Jvm.Cond.code x code maxLocals ret).before args0 about1 = true := code_word (m := ⟨1, 1⟩) (meth := k1m1) (c := k1c1) (by decide +kernel) rfl rfl rfl (by decide +kernel)
set_option maxRecDepth 65536 in
theorem w_c1 : (Jvm.Cond.code ({ cls := "com/example/meridiana/meridiana/server/CoordinatorActionStatusIsEndedPinLaw", name := "pick", desc := "(I)Lcom/example/meridiana/meridiana/server/CoordinatorActionStatus;" } : Jvm.MethodName) method_3_code (1 : Nat) (Option.some (Jvm.ClassFile.FieldType.object "com/example/meridiana/meridiana/server/CoordinatorActionStatus"))).before args0 about1 = true := code_word (m := ⟨1, 2⟩) (meth := k1m2) (c := k1c2) (by decide +kernel) rfl rfl rfl (by decide +kernel)
set_option maxRecDepth 65536 in
theorem w_c2 : (Jvm.Cond.code ({ cls := "com/example/meridiana/meridiana/server/CoordinatorActionStatus", name := "isEnded", desc := "()Z" } : Jvm.MethodName) prog_46_method_4_code (1 : Nat) (Option.some Jvm.ClassFile.FieldType.boolean)).before args0 about1 = true := code_word (m := ⟨6, 0⟩) (meth := k6m0) (c := k6c0) (by decide +kernel) rfl rfl rfl (by decide +kernel)
def codes1 : List Jvm.Cond := [Jvm.Cond.code x code maxLocals ret, Jvm.Cond.code ({ cls := "com/example/meridiana/meridiana/server/CoordinatorActionStatusIsEndedPinLaw", name := "pick", desc := "(I)Lcom/example/meridiana/meridiana/server/CoordinatorActionStatus;" } : Jvm.MethodName) method_3_code (1 : Nat) (Option.some (Jvm.ClassFile.FieldType.object "com/example/meridiana/meridiana/server/CoordinatorActionStatus")), Jvm.Cond.code ({ cls := "com/example/meridiana/meridiana/server/CoordinatorActionStatus", name := "isEnded", desc := "()Z" } : Jvm.MethodName) prog_46_method_4_code (1 : Nat) (Option.some Jvm.ClassFile.FieldType.boolean)]
set_option maxRecDepth 65536 in
theorem codes_eq : words1.filter isCode = codes1 := rfl
theorem w_codes : ∀ c ∈ words1.filter isCode, c.before args0 about1 = true := by
  rw [codes_eq]
  intro c hc
  simp only [codes1, List.mem_cons, List.not_mem_nil, or_false] at hc
  rcases hc with rfl | rfl | rfl
  · exact w_c0
  · exact w_c1
  · exact w_c2
set_option maxRecDepth 65536 in
theorem w_t1 : (words1.take 24).all (fun c => isCode c || c.before args0 about1) = true := by decide +kernel
set_option maxRecDepth 65536 in
theorem w_t2 : (words1.drop 24).all (fun c => isCode c || c.before args0 about1) = true := by decide +kernel
theorem w_tables : (allAtoms (Jvm.Cond.code x code maxLocals ret :: tables_1)).before args0 about1 = true := by
  rw [allAtoms_all]
  show words1.all (fun c => c.before args0 about1) = true
  refine all_split ?_ w_codes
  rw [← List.take_append_drop 24 words1, List.all_append, w_t1, w_t2]
  rfl
set_option maxRecDepth 65536 in
theorem w_case : (Jvm.Cond.and given_1 narrow_1).before args0 about1 = true := by decide +kernel
theorem w_applies : (headSpec (Jvm.Cond.code x code maxLocals ret :: tables_1) room_1).applies x e0.platform about1 = true :=
  (Spec.applies_iff w_frames).mpr ⟨w_running, w_runnable, w_alone, w_named, w_hears, w_ripe, w_room, w_tables⟩
theorem atStart : AtStart classFile x code maxLocals ret World_1 tables_1 room_1 Calls_1 rest_1 Pre_1 launch0 p0 e0 about1 theMethod args0 below0 :=
  ⟨lists_1, trivial, launch0.admits_env _ _ _, launch0.least_env, fairChoices_fair.cas, fairChoices_fair.clock, w_frames, w_args, w_heap, w_applies, trivial, trivial, w_case⟩
end start1
theorem witness_1 : WitnessClaimed_1 := ⟨start1.p0, start1.e0, start1.about1, start1.theMethod, start1.args0, start1.below0, start1.atStart⟩
end Jvm.Pilot.@@N@@
