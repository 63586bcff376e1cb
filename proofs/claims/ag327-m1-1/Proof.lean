import JvmDerived
import JvmDerived.Pilot.@@N@@Statement
import JvmDerived.Pilot.@@N@@Code
set_option linter.unusedVariables false
set_option linter.unusedSimpArgs false

namespace Jvm.RoadKit
open Sem ClassFile Op Lib Jvm.Stand Jvm.Free Jvm.LawKit
section Go
variable {p : Program} {l : Launch} {e : Env} {R : Room} {s : State} {m : MethodId} {args : Array Value} {below : List Frame} {meth : Method} {c : Code} {T T' : State} {locs : List Loc} {cells slots : Nat} {Z : State} {a0 : Array Value} {h : Heap} {B : ByteArray} {K : Outcome → State → Prop} {pc pcT pcF : Nat} {ls : Array Slot} {st : List Value}
/-- from T with the frame g the run comes to an end of which K holds -/
def Go (p : Program) (e : Env) (below : List Frame) (K : Outcome → State → Prop) (T : State) (g : JFrame) : Prop :=
  ∃ u o, Steps p.tables e below (T.setTop g) u ∧ u.status = .running ∧ Ended u below o ∧ K o u
theorem Go.on {g g' : JFrame} (st : ∀ t, Steps p.tables e below (T'.setTop g') t → Steps p.tables e below (T.setTop g) t) (h : Go p e below K T' g') : Go p e below K T g := by
  obtain ⟨u, o, h1, h2⟩ := h; exact ⟨u, o, st _ h1, h2⟩
theorem Go.join {α : Type} {P : α → Prop} {g : α → JFrame} {g0 : JFrame} (rest : ∀ z, P z → Go p e below K T (g z)) (here : (∀ z, P z → Go p e below K T (g z)) → Go p e below K T g0) : Go p e below K T g0 := here rest
theorem Go.joinV {α : Type} {P : α → Prop} {g : α → JFrame} {g0 : JFrame} (X : Stand p l e R s m args below meth c T locs cells slots) (eT : T.heap = h) (rest : ∀ (T' : State) (z : α), Stand p l e R s m args below meth c T' locs cells slots → T'.heap = h → P z → Go p e below K T' (g z))
    (here : (∀ (T' : State) (z : α), Stand p l e R s m args below meth c T' locs cells slots → T'.heap = h → P z → Go p e below K T' (g z)) → Go p e below K T g0) : Go p e below K T g0 := here rest
theorem Go.at {g g' : JFrame} (q : g = g') (h : Go p e below K T g') : Go p e below K T g := q ▸ h
def EndK (s : State) (Q : Option Value → Heap → List Loc → Prop) (k n : Nat) : Outcome → State → Prop := fun o u => ∃ v L, o = .returned v ∧ Q v u.heap L ∧ FrameEnd s o u L k n
abbrev Pact (l : Launch) (Z : State) (y : MethodName) (bytes : ByteArray) (ml : Nat) (ret : Option FieldType) (ws : List Jvm.Cond) (rm : Room) (as : Array Value) (h0 : Heap) (Q : Option Value → Heap → List Loc → Prop) : Prop :=
  MetFree l y (head1 (Jvm.Cond.code y bytes ml ret :: ws) rm) (fun a U => a = as ∧ Z.Warmed39 U.vm ∧ U.heap = h0) (fun _ _ _ _ _ => True) (fun _ U o U' => ∃ v L, o = .returned v ∧ Q v U'.heap L ∧ FrameEnd U o U' L rm.cells rm.slots)
theorem Pact.intro {y : MethodName} {bytes : ByteArray} {ml : Nat} {ret : Option FieldType} {ws : List Jvm.Cond} {rm : Room} {as : Array Value} {h0 : Heap} {Q : Option Value → Heap → List Loc → Prop} (hp : plainFor y = true)
    (body : ∀ (p : Program) (e : Env) (s : State) (m : MethodId) (below : List Frame) (meth : Method) (c : Code) (T : State), Stand p l e rm s m as below meth c T [] 0 0 → p.tables.exec = Jvm.exec → c.code = bytes → c.maxLocals = ml → meth.sig.returnType = ret → meth.locks = false →
      s.vm.findClass y.cls = some m.cls → meth.name = y.name → Z.Warmed39 s.vm → T.heap = h0 → Go p e below (EndK s Q rm.cells rm.slots) T (entryFrame m as ml)) : Pact l Z y bytes ml ret ws rm as h0 Q := by
  refine MetFree.of_bodySF hp hisR ?_
  intro p e s m args below meth c s₁ Bd hml0 hP hK
  obtain ⟨rfl, hZ, hh⟩ := hP
  exact body p e s m below meth c s₁ (Stand.of_body Bd) Bd.exec Bd.bytes hml0 Bd.returns (BodyLoose.notSynchronized Bd) (findClass_of_methodNamed Bd.named) (name_of_methodNamed Bd.named Bd.method).1 hZ (by rw [← hh, Bd.state]; rfl)
theorem Go.icmp (X : Stand p l e R s m args below meth c T locs cells slots) (hx : p.tables.exec = Jvm.exec) (hby : c.code = B) {cd : ClassFile.Cond} {x y : Int32} {o : Int} (hd : decode B pc = .ok (.if_icmp cd o, 3)) (ho : 0 ≤ (pc : Int) + o) (hp : ((pc : Int) + o).toNat = pcT) (hq : pc + 3 = pcF)
    (hT : if_icmp.holds cd x y = true → Go p e below K T (mkF m pcT ls st)) (hF : if_icmp.holds cd x y = false → Go p e below K T (mkF m pcF ls st)) : Go p e below K T (mkF m pc ls (.int y :: .int x :: st)) := by
  subst hq
  cases q : if_icmp.holds cd x y
  · exact Go.on (fun t k => XS.icmpNo X.here hx rfl (hb hby hd) rfl q k) (hF q)
  · exact Go.on (fun t k => XS.icmpYes X.here hx rfl (pc0 := pc) rfl (hb hby hd) rfl q ho hp k) (hT q)
theorem Go.ifc (X : Stand p l e R s m args below meth c T locs cells slots) (hx : p.tables.exec = Jvm.exec) (hby : c.code = B) {cd : ClassFile.Cond} {x : Int32} {o : Int} (hd : decode B pc = .ok (.ifCond cd o, 3)) (ho : 0 ≤ (pc : Int) + o) (hp : ((pc : Int) + o).toNat = pcT) (hq : pc + 3 = pcF)
    (hT : if_icmp.holds cd x 0 = true → Go p e below K T (mkF m pcT ls st)) (hF : if_icmp.holds cd x 0 = false → Go p e below K T (mkF m pcF ls st)) : Go p e below K T (mkF m pc ls (.int x :: st)) := by
  subst hq
  rw [← if0] at hT hF
  cases q : ifCond.holds cd x
  · exact Go.on (fun t k => XS.ifNo X.here hx rfl (hb hby hd) rfl q k) (hF q)
  · exact Go.on (fun t k => XS.ifYes X.here hx rfl (pc0 := pc) rfl (hb hby hd) rfl q ho hp k) (hT q)
theorem iEq {x y : Int32} : (if_icmp.holds .eq x y = true → x = y) ∧ (if_icmp.holds .eq x y = false → ¬ x = y) := by constructor <;> intro h <;> simpa [if_icmp.holds] using h
theorem iNe {x y : Int32} : (if_icmp.holds .ne x y = true → ¬ x = y) ∧ (if_icmp.holds .ne x y = false → x = y) := by constructor <;> intro h <;> simpa [if_icmp.holds] using h
theorem iLt {x y : Int32} : (if_icmp.holds .lt x y = true → x < y) ∧ (if_icmp.holds .lt x y = false → ¬ x < y) := by constructor <;> intro h <;> simpa [if_icmp.holds] using h
theorem iGe {x y : Int32} : (if_icmp.holds .ge x y = true → ¬ x < y) ∧ (if_icmp.holds .ge x y = false → x < y) := by constructor <;> intro h <;> simpa [if_icmp.holds] using h
theorem iGt {x y : Int32} : (if_icmp.holds .gt x y = true → y < x) ∧ (if_icmp.holds .gt x y = false → ¬ y < x) := by constructor <;> intro h <;> simpa [if_icmp.holds] using h
theorem iLe {x y : Int32} : (if_icmp.holds .le x y = true → ¬ y < x) ∧ (if_icmp.holds .le x y = false → y < x) := by constructor <;> intro h <;> simpa [if_icmp.holds] using h
theorem Go.acmp (X : Stand p l e R s m args below meth c T locs cells slots) (hx : p.tables.exec = Jvm.exec) (hby : c.code = B) {cd : ACond} {x y : Value} (h1 : x.isRef = true) (h2 : y.isRef = true) {o : Int} (hd : decode B pc = .ok (.if_acmp cd o, 3)) (ho : 0 ≤ (pc : Int) + o) (hp : ((pc : Int) + o).toNat = pcT) (hq : pc + 3 = pcF)
    (hT : XT.acmp cd x y = true → Go p e below K T (mkF m pcT ls st)) (hF : XT.acmp cd x y = false → Go p e below K T (mkF m pcF ls st)) : Go p e below K T (mkF m pc ls (y :: x :: st)) := by
  subst hq
  cases q : XT.acmp cd x y
  · exact Go.on (fun t k => XT.acmpNo X.here hx rfl (hb hby hd) rfl h1 h2 q k) (hF q)
  · exact Go.on (fun t k => XT.acmpYes X.here hx rfl (pc0 := pc) rfl (hb hby hd) rfl h1 h2 q ho hp k) (hT q)
theorem aEq {x y : Value} : (XT.acmp .eq x y = true → x = y) ∧ (XT.acmp .eq x y = false → ¬ x = y) := by constructor <;> intro h <;> simpa [XT.acmp] using h
theorem aNe {x y : Value} : (XT.acmp .ne x y = true → ¬ x = y) ∧ (XT.acmp .ne x y = false → x = y) := by constructor <;> intro h <;> simpa [XT.acmp] using h
theorem rEq {x y : Addr} : (XT.acmp .eq (.ref x) (.ref y) = true → x = y) ∧ (XT.acmp .eq (.ref x) (.ref y) = false → ¬ x = y) := by constructor <;> intro h <;> simpa [XT.acmp] using h
theorem rNe {x y : Addr} : (XT.acmp .ne (.ref x) (.ref y) = true → ¬ x = y) ∧ (XT.acmp .ne (.ref x) (.ref y) = false → x = y) := by constructor <;> intro h <;> simpa [XT.acmp] using h
theorem cat_ref {x : Value} (h : x.isRef = true) : x.category = 1 := by rcases ref_cases h with rfl | ⟨a, rfl⟩ <;> rfl
theorem eqInt {first : State} {o : Option Outcome} {idx : List Nat} {t : Term} {k : Int32} (h : (Jvm.Cond.eq t (Term.int k)).value args first o s idx = some true) : t.eval args first o idx s = some (.int k) := by
  obtain ⟨x, y, hx, hy, k1, k2⟩ := cmp_v (Or.inl h)
  have e : y = .int k := Option.some.inj (hy.symm.trans (Term.int_eval k))
  subst e
  obtain ⟨z, rfl⟩ := k2
  have q : z = k := gotT (Cond.eq_ints hx hy) h
  rw [hx, q]
theorem fldInt {t : Term} {a : Addr} {C n d : String} {k : Int32} (ev : t.eval args Z none [] Z = some (.ref a)) (h : (Jvm.Cond.eq (Term.field t C n d) (Term.int k)).value args Z none Z [] = some true) : Fld Z Z.heap a C n d (.int k) :=
  Fld.start ((fld_at ev).symm.trans (eqInt h))
theorem fldNull {t : Term} {a : Addr} {C n d : String} (ev : t.eval args Z none [] Z = some (.ref a)) (h : (Jvm.Cond.eq (Term.field t C n d) Term.null).value args Z none Z [] = some true) : Fld Z Z.heap a C n d .null :=
  Fld.start ((fld_at ev).symm.trans (null_v h))
theorem fldRef {t u : Term} {a b : Addr} {C n d : String} (ev : t.eval args Z none [] Z = some (.ref a)) (hu : u.eval args Z none [] Z = some (.ref b)) (h : (Jvm.Cond.eq (Term.field t C n d) u).value args Z none Z [] = some true) : Fld Z Z.heap a C n d (.ref b) := by
  obtain ⟨x, y, hx, hy, k1, k2⟩ := cmp_v (Or.inl h)
  cases hy.symm.trans hu
  have q : x = .ref b := gotT (eq_R hx hy k2.2 rfl) h
  exact Fld.start ((fld_at ev).symm.trans (q ▸ hx))
theorem Go.retV (X : Stand p l e R s m args below meth c T locs cells slots) (hx : p.tables.exec = Jvm.exec) (hlk : meth.locks = false) {t : FieldType} (hret : meth.sig.returnType = some t) (hby : c.code = B) {i : Instr} (hd : decode B pc = .ok (i, 1)) {w : Value} (hn : narrow t w = w)
    (hi : (i = .ireturn ∧ (t = .int ∨ t = .boolean ∨ t = .byte ∨ t = .char ∨ t = .short) ∧ ∃ z, w = .int z) ∨ (i = .lreturn ∧ t = .long ∧ ∃ z, w = .long z) ∨ (i = .dreturn ∧ t = .double ∧ ∃ z, w = .double z) ∨ (i = .freturn ∧ t = .float ∧ ∃ z, w = .float z) ∨ (i = .areturn ∧ t.isReference = true ∧ w.isRef = true))
    {Q : Option Value → Heap → List Loc → Prop} {k n : Nat} (hc : cells ≤ k) (hs : slots ≤ n) (hq : Q (some w) T.heap locs) : Go p e below (EndK s Q k n) T (mkF m pc ls (w :: st)) := by
  obtain ⟨fs, hr, hrun, hended, hW, hsame⟩ := X.leave (v := some w) (fun h => by rw [hret] at h; cases h) hlk
  exact ⟨_, _, retOut X hx hret hn hi (hb hby hd) hr, hrun, hended, _, _, rfl, hq, ⟨_, rfl⟩, hW, hsame.mono hc hs⟩
theorem Go.retI (X : Stand p l e R s m args below meth c T locs cells slots) (hx : p.tables.exec = Jvm.exec) (hlk : meth.locks = false) {t : FieldType} (hret : meth.sig.returnType = some t) (hby : c.code = B) (hd : decode B pc = .ok (.ireturn, 1)) {z : Int32} (hn : narrow t (.int z) = .int z)
    (ht : t = .int ∨ t = .boolean ∨ t = .byte ∨ t = .char ∨ t = .short) {Q : Option Value → Heap → List Loc → Prop} {k n : Nat} (hc : cells ≤ k) (hs : slots ≤ n) (hq : Q (some (.int z)) T.heap locs) : Go p e below (EndK s Q k n) T (mkF m pc ls (.int z :: st)) :=
  Go.retV X hx hlk hret hby hd hn (Or.inl ⟨rfl, ht, z, rfl⟩) hc hs hq
theorem Go.retA (X : Stand p l e R s m args below meth c T locs cells slots) (hx : p.tables.exec = Jvm.exec) (hlk : meth.locks = false) {t : FieldType} (hret : meth.sig.returnType = some t) (hby : c.code = B) (hd : decode B pc = .ok (.areturn, 1)) {w : Value} (hw : w.isRef = true)
    (ht : t.isReference = true) {Q : Option Value → Heap → List Loc → Prop} {k n : Nat} (hc : cells ≤ k) (hs : slots ≤ n) (hq : Q (some w) T.heap locs) : Go p e below (EndK s Q k n) T (mkF m pc ls (w :: st)) :=
  Go.retV X hx hlk hret hby hd (by rcases ref_cases hw with rfl | ⟨a, rfl⟩ <;> cases t <;> first | rfl | cases ht) (Or.inr (Or.inr (Or.inr (Or.inr ⟨rfl, ht, hw⟩)))) hc hs hq
theorem Go.ret0 (X : Stand p l e R s m args below meth c T locs cells slots) (hx : p.tables.exec = Jvm.exec) (hlk : meth.locks = false) (hret : meth.sig.returnType = none) (hby : c.code = B) (hd : decode B pc = .ok (.return_, 1))
    {Q : Option Value → Heap → List Loc → Prop} {k n : Nat} (hc : cells ≤ k) (hs : slots ≤ n) (hq : Q none T.heap locs) : Go p e below (EndK s Q k n) T (mkF m pc ls []) := by
  obtain ⟨fs, hr, hrun, hended, hW, hsame⟩ := X.leave (v := none) (fun _ => rfl) hlk
  exact ⟨_, _, X.returnOut hx hret (hb hby hd) hr, hrun, hended, _, _, rfl, hq, ⟨_, rfl⟩, hW, hsame.mono hc hs⟩
theorem Go.callS (X : Stand p l e R s m args below meth c T locs cells slots) (hx : p.tables.exec = Jvm.exec) (hZ : Z.Warmed39 s.vm) (hby : c.code = B) (hml : ls.size = c.maxLocals) {own : String} {index : Nat} {y : MethodName} {bytes : ByteArray} {maxL : Nat} {ret : Option FieldType} {rm : Room} {Q : Option Value → Heap → List Loc → Prop}
    (hown : s.vm.findClass own = some m.cls) (w1 : (Jvm.Cond.methodLink own index y).before a0 Z = true) (w2 : (Jvm.Cond.static y).before a0 Z = true) (w3 : (Jvm.Cond.initialized y.cls).before a0 Z = true) (w4 : (Jvm.Cond.code y bytes maxL ret).before a0 Z = true) (hy : y.cls ≠ "java/lang/invoke/MethodHandle" ∧ y.cls ≠ "java/lang/invoke/VarHandle")
    {argsL rest : List Value} (hM : Pact l Z y bytes maxL ret [] rm argsL.toArray h Q) (eT : T.heap = h) (W : Nat) (hf : rm.frames + 1 ≤ R.frames) (hl : W + (maxL + 11) + rm.locals ≤ R.locals) (hc : cells + rm.cells ≤ R.cells) (hs : slots + rm.slots ≤ R.slots)
    (hst : st = argsL.reverse ++ rest) {ps : List FieldType} {rt : Option FieldType} (hdesc : parseMethodDescriptor y.desc = some ⟨ps, rt⟩) (hlen : argsL.length = ps.length) (hW : (rest.map fun v => v.category).sum ≤ W) (hd : decode B pc = .ok (.invokestatic index, 3)) (hq : pc + 3 = pcF)
    (next : ∀ (v : Option Value) (T' : State) (L : List Loc), Stand p l e R s m args below meth c T' (locs ++ L) (cells + rm.cells) (slots + rm.slots) → Q v T'.heap L → Go p e below K T' (mkF m pcF ls (v.toList ++ rest))) : Go p e below K T (mkF m pc ls st) := by
  subst hq
  obtain ⟨v, vm₁, ⟨T', L', k', n'⟩, -, X', ⟨Lc, hQ, l', y', z'⟩, st'⟩ := Jvm.LawKit.callS X hx (y := y) hown (mvT hZ w1) (mvT hZ w2) (mvT hZ w3) (mvT hZ w4) hy (backOf (W := W) hM hZ w4 w3 hf hl) (g := mkF m pc ls st) rfl hml (argsL := argsL) (rest := rest) (lenOf hdesc hlen) hst (by show 2 * 0 + _ ≤ W; omega) (hb hby hd) (fun _ _ => ⟨rfl, eT, hc, hs⟩)
  dsimp only [Pt.U, Pt.locs, Pt.cells, Pt.slots] at X' l' y' z' st' hQ
  subst l' y' z'
  exact Go.on st' (next v T' Lc X' hQ)
theorem Go.callV (X : Stand p l e R s m args below meth c T locs cells slots) (hx : p.tables.exec = Jvm.exec) (hZ : Z.Warmed39 s.vm) (hby : c.code = B) (hml : ls.size = c.maxLocals) {own C : String} {index : Nat} {y : MethodName} {bytes : ByteArray} {maxL : Nat} {ret : Option FieldType} {rm : Room} {Q : Option Value → Heap → List Loc → Prop}
    (hown : s.vm.findClass own = some m.cls) (w1 : (Jvm.Cond.methodLink own index y).before a0 Z = true) (w2 : (Jvm.Cond.declares y).before a0 Z = true) (w3 : (Jvm.Cond.selects C y y).before a0 Z = true) (w4 : (Jvm.Cond.instanceMethod y).before a0 Z = true) (w5 : (Jvm.Cond.code y bytes maxL ret).before a0 Z = true) (w6 : (Jvm.Cond.initialized y.cls).before a0 Z = true) (hy : y.cls ≠ "java/lang/invoke/MethodHandle" ∧ y.cls ≠ "java/lang/invoke/VarHandle")
    {b : Addr} {argsL rest : List Value} (hM : Pact l Z y bytes maxL ret [] rm (.ref b :: argsL).toArray h Q) (eT : T.heap = h) (E : Exa Z h b C) (W : Nat) (hf : rm.frames + 1 ≤ R.frames) (hl : W + (maxL + 11) + rm.locals ≤ R.locals) (hc : cells + rm.cells ≤ R.cells) (hs : slots + rm.slots ≤ R.slots)
    (hst : st = argsL.reverse ++ .ref b :: rest) {ps : List FieldType} {rt : Option FieldType} (hdesc : parseMethodDescriptor y.desc = some ⟨ps, rt⟩) (hlen : argsL.length = ps.length) (hW : (rest.map fun v => v.category).sum ≤ W) (hd : decode B pc = .ok (.invokevirtual index, 3)) (hq : pc + 3 = pcF)
    (next : ∀ (v : Option Value) (T' : State) (L : List Loc), Stand p l e R s m args below meth c T' (locs ++ L) (cells + rm.cells) (slots + rm.slots) → Q v T'.heap L → Go p e below K T' (mkF m pcF ls (v.toList ++ rest))) : Go p e below K T (mkF m pc ls st) := by
  subst hq
  obtain ⟨cq, kq, q1, q2, q3⟩ := isOf hZ eT E
  obtain ⟨v, vm₁, ⟨T', L', k', n'⟩, -, X', ⟨Lc, hQ, l', y', z'⟩, st'⟩ := X.virtualBack hx (y := y) (z := y) hown (mvT hZ w1) (mvT hZ w2) (notFace_of_selects (args := #[]) (mvT hZ w3)) (mvT hZ w3) (mvT hZ w4) hy (backOf (W := W) hM hZ w5 w6 hf hl) q1 q3 (g := mkF m pc ls st) rfl hml (Steps.refl _) (argsL := argsL) (rest := rest) (lenOf hdesc hlen) hst (by show 2 * 0 + _ ≤ W; omega) (hb hby hd) (fun _ _ => ⟨rfl, eT, hc, hs⟩)
  dsimp only [Pt.U, Pt.locs, Pt.cells, Pt.slots] at X' l' y' z' st' hQ
  subst l' y' z'
  exact Go.on (fun t k => st'.trans k) (next v T' Lc X' hQ)
theorem Go.callI (X : Stand p l e R s m args below meth c T locs cells slots) (hx : p.tables.exec = Jvm.exec) (hZ : Z.Warmed39 s.vm) (hby : c.code = B) (hml : ls.size = c.maxLocals) {own : String} {index : Nat} {y : MethodName} {bytes : ByteArray} {maxL : Nat} {rm : Room} {Q : Option Value → Heap → List Loc → Prop}
    (hinit : y.name = "<init>") (hown : s.vm.findClass own = some m.cls) (w1 : (Jvm.Cond.methodLink own index y).before a0 Z = true) (w4 : (Jvm.Cond.instanceMethod y).before a0 Z = true) (w5 : (Jvm.Cond.code y bytes maxL none).before a0 Z = true) (w6 : (Jvm.Cond.initialized y.cls).before a0 Z = true) (hy : y.cls ≠ "java/lang/invoke/MethodHandle" ∧ y.cls ≠ "java/lang/invoke/VarHandle")
    {b : Addr} {argsL rest : List Value} (hM : Pact l Z y bytes maxL none [] rm (.ref b :: argsL).toArray h Q) (eT : T.heap = h) (W : Nat) (hf : rm.frames + 1 ≤ R.frames) (hl : W + (maxL + 11) + rm.locals ≤ R.locals) (hc : cells + rm.cells ≤ R.cells) (hs : slots + rm.slots ≤ R.slots)
    (hst : st = argsL.reverse ++ .ref b :: rest) {ps : List FieldType} {rt : Option FieldType} (hdesc : parseMethodDescriptor y.desc = some ⟨ps, rt⟩) (hlen : argsL.length = ps.length) (hW : (rest.map fun v => v.category).sum ≤ W) (hd : decode B pc = .ok (.invokespecial index, 3)) (hq : pc + 3 = pcF)
    (next : ∀ (v : Option Value) (T' : State) (L : List Loc), Stand p l e R s m args below meth c T' (locs ++ L) (cells + rm.cells) (slots + rm.slots) → Q v T'.heap L → Go p e below K T' (mkF m pcF ls (v.toList ++ rest))) : Go p e below K T (mkF m pc ls st) := by
  subst hq
  obtain ⟨v, vm₁, ⟨T', L', k', n'⟩, -, X', ⟨Lc, hQ, l', y', z'⟩, st'⟩ := X.specialBack hx (y := y) hinit hown (mvT hZ w1) (mvT hZ w4) (mvT hZ w5) hy (backOf (W := W) hM hZ w5 w6 hf hl) (g := mkF m pc ls st) rfl hml (Steps.refl _) (a := b) (argsL := argsL) (rest := rest) (lenOf hdesc hlen) hst (by show 2 * 0 + _ ≤ W; omega) (hb hby hd) (fun _ _ => ⟨rfl, eT, hc, hs⟩)
  dsimp only [Pt.U, Pt.locs, Pt.cells, Pt.slots] at X' l' y' z' st' hQ
  subst l' y' z'
  exact Go.on (fun t k => st'.trans k) (next v T' Lc X' hQ)
theorem Go.callU (X : Stand p l e R s m args below meth c T locs cells slots) (hx : p.tables.exec = Jvm.exec) (hZ : Z.Warmed39 s.vm) (hby : c.code = B) (hml : ls.size = c.maxLocals) {own C owner : String} {index : Nat} {y z : MethodName} {bytes : ByteArray} {maxL : Nat} {ret : Option FieldType} {rm : Room} {Q : Option Value → Heap → List Loc → Prop}
    (hown : s.vm.findClass own = some m.cls) (w1 : (Jvm.Cond.methodLink own index y).before a0 Z = true) (wsm : (Jvm.Cond.sameMethod y.cls owner y.name y.desc).before a0 Z = true) (w2 : (Jvm.Cond.declares ⟨owner, y.name, y.desc⟩).before a0 Z = true) (w3 : (Jvm.Cond.selects C y z).before a0 Z = true) (w4 : (Jvm.Cond.instanceMethod z).before a0 Z = true) (w5 : (Jvm.Cond.code z bytes maxL ret).before a0 Z = true) (w6 : (Jvm.Cond.initialized z.cls).before a0 Z = true) (hy : owner ≠ "java/lang/invoke/MethodHandle" ∧ owner ≠ "java/lang/invoke/VarHandle")
    {b : Addr} {argsL rest : List Value} (hM : Pact l Z z bytes maxL ret [] rm (.ref b :: argsL).toArray h Q) (eT : T.heap = h) (E : Exa Z h b C) (W : Nat) (hf : rm.frames + 1 ≤ R.frames) (hl : W + (maxL + 11) + rm.locals ≤ R.locals) (hc : cells + rm.cells ≤ R.cells) (hs : slots + rm.slots ≤ R.slots)
    (hst : st = argsL.reverse ++ .ref b :: rest) {ps : List FieldType} {rt : Option FieldType} (hdesc : parseMethodDescriptor y.desc = some ⟨ps, rt⟩) (hlen : argsL.length = ps.length) (hW : (rest.map fun v => v.category).sum ≤ W) (hd : decode B pc = .ok (.invokevirtual index, 3)) (hq : pc + 3 = pcF)
    (next : ∀ (v : Option Value) (T' : State) (L : List Loc), Stand p l e R s m args below meth c T' (locs ++ L) (cells + rm.cells) (slots + rm.slots) → Q v T'.heap L → Go p e below K T' (mkF m pcF ls (v.toList ++ rest))) : Go p e below K T (mkF m pc ls st) := by
  subst hq
  obtain ⟨cq, kq, q1, q2, q3⟩ := isOf hZ eT E
  obtain ⟨v, vm₁, ⟨T', L', k', n'⟩, -, X', ⟨Lc, hQ, l', y', z'⟩, st'⟩ := X.virtualBackUp hx (x := y) (y := z) hown (mvT hZ w1) (mvT hZ wsm) (mvT hZ w2) hy (mvT hZ w3) (mvT hZ w4) (backOf (W := W) hM hZ w5 w6 hf hl) q1 q3 (g := mkF m pc ls st) rfl hml (Steps.refl _) (argsL := argsL) (rest := rest) (lenOf hdesc hlen) hst (by show 2 * 0 + _ ≤ W; omega) (hb hby hd) (fun _ _ => ⟨rfl, eT, hc, hs⟩)
  dsimp only [Pt.U, Pt.locs, Pt.cells, Pt.slots] at X' l' y' z' st' hQ
  subst l' y' z'
  exact Go.on (fun t k => st'.trans k) (next v T' Lc X' hQ)
theorem Go.callP (X : Stand p l e R s m args below meth c T locs cells slots) (hx : p.tables.exec = Jvm.exec) (hZ : Z.Warmed39 s.vm) (hby : c.code = B) (hml : ls.size = c.maxLocals) {own : String} {index kk : Nat} {y : MethodName} {bytes : ByteArray} {maxL : Nat} {ret : Option FieldType} {rm : Room} {Q : Option Value → Heap → List Loc → Prop}
    (hown : s.vm.findClass own = some m.cls) (w1 : (Jvm.Cond.methodLink own index y).before a0 Z = true) (w2 : (Jvm.Cond.instantiable y.cls kk).before a0 Z = true) (w3 : (Jvm.Cond.privateMethod y).before a0 Z = true) (w4 : (Jvm.Cond.instanceMethod y).before a0 Z = true) (w5 : (Jvm.Cond.code y bytes maxL ret).before a0 Z = true) (w6 : (Jvm.Cond.initialized y.cls).before a0 Z = true) (hy : y.cls ≠ "java/lang/invoke/MethodHandle" ∧ y.cls ≠ "java/lang/invoke/VarHandle")
    {b : Addr} {argsL rest : List Value} (hM : Pact l Z y bytes maxL ret [] rm (.ref b :: argsL).toArray h Q) (eT : T.heap = h) {C : String} (E : Exa Z h b C) (W : Nat) (hf : rm.frames + 1 ≤ R.frames) (hl : W + (maxL + 11) + rm.locals ≤ R.locals) (hc : cells + rm.cells ≤ R.cells) (hs : slots + rm.slots ≤ R.slots)
    (hst : st = argsL.reverse ++ .ref b :: rest) {ps : List FieldType} {rt : Option FieldType} (hdesc : parseMethodDescriptor y.desc = some ⟨ps, rt⟩) (hlen : argsL.length = ps.length) (hW : (rest.map fun v => v.category).sum ≤ W) (hd : decode B pc = .ok (.invokevirtual index, 3)) (hq : pc + 3 = pcF)
    (next : ∀ (v : Option Value) (T' : State) (L : List Loc), Stand p l e R s m args below meth c T' (locs ++ L) (cells + rm.cells) (slots + rm.slots) → Q v T'.heap L → Go p e below K T' (mkF m pcF ls (v.toList ++ rest))) : Go p e below K T (mkF m pc ls st) := by
  subst hq
  obtain ⟨cq, q, q'⟩ := E.cell
  have hpriv : s.PrivateAt y := Cond.privateMethod_at (mvP hZ w3 (args := #[]))
  obtain ⟨c2, k2, i1, i2, -, i4, -⟩ := Cond.instantiable_spec (mvT (args := #[]) (s := s) hZ w2)
  have hni : k2.isInterface = false := (Bool.or_eq_false_iff.mp i4).1
  obtain ⟨v, vm₁, ⟨T', L', k', n'⟩, -, X', ⟨Lc, hQ, l', y', z'⟩, st'⟩ := X.privateBack hx (y := y) hown (mvT hZ w1) (mvT hZ w4) (selects_self_of_private i1 i2 hni hpriv (mvT hZ w4) hy) hpriv (mvT hZ w5) hy (backOf (W := W) hM hZ w5 w6 hf hl) (g := mkF m pc ls st) rfl hml (Steps.refl _) (a := b) (by rw [eT]; exact q) q' (argsL := argsL) (rest := rest) (lenOf hdesc hlen) hst (by show 2 * 0 + _ ≤ W; omega) (hb hby hd) (fun _ _ => ⟨rfl, eT, hc, hs⟩)
  dsimp only [Pt.U, Pt.locs, Pt.cells, Pt.slots] at X' l' y' z' st' hQ
  subst l' y' z'
  exact Go.on (fun t k => st'.trans k) (next v T' Lc X' hQ)
theorem extWr {h0 h h' : Heap} {a : Addr} {sl : Nat} {v : Value} (E : Ext h0 h) (W : Wr h h' a sl v) (q : h0.size ≤ a) : Ext h0 h' := by
  refine ⟨by rw [W.size]; exact E.1, fun x c hx => ?_⟩
  obtain ⟨cb', r1, -, -, -, r5, -⟩ := wr_at W (E.2 x c hx)
  rw [r1, r5 (Nat.ne_of_lt (Nat.lt_of_lt_of_le (Array.getElem?_eq_some_iff.mp hx).1 q))]
theorem extKeep {h0 h h' : Heap} {a : Addr} (E : Ext h0 h) (K : Keep h h' [a]) (q : h0.size ≤ a) : Ext h0 h' :=
  ⟨Nat.le_trans E.1 K.1, fun x c hx => K.2.1 x c (E.2 x c hx) (ninS (Nat.ne_of_lt (Nat.lt_of_lt_of_le (Array.getElem?_eq_some_iff.mp hx).1 q)) nin0)⟩
theorem extTrans {h0 h h' : Heap} (E : Ext h0 h) (E' : Ext h h') : Ext h0 h' := ⟨Nat.le_trans E.1 E'.1, fun x c hx => E'.2 x c (E.2 x c hx)⟩
theorem arrKeep {h h' : Heap} {a b : Addr} {cl : Cell} {ty : FieldType} (A : Arr Z h a cl ty) (K : Keep h h' [b]) (hne : a ≠ b) : Arr Z h' a cl ty := ⟨K.2.1 _ _ A.1 (ninS hne nin0), A.2⟩
end Go
end Jvm.RoadKit

namespace Jvm.Pilot.@@N@@
open Jvm Jvm.ClassFile Sem Op Lib Jvm.Free Jvm.Stand Jvm.LawKit Jvm.RoadKit Bundle Jvm.Pilot.@@N@@.Jvm.D

theorem pnLaw : plainName "com/example/loomtrace/loomtrace/model/IntSortLastAtMostPinLaw" = true := by first | (simp [plainName, overriddenIn]; done) | decide +kernel
theorem pnS : plainName "com/example/loomtrace/loomtrace/model/IntSort" = true := by first | (simp [plainName, overriddenIn]; done) | decide +kernel
theorem pdM : parseMethodDescriptor "(II)I" = some ⟨[.int, .int], some .int⟩ := by decide +kernel
theorem pdL : parseMethodDescriptor "([III)I" = some ⟨[(.array .int), .int, .int], some .int⟩ := by decide +kernel
theorem efM (m : MethodId) (x y : Int32) : entryFrame m #[(.int x), (.int y)] 2 = mkF m 0 #[.val (.int x), .val (.int y)] [] := by first | (simp [entryFrame, mkF, argsToLocals, Value.category, maxLocals]; done) | rfl
theorem efL (m : MethodId) (a : Addr) (n v : Int32) : entryFrame m #[(.ref a), (.int n), (.int v)] 6 = mkF m 0 #[.val (.ref a), .val (.int n), .val (.int v), .unset, .unset, .unset] [] := by first | (simp [entryFrame, mkF, argsToLocals, Value.category, maxLocals]; done) | rfl
theorem ef0 (m : MethodId) (x0 x1 x2 : Int64) (x3 x4 : Int32) : entryFrame m #[(.long x0), (.long x1), (.long x2), (.int x3), (.int x4)] maxLocals = mkF m 0 #[.val (.long x0), .second, .val (.long x1), .second, .val (.long x2), .second, .val (.int x3), .val (.int x4), .unset, .unset, .unset, .unset, .unset, .unset, .unset, .unset, .unset] [] := by first | (simp [entryFrame, mkF, argsToLocals, Value.category, maxLocals]; done) | rfl
theorem own_range (x : Int32) : 0 ≤ ((x &&& (2147483647 : Int32)) % (7 : Int32)).toInt ∧ ((x &&& (2147483647 : Int32)) % (7 : Int32)).toInt < 7 := by
  have e := c_and x (2147483647 : Int32) (by decide)
  have r := (c_irem (x &&& (2147483647 : Int32)) (7 : Int32) 7 (by decide)).1 e.1
  rw [r]
  omega
theorem own_cases (k : Int32) (h : 0 ≤ k.toInt ∧ k.toInt < 7) : k = 0 ∨ k = 1 ∨ k = 2 ∨ k = 3 ∨ k = 4 ∨ k = 5 ∨ k = 6 := by
  have e : ∀ i : Int32, k.toInt = i.toInt → k = i := fun i q => Int32.toInt_inj.mp q
  have q : k.toInt = 0 ∨ k.toInt = 1 ∨ k.toInt = 2 ∨ k.toInt = 3 ∨ k.toInt = 4 ∨ k.toInt = 5 ∨ k.toInt = 6 := by omega
  rcases q with q | q | q | q | q | q | q
  · exact Or.inl (e 0 q)
  · exact Or.inr (Or.inl (e 1 q))
  · exact Or.inr (Or.inr (Or.inl (e 2 q)))
  · exact Or.inr (Or.inr (Or.inr (Or.inl (e 3 q))))
  · exact Or.inr (Or.inr (Or.inr (Or.inr (Or.inl (e 4 q)))))
  · exact Or.inr (Or.inr (Or.inr (Or.inr (Or.inr (Or.inl (e 5 q))))))
  · exact Or.inr (Or.inr (Or.inr (Or.inr (Or.inr (Or.inr (e 6 q))))))
def own_max (x y : Int32) : Int32 := if x < y then y else x
theorem own_max_ge (x y : Int32) : ¬ own_max x y < x := by
  unfold own_max
  split
  · rename_i h; rw [Int32.lt_iff_toInt_lt] at h ⊢; omega
  · rw [Int32.lt_iff_toInt_lt]; omega
def own_QR (h0 : Heap) (r : Value) (v : Option Value) (h : Heap) (L : List Loc) : Prop := v = some r ∧ L = [] ∧ h = h0
def own_e2 (f1 v : Int32) : Int32 := if v < f1 then (0) else 1
def own_e3 (f1 f2 v : Int32) : Int32 := if v < f2 then (if v < f1 then (0) else 1) else 2
def own_e4 (f1 f2 f3 v : Int32) : Int32 := if v < f3 then (if v < f2 then (if v < f1 then (0) else 1) else 2) else 3
def own_e5 (f1 f2 f3 f4 v : Int32) : Int32 := if v < f4 then (if v < f3 then (if v < f2 then (if v < f1 then (0) else 1) else 2) else 3) else 4
def own_e6 (f1 f2 f3 f4 f5 v : Int32) : Int32 := if v < f5 then (if v < f4 then (if v < f3 then (if v < f2 then (if v < f1 then (0) else 1) else 2) else 3) else 4) else 5
theorem d1_0 : decode jdk_29_method_65_code 0 = .ok (.iload_n 0, 1) := by decide +kernel
theorem d1_1 : decode jdk_29_method_65_code 1 = .ok (.iload_n 1, 1) := by decide +kernel
theorem d1_2 : decode jdk_29_method_65_code 2 = .ok (.if_icmp .lt 7, 3) := by decide +kernel
theorem d1_5 : decode jdk_29_method_65_code 5 = .ok (.iload_n 0, 1) := by decide +kernel
theorem d1_6 : decode jdk_29_method_65_code 6 = .ok (.goto 4, 3) := by decide +kernel
theorem d1_9 : decode jdk_29_method_65_code 9 = .ok (.iload_n 1, 1) := by decide +kernel
theorem d1_10 : decode jdk_29_method_65_code 10 = .ok (.ireturn, 1) := by decide +kernel
set_option maxRecDepth 65536 in
set_option maxHeartbeats 40000000 in
theorem rmM (l : Launch) (Z : State) (w0 : Array Value) (hw : ∀ d ∈ tables_1, d.before w0 Z = true) (ws : List Jvm.Cond) (x y : Int32) (h0 : Heap) : Pact l Z (⟨"java/lang/Math", "max", "(II)I"⟩ : MethodName) jdk_29_method_65_code 2 (some .int) ws ({ frames := 0, cells := 0, slots := 0, locals := 0 } : Room) #[.int x, .int y] h0 (own_QR h0 (.int (own_max x y))) := by
  refine Pact.intro (Jvm.Free.JP.mathPlain rfl (by decide +kernel)) ?_
  intro p e s m below meth c T0 X0 hx hby hml hret hlk hown hnm hZ e0
  refine Go.at (efM m x y) ?_
  refine Go.on (g' := (mkF m 1 _ [(.int x)])) (fun t_ k_ => XS.iloadN X0.here hx rfl (hb hby d1_0) rfl k_) ?_
  refine Go.on (g' := (mkF m 2 _ [(.int y), (.int x)])) (fun t_ k_ => XS.iloadN X0.here hx rfl (hb hby d1_1) rfl k_) ?_
  refine Go.icmp X0 hx hby d1_2 (pcT := 9) (pcF := 5) (by decide) (by decide) rfl (fun q => ?_) (fun q => ?_)
  · have q1 := iLt.1 q
    clear q
    show Go p e below _ _ (mkF m 9 _ [])
    refine Go.on (g' := (mkF m 10 _ [(.int y)])) (fun t_ k_ => XS.iloadN X0.here hx rfl (hb hby d1_9) rfl k_) ?_
    exact Go.retI X0 hx hlk hret hby d1_10 rfl (by simp) (by decide) (by decide) ⟨by rw [own_max, if_pos q1], rfl, e0⟩
  · have q1 := iLt.2 q
    clear q
    show Go p e below _ _ (mkF m 5 _ [])
    refine Go.on (g' := (mkF m 6 _ [(.int x)])) (fun t_ k_ => XS.iloadN X0.here hx rfl (hb hby d1_5) rfl k_) ?_
    refine Go.on (g' := (mkF m 10 _ [(.int x)])) (fun t_ k_ => XS.goto X0.here hx rfl (pc0 := 6) (pc' := 10) rfl (hb hby d1_6) (by decide) (by decide) k_) ?_
    exact Go.retI X0 hx hlk hret hby d1_10 rfl (by simp) (by decide) (by decide) ⟨by rw [own_max, if_neg q1], rfl, e0⟩
theorem d2_0 : decode prog_213_method_2_code 0 = .ok (.iconst 0, 1) := by decide +kernel
theorem d2_1 : decode prog_213_method_2_code 1 = .ok (.istore_n 3, 1) := by decide +kernel
theorem d2_2 : decode prog_213_method_2_code 2 = .ok (.iload_n 1, 1) := by decide +kernel
theorem d2_3 : decode prog_213_method_2_code 3 = .ok (.iconst 1, 1) := by decide +kernel
theorem d2_4 : decode prog_213_method_2_code 4 = .ok (.isub, 1) := by decide +kernel
theorem d2_5 : decode prog_213_method_2_code 5 = .ok (.istore 4, 2) := by decide +kernel
theorem d2_7 : decode prog_213_method_2_code 7 = .ok (.iload_n 3, 1) := by decide +kernel
theorem d2_8 : decode prog_213_method_2_code 8 = .ok (.iload 4, 2) := by decide +kernel
theorem d2_10 : decode prog_213_method_2_code 10 = .ok (.if_icmp .ge 36, 3) := by decide +kernel
theorem d2_13 : decode prog_213_method_2_code 13 = .ok (.iload_n 3, 1) := by decide +kernel
theorem d2_14 : decode prog_213_method_2_code 14 = .ok (.iload 4, 2) := by decide +kernel
theorem d2_16 : decode prog_213_method_2_code 16 = .ok (.iadd, 1) := by decide +kernel
theorem d2_17 : decode prog_213_method_2_code 17 = .ok (.iconst 1, 1) := by decide +kernel
theorem d2_18 : decode prog_213_method_2_code 18 = .ok (.iadd, 1) := by decide +kernel
theorem d2_19 : decode prog_213_method_2_code 19 = .ok (.iconst 1, 1) := by decide +kernel
theorem d2_20 : decode prog_213_method_2_code 20 = .ok (.iushr, 1) := by decide +kernel
theorem d2_21 : decode prog_213_method_2_code 21 = .ok (.istore 5, 2) := by decide +kernel
theorem d2_23 : decode prog_213_method_2_code 23 = .ok (.aload_n 0, 1) := by decide +kernel
theorem d2_24 : decode prog_213_method_2_code 24 = .ok (.iload 5, 2) := by decide +kernel
theorem d2_26 : decode prog_213_method_2_code 26 = .ok (.iaload, 1) := by decide +kernel
theorem d2_27 : decode prog_213_method_2_code 27 = .ok (.iload_n 2, 1) := by decide +kernel
theorem d2_28 : decode prog_213_method_2_code 28 = .ok (.if_icmp .gt 9, 3) := by decide +kernel
theorem d2_31 : decode prog_213_method_2_code 31 = .ok (.iload 5, 2) := by decide +kernel
theorem d2_33 : decode prog_213_method_2_code 33 = .ok (.istore_n 3, 1) := by decide +kernel
theorem d2_34 : decode prog_213_method_2_code 34 = .ok (.goto 9, 3) := by decide +kernel
theorem d2_37 : decode prog_213_method_2_code 37 = .ok (.iload 5, 2) := by decide +kernel
theorem d2_39 : decode prog_213_method_2_code 39 = .ok (.iconst 1, 1) := by decide +kernel
theorem d2_40 : decode prog_213_method_2_code 40 = .ok (.isub, 1) := by decide +kernel
theorem d2_41 : decode prog_213_method_2_code 41 = .ok (.istore 4, 2) := by decide +kernel
theorem d2_43 : decode prog_213_method_2_code 43 = .ok (.goto (-36), 3) := by decide +kernel
theorem d2_46 : decode prog_213_method_2_code 46 = .ok (.iload_n 3, 1) := by decide +kernel
theorem d2_47 : decode prog_213_method_2_code 47 = .ok (.ireturn, 1) := by decide +kernel
set_option maxRecDepth 65536 in
set_option maxHeartbeats 40000000 in
theorem rmL0 (l : Launch) (Z : State) (w0 : Array Value) (hw : ∀ d ∈ tables_1, d.before w0 Z = true) (ws : List Jvm.Cond) (a : Addr) (v : Int32) (h0 : Heap) (cl : Cell) (A0 : Arr Z h0 a cl .int) (hsz : cl.slots.size = 7)   : Pact l Z (⟨"com/example/loomtrace/loomtrace/model/IntSort", "lastAtMost", "([III)I"⟩ : MethodName) prog_213_method_2_code 6 (some .int) ws ({ frames := 0, cells := 0, slots := 0, locals := 0 } : Room) #[.ref a, .int (0 : Int32), .int v] h0 (own_QR h0 (.int (0 : Int32))) := by
  refine Pact.intro (plainFor_of_name pnS) ?_
  intro p e s m below meth c T0 X0 hx hby hml hret hlk hown hnm hZ e0
  refine Go.at (efL m a (0 : Int32) v) ?_
  refine Go.on (g' := (mkF m 1 _ [(.int (0 : Int32))])) (fun t_ k_ => XS.iconst X0.here hx rfl (hb hby d2_0) k_) ?_
  refine Go.on (g' := (mkF m 2 #[.val (.ref a), .val (.int (0 : Int32)), .val (.int v), .val (.int (0 : Int32)), .unset, .unset] [])) (fun t_ k_ => XS.istoreN X0.here hx rfl (hb hby d2_1) rfl (l' := #[.val (.ref a), .val (.int (0 : Int32)), .val (.int v), .val (.int (0 : Int32)), .unset, .unset]) rfl k_) ?_
  refine Go.on (g' := (mkF m 3 _ [(.int (0 : Int32))])) (fun t_ k_ => XS.iloadN X0.here hx rfl (hb hby d2_2) rfl k_) ?_
  refine Go.on (g' := (mkF m 4 _ [(.int (1 : Int32)), (.int (0 : Int32))])) (fun t_ k_ => XS.iconst X0.here hx rfl (hb hby d2_3) k_) ?_
  refine Go.on (g' := (mkF m 5 _ [(.int ((0 : Int32) - (1 : Int32)))])) (fun t_ k_ => XS.isub X0.here hx rfl (hb hby d2_4) rfl k_) ?_
  rw [show ((0 : Int32) - (1 : Int32)) = ((-1) : Int32) from by decide]
  refine Go.on (g' := (mkF m 7 #[.val (.ref a), .val (.int (0 : Int32)), .val (.int v), .val (.int (0 : Int32)), .val (.int ((-1) : Int32)), .unset] [])) (fun t_ k_ => XS.istore X0.here hx rfl (hb hby d2_5) rfl (l' := #[.val (.ref a), .val (.int (0 : Int32)), .val (.int v), .val (.int (0 : Int32)), .val (.int ((-1) : Int32)), .unset]) rfl k_) ?_
  refine Go.on (g' := (mkF m 8 _ [(.int (0 : Int32))])) (fun t_ k_ => XS.iloadN X0.here hx rfl (hb hby d2_7) rfl k_) ?_
  refine Go.on (g' := (mkF m 10 _ [(.int ((-1) : Int32)), (.int (0 : Int32))])) (fun t_ k_ => XS.iload X0.here hx rfl (hb hby d2_8) rfl k_) ?_
  refine Go.icmp X0 hx hby d2_10 (pcT := 46) (pcF := 13) (by decide) (by decide) rfl (fun q => ?_) (fun q => absurd q (by decide))
  clear q
  show Go p e below _ _ (mkF m 46 _ [])
  refine Go.on (g' := (mkF m 47 _ [(.int (0 : Int32))])) (fun t_ k_ => XS.iloadN X0.here hx rfl (hb hby d2_46) rfl k_) ?_
  exact Go.retI X0 hx hlk hret hby d2_47 rfl (by simp) (by decide) (by decide) ⟨rfl, rfl, e0⟩
set_option maxRecDepth 65536 in
set_option maxHeartbeats 40000000 in
theorem rmL1 (l : Launch) (Z : State) (w0 : Array Value) (hw : ∀ d ∈ tables_1, d.before w0 Z = true) (ws : List Jvm.Cond) (a : Addr) (v : Int32) (h0 : Heap) (cl : Cell) (A0 : Arr Z h0 a cl .int) (hsz : cl.slots.size = 7)   : Pact l Z (⟨"com/example/loomtrace/loomtrace/model/IntSort", "lastAtMost", "([III)I"⟩ : MethodName) prog_213_method_2_code 6 (some .int) ws ({ frames := 0, cells := 0, slots := 0, locals := 0 } : Room) #[.ref a, .int (1 : Int32), .int v] h0 (own_QR h0 (.int (0 : Int32))) := by
  refine Pact.intro (plainFor_of_name pnS) ?_
  intro p e s m below meth c T0 X0 hx hby hml hret hlk hown hnm hZ e0
  refine Go.at (efL m a (1 : Int32) v) ?_
  refine Go.on (g' := (mkF m 1 _ [(.int (0 : Int32))])) (fun t_ k_ => XS.iconst X0.here hx rfl (hb hby d2_0) k_) ?_
  refine Go.on (g' := (mkF m 2 #[.val (.ref a), .val (.int (1 : Int32)), .val (.int v), .val (.int (0 : Int32)), .unset, .unset] [])) (fun t_ k_ => XS.istoreN X0.here hx rfl (hb hby d2_1) rfl (l' := #[.val (.ref a), .val (.int (1 : Int32)), .val (.int v), .val (.int (0 : Int32)), .unset, .unset]) rfl k_) ?_
  refine Go.on (g' := (mkF m 3 _ [(.int (1 : Int32))])) (fun t_ k_ => XS.iloadN X0.here hx rfl (hb hby d2_2) rfl k_) ?_
  refine Go.on (g' := (mkF m 4 _ [(.int (1 : Int32)), (.int (1 : Int32))])) (fun t_ k_ => XS.iconst X0.here hx rfl (hb hby d2_3) k_) ?_
  refine Go.on (g' := (mkF m 5 _ [(.int ((1 : Int32) - (1 : Int32)))])) (fun t_ k_ => XS.isub X0.here hx rfl (hb hby d2_4) rfl k_) ?_
  rw [show ((1 : Int32) - (1 : Int32)) = (0 : Int32) from by decide]
  refine Go.on (g' := (mkF m 7 #[.val (.ref a), .val (.int (1 : Int32)), .val (.int v), .val (.int (0 : Int32)), .val (.int (0 : Int32)), .unset] [])) (fun t_ k_ => XS.istore X0.here hx rfl (hb hby d2_5) rfl (l' := #[.val (.ref a), .val (.int (1 : Int32)), .val (.int v), .val (.int (0 : Int32)), .val (.int (0 : Int32)), .unset]) rfl k_) ?_
  refine Go.on (g' := (mkF m 8 _ [(.int (0 : Int32))])) (fun t_ k_ => XS.iloadN X0.here hx rfl (hb hby d2_7) rfl k_) ?_
  refine Go.on (g' := (mkF m 10 _ [(.int (0 : Int32)), (.int (0 : Int32))])) (fun t_ k_ => XS.iload X0.here hx rfl (hb hby d2_8) rfl k_) ?_
  refine Go.icmp X0 hx hby d2_10 (pcT := 46) (pcF := 13) (by decide) (by decide) rfl (fun q => ?_) (fun q => absurd q (by decide))
  clear q
  show Go p e below _ _ (mkF m 46 _ [])
  refine Go.on (g' := (mkF m 47 _ [(.int (0 : Int32))])) (fun t_ k_ => XS.iloadN X0.here hx rfl (hb hby d2_46) rfl k_) ?_
  exact Go.retI X0 hx hlk hret hby d2_47 rfl (by simp) (by decide) (by decide) ⟨rfl, rfl, e0⟩
set_option maxRecDepth 65536 in
set_option maxHeartbeats 40000000 in
theorem rmL2 (l : Launch) (Z : State) (w0 : Array Value) (hw : ∀ d ∈ tables_1, d.before w0 Z = true) (ws : List Jvm.Cond) (a : Addr) (v : Int32) (h0 : Heap) (cl : Cell) (A0 : Arr Z h0 a cl .int) (hsz : cl.slots.size = 7) (f1 : Int32) (hk1 : cl.slots[(1 : Int32).toNatClampNeg]? = some (.int f1))  : Pact l Z (⟨"com/example/loomtrace/loomtrace/model/IntSort", "lastAtMost", "([III)I"⟩ : MethodName) prog_213_method_2_code 6 (some .int) ws ({ frames := 0, cells := 0, slots := 0, locals := 0 } : Room) #[.ref a, .int (2 : Int32), .int v] h0 (own_QR h0 (.int (own_e2 f1 v))) := by
  refine Pact.intro (plainFor_of_name pnS) ?_
  intro p e s m below meth c T0 X0 hx hby hml hret hlk hown hnm hZ e0
  refine Go.at (efL m a (2 : Int32) v) ?_
  refine Go.on (g' := (mkF m 1 _ [(.int (0 : Int32))])) (fun t_ k_ => XS.iconst X0.here hx rfl (hb hby d2_0) k_) ?_
  refine Go.on (g' := (mkF m 2 #[.val (.ref a), .val (.int (2 : Int32)), .val (.int v), .val (.int (0 : Int32)), .unset, .unset] [])) (fun t_ k_ => XS.istoreN X0.here hx rfl (hb hby d2_1) rfl (l' := #[.val (.ref a), .val (.int (2 : Int32)), .val (.int v), .val (.int (0 : Int32)), .unset, .unset]) rfl k_) ?_
  refine Go.on (g' := (mkF m 3 _ [(.int (2 : Int32))])) (fun t_ k_ => XS.iloadN X0.here hx rfl (hb hby d2_2) rfl k_) ?_
  refine Go.on (g' := (mkF m 4 _ [(.int (1 : Int32)), (.int (2 : Int32))])) (fun t_ k_ => XS.iconst X0.here hx rfl (hb hby d2_3) k_) ?_
  refine Go.on (g' := (mkF m 5 _ [(.int ((2 : Int32) - (1 : Int32)))])) (fun t_ k_ => XS.isub X0.here hx rfl (hb hby d2_4) rfl k_) ?_
  rw [show ((2 : Int32) - (1 : Int32)) = (1 : Int32) from by decide]
  refine Go.on (g' := (mkF m 7 #[.val (.ref a), .val (.int (2 : Int32)), .val (.int v), .val (.int (0 : Int32)), .val (.int (1 : Int32)), .unset] [])) (fun t_ k_ => XS.istore X0.here hx rfl (hb hby d2_5) rfl (l' := #[.val (.ref a), .val (.int (2 : Int32)), .val (.int v), .val (.int (0 : Int32)), .val (.int (1 : Int32)), .unset]) rfl k_) ?_
  refine Go.on (g' := (mkF m 8 _ [(.int (0 : Int32))])) (fun t_ k_ => XS.iloadN X0.here hx rfl (hb hby d2_7) rfl k_) ?_
  refine Go.on (g' := (mkF m 10 _ [(.int (1 : Int32)), (.int (0 : Int32))])) (fun t_ k_ => XS.iload X0.here hx rfl (hb hby d2_8) rfl k_) ?_
  refine Go.icmp X0 hx hby d2_10 (pcT := 46) (pcF := 13) (by decide) (by decide) rfl (fun q => absurd q (by decide)) (fun q => ?_)
  clear q
  show Go p e below _ _ (mkF m 13 _ [])
  refine Go.on (g' := (mkF m 14 _ [(.int (0 : Int32))])) (fun t_ k_ => XS.iloadN X0.here hx rfl (hb hby d2_13) rfl k_) ?_
  refine Go.on (g' := (mkF m 16 _ [(.int (1 : Int32)), (.int (0 : Int32))])) (fun t_ k_ => XS.iload X0.here hx rfl (hb hby d2_14) rfl k_) ?_
  refine Go.on (g' := (mkF m 17 _ [(.int ((0 : Int32) + (1 : Int32)))])) (fun t_ k_ => XS.iadd X0.here hx rfl (hb hby d2_16) rfl k_) ?_
  rw [show ((0 : Int32) + (1 : Int32)) = (1 : Int32) from by decide]
  refine Go.on (g' := (mkF m 18 _ [(.int (1 : Int32)), (.int (1 : Int32))])) (fun t_ k_ => XS.iconst X0.here hx rfl (hb hby d2_17) k_) ?_
  refine Go.on (g' := (mkF m 19 _ [(.int ((1 : Int32) + (1 : Int32)))])) (fun t_ k_ => XS.iadd X0.here hx rfl (hb hby d2_18) rfl k_) ?_
  rw [show ((1 : Int32) + (1 : Int32)) = (2 : Int32) from by decide]
  refine Go.on (g' := (mkF m 20 _ [(.int (1 : Int32)), (.int (2 : Int32))])) (fun t_ k_ => XS.iconst X0.here hx rfl (hb hby d2_19) k_) ?_
  refine Go.on (g' := (mkF m 21 _ [(.int (XT.ushr (2 : Int32) (1 : Int32)))])) (fun t_ k_ => XT.iushr X0.here hx rfl (hb hby d2_20) rfl k_) ?_
  rw [show (XT.ushr (2 : Int32) (1 : Int32)) = (1 : Int32) from by decide]
  refine Go.on (g' := (mkF m 23 #[.val (.ref a), .val (.int (2 : Int32)), .val (.int v), .val (.int (0 : Int32)), .val (.int (1 : Int32)), .val (.int (1 : Int32))] [])) (fun t_ k_ => XS.istore X0.here hx rfl (hb hby d2_21) rfl (l' := #[.val (.ref a), .val (.int (2 : Int32)), .val (.int v), .val (.int (0 : Int32)), .val (.int (1 : Int32)), .val (.int (1 : Int32))]) rfl k_) ?_
  refine Go.on (g' := (mkF m 24 _ [(.ref a)])) (fun t_ k_ => XS.aloadN X0.here hx rfl (hb hby d2_23) rfl rfl k_) ?_
  refine Go.on (g' := (mkF m 26 _ [(.int (1 : Int32)), (.ref a)])) (fun t_ k_ => XS.iload X0.here hx rfl (hb hby d2_24) rfl k_) ?_
  refine Go.on (g' := (mkF m 27 _ [(.int f1)])) (X0.iaload hx (j := (1 : Int32)) (v := (.int f1)) (by rw [e0]; exact A0.1) (State.isArrayOf_alike hZ.alike A0.2.1) A0.2.2 (by rw [hsz]; decide) hk1 (g := (mkF m 26 #[.val (.ref a), .val (.int (2 : Int32)), .val (.int v), .val (.int (0 : Int32)), .val (.int (1 : Int32)), .val (.int (1 : Int32))] [(.int (1 : Int32)), (.ref a)])) rfl rfl (hb hby d2_26)) ?_
  refine Go.on (g' := (mkF m 28 _ [(.int v), (.int f1)])) (fun t_ k_ => XS.iloadN X0.here hx rfl (hb hby d2_27) rfl k_) ?_
  refine Go.icmp X0 hx hby d2_28 (pcT := 37) (pcF := 31) (by decide) (by decide) rfl (fun q => ?_) (fun q => ?_)
  · have q1 := iGt.1 q
    clear q
    show Go p e below _ _ (mkF m 37 _ [])
    refine Go.on (g' := (mkF m 39 _ [(.int (1 : Int32))])) (fun t_ k_ => XS.iload X0.here hx rfl (hb hby d2_37) rfl k_) ?_
    refine Go.on (g' := (mkF m 40 _ [(.int (1 : Int32)), (.int (1 : Int32))])) (fun t_ k_ => XS.iconst X0.here hx rfl (hb hby d2_39) k_) ?_
    refine Go.on (g' := (mkF m 41 _ [(.int ((1 : Int32) - (1 : Int32)))])) (fun t_ k_ => XS.isub X0.here hx rfl (hb hby d2_40) rfl k_) ?_
    rw [show ((1 : Int32) - (1 : Int32)) = (0 : Int32) from by decide]
    refine Go.on (g' := (mkF m 43 #[.val (.ref a), .val (.int (2 : Int32)), .val (.int v), .val (.int (0 : Int32)), .val (.int (0 : Int32)), .val (.int (1 : Int32))] [])) (fun t_ k_ => XS.istore X0.here hx rfl (hb hby d2_41) rfl (l' := #[.val (.ref a), .val (.int (2 : Int32)), .val (.int v), .val (.int (0 : Int32)), .val (.int (0 : Int32)), .val (.int (1 : Int32))]) rfl k_) ?_
    refine Go.on (g' := (mkF m 7 _ [])) (fun t_ k_ => XS.goto X0.here hx rfl (pc0 := 43) (pc' := 7) rfl (hb hby d2_43) (by decide) (by decide) k_) ?_
    refine Go.on (g' := (mkF m 8 _ [(.int (0 : Int32))])) (fun t_ k_ => XS.iloadN X0.here hx rfl (hb hby d2_7) rfl k_) ?_
    refine Go.on (g' := (mkF m 10 _ [(.int (0 : Int32)), (.int (0 : Int32))])) (fun t_ k_ => XS.iload X0.here hx rfl (hb hby d2_8) rfl k_) ?_
    refine Go.icmp X0 hx hby d2_10 (pcT := 46) (pcF := 13) (by decide) (by decide) rfl (fun q => ?_) (fun q => absurd q (by decide))
    clear q
    show Go p e below _ _ (mkF m 46 _ [])
    refine Go.on (g' := (mkF m 47 _ [(.int (0 : Int32))])) (fun t_ k_ => XS.iloadN X0.here hx rfl (hb hby d2_46) rfl k_) ?_
    exact Go.retI X0 hx hlk hret hby d2_47 rfl (by simp) (by decide) (by decide) ⟨congrArg (fun z => some (Value.int z)) (by simp only [Int32.lt_iff_toInt_lt] at q1; unfold own_e2; simp only [Int32.lt_iff_toInt_lt]; (repeat' split) <;> first | rfl | (exfalso; omega)), rfl, e0⟩
  · have q1 := iGt.2 q
    clear q
    show Go p e below _ _ (mkF m 31 _ [])
    refine Go.on (g' := (mkF m 33 _ [(.int (1 : Int32))])) (fun t_ k_ => XS.iload X0.here hx rfl (hb hby d2_31) rfl k_) ?_
    refine Go.on (g' := (mkF m 34 #[.val (.ref a), .val (.int (2 : Int32)), .val (.int v), .val (.int (1 : Int32)), .val (.int (1 : Int32)), .val (.int (1 : Int32))] [])) (fun t_ k_ => XS.istoreN X0.here hx rfl (hb hby d2_33) rfl (l' := #[.val (.ref a), .val (.int (2 : Int32)), .val (.int v), .val (.int (1 : Int32)), .val (.int (1 : Int32)), .val (.int (1 : Int32))]) rfl k_) ?_
    refine Go.on (g' := (mkF m 43 _ [])) (fun t_ k_ => XS.goto X0.here hx rfl (pc0 := 34) (pc' := 43) rfl (hb hby d2_34) (by decide) (by decide) k_) ?_
    refine Go.on (g' := (mkF m 7 _ [])) (fun t_ k_ => XS.goto X0.here hx rfl (pc0 := 43) (pc' := 7) rfl (hb hby d2_43) (by decide) (by decide) k_) ?_
    refine Go.on (g' := (mkF m 8 _ [(.int (1 : Int32))])) (fun t_ k_ => XS.iloadN X0.here hx rfl (hb hby d2_7) rfl k_) ?_
    refine Go.on (g' := (mkF m 10 _ [(.int (1 : Int32)), (.int (1 : Int32))])) (fun t_ k_ => XS.iload X0.here hx rfl (hb hby d2_8) rfl k_) ?_
    refine Go.icmp X0 hx hby d2_10 (pcT := 46) (pcF := 13) (by decide) (by decide) rfl (fun q => ?_) (fun q => absurd q (by decide))
    clear q
    show Go p e below _ _ (mkF m 46 _ [])
    refine Go.on (g' := (mkF m 47 _ [(.int (1 : Int32))])) (fun t_ k_ => XS.iloadN X0.here hx rfl (hb hby d2_46) rfl k_) ?_
    exact Go.retI X0 hx hlk hret hby d2_47 rfl (by simp) (by decide) (by decide) ⟨congrArg (fun z => some (Value.int z)) (by simp only [Int32.lt_iff_toInt_lt] at q1; unfold own_e2; simp only [Int32.lt_iff_toInt_lt]; (repeat' split) <;> first | rfl | (exfalso; omega)), rfl, e0⟩
set_option maxRecDepth 65536 in
set_option maxHeartbeats 40000000 in
theorem rmL3 (l : Launch) (Z : State) (w0 : Array Value) (hw : ∀ d ∈ tables_1, d.before w0 Z = true) (ws : List Jvm.Cond) (a : Addr) (v : Int32) (h0 : Heap) (cl : Cell) (A0 : Arr Z h0 a cl .int) (hsz : cl.slots.size = 7) (f1 : Int32) (hk1 : cl.slots[(1 : Int32).toNatClampNeg]? = some (.int f1)) (f2 : Int32) (hk2 : cl.slots[(2 : Int32).toNatClampNeg]? = some (.int f2)) (s2 : ¬ f2 < f1) : Pact l Z (⟨"com/example/loomtrace/loomtrace/model/IntSort", "lastAtMost", "([III)I"⟩ : MethodName) prog_213_method_2_code 6 (some .int) ws ({ frames := 0, cells := 0, slots := 0, locals := 0 } : Room) #[.ref a, .int (3 : Int32), .int v] h0 (own_QR h0 (.int (own_e3 f1 f2 v))) := by
  refine Pact.intro (plainFor_of_name pnS) ?_
  intro p e s m below meth c T0 X0 hx hby hml hret hlk hown hnm hZ e0
  refine Go.at (efL m a (3 : Int32) v) ?_
  refine Go.on (g' := (mkF m 1 _ [(.int (0 : Int32))])) (fun t_ k_ => XS.iconst X0.here hx rfl (hb hby d2_0) k_) ?_
  refine Go.on (g' := (mkF m 2 #[.val (.ref a), .val (.int (3 : Int32)), .val (.int v), .val (.int (0 : Int32)), .unset, .unset] [])) (fun t_ k_ => XS.istoreN X0.here hx rfl (hb hby d2_1) rfl (l' := #[.val (.ref a), .val (.int (3 : Int32)), .val (.int v), .val (.int (0 : Int32)), .unset, .unset]) rfl k_) ?_
  refine Go.on (g' := (mkF m 3 _ [(.int (3 : Int32))])) (fun t_ k_ => XS.iloadN X0.here hx rfl (hb hby d2_2) rfl k_) ?_
  refine Go.on (g' := (mkF m 4 _ [(.int (1 : Int32)), (.int (3 : Int32))])) (fun t_ k_ => XS.iconst X0.here hx rfl (hb hby d2_3) k_) ?_
  refine Go.on (g' := (mkF m 5 _ [(.int ((3 : Int32) - (1 : Int32)))])) (fun t_ k_ => XS.isub X0.here hx rfl (hb hby d2_4) rfl k_) ?_
  rw [show ((3 : Int32) - (1 : Int32)) = (2 : Int32) from by decide]
  refine Go.on (g' := (mkF m 7 #[.val (.ref a), .val (.int (3 : Int32)), .val (.int v), .val (.int (0 : Int32)), .val (.int (2 : Int32)), .unset] [])) (fun t_ k_ => XS.istore X0.here hx rfl (hb hby d2_5) rfl (l' := #[.val (.ref a), .val (.int (3 : Int32)), .val (.int v), .val (.int (0 : Int32)), .val (.int (2 : Int32)), .unset]) rfl k_) ?_
  refine Go.on (g' := (mkF m 8 _ [(.int (0 : Int32))])) (fun t_ k_ => XS.iloadN X0.here hx rfl (hb hby d2_7) rfl k_) ?_
  refine Go.on (g' := (mkF m 10 _ [(.int (2 : Int32)), (.int (0 : Int32))])) (fun t_ k_ => XS.iload X0.here hx rfl (hb hby d2_8) rfl k_) ?_
  refine Go.icmp X0 hx hby d2_10 (pcT := 46) (pcF := 13) (by decide) (by decide) rfl (fun q => absurd q (by decide)) (fun q => ?_)
  clear q
  show Go p e below _ _ (mkF m 13 _ [])
  refine Go.on (g' := (mkF m 14 _ [(.int (0 : Int32))])) (fun t_ k_ => XS.iloadN X0.here hx rfl (hb hby d2_13) rfl k_) ?_
  refine Go.on (g' := (mkF m 16 _ [(.int (2 : Int32)), (.int (0 : Int32))])) (fun t_ k_ => XS.iload X0.here hx rfl (hb hby d2_14) rfl k_) ?_
  refine Go.on (g' := (mkF m 17 _ [(.int ((0 : Int32) + (2 : Int32)))])) (fun t_ k_ => XS.iadd X0.here hx rfl (hb hby d2_16) rfl k_) ?_
  rw [show ((0 : Int32) + (2 : Int32)) = (2 : Int32) from by decide]
  refine Go.on (g' := (mkF m 18 _ [(.int (1 : Int32)), (.int (2 : Int32))])) (fun t_ k_ => XS.iconst X0.here hx rfl (hb hby d2_17) k_) ?_
  refine Go.on (g' := (mkF m 19 _ [(.int ((2 : Int32) + (1 : Int32)))])) (fun t_ k_ => XS.iadd X0.here hx rfl (hb hby d2_18) rfl k_) ?_
  rw [show ((2 : Int32) + (1 : Int32)) = (3 : Int32) from by decide]
  refine Go.on (g' := (mkF m 20 _ [(.int (1 : Int32)), (.int (3 : Int32))])) (fun t_ k_ => XS.iconst X0.here hx rfl (hb hby d2_19) k_) ?_
  refine Go.on (g' := (mkF m 21 _ [(.int (XT.ushr (3 : Int32) (1 : Int32)))])) (fun t_ k_ => XT.iushr X0.here hx rfl (hb hby d2_20) rfl k_) ?_
  rw [show (XT.ushr (3 : Int32) (1 : Int32)) = (1 : Int32) from by decide]
  refine Go.on (g' := (mkF m 23 #[.val (.ref a), .val (.int (3 : Int32)), .val (.int v), .val (.int (0 : Int32)), .val (.int (2 : Int32)), .val (.int (1 : Int32))] [])) (fun t_ k_ => XS.istore X0.here hx rfl (hb hby d2_21) rfl (l' := #[.val (.ref a), .val (.int (3 : Int32)), .val (.int v), .val (.int (0 : Int32)), .val (.int (2 : Int32)), .val (.int (1 : Int32))]) rfl k_) ?_
  refine Go.on (g' := (mkF m 24 _ [(.ref a)])) (fun t_ k_ => XS.aloadN X0.here hx rfl (hb hby d2_23) rfl rfl k_) ?_
  refine Go.on (g' := (mkF m 26 _ [(.int (1 : Int32)), (.ref a)])) (fun t_ k_ => XS.iload X0.here hx rfl (hb hby d2_24) rfl k_) ?_
  refine Go.on (g' := (mkF m 27 _ [(.int f1)])) (X0.iaload hx (j := (1 : Int32)) (v := (.int f1)) (by rw [e0]; exact A0.1) (State.isArrayOf_alike hZ.alike A0.2.1) A0.2.2 (by rw [hsz]; decide) hk1 (g := (mkF m 26 #[.val (.ref a), .val (.int (3 : Int32)), .val (.int v), .val (.int (0 : Int32)), .val (.int (2 : Int32)), .val (.int (1 : Int32))] [(.int (1 : Int32)), (.ref a)])) rfl rfl (hb hby d2_26)) ?_
  refine Go.on (g' := (mkF m 28 _ [(.int v), (.int f1)])) (fun t_ k_ => XS.iloadN X0.here hx rfl (hb hby d2_27) rfl k_) ?_
  refine Go.icmp X0 hx hby d2_28 (pcT := 37) (pcF := 31) (by decide) (by decide) rfl (fun q => ?_) (fun q => ?_)
  · have q1 := iGt.1 q
    clear q
    show Go p e below _ _ (mkF m 37 _ [])
    refine Go.on (g' := (mkF m 39 _ [(.int (1 : Int32))])) (fun t_ k_ => XS.iload X0.here hx rfl (hb hby d2_37) rfl k_) ?_
    refine Go.on (g' := (mkF m 40 _ [(.int (1 : Int32)), (.int (1 : Int32))])) (fun t_ k_ => XS.iconst X0.here hx rfl (hb hby d2_39) k_) ?_
    refine Go.on (g' := (mkF m 41 _ [(.int ((1 : Int32) - (1 : Int32)))])) (fun t_ k_ => XS.isub X0.here hx rfl (hb hby d2_40) rfl k_) ?_
    rw [show ((1 : Int32) - (1 : Int32)) = (0 : Int32) from by decide]
    refine Go.on (g' := (mkF m 43 #[.val (.ref a), .val (.int (3 : Int32)), .val (.int v), .val (.int (0 : Int32)), .val (.int (0 : Int32)), .val (.int (1 : Int32))] [])) (fun t_ k_ => XS.istore X0.here hx rfl (hb hby d2_41) rfl (l' := #[.val (.ref a), .val (.int (3 : Int32)), .val (.int v), .val (.int (0 : Int32)), .val (.int (0 : Int32)), .val (.int (1 : Int32))]) rfl k_) ?_
    refine Go.on (g' := (mkF m 7 _ [])) (fun t_ k_ => XS.goto X0.here hx rfl (pc0 := 43) (pc' := 7) rfl (hb hby d2_43) (by decide) (by decide) k_) ?_
    refine Go.on (g' := (mkF m 8 _ [(.int (0 : Int32))])) (fun t_ k_ => XS.iloadN X0.here hx rfl (hb hby d2_7) rfl k_) ?_
    refine Go.on (g' := (mkF m 10 _ [(.int (0 : Int32)), (.int (0 : Int32))])) (fun t_ k_ => XS.iload X0.here hx rfl (hb hby d2_8) rfl k_) ?_
    refine Go.icmp X0 hx hby d2_10 (pcT := 46) (pcF := 13) (by decide) (by decide) rfl (fun q => ?_) (fun q => absurd q (by decide))
    clear q
    show Go p e below _ _ (mkF m 46 _ [])
    refine Go.on (g' := (mkF m 47 _ [(.int (0 : Int32))])) (fun t_ k_ => XS.iloadN X0.here hx rfl (hb hby d2_46) rfl k_) ?_
    exact Go.retI X0 hx hlk hret hby d2_47 rfl (by simp) (by decide) (by decide) ⟨congrArg (fun z => some (Value.int z)) (by simp only [Int32.lt_iff_toInt_lt] at q1 s2; unfold own_e3; simp only [Int32.lt_iff_toInt_lt]; (repeat' split) <;> first | rfl | (exfalso; omega)), rfl, e0⟩
  · have q1 := iGt.2 q
    clear q
    show Go p e below _ _ (mkF m 31 _ [])
    refine Go.on (g' := (mkF m 33 _ [(.int (1 : Int32))])) (fun t_ k_ => XS.iload X0.here hx rfl (hb hby d2_31) rfl k_) ?_
    refine Go.on (g' := (mkF m 34 #[.val (.ref a), .val (.int (3 : Int32)), .val (.int v), .val (.int (1 : Int32)), .val (.int (2 : Int32)), .val (.int (1 : Int32))] [])) (fun t_ k_ => XS.istoreN X0.here hx rfl (hb hby d2_33) rfl (l' := #[.val (.ref a), .val (.int (3 : Int32)), .val (.int v), .val (.int (1 : Int32)), .val (.int (2 : Int32)), .val (.int (1 : Int32))]) rfl k_) ?_
    refine Go.on (g' := (mkF m 43 _ [])) (fun t_ k_ => XS.goto X0.here hx rfl (pc0 := 34) (pc' := 43) rfl (hb hby d2_34) (by decide) (by decide) k_) ?_
    refine Go.on (g' := (mkF m 7 _ [])) (fun t_ k_ => XS.goto X0.here hx rfl (pc0 := 43) (pc' := 7) rfl (hb hby d2_43) (by decide) (by decide) k_) ?_
    refine Go.on (g' := (mkF m 8 _ [(.int (1 : Int32))])) (fun t_ k_ => XS.iloadN X0.here hx rfl (hb hby d2_7) rfl k_) ?_
    refine Go.on (g' := (mkF m 10 _ [(.int (2 : Int32)), (.int (1 : Int32))])) (fun t_ k_ => XS.iload X0.here hx rfl (hb hby d2_8) rfl k_) ?_
    refine Go.icmp X0 hx hby d2_10 (pcT := 46) (pcF := 13) (by decide) (by decide) rfl (fun q => absurd q (by decide)) (fun q => ?_)
    clear q
    show Go p e below _ _ (mkF m 13 _ [])
    refine Go.on (g' := (mkF m 14 _ [(.int (1 : Int32))])) (fun t_ k_ => XS.iloadN X0.here hx rfl (hb hby d2_13) rfl k_) ?_
    refine Go.on (g' := (mkF m 16 _ [(.int (2 : Int32)), (.int (1 : Int32))])) (fun t_ k_ => XS.iload X0.here hx rfl (hb hby d2_14) rfl k_) ?_
    refine Go.on (g' := (mkF m 17 _ [(.int ((1 : Int32) + (2 : Int32)))])) (fun t_ k_ => XS.iadd X0.here hx rfl (hb hby d2_16) rfl k_) ?_
    rw [show ((1 : Int32) + (2 : Int32)) = (3 : Int32) from by decide]
    refine Go.on (g' := (mkF m 18 _ [(.int (1 : Int32)), (.int (3 : Int32))])) (fun t_ k_ => XS.iconst X0.here hx rfl (hb hby d2_17) k_) ?_
    refine Go.on (g' := (mkF m 19 _ [(.int ((3 : Int32) + (1 : Int32)))])) (fun t_ k_ => XS.iadd X0.here hx rfl (hb hby d2_18) rfl k_) ?_
    rw [show ((3 : Int32) + (1 : Int32)) = (4 : Int32) from by decide]
    refine Go.on (g' := (mkF m 20 _ [(.int (1 : Int32)), (.int (4 : Int32))])) (fun t_ k_ => XS.iconst X0.here hx rfl (hb hby d2_19) k_) ?_
    refine Go.on (g' := (mkF m 21 _ [(.int (XT.ushr (4 : Int32) (1 : Int32)))])) (fun t_ k_ => XT.iushr X0.here hx rfl (hb hby d2_20) rfl k_) ?_
    rw [show (XT.ushr (4 : Int32) (1 : Int32)) = (2 : Int32) from by decide]
    refine Go.on (g' := (mkF m 23 #[.val (.ref a), .val (.int (3 : Int32)), .val (.int v), .val (.int (1 : Int32)), .val (.int (2 : Int32)), .val (.int (2 : Int32))] [])) (fun t_ k_ => XS.istore X0.here hx rfl (hb hby d2_21) rfl (l' := #[.val (.ref a), .val (.int (3 : Int32)), .val (.int v), .val (.int (1 : Int32)), .val (.int (2 : Int32)), .val (.int (2 : Int32))]) rfl k_) ?_
    refine Go.on (g' := (mkF m 24 _ [(.ref a)])) (fun t_ k_ => XS.aloadN X0.here hx rfl (hb hby d2_23) rfl rfl k_) ?_
    refine Go.on (g' := (mkF m 26 _ [(.int (2 : Int32)), (.ref a)])) (fun t_ k_ => XS.iload X0.here hx rfl (hb hby d2_24) rfl k_) ?_
    refine Go.on (g' := (mkF m 27 _ [(.int f2)])) (X0.iaload hx (j := (2 : Int32)) (v := (.int f2)) (by rw [e0]; exact A0.1) (State.isArrayOf_alike hZ.alike A0.2.1) A0.2.2 (by rw [hsz]; decide) hk2 (g := (mkF m 26 #[.val (.ref a), .val (.int (3 : Int32)), .val (.int v), .val (.int (1 : Int32)), .val (.int (2 : Int32)), .val (.int (2 : Int32))] [(.int (2 : Int32)), (.ref a)])) rfl rfl (hb hby d2_26)) ?_
    refine Go.on (g' := (mkF m 28 _ [(.int v), (.int f2)])) (fun t_ k_ => XS.iloadN X0.here hx rfl (hb hby d2_27) rfl k_) ?_
    refine Go.icmp X0 hx hby d2_28 (pcT := 37) (pcF := 31) (by decide) (by decide) rfl (fun q => ?_) (fun q => ?_)
    · have q2 := iGt.1 q
      clear q
      show Go p e below _ _ (mkF m 37 _ [])
      refine Go.on (g' := (mkF m 39 _ [(.int (2 : Int32))])) (fun t_ k_ => XS.iload X0.here hx rfl (hb hby d2_37) rfl k_) ?_
      refine Go.on (g' := (mkF m 40 _ [(.int (1 : Int32)), (.int (2 : Int32))])) (fun t_ k_ => XS.iconst X0.here hx rfl (hb hby d2_39) k_) ?_
      refine Go.on (g' := (mkF m 41 _ [(.int ((2 : Int32) - (1 : Int32)))])) (fun t_ k_ => XS.isub X0.here hx rfl (hb hby d2_40) rfl k_) ?_
      rw [show ((2 : Int32) - (1 : Int32)) = (1 : Int32) from by decide]
      refine Go.on (g' := (mkF m 43 #[.val (.ref a), .val (.int (3 : Int32)), .val (.int v), .val (.int (1 : Int32)), .val (.int (1 : Int32)), .val (.int (2 : Int32))] [])) (fun t_ k_ => XS.istore X0.here hx rfl (hb hby d2_41) rfl (l' := #[.val (.ref a), .val (.int (3 : Int32)), .val (.int v), .val (.int (1 : Int32)), .val (.int (1 : Int32)), .val (.int (2 : Int32))]) rfl k_) ?_
      refine Go.on (g' := (mkF m 7 _ [])) (fun t_ k_ => XS.goto X0.here hx rfl (pc0 := 43) (pc' := 7) rfl (hb hby d2_43) (by decide) (by decide) k_) ?_
      refine Go.on (g' := (mkF m 8 _ [(.int (1 : Int32))])) (fun t_ k_ => XS.iloadN X0.here hx rfl (hb hby d2_7) rfl k_) ?_
      refine Go.on (g' := (mkF m 10 _ [(.int (1 : Int32)), (.int (1 : Int32))])) (fun t_ k_ => XS.iload X0.here hx rfl (hb hby d2_8) rfl k_) ?_
      refine Go.icmp X0 hx hby d2_10 (pcT := 46) (pcF := 13) (by decide) (by decide) rfl (fun q => ?_) (fun q => absurd q (by decide))
      clear q
      show Go p e below _ _ (mkF m 46 _ [])
      refine Go.on (g' := (mkF m 47 _ [(.int (1 : Int32))])) (fun t_ k_ => XS.iloadN X0.here hx rfl (hb hby d2_46) rfl k_) ?_
      exact Go.retI X0 hx hlk hret hby d2_47 rfl (by simp) (by decide) (by decide) ⟨congrArg (fun z => some (Value.int z)) (by simp only [Int32.lt_iff_toInt_lt] at q1 q2 s2; unfold own_e3; simp only [Int32.lt_iff_toInt_lt]; (repeat' split) <;> first | rfl | (exfalso; omega)), rfl, e0⟩
    · have q2 := iGt.2 q
      clear q
      show Go p e below _ _ (mkF m 31 _ [])
      refine Go.on (g' := (mkF m 33 _ [(.int (2 : Int32))])) (fun t_ k_ => XS.iload X0.here hx rfl (hb hby d2_31) rfl k_) ?_
      refine Go.on (g' := (mkF m 34 #[.val (.ref a), .val (.int (3 : Int32)), .val (.int v), .val (.int (2 : Int32)), .val (.int (2 : Int32)), .val (.int (2 : Int32))] [])) (fun t_ k_ => XS.istoreN X0.here hx rfl (hb hby d2_33) rfl (l' := #[.val (.ref a), .val (.int (3 : Int32)), .val (.int v), .val (.int (2 : Int32)), .val (.int (2 : Int32)), .val (.int (2 : Int32))]) rfl k_) ?_
      refine Go.on (g' := (mkF m 43 _ [])) (fun t_ k_ => XS.goto X0.here hx rfl (pc0 := 34) (pc' := 43) rfl (hb hby d2_34) (by decide) (by decide) k_) ?_
      refine Go.on (g' := (mkF m 7 _ [])) (fun t_ k_ => XS.goto X0.here hx rfl (pc0 := 43) (pc' := 7) rfl (hb hby d2_43) (by decide) (by decide) k_) ?_
      refine Go.on (g' := (mkF m 8 _ [(.int (2 : Int32))])) (fun t_ k_ => XS.iloadN X0.here hx rfl (hb hby d2_7) rfl k_) ?_
      refine Go.on (g' := (mkF m 10 _ [(.int (2 : Int32)), (.int (2 : Int32))])) (fun t_ k_ => XS.iload X0.here hx rfl (hb hby d2_8) rfl k_) ?_
      refine Go.icmp X0 hx hby d2_10 (pcT := 46) (pcF := 13) (by decide) (by decide) rfl (fun q => ?_) (fun q => absurd q (by decide))
      clear q
      show Go p e below _ _ (mkF m 46 _ [])
      refine Go.on (g' := (mkF m 47 _ [(.int (2 : Int32))])) (fun t_ k_ => XS.iloadN X0.here hx rfl (hb hby d2_46) rfl k_) ?_
      exact Go.retI X0 hx hlk hret hby d2_47 rfl (by simp) (by decide) (by decide) ⟨congrArg (fun z => some (Value.int z)) (by simp only [Int32.lt_iff_toInt_lt] at q1 q2 s2; unfold own_e3; simp only [Int32.lt_iff_toInt_lt]; (repeat' split) <;> first | rfl | (exfalso; omega)), rfl, e0⟩
set_option maxRecDepth 65536 in
set_option maxHeartbeats 40000000 in
theorem rmL4 (l : Launch) (Z : State) (w0 : Array Value) (hw : ∀ d ∈ tables_1, d.before w0 Z = true) (ws : List Jvm.Cond) (a : Addr) (v : Int32) (h0 : Heap) (cl : Cell) (A0 : Arr Z h0 a cl .int) (hsz : cl.slots.size = 7) (f1 : Int32) (hk1 : cl.slots[(1 : Int32).toNatClampNeg]? = some (.int f1)) (f2 : Int32) (hk2 : cl.slots[(2 : Int32).toNatClampNeg]? = some (.int f2)) (f3 : Int32) (hk3 : cl.slots[(3 : Int32).toNatClampNeg]? = some (.int f3)) (s2 : ¬ f2 < f1) (s3 : ¬ f3 < f2) : Pact l Z (⟨"com/example/loomtrace/loomtrace/model/IntSort", "lastAtMost", "([III)I"⟩ : MethodName) prog_213_method_2_code 6 (some .int) ws ({ frames := 0, cells := 0, slots := 0, locals := 0 } : Room) #[.ref a, .int (4 : Int32), .int v] h0 (own_QR h0 (.int (own_e4 f1 f2 f3 v))) := by
  refine Pact.intro (plainFor_of_name pnS) ?_
  intro p e s m below meth c T0 X0 hx hby hml hret hlk hown hnm hZ e0
  refine Go.at (efL m a (4 : Int32) v) ?_
  refine Go.on (g' := (mkF m 1 _ [(.int (0 : Int32))])) (fun t_ k_ => XS.iconst X0.here hx rfl (hb hby d2_0) k_) ?_
  refine Go.on (g' := (mkF m 2 #[.val (.ref a), .val (.int (4 : Int32)), .val (.int v), .val (.int (0 : Int32)), .unset, .unset] [])) (fun t_ k_ => XS.istoreN X0.here hx rfl (hb hby d2_1) rfl (l' := #[.val (.ref a), .val (.int (4 : Int32)), .val (.int v), .val (.int (0 : Int32)), .unset, .unset]) rfl k_) ?_
  refine Go.on (g' := (mkF m 3 _ [(.int (4 : Int32))])) (fun t_ k_ => XS.iloadN X0.here hx rfl (hb hby d2_2) rfl k_) ?_
  refine Go.on (g' := (mkF m 4 _ [(.int (1 : Int32)), (.int (4 : Int32))])) (fun t_ k_ => XS.iconst X0.here hx rfl (hb hby d2_3) k_) ?_
  refine Go.on (g' := (mkF m 5 _ [(.int ((4 : Int32) - (1 : Int32)))])) (fun t_ k_ => XS.isub X0.here hx rfl (hb hby d2_4) rfl k_) ?_
  rw [show ((4 : Int32) - (1 : Int32)) = (3 : Int32) from by decide]
  refine Go.on (g' := (mkF m 7 #[.val (.ref a), .val (.int (4 : Int32)), .val (.int v), .val (.int (0 : Int32)), .val (.int (3 : Int32)), .unset] [])) (fun t_ k_ => XS.istore X0.here hx rfl (hb hby d2_5) rfl (l' := #[.val (.ref a), .val (.int (4 : Int32)), .val (.int v), .val (.int (0 : Int32)), .val (.int (3 : Int32)), .unset]) rfl k_) ?_
  refine Go.on (g' := (mkF m 8 _ [(.int (0 : Int32))])) (fun t_ k_ => XS.iloadN X0.here hx rfl (hb hby d2_7) rfl k_) ?_
  refine Go.on (g' := (mkF m 10 _ [(.int (3 : Int32)), (.int (0 : Int32))])) (fun t_ k_ => XS.iload X0.here hx rfl (hb hby d2_8) rfl k_) ?_
  refine Go.icmp X0 hx hby d2_10 (pcT := 46) (pcF := 13) (by decide) (by decide) rfl (fun q => absurd q (by decide)) (fun q => ?_)
  clear q
  show Go p e below _ _ (mkF m 13 _ [])
  refine Go.on (g' := (mkF m 14 _ [(.int (0 : Int32))])) (fun t_ k_ => XS.iloadN X0.here hx rfl (hb hby d2_13) rfl k_) ?_
  refine Go.on (g' := (mkF m 16 _ [(.int (3 : Int32)), (.int (0 : Int32))])) (fun t_ k_ => XS.iload X0.here hx rfl (hb hby d2_14) rfl k_) ?_
  refine Go.on (g' := (mkF m 17 _ [(.int ((0 : Int32) + (3 : Int32)))])) (fun t_ k_ => XS.iadd X0.here hx rfl (hb hby d2_16) rfl k_) ?_
  rw [show ((0 : Int32) + (3 : Int32)) = (3 : Int32) from by decide]
  refine Go.on (g' := (mkF m 18 _ [(.int (1 : Int32)), (.int (3 : Int32))])) (fun t_ k_ => XS.iconst X0.here hx rfl (hb hby d2_17) k_) ?_
  refine Go.on (g' := (mkF m 19 _ [(.int ((3 : Int32) + (1 : Int32)))])) (fun t_ k_ => XS.iadd X0.here hx rfl (hb hby d2_18) rfl k_) ?_
  rw [show ((3 : Int32) + (1 : Int32)) = (4 : Int32) from by decide]
  refine Go.on (g' := (mkF m 20 _ [(.int (1 : Int32)), (.int (4 : Int32))])) (fun t_ k_ => XS.iconst X0.here hx rfl (hb hby d2_19) k_) ?_
  refine Go.on (g' := (mkF m 21 _ [(.int (XT.ushr (4 : Int32) (1 : Int32)))])) (fun t_ k_ => XT.iushr X0.here hx rfl (hb hby d2_20) rfl k_) ?_
  rw [show (XT.ushr (4 : Int32) (1 : Int32)) = (2 : Int32) from by decide]
  refine Go.on (g' := (mkF m 23 #[.val (.ref a), .val (.int (4 : Int32)), .val (.int v), .val (.int (0 : Int32)), .val (.int (3 : Int32)), .val (.int (2 : Int32))] [])) (fun t_ k_ => XS.istore X0.here hx rfl (hb hby d2_21) rfl (l' := #[.val (.ref a), .val (.int (4 : Int32)), .val (.int v), .val (.int (0 : Int32)), .val (.int (3 : Int32)), .val (.int (2 : Int32))]) rfl k_) ?_
  refine Go.on (g' := (mkF m 24 _ [(.ref a)])) (fun t_ k_ => XS.aloadN X0.here hx rfl (hb hby d2_23) rfl rfl k_) ?_
  refine Go.on (g' := (mkF m 26 _ [(.int (2 : Int32)), (.ref a)])) (fun t_ k_ => XS.iload X0.here hx rfl (hb hby d2_24) rfl k_) ?_
  refine Go.on (g' := (mkF m 27 _ [(.int f2)])) (X0.iaload hx (j := (2 : Int32)) (v := (.int f2)) (by rw [e0]; exact A0.1) (State.isArrayOf_alike hZ.alike A0.2.1) A0.2.2 (by rw [hsz]; decide) hk2 (g := (mkF m 26 #[.val (.ref a), .val (.int (4 : Int32)), .val (.int v), .val (.int (0 : Int32)), .val (.int (3 : Int32)), .val (.int (2 : Int32))] [(.int (2 : Int32)), (.ref a)])) rfl rfl (hb hby d2_26)) ?_
  refine Go.on (g' := (mkF m 28 _ [(.int v), (.int f2)])) (fun t_ k_ => XS.iloadN X0.here hx rfl (hb hby d2_27) rfl k_) ?_
  refine Go.icmp X0 hx hby d2_28 (pcT := 37) (pcF := 31) (by decide) (by decide) rfl (fun q => ?_) (fun q => ?_)
  · have q1 := iGt.1 q
    clear q
    show Go p e below _ _ (mkF m 37 _ [])
    refine Go.on (g' := (mkF m 39 _ [(.int (2 : Int32))])) (fun t_ k_ => XS.iload X0.here hx rfl (hb hby d2_37) rfl k_) ?_
    refine Go.on (g' := (mkF m 40 _ [(.int (1 : Int32)), (.int (2 : Int32))])) (fun t_ k_ => XS.iconst X0.here hx rfl (hb hby d2_39) k_) ?_
    refine Go.on (g' := (mkF m 41 _ [(.int ((2 : Int32) - (1 : Int32)))])) (fun t_ k_ => XS.isub X0.here hx rfl (hb hby d2_40) rfl k_) ?_
    rw [show ((2 : Int32) - (1 : Int32)) = (1 : Int32) from by decide]
    refine Go.on (g' := (mkF m 43 #[.val (.ref a), .val (.int (4 : Int32)), .val (.int v), .val (.int (0 : Int32)), .val (.int (1 : Int32)), .val (.int (2 : Int32))] [])) (fun t_ k_ => XS.istore X0.here hx rfl (hb hby d2_41) rfl (l' := #[.val (.ref a), .val (.int (4 : Int32)), .val (.int v), .val (.int (0 : Int32)), .val (.int (1 : Int32)), .val (.int (2 : Int32))]) rfl k_) ?_
    refine Go.on (g' := (mkF m 7 _ [])) (fun t_ k_ => XS.goto X0.here hx rfl (pc0 := 43) (pc' := 7) rfl (hb hby d2_43) (by decide) (by decide) k_) ?_
    refine Go.on (g' := (mkF m 8 _ [(.int (0 : Int32))])) (fun t_ k_ => XS.iloadN X0.here hx rfl (hb hby d2_7) rfl k_) ?_
    refine Go.on (g' := (mkF m 10 _ [(.int (1 : Int32)), (.int (0 : Int32))])) (fun t_ k_ => XS.iload X0.here hx rfl (hb hby d2_8) rfl k_) ?_
    refine Go.icmp X0 hx hby d2_10 (pcT := 46) (pcF := 13) (by decide) (by decide) rfl (fun q => absurd q (by decide)) (fun q => ?_)
    clear q
    show Go p e below _ _ (mkF m 13 _ [])
    refine Go.on (g' := (mkF m 14 _ [(.int (0 : Int32))])) (fun t_ k_ => XS.iloadN X0.here hx rfl (hb hby d2_13) rfl k_) ?_
    refine Go.on (g' := (mkF m 16 _ [(.int (1 : Int32)), (.int (0 : Int32))])) (fun t_ k_ => XS.iload X0.here hx rfl (hb hby d2_14) rfl k_) ?_
    refine Go.on (g' := (mkF m 17 _ [(.int ((0 : Int32) + (1 : Int32)))])) (fun t_ k_ => XS.iadd X0.here hx rfl (hb hby d2_16) rfl k_) ?_
    rw [show ((0 : Int32) + (1 : Int32)) = (1 : Int32) from by decide]
    refine Go.on (g' := (mkF m 18 _ [(.int (1 : Int32)), (.int (1 : Int32))])) (fun t_ k_ => XS.iconst X0.here hx rfl (hb hby d2_17) k_) ?_
    refine Go.on (g' := (mkF m 19 _ [(.int ((1 : Int32) + (1 : Int32)))])) (fun t_ k_ => XS.iadd X0.here hx rfl (hb hby d2_18) rfl k_) ?_
    rw [show ((1 : Int32) + (1 : Int32)) = (2 : Int32) from by decide]
    refine Go.on (g' := (mkF m 20 _ [(.int (1 : Int32)), (.int (2 : Int32))])) (fun t_ k_ => XS.iconst X0.here hx rfl (hb hby d2_19) k_) ?_
    refine Go.on (g' := (mkF m 21 _ [(.int (XT.ushr (2 : Int32) (1 : Int32)))])) (fun t_ k_ => XT.iushr X0.here hx rfl (hb hby d2_20) rfl k_) ?_
    rw [show (XT.ushr (2 : Int32) (1 : Int32)) = (1 : Int32) from by decide]
    refine Go.on (g' := (mkF m 23 #[.val (.ref a), .val (.int (4 : Int32)), .val (.int v), .val (.int (0 : Int32)), .val (.int (1 : Int32)), .val (.int (1 : Int32))] [])) (fun t_ k_ => XS.istore X0.here hx rfl (hb hby d2_21) rfl (l' := #[.val (.ref a), .val (.int (4 : Int32)), .val (.int v), .val (.int (0 : Int32)), .val (.int (1 : Int32)), .val (.int (1 : Int32))]) rfl k_) ?_
    refine Go.on (g' := (mkF m 24 _ [(.ref a)])) (fun t_ k_ => XS.aloadN X0.here hx rfl (hb hby d2_23) rfl rfl k_) ?_
    refine Go.on (g' := (mkF m 26 _ [(.int (1 : Int32)), (.ref a)])) (fun t_ k_ => XS.iload X0.here hx rfl (hb hby d2_24) rfl k_) ?_
    refine Go.on (g' := (mkF m 27 _ [(.int f1)])) (X0.iaload hx (j := (1 : Int32)) (v := (.int f1)) (by rw [e0]; exact A0.1) (State.isArrayOf_alike hZ.alike A0.2.1) A0.2.2 (by rw [hsz]; decide) hk1 (g := (mkF m 26 #[.val (.ref a), .val (.int (4 : Int32)), .val (.int v), .val (.int (0 : Int32)), .val (.int (1 : Int32)), .val (.int (1 : Int32))] [(.int (1 : Int32)), (.ref a)])) rfl rfl (hb hby d2_26)) ?_
    refine Go.on (g' := (mkF m 28 _ [(.int v), (.int f1)])) (fun t_ k_ => XS.iloadN X0.here hx rfl (hb hby d2_27) rfl k_) ?_
    refine Go.icmp X0 hx hby d2_28 (pcT := 37) (pcF := 31) (by decide) (by decide) rfl (fun q => ?_) (fun q => ?_)
    · have q2 := iGt.1 q
      clear q
      show Go p e below _ _ (mkF m 37 _ [])
      refine Go.on (g' := (mkF m 39 _ [(.int (1 : Int32))])) (fun t_ k_ => XS.iload X0.here hx rfl (hb hby d2_37) rfl k_) ?_
      refine Go.on (g' := (mkF m 40 _ [(.int (1 : Int32)), (.int (1 : Int32))])) (fun t_ k_ => XS.iconst X0.here hx rfl (hb hby d2_39) k_) ?_
      refine Go.on (g' := (mkF m 41 _ [(.int ((1 : Int32) - (1 : Int32)))])) (fun t_ k_ => XS.isub X0.here hx rfl (hb hby d2_40) rfl k_) ?_
      rw [show ((1 : Int32) - (1 : Int32)) = (0 : Int32) from by decide]
      refine Go.on (g' := (mkF m 43 #[.val (.ref a), .val (.int (4 : Int32)), .val (.int v), .val (.int (0 : Int32)), .val (.int (0 : Int32)), .val (.int (1 : Int32))] [])) (fun t_ k_ => XS.istore X0.here hx rfl (hb hby d2_41) rfl (l' := #[.val (.ref a), .val (.int (4 : Int32)), .val (.int v), .val (.int (0 : Int32)), .val (.int (0 : Int32)), .val (.int (1 : Int32))]) rfl k_) ?_
      refine Go.on (g' := (mkF m 7 _ [])) (fun t_ k_ => XS.goto X0.here hx rfl (pc0 := 43) (pc' := 7) rfl (hb hby d2_43) (by decide) (by decide) k_) ?_
      refine Go.on (g' := (mkF m 8 _ [(.int (0 : Int32))])) (fun t_ k_ => XS.iloadN X0.here hx rfl (hb hby d2_7) rfl k_) ?_
      refine Go.on (g' := (mkF m 10 _ [(.int (0 : Int32)), (.int (0 : Int32))])) (fun t_ k_ => XS.iload X0.here hx rfl (hb hby d2_8) rfl k_) ?_
      refine Go.icmp X0 hx hby d2_10 (pcT := 46) (pcF := 13) (by decide) (by decide) rfl (fun q => ?_) (fun q => absurd q (by decide))
      clear q
      show Go p e below _ _ (mkF m 46 _ [])
      refine Go.on (g' := (mkF m 47 _ [(.int (0 : Int32))])) (fun t_ k_ => XS.iloadN X0.here hx rfl (hb hby d2_46) rfl k_) ?_
      exact Go.retI X0 hx hlk hret hby d2_47 rfl (by simp) (by decide) (by decide) ⟨congrArg (fun z => some (Value.int z)) (by simp only [Int32.lt_iff_toInt_lt] at q1 q2 s2 s3; unfold own_e4; simp only [Int32.lt_iff_toInt_lt]; (repeat' split) <;> first | rfl | (exfalso; omega)), rfl, e0⟩
    · have q2 := iGt.2 q
      clear q
      show Go p e below _ _ (mkF m 31 _ [])
      refine Go.on (g' := (mkF m 33 _ [(.int (1 : Int32))])) (fun t_ k_ => XS.iload X0.here hx rfl (hb hby d2_31) rfl k_) ?_
      refine Go.on (g' := (mkF m 34 #[.val (.ref a), .val (.int (4 : Int32)), .val (.int v), .val (.int (1 : Int32)), .val (.int (1 : Int32)), .val (.int (1 : Int32))] [])) (fun t_ k_ => XS.istoreN X0.here hx rfl (hb hby d2_33) rfl (l' := #[.val (.ref a), .val (.int (4 : Int32)), .val (.int v), .val (.int (1 : Int32)), .val (.int (1 : Int32)), .val (.int (1 : Int32))]) rfl k_) ?_
      refine Go.on (g' := (mkF m 43 _ [])) (fun t_ k_ => XS.goto X0.here hx rfl (pc0 := 34) (pc' := 43) rfl (hb hby d2_34) (by decide) (by decide) k_) ?_
      refine Go.on (g' := (mkF m 7 _ [])) (fun t_ k_ => XS.goto X0.here hx rfl (pc0 := 43) (pc' := 7) rfl (hb hby d2_43) (by decide) (by decide) k_) ?_
      refine Go.on (g' := (mkF m 8 _ [(.int (1 : Int32))])) (fun t_ k_ => XS.iloadN X0.here hx rfl (hb hby d2_7) rfl k_) ?_
      refine Go.on (g' := (mkF m 10 _ [(.int (1 : Int32)), (.int (1 : Int32))])) (fun t_ k_ => XS.iload X0.here hx rfl (hb hby d2_8) rfl k_) ?_
      refine Go.icmp X0 hx hby d2_10 (pcT := 46) (pcF := 13) (by decide) (by decide) rfl (fun q => ?_) (fun q => absurd q (by decide))
      clear q
      show Go p e below _ _ (mkF m 46 _ [])
      refine Go.on (g' := (mkF m 47 _ [(.int (1 : Int32))])) (fun t_ k_ => XS.iloadN X0.here hx rfl (hb hby d2_46) rfl k_) ?_
      exact Go.retI X0 hx hlk hret hby d2_47 rfl (by simp) (by decide) (by decide) ⟨congrArg (fun z => some (Value.int z)) (by simp only [Int32.lt_iff_toInt_lt] at q1 q2 s2 s3; unfold own_e4; simp only [Int32.lt_iff_toInt_lt]; (repeat' split) <;> first | rfl | (exfalso; omega)), rfl, e0⟩
  · have q1 := iGt.2 q
    clear q
    show Go p e below _ _ (mkF m 31 _ [])
    refine Go.on (g' := (mkF m 33 _ [(.int (2 : Int32))])) (fun t_ k_ => XS.iload X0.here hx rfl (hb hby d2_31) rfl k_) ?_
    refine Go.on (g' := (mkF m 34 #[.val (.ref a), .val (.int (4 : Int32)), .val (.int v), .val (.int (2 : Int32)), .val (.int (3 : Int32)), .val (.int (2 : Int32))] [])) (fun t_ k_ => XS.istoreN X0.here hx rfl (hb hby d2_33) rfl (l' := #[.val (.ref a), .val (.int (4 : Int32)), .val (.int v), .val (.int (2 : Int32)), .val (.int (3 : Int32)), .val (.int (2 : Int32))]) rfl k_) ?_
    refine Go.on (g' := (mkF m 43 _ [])) (fun t_ k_ => XS.goto X0.here hx rfl (pc0 := 34) (pc' := 43) rfl (hb hby d2_34) (by decide) (by decide) k_) ?_
    refine Go.on (g' := (mkF m 7 _ [])) (fun t_ k_ => XS.goto X0.here hx rfl (pc0 := 43) (pc' := 7) rfl (hb hby d2_43) (by decide) (by decide) k_) ?_
    refine Go.on (g' := (mkF m 8 _ [(.int (2 : Int32))])) (fun t_ k_ => XS.iloadN X0.here hx rfl (hb hby d2_7) rfl k_) ?_
    refine Go.on (g' := (mkF m 10 _ [(.int (3 : Int32)), (.int (2 : Int32))])) (fun t_ k_ => XS.iload X0.here hx rfl (hb hby d2_8) rfl k_) ?_
    refine Go.icmp X0 hx hby d2_10 (pcT := 46) (pcF := 13) (by decide) (by decide) rfl (fun q => absurd q (by decide)) (fun q => ?_)
    clear q
    show Go p e below _ _ (mkF m 13 _ [])
    refine Go.on (g' := (mkF m 14 _ [(.int (2 : Int32))])) (fun t_ k_ => XS.iloadN X0.here hx rfl (hb hby d2_13) rfl k_) ?_
    refine Go.on (g' := (mkF m 16 _ [(.int (3 : Int32)), (.int (2 : Int32))])) (fun t_ k_ => XS.iload X0.here hx rfl (hb hby d2_14) rfl k_) ?_
    refine Go.on (g' := (mkF m 17 _ [(.int ((2 : Int32) + (3 : Int32)))])) (fun t_ k_ => XS.iadd X0.here hx rfl (hb hby d2_16) rfl k_) ?_
    rw [show ((2 : Int32) + (3 : Int32)) = (5 : Int32) from by decide]
    refine Go.on (g' := (mkF m 18 _ [(.int (1 : Int32)), (.int (5 : Int32))])) (fun t_ k_ => XS.iconst X0.here hx rfl (hb hby d2_17) k_) ?_
    refine Go.on (g' := (mkF m 19 _ [(.int ((5 : Int32) + (1 : Int32)))])) (fun t_ k_ => XS.iadd X0.here hx rfl (hb hby d2_18) rfl k_) ?_
    rw [show ((5 : Int32) + (1 : Int32)) = (6 : Int32) from by decide]
    refine Go.on (g' := (mkF m 20 _ [(.int (1 : Int32)), (.int (6 : Int32))])) (fun t_ k_ => XS.iconst X0.here hx rfl (hb hby d2_19) k_) ?_
    refine Go.on (g' := (mkF m 21 _ [(.int (XT.ushr (6 : Int32) (1 : Int32)))])) (fun t_ k_ => XT.iushr X0.here hx rfl (hb hby d2_20) rfl k_) ?_
    rw [show (XT.ushr (6 : Int32) (1 : Int32)) = (3 : Int32) from by decide]
    refine Go.on (g' := (mkF m 23 #[.val (.ref a), .val (.int (4 : Int32)), .val (.int v), .val (.int (2 : Int32)), .val (.int (3 : Int32)), .val (.int (3 : Int32))] [])) (fun t_ k_ => XS.istore X0.here hx rfl (hb hby d2_21) rfl (l' := #[.val (.ref a), .val (.int (4 : Int32)), .val (.int v), .val (.int (2 : Int32)), .val (.int (3 : Int32)), .val (.int (3 : Int32))]) rfl k_) ?_
    refine Go.on (g' := (mkF m 24 _ [(.ref a)])) (fun t_ k_ => XS.aloadN X0.here hx rfl (hb hby d2_23) rfl rfl k_) ?_
    refine Go.on (g' := (mkF m 26 _ [(.int (3 : Int32)), (.ref a)])) (fun t_ k_ => XS.iload X0.here hx rfl (hb hby d2_24) rfl k_) ?_
    refine Go.on (g' := (mkF m 27 _ [(.int f3)])) (X0.iaload hx (j := (3 : Int32)) (v := (.int f3)) (by rw [e0]; exact A0.1) (State.isArrayOf_alike hZ.alike A0.2.1) A0.2.2 (by rw [hsz]; decide) hk3 (g := (mkF m 26 #[.val (.ref a), .val (.int (4 : Int32)), .val (.int v), .val (.int (2 : Int32)), .val (.int (3 : Int32)), .val (.int (3 : Int32))] [(.int (3 : Int32)), (.ref a)])) rfl rfl (hb hby d2_26)) ?_
    refine Go.on (g' := (mkF m 28 _ [(.int v), (.int f3)])) (fun t_ k_ => XS.iloadN X0.here hx rfl (hb hby d2_27) rfl k_) ?_
    refine Go.icmp X0 hx hby d2_28 (pcT := 37) (pcF := 31) (by decide) (by decide) rfl (fun q => ?_) (fun q => ?_)
    · have q3 := iGt.1 q
      clear q
      show Go p e below _ _ (mkF m 37 _ [])
      refine Go.on (g' := (mkF m 39 _ [(.int (3 : Int32))])) (fun t_ k_ => XS.iload X0.here hx rfl (hb hby d2_37) rfl k_) ?_
      refine Go.on (g' := (mkF m 40 _ [(.int (1 : Int32)), (.int (3 : Int32))])) (fun t_ k_ => XS.iconst X0.here hx rfl (hb hby d2_39) k_) ?_
      refine Go.on (g' := (mkF m 41 _ [(.int ((3 : Int32) - (1 : Int32)))])) (fun t_ k_ => XS.isub X0.here hx rfl (hb hby d2_40) rfl k_) ?_
      rw [show ((3 : Int32) - (1 : Int32)) = (2 : Int32) from by decide]
      refine Go.on (g' := (mkF m 43 #[.val (.ref a), .val (.int (4 : Int32)), .val (.int v), .val (.int (2 : Int32)), .val (.int (2 : Int32)), .val (.int (3 : Int32))] [])) (fun t_ k_ => XS.istore X0.here hx rfl (hb hby d2_41) rfl (l' := #[.val (.ref a), .val (.int (4 : Int32)), .val (.int v), .val (.int (2 : Int32)), .val (.int (2 : Int32)), .val (.int (3 : Int32))]) rfl k_) ?_
      refine Go.on (g' := (mkF m 7 _ [])) (fun t_ k_ => XS.goto X0.here hx rfl (pc0 := 43) (pc' := 7) rfl (hb hby d2_43) (by decide) (by decide) k_) ?_
      refine Go.on (g' := (mkF m 8 _ [(.int (2 : Int32))])) (fun t_ k_ => XS.iloadN X0.here hx rfl (hb hby d2_7) rfl k_) ?_
      refine Go.on (g' := (mkF m 10 _ [(.int (2 : Int32)), (.int (2 : Int32))])) (fun t_ k_ => XS.iload X0.here hx rfl (hb hby d2_8) rfl k_) ?_
      refine Go.icmp X0 hx hby d2_10 (pcT := 46) (pcF := 13) (by decide) (by decide) rfl (fun q => ?_) (fun q => absurd q (by decide))
      clear q
      show Go p e below _ _ (mkF m 46 _ [])
      refine Go.on (g' := (mkF m 47 _ [(.int (2 : Int32))])) (fun t_ k_ => XS.iloadN X0.here hx rfl (hb hby d2_46) rfl k_) ?_
      exact Go.retI X0 hx hlk hret hby d2_47 rfl (by simp) (by decide) (by decide) ⟨congrArg (fun z => some (Value.int z)) (by simp only [Int32.lt_iff_toInt_lt] at q1 q3 s2 s3; unfold own_e4; simp only [Int32.lt_iff_toInt_lt]; (repeat' split) <;> first | rfl | (exfalso; omega)), rfl, e0⟩
    · have q3 := iGt.2 q
      clear q
      show Go p e below _ _ (mkF m 31 _ [])
      refine Go.on (g' := (mkF m 33 _ [(.int (3 : Int32))])) (fun t_ k_ => XS.iload X0.here hx rfl (hb hby d2_31) rfl k_) ?_
      refine Go.on (g' := (mkF m 34 #[.val (.ref a), .val (.int (4 : Int32)), .val (.int v), .val (.int (3 : Int32)), .val (.int (3 : Int32)), .val (.int (3 : Int32))] [])) (fun t_ k_ => XS.istoreN X0.here hx rfl (hb hby d2_33) rfl (l' := #[.val (.ref a), .val (.int (4 : Int32)), .val (.int v), .val (.int (3 : Int32)), .val (.int (3 : Int32)), .val (.int (3 : Int32))]) rfl k_) ?_
      refine Go.on (g' := (mkF m 43 _ [])) (fun t_ k_ => XS.goto X0.here hx rfl (pc0 := 34) (pc' := 43) rfl (hb hby d2_34) (by decide) (by decide) k_) ?_
      refine Go.on (g' := (mkF m 7 _ [])) (fun t_ k_ => XS.goto X0.here hx rfl (pc0 := 43) (pc' := 7) rfl (hb hby d2_43) (by decide) (by decide) k_) ?_
      refine Go.on (g' := (mkF m 8 _ [(.int (3 : Int32))])) (fun t_ k_ => XS.iloadN X0.here hx rfl (hb hby d2_7) rfl k_) ?_
      refine Go.on (g' := (mkF m 10 _ [(.int (3 : Int32)), (.int (3 : Int32))])) (fun t_ k_ => XS.iload X0.here hx rfl (hb hby d2_8) rfl k_) ?_
      refine Go.icmp X0 hx hby d2_10 (pcT := 46) (pcF := 13) (by decide) (by decide) rfl (fun q => ?_) (fun q => absurd q (by decide))
      clear q
      show Go p e below _ _ (mkF m 46 _ [])
      refine Go.on (g' := (mkF m 47 _ [(.int (3 : Int32))])) (fun t_ k_ => XS.iloadN X0.here hx rfl (hb hby d2_46) rfl k_) ?_
      exact Go.retI X0 hx hlk hret hby d2_47 rfl (by simp) (by decide) (by decide) ⟨congrArg (fun z => some (Value.int z)) (by simp only [Int32.lt_iff_toInt_lt] at q1 q3 s2 s3; unfold own_e4; simp only [Int32.lt_iff_toInt_lt]; (repeat' split) <;> first | rfl | (exfalso; omega)), rfl, e0⟩
set_option maxRecDepth 65536 in
set_option maxHeartbeats 40000000 in
theorem rmL5 (l : Launch) (Z : State) (w0 : Array Value) (hw : ∀ d ∈ tables_1, d.before w0 Z = true) (ws : List Jvm.Cond) (a : Addr) (v : Int32) (h0 : Heap) (cl : Cell) (A0 : Arr Z h0 a cl .int) (hsz : cl.slots.size = 7) (f1 : Int32) (hk1 : cl.slots[(1 : Int32).toNatClampNeg]? = some (.int f1)) (f2 : Int32) (hk2 : cl.slots[(2 : Int32).toNatClampNeg]? = some (.int f2)) (f3 : Int32) (hk3 : cl.slots[(3 : Int32).toNatClampNeg]? = some (.int f3)) (f4 : Int32) (hk4 : cl.slots[(4 : Int32).toNatClampNeg]? = some (.int f4)) (s2 : ¬ f2 < f1) (s3 : ¬ f3 < f2) (s4 : ¬ f4 < f3) : Pact l Z (⟨"com/example/loomtrace/loomtrace/model/IntSort", "lastAtMost", "([III)I"⟩ : MethodName) prog_213_method_2_code 6 (some .int) ws ({ frames := 0, cells := 0, slots := 0, locals := 0 } : Room) #[.ref a, .int (5 : Int32), .int v] h0 (own_QR h0 (.int (own_e5 f1 f2 f3 f4 v))) := by
  refine Pact.intro (plainFor_of_name pnS) ?_
  intro p e s m below meth c T0 X0 hx hby hml hret hlk hown hnm hZ e0
  refine Go.at (efL m a (5 : Int32) v) ?_
  refine Go.on (g' := (mkF m 1 _ [(.int (0 : Int32))])) (fun t_ k_ => XS.iconst X0.here hx rfl (hb hby d2_0) k_) ?_
  refine Go.on (g' := (mkF m 2 #[.val (.ref a), .val (.int (5 : Int32)), .val (.int v), .val (.int (0 : Int32)), .unset, .unset] [])) (fun t_ k_ => XS.istoreN X0.here hx rfl (hb hby d2_1) rfl (l' := #[.val (.ref a), .val (.int (5 : Int32)), .val (.int v), .val (.int (0 : Int32)), .unset, .unset]) rfl k_) ?_
  refine Go.on (g' := (mkF m 3 _ [(.int (5 : Int32))])) (fun t_ k_ => XS.iloadN X0.here hx rfl (hb hby d2_2) rfl k_) ?_
  refine Go.on (g' := (mkF m 4 _ [(.int (1 : Int32)), (.int (5 : Int32))])) (fun t_ k_ => XS.iconst X0.here hx rfl (hb hby d2_3) k_) ?_
  refine Go.on (g' := (mkF m 5 _ [(.int ((5 : Int32) - (1 : Int32)))])) (fun t_ k_ => XS.isub X0.here hx rfl (hb hby d2_4) rfl k_) ?_
  rw [show ((5 : Int32) - (1 : Int32)) = (4 : Int32) from by decide]
  refine Go.on (g' := (mkF m 7 #[.val (.ref a), .val (.int (5 : Int32)), .val (.int v), .val (.int (0 : Int32)), .val (.int (4 : Int32)), .unset] [])) (fun t_ k_ => XS.istore X0.here hx rfl (hb hby d2_5) rfl (l' := #[.val (.ref a), .val (.int (5 : Int32)), .val (.int v), .val (.int (0 : Int32)), .val (.int (4 : Int32)), .unset]) rfl k_) ?_
  refine Go.on (g' := (mkF m 8 _ [(.int (0 : Int32))])) (fun t_ k_ => XS.iloadN X0.here hx rfl (hb hby d2_7) rfl k_) ?_
  refine Go.on (g' := (mkF m 10 _ [(.int (4 : Int32)), (.int (0 : Int32))])) (fun t_ k_ => XS.iload X0.here hx rfl (hb hby d2_8) rfl k_) ?_
  refine Go.icmp X0 hx hby d2_10 (pcT := 46) (pcF := 13) (by decide) (by decide) rfl (fun q => absurd q (by decide)) (fun q => ?_)
  clear q
  show Go p e below _ _ (mkF m 13 _ [])
  refine Go.on (g' := (mkF m 14 _ [(.int (0 : Int32))])) (fun t_ k_ => XS.iloadN X0.here hx rfl (hb hby d2_13) rfl k_) ?_
  refine Go.on (g' := (mkF m 16 _ [(.int (4 : Int32)), (.int (0 : Int32))])) (fun t_ k_ => XS.iload X0.here hx rfl (hb hby d2_14) rfl k_) ?_
  refine Go.on (g' := (mkF m 17 _ [(.int ((0 : Int32) + (4 : Int32)))])) (fun t_ k_ => XS.iadd X0.here hx rfl (hb hby d2_16) rfl k_) ?_
  rw [show ((0 : Int32) + (4 : Int32)) = (4 : Int32) from by decide]
  refine Go.on (g' := (mkF m 18 _ [(.int (1 : Int32)), (.int (4 : Int32))])) (fun t_ k_ => XS.iconst X0.here hx rfl (hb hby d2_17) k_) ?_
  refine Go.on (g' := (mkF m 19 _ [(.int ((4 : Int32) + (1 : Int32)))])) (fun t_ k_ => XS.iadd X0.here hx rfl (hb hby d2_18) rfl k_) ?_
  rw [show ((4 : Int32) + (1 : Int32)) = (5 : Int32) from by decide]
  refine Go.on (g' := (mkF m 20 _ [(.int (1 : Int32)), (.int (5 : Int32))])) (fun t_ k_ => XS.iconst X0.here hx rfl (hb hby d2_19) k_) ?_
  refine Go.on (g' := (mkF m 21 _ [(.int (XT.ushr (5 : Int32) (1 : Int32)))])) (fun t_ k_ => XT.iushr X0.here hx rfl (hb hby d2_20) rfl k_) ?_
  rw [show (XT.ushr (5 : Int32) (1 : Int32)) = (2 : Int32) from by decide]
  refine Go.on (g' := (mkF m 23 #[.val (.ref a), .val (.int (5 : Int32)), .val (.int v), .val (.int (0 : Int32)), .val (.int (4 : Int32)), .val (.int (2 : Int32))] [])) (fun t_ k_ => XS.istore X0.here hx rfl (hb hby d2_21) rfl (l' := #[.val (.ref a), .val (.int (5 : Int32)), .val (.int v), .val (.int (0 : Int32)), .val (.int (4 : Int32)), .val (.int (2 : Int32))]) rfl k_) ?_
  refine Go.on (g' := (mkF m 24 _ [(.ref a)])) (fun t_ k_ => XS.aloadN X0.here hx rfl (hb hby d2_23) rfl rfl k_) ?_
  refine Go.on (g' := (mkF m 26 _ [(.int (2 : Int32)), (.ref a)])) (fun t_ k_ => XS.iload X0.here hx rfl (hb hby d2_24) rfl k_) ?_
  refine Go.on (g' := (mkF m 27 _ [(.int f2)])) (X0.iaload hx (j := (2 : Int32)) (v := (.int f2)) (by rw [e0]; exact A0.1) (State.isArrayOf_alike hZ.alike A0.2.1) A0.2.2 (by rw [hsz]; decide) hk2 (g := (mkF m 26 #[.val (.ref a), .val (.int (5 : Int32)), .val (.int v), .val (.int (0 : Int32)), .val (.int (4 : Int32)), .val (.int (2 : Int32))] [(.int (2 : Int32)), (.ref a)])) rfl rfl (hb hby d2_26)) ?_
  refine Go.on (g' := (mkF m 28 _ [(.int v), (.int f2)])) (fun t_ k_ => XS.iloadN X0.here hx rfl (hb hby d2_27) rfl k_) ?_
  refine Go.icmp X0 hx hby d2_28 (pcT := 37) (pcF := 31) (by decide) (by decide) rfl (fun q => ?_) (fun q => ?_)
  · have q1 := iGt.1 q
    clear q
    show Go p e below _ _ (mkF m 37 _ [])
    refine Go.on (g' := (mkF m 39 _ [(.int (2 : Int32))])) (fun t_ k_ => XS.iload X0.here hx rfl (hb hby d2_37) rfl k_) ?_
    refine Go.on (g' := (mkF m 40 _ [(.int (1 : Int32)), (.int (2 : Int32))])) (fun t_ k_ => XS.iconst X0.here hx rfl (hb hby d2_39) k_) ?_
    refine Go.on (g' := (mkF m 41 _ [(.int ((2 : Int32) - (1 : Int32)))])) (fun t_ k_ => XS.isub X0.here hx rfl (hb hby d2_40) rfl k_) ?_
    rw [show ((2 : Int32) - (1 : Int32)) = (1 : Int32) from by decide]
    refine Go.on (g' := (mkF m 43 #[.val (.ref a), .val (.int (5 : Int32)), .val (.int v), .val (.int (0 : Int32)), .val (.int (1 : Int32)), .val (.int (2 : Int32))] [])) (fun t_ k_ => XS.istore X0.here hx rfl (hb hby d2_41) rfl (l' := #[.val (.ref a), .val (.int (5 : Int32)), .val (.int v), .val (.int (0 : Int32)), .val (.int (1 : Int32)), .val (.int (2 : Int32))]) rfl k_) ?_
    refine Go.on (g' := (mkF m 7 _ [])) (fun t_ k_ => XS.goto X0.here hx rfl (pc0 := 43) (pc' := 7) rfl (hb hby d2_43) (by decide) (by decide) k_) ?_
    refine Go.on (g' := (mkF m 8 _ [(.int (0 : Int32))])) (fun t_ k_ => XS.iloadN X0.here hx rfl (hb hby d2_7) rfl k_) ?_
    refine Go.on (g' := (mkF m 10 _ [(.int (1 : Int32)), (.int (0 : Int32))])) (fun t_ k_ => XS.iload X0.here hx rfl (hb hby d2_8) rfl k_) ?_
    refine Go.icmp X0 hx hby d2_10 (pcT := 46) (pcF := 13) (by decide) (by decide) rfl (fun q => absurd q (by decide)) (fun q => ?_)
    clear q
    show Go p e below _ _ (mkF m 13 _ [])
    refine Go.on (g' := (mkF m 14 _ [(.int (0 : Int32))])) (fun t_ k_ => XS.iloadN X0.here hx rfl (hb hby d2_13) rfl k_) ?_
    refine Go.on (g' := (mkF m 16 _ [(.int (1 : Int32)), (.int (0 : Int32))])) (fun t_ k_ => XS.iload X0.here hx rfl (hb hby d2_14) rfl k_) ?_
    refine Go.on (g' := (mkF m 17 _ [(.int ((0 : Int32) + (1 : Int32)))])) (fun t_ k_ => XS.iadd X0.here hx rfl (hb hby d2_16) rfl k_) ?_
    rw [show ((0 : Int32) + (1 : Int32)) = (1 : Int32) from by decide]
    refine Go.on (g' := (mkF m 18 _ [(.int (1 : Int32)), (.int (1 : Int32))])) (fun t_ k_ => XS.iconst X0.here hx rfl (hb hby d2_17) k_) ?_
    refine Go.on (g' := (mkF m 19 _ [(.int ((1 : Int32) + (1 : Int32)))])) (fun t_ k_ => XS.iadd X0.here hx rfl (hb hby d2_18) rfl k_) ?_
    rw [show ((1 : Int32) + (1 : Int32)) = (2 : Int32) from by decide]
    refine Go.on (g' := (mkF m 20 _ [(.int (1 : Int32)), (.int (2 : Int32))])) (fun t_ k_ => XS.iconst X0.here hx rfl (hb hby d2_19) k_) ?_
    refine Go.on (g' := (mkF m 21 _ [(.int (XT.ushr (2 : Int32) (1 : Int32)))])) (fun t_ k_ => XT.iushr X0.here hx rfl (hb hby d2_20) rfl k_) ?_
    rw [show (XT.ushr (2 : Int32) (1 : Int32)) = (1 : Int32) from by decide]
    refine Go.on (g' := (mkF m 23 #[.val (.ref a), .val (.int (5 : Int32)), .val (.int v), .val (.int (0 : Int32)), .val (.int (1 : Int32)), .val (.int (1 : Int32))] [])) (fun t_ k_ => XS.istore X0.here hx rfl (hb hby d2_21) rfl (l' := #[.val (.ref a), .val (.int (5 : Int32)), .val (.int v), .val (.int (0 : Int32)), .val (.int (1 : Int32)), .val (.int (1 : Int32))]) rfl k_) ?_
    refine Go.on (g' := (mkF m 24 _ [(.ref a)])) (fun t_ k_ => XS.aloadN X0.here hx rfl (hb hby d2_23) rfl rfl k_) ?_
    refine Go.on (g' := (mkF m 26 _ [(.int (1 : Int32)), (.ref a)])) (fun t_ k_ => XS.iload X0.here hx rfl (hb hby d2_24) rfl k_) ?_
    refine Go.on (g' := (mkF m 27 _ [(.int f1)])) (X0.iaload hx (j := (1 : Int32)) (v := (.int f1)) (by rw [e0]; exact A0.1) (State.isArrayOf_alike hZ.alike A0.2.1) A0.2.2 (by rw [hsz]; decide) hk1 (g := (mkF m 26 #[.val (.ref a), .val (.int (5 : Int32)), .val (.int v), .val (.int (0 : Int32)), .val (.int (1 : Int32)), .val (.int (1 : Int32))] [(.int (1 : Int32)), (.ref a)])) rfl rfl (hb hby d2_26)) ?_
    refine Go.on (g' := (mkF m 28 _ [(.int v), (.int f1)])) (fun t_ k_ => XS.iloadN X0.here hx rfl (hb hby d2_27) rfl k_) ?_
    refine Go.icmp X0 hx hby d2_28 (pcT := 37) (pcF := 31) (by decide) (by decide) rfl (fun q => ?_) (fun q => ?_)
    · have q2 := iGt.1 q
      clear q
      show Go p e below _ _ (mkF m 37 _ [])
      refine Go.on (g' := (mkF m 39 _ [(.int (1 : Int32))])) (fun t_ k_ => XS.iload X0.here hx rfl (hb hby d2_37) rfl k_) ?_
      refine Go.on (g' := (mkF m 40 _ [(.int (1 : Int32)), (.int (1 : Int32))])) (fun t_ k_ => XS.iconst X0.here hx rfl (hb hby d2_39) k_) ?_
      refine Go.on (g' := (mkF m 41 _ [(.int ((1 : Int32) - (1 : Int32)))])) (fun t_ k_ => XS.isub X0.here hx rfl (hb hby d2_40) rfl k_) ?_
      rw [show ((1 : Int32) - (1 : Int32)) = (0 : Int32) from by decide]
      refine Go.on (g' := (mkF m 43 #[.val (.ref a), .val (.int (5 : Int32)), .val (.int v), .val (.int (0 : Int32)), .val (.int (0 : Int32)), .val (.int (1 : Int32))] [])) (fun t_ k_ => XS.istore X0.here hx rfl (hb hby d2_41) rfl (l' := #[.val (.ref a), .val (.int (5 : Int32)), .val (.int v), .val (.int (0 : Int32)), .val (.int (0 : Int32)), .val (.int (1 : Int32))]) rfl k_) ?_
      refine Go.on (g' := (mkF m 7 _ [])) (fun t_ k_ => XS.goto X0.here hx rfl (pc0 := 43) (pc' := 7) rfl (hb hby d2_43) (by decide) (by decide) k_) ?_
      refine Go.on (g' := (mkF m 8 _ [(.int (0 : Int32))])) (fun t_ k_ => XS.iloadN X0.here hx rfl (hb hby d2_7) rfl k_) ?_
      refine Go.on (g' := (mkF m 10 _ [(.int (0 : Int32)), (.int (0 : Int32))])) (fun t_ k_ => XS.iload X0.here hx rfl (hb hby d2_8) rfl k_) ?_
      refine Go.icmp X0 hx hby d2_10 (pcT := 46) (pcF := 13) (by decide) (by decide) rfl (fun q => ?_) (fun q => absurd q (by decide))
      clear q
      show Go p e below _ _ (mkF m 46 _ [])
      refine Go.on (g' := (mkF m 47 _ [(.int (0 : Int32))])) (fun t_ k_ => XS.iloadN X0.here hx rfl (hb hby d2_46) rfl k_) ?_
      exact Go.retI X0 hx hlk hret hby d2_47 rfl (by simp) (by decide) (by decide) ⟨congrArg (fun z => some (Value.int z)) (by simp only [Int32.lt_iff_toInt_lt] at q1 q2 s2 s3 s4; unfold own_e5; simp only [Int32.lt_iff_toInt_lt]; (repeat' split) <;> first | rfl | (exfalso; omega)), rfl, e0⟩
    · have q2 := iGt.2 q
      clear q
      show Go p e below _ _ (mkF m 31 _ [])
      refine Go.on (g' := (mkF m 33 _ [(.int (1 : Int32))])) (fun t_ k_ => XS.iload X0.here hx rfl (hb hby d2_31) rfl k_) ?_
      refine Go.on (g' := (mkF m 34 #[.val (.ref a), .val (.int (5 : Int32)), .val (.int v), .val (.int (1 : Int32)), .val (.int (1 : Int32)), .val (.int (1 : Int32))] [])) (fun t_ k_ => XS.istoreN X0.here hx rfl (hb hby d2_33) rfl (l' := #[.val (.ref a), .val (.int (5 : Int32)), .val (.int v), .val (.int (1 : Int32)), .val (.int (1 : Int32)), .val (.int (1 : Int32))]) rfl k_) ?_
      refine Go.on (g' := (mkF m 43 _ [])) (fun t_ k_ => XS.goto X0.here hx rfl (pc0 := 34) (pc' := 43) rfl (hb hby d2_34) (by decide) (by decide) k_) ?_
      refine Go.on (g' := (mkF m 7 _ [])) (fun t_ k_ => XS.goto X0.here hx rfl (pc0 := 43) (pc' := 7) rfl (hb hby d2_43) (by decide) (by decide) k_) ?_
      refine Go.on (g' := (mkF m 8 _ [(.int (1 : Int32))])) (fun t_ k_ => XS.iloadN X0.here hx rfl (hb hby d2_7) rfl k_) ?_
      refine Go.on (g' := (mkF m 10 _ [(.int (1 : Int32)), (.int (1 : Int32))])) (fun t_ k_ => XS.iload X0.here hx rfl (hb hby d2_8) rfl k_) ?_
      refine Go.icmp X0 hx hby d2_10 (pcT := 46) (pcF := 13) (by decide) (by decide) rfl (fun q => ?_) (fun q => absurd q (by decide))
      clear q
      show Go p e below _ _ (mkF m 46 _ [])
      refine Go.on (g' := (mkF m 47 _ [(.int (1 : Int32))])) (fun t_ k_ => XS.iloadN X0.here hx rfl (hb hby d2_46) rfl k_) ?_
      exact Go.retI X0 hx hlk hret hby d2_47 rfl (by simp) (by decide) (by decide) ⟨congrArg (fun z => some (Value.int z)) (by simp only [Int32.lt_iff_toInt_lt] at q1 q2 s2 s3 s4; unfold own_e5; simp only [Int32.lt_iff_toInt_lt]; (repeat' split) <;> first | rfl | (exfalso; omega)), rfl, e0⟩
  · have q1 := iGt.2 q
    clear q
    show Go p e below _ _ (mkF m 31 _ [])
    refine Go.on (g' := (mkF m 33 _ [(.int (2 : Int32))])) (fun t_ k_ => XS.iload X0.here hx rfl (hb hby d2_31) rfl k_) ?_
    refine Go.on (g' := (mkF m 34 #[.val (.ref a), .val (.int (5 : Int32)), .val (.int v), .val (.int (2 : Int32)), .val (.int (4 : Int32)), .val (.int (2 : Int32))] [])) (fun t_ k_ => XS.istoreN X0.here hx rfl (hb hby d2_33) rfl (l' := #[.val (.ref a), .val (.int (5 : Int32)), .val (.int v), .val (.int (2 : Int32)), .val (.int (4 : Int32)), .val (.int (2 : Int32))]) rfl k_) ?_
    refine Go.on (g' := (mkF m 43 _ [])) (fun t_ k_ => XS.goto X0.here hx rfl (pc0 := 34) (pc' := 43) rfl (hb hby d2_34) (by decide) (by decide) k_) ?_
    refine Go.on (g' := (mkF m 7 _ [])) (fun t_ k_ => XS.goto X0.here hx rfl (pc0 := 43) (pc' := 7) rfl (hb hby d2_43) (by decide) (by decide) k_) ?_
    refine Go.on (g' := (mkF m 8 _ [(.int (2 : Int32))])) (fun t_ k_ => XS.iloadN X0.here hx rfl (hb hby d2_7) rfl k_) ?_
    refine Go.on (g' := (mkF m 10 _ [(.int (4 : Int32)), (.int (2 : Int32))])) (fun t_ k_ => XS.iload X0.here hx rfl (hb hby d2_8) rfl k_) ?_
    refine Go.icmp X0 hx hby d2_10 (pcT := 46) (pcF := 13) (by decide) (by decide) rfl (fun q => absurd q (by decide)) (fun q => ?_)
    clear q
    show Go p e below _ _ (mkF m 13 _ [])
    refine Go.on (g' := (mkF m 14 _ [(.int (2 : Int32))])) (fun t_ k_ => XS.iloadN X0.here hx rfl (hb hby d2_13) rfl k_) ?_
    refine Go.on (g' := (mkF m 16 _ [(.int (4 : Int32)), (.int (2 : Int32))])) (fun t_ k_ => XS.iload X0.here hx rfl (hb hby d2_14) rfl k_) ?_
    refine Go.on (g' := (mkF m 17 _ [(.int ((2 : Int32) + (4 : Int32)))])) (fun t_ k_ => XS.iadd X0.here hx rfl (hb hby d2_16) rfl k_) ?_
    rw [show ((2 : Int32) + (4 : Int32)) = (6 : Int32) from by decide]
    refine Go.on (g' := (mkF m 18 _ [(.int (1 : Int32)), (.int (6 : Int32))])) (fun t_ k_ => XS.iconst X0.here hx rfl (hb hby d2_17) k_) ?_
    refine Go.on (g' := (mkF m 19 _ [(.int ((6 : Int32) + (1 : Int32)))])) (fun t_ k_ => XS.iadd X0.here hx rfl (hb hby d2_18) rfl k_) ?_
    rw [show ((6 : Int32) + (1 : Int32)) = (7 : Int32) from by decide]
    refine Go.on (g' := (mkF m 20 _ [(.int (1 : Int32)), (.int (7 : Int32))])) (fun t_ k_ => XS.iconst X0.here hx rfl (hb hby d2_19) k_) ?_
    refine Go.on (g' := (mkF m 21 _ [(.int (XT.ushr (7 : Int32) (1 : Int32)))])) (fun t_ k_ => XT.iushr X0.here hx rfl (hb hby d2_20) rfl k_) ?_
    rw [show (XT.ushr (7 : Int32) (1 : Int32)) = (3 : Int32) from by decide]
    refine Go.on (g' := (mkF m 23 #[.val (.ref a), .val (.int (5 : Int32)), .val (.int v), .val (.int (2 : Int32)), .val (.int (4 : Int32)), .val (.int (3 : Int32))] [])) (fun t_ k_ => XS.istore X0.here hx rfl (hb hby d2_21) rfl (l' := #[.val (.ref a), .val (.int (5 : Int32)), .val (.int v), .val (.int (2 : Int32)), .val (.int (4 : Int32)), .val (.int (3 : Int32))]) rfl k_) ?_
    refine Go.on (g' := (mkF m 24 _ [(.ref a)])) (fun t_ k_ => XS.aloadN X0.here hx rfl (hb hby d2_23) rfl rfl k_) ?_
    refine Go.on (g' := (mkF m 26 _ [(.int (3 : Int32)), (.ref a)])) (fun t_ k_ => XS.iload X0.here hx rfl (hb hby d2_24) rfl k_) ?_
    refine Go.on (g' := (mkF m 27 _ [(.int f3)])) (X0.iaload hx (j := (3 : Int32)) (v := (.int f3)) (by rw [e0]; exact A0.1) (State.isArrayOf_alike hZ.alike A0.2.1) A0.2.2 (by rw [hsz]; decide) hk3 (g := (mkF m 26 #[.val (.ref a), .val (.int (5 : Int32)), .val (.int v), .val (.int (2 : Int32)), .val (.int (4 : Int32)), .val (.int (3 : Int32))] [(.int (3 : Int32)), (.ref a)])) rfl rfl (hb hby d2_26)) ?_
    refine Go.on (g' := (mkF m 28 _ [(.int v), (.int f3)])) (fun t_ k_ => XS.iloadN X0.here hx rfl (hb hby d2_27) rfl k_) ?_
    refine Go.icmp X0 hx hby d2_28 (pcT := 37) (pcF := 31) (by decide) (by decide) rfl (fun q => ?_) (fun q => ?_)
    · have q3 := iGt.1 q
      clear q
      show Go p e below _ _ (mkF m 37 _ [])
      refine Go.on (g' := (mkF m 39 _ [(.int (3 : Int32))])) (fun t_ k_ => XS.iload X0.here hx rfl (hb hby d2_37) rfl k_) ?_
      refine Go.on (g' := (mkF m 40 _ [(.int (1 : Int32)), (.int (3 : Int32))])) (fun t_ k_ => XS.iconst X0.here hx rfl (hb hby d2_39) k_) ?_
      refine Go.on (g' := (mkF m 41 _ [(.int ((3 : Int32) - (1 : Int32)))])) (fun t_ k_ => XS.isub X0.here hx rfl (hb hby d2_40) rfl k_) ?_
      rw [show ((3 : Int32) - (1 : Int32)) = (2 : Int32) from by decide]
      refine Go.on (g' := (mkF m 43 #[.val (.ref a), .val (.int (5 : Int32)), .val (.int v), .val (.int (2 : Int32)), .val (.int (2 : Int32)), .val (.int (3 : Int32))] [])) (fun t_ k_ => XS.istore X0.here hx rfl (hb hby d2_41) rfl (l' := #[.val (.ref a), .val (.int (5 : Int32)), .val (.int v), .val (.int (2 : Int32)), .val (.int (2 : Int32)), .val (.int (3 : Int32))]) rfl k_) ?_
      refine Go.on (g' := (mkF m 7 _ [])) (fun t_ k_ => XS.goto X0.here hx rfl (pc0 := 43) (pc' := 7) rfl (hb hby d2_43) (by decide) (by decide) k_) ?_
      refine Go.on (g' := (mkF m 8 _ [(.int (2 : Int32))])) (fun t_ k_ => XS.iloadN X0.here hx rfl (hb hby d2_7) rfl k_) ?_
      refine Go.on (g' := (mkF m 10 _ [(.int (2 : Int32)), (.int (2 : Int32))])) (fun t_ k_ => XS.iload X0.here hx rfl (hb hby d2_8) rfl k_) ?_
      refine Go.icmp X0 hx hby d2_10 (pcT := 46) (pcF := 13) (by decide) (by decide) rfl (fun q => ?_) (fun q => absurd q (by decide))
      clear q
      show Go p e below _ _ (mkF m 46 _ [])
      refine Go.on (g' := (mkF m 47 _ [(.int (2 : Int32))])) (fun t_ k_ => XS.iloadN X0.here hx rfl (hb hby d2_46) rfl k_) ?_
      exact Go.retI X0 hx hlk hret hby d2_47 rfl (by simp) (by decide) (by decide) ⟨congrArg (fun z => some (Value.int z)) (by simp only [Int32.lt_iff_toInt_lt] at q1 q3 s2 s3 s4; unfold own_e5; simp only [Int32.lt_iff_toInt_lt]; (repeat' split) <;> first | rfl | (exfalso; omega)), rfl, e0⟩
    · have q3 := iGt.2 q
      clear q
      show Go p e below _ _ (mkF m 31 _ [])
      refine Go.on (g' := (mkF m 33 _ [(.int (3 : Int32))])) (fun t_ k_ => XS.iload X0.here hx rfl (hb hby d2_31) rfl k_) ?_
      refine Go.on (g' := (mkF m 34 #[.val (.ref a), .val (.int (5 : Int32)), .val (.int v), .val (.int (3 : Int32)), .val (.int (4 : Int32)), .val (.int (3 : Int32))] [])) (fun t_ k_ => XS.istoreN X0.here hx rfl (hb hby d2_33) rfl (l' := #[.val (.ref a), .val (.int (5 : Int32)), .val (.int v), .val (.int (3 : Int32)), .val (.int (4 : Int32)), .val (.int (3 : Int32))]) rfl k_) ?_
      refine Go.on (g' := (mkF m 43 _ [])) (fun t_ k_ => XS.goto X0.here hx rfl (pc0 := 34) (pc' := 43) rfl (hb hby d2_34) (by decide) (by decide) k_) ?_
      refine Go.on (g' := (mkF m 7 _ [])) (fun t_ k_ => XS.goto X0.here hx rfl (pc0 := 43) (pc' := 7) rfl (hb hby d2_43) (by decide) (by decide) k_) ?_
      refine Go.on (g' := (mkF m 8 _ [(.int (3 : Int32))])) (fun t_ k_ => XS.iloadN X0.here hx rfl (hb hby d2_7) rfl k_) ?_
      refine Go.on (g' := (mkF m 10 _ [(.int (4 : Int32)), (.int (3 : Int32))])) (fun t_ k_ => XS.iload X0.here hx rfl (hb hby d2_8) rfl k_) ?_
      refine Go.icmp X0 hx hby d2_10 (pcT := 46) (pcF := 13) (by decide) (by decide) rfl (fun q => absurd q (by decide)) (fun q => ?_)
      clear q
      show Go p e below _ _ (mkF m 13 _ [])
      refine Go.on (g' := (mkF m 14 _ [(.int (3 : Int32))])) (fun t_ k_ => XS.iloadN X0.here hx rfl (hb hby d2_13) rfl k_) ?_
      refine Go.on (g' := (mkF m 16 _ [(.int (4 : Int32)), (.int (3 : Int32))])) (fun t_ k_ => XS.iload X0.here hx rfl (hb hby d2_14) rfl k_) ?_
      refine Go.on (g' := (mkF m 17 _ [(.int ((3 : Int32) + (4 : Int32)))])) (fun t_ k_ => XS.iadd X0.here hx rfl (hb hby d2_16) rfl k_) ?_
      rw [show ((3 : Int32) + (4 : Int32)) = (7 : Int32) from by decide]
      refine Go.on (g' := (mkF m 18 _ [(.int (1 : Int32)), (.int (7 : Int32))])) (fun t_ k_ => XS.iconst X0.here hx rfl (hb hby d2_17) k_) ?_
      refine Go.on (g' := (mkF m 19 _ [(.int ((7 : Int32) + (1 : Int32)))])) (fun t_ k_ => XS.iadd X0.here hx rfl (hb hby d2_18) rfl k_) ?_
      rw [show ((7 : Int32) + (1 : Int32)) = (8 : Int32) from by decide]
      refine Go.on (g' := (mkF m 20 _ [(.int (1 : Int32)), (.int (8 : Int32))])) (fun t_ k_ => XS.iconst X0.here hx rfl (hb hby d2_19) k_) ?_
      refine Go.on (g' := (mkF m 21 _ [(.int (XT.ushr (8 : Int32) (1 : Int32)))])) (fun t_ k_ => XT.iushr X0.here hx rfl (hb hby d2_20) rfl k_) ?_
      rw [show (XT.ushr (8 : Int32) (1 : Int32)) = (4 : Int32) from by decide]
      refine Go.on (g' := (mkF m 23 #[.val (.ref a), .val (.int (5 : Int32)), .val (.int v), .val (.int (3 : Int32)), .val (.int (4 : Int32)), .val (.int (4 : Int32))] [])) (fun t_ k_ => XS.istore X0.here hx rfl (hb hby d2_21) rfl (l' := #[.val (.ref a), .val (.int (5 : Int32)), .val (.int v), .val (.int (3 : Int32)), .val (.int (4 : Int32)), .val (.int (4 : Int32))]) rfl k_) ?_
      refine Go.on (g' := (mkF m 24 _ [(.ref a)])) (fun t_ k_ => XS.aloadN X0.here hx rfl (hb hby d2_23) rfl rfl k_) ?_
      refine Go.on (g' := (mkF m 26 _ [(.int (4 : Int32)), (.ref a)])) (fun t_ k_ => XS.iload X0.here hx rfl (hb hby d2_24) rfl k_) ?_
      refine Go.on (g' := (mkF m 27 _ [(.int f4)])) (X0.iaload hx (j := (4 : Int32)) (v := (.int f4)) (by rw [e0]; exact A0.1) (State.isArrayOf_alike hZ.alike A0.2.1) A0.2.2 (by rw [hsz]; decide) hk4 (g := (mkF m 26 #[.val (.ref a), .val (.int (5 : Int32)), .val (.int v), .val (.int (3 : Int32)), .val (.int (4 : Int32)), .val (.int (4 : Int32))] [(.int (4 : Int32)), (.ref a)])) rfl rfl (hb hby d2_26)) ?_
      refine Go.on (g' := (mkF m 28 _ [(.int v), (.int f4)])) (fun t_ k_ => XS.iloadN X0.here hx rfl (hb hby d2_27) rfl k_) ?_
      refine Go.icmp X0 hx hby d2_28 (pcT := 37) (pcF := 31) (by decide) (by decide) rfl (fun q => ?_) (fun q => ?_)
      · have q4 := iGt.1 q
        clear q
        show Go p e below _ _ (mkF m 37 _ [])
        refine Go.on (g' := (mkF m 39 _ [(.int (4 : Int32))])) (fun t_ k_ => XS.iload X0.here hx rfl (hb hby d2_37) rfl k_) ?_
        refine Go.on (g' := (mkF m 40 _ [(.int (1 : Int32)), (.int (4 : Int32))])) (fun t_ k_ => XS.iconst X0.here hx rfl (hb hby d2_39) k_) ?_
        refine Go.on (g' := (mkF m 41 _ [(.int ((4 : Int32) - (1 : Int32)))])) (fun t_ k_ => XS.isub X0.here hx rfl (hb hby d2_40) rfl k_) ?_
        rw [show ((4 : Int32) - (1 : Int32)) = (3 : Int32) from by decide]
        refine Go.on (g' := (mkF m 43 #[.val (.ref a), .val (.int (5 : Int32)), .val (.int v), .val (.int (3 : Int32)), .val (.int (3 : Int32)), .val (.int (4 : Int32))] [])) (fun t_ k_ => XS.istore X0.here hx rfl (hb hby d2_41) rfl (l' := #[.val (.ref a), .val (.int (5 : Int32)), .val (.int v), .val (.int (3 : Int32)), .val (.int (3 : Int32)), .val (.int (4 : Int32))]) rfl k_) ?_
        refine Go.on (g' := (mkF m 7 _ [])) (fun t_ k_ => XS.goto X0.here hx rfl (pc0 := 43) (pc' := 7) rfl (hb hby d2_43) (by decide) (by decide) k_) ?_
        refine Go.on (g' := (mkF m 8 _ [(.int (3 : Int32))])) (fun t_ k_ => XS.iloadN X0.here hx rfl (hb hby d2_7) rfl k_) ?_
        refine Go.on (g' := (mkF m 10 _ [(.int (3 : Int32)), (.int (3 : Int32))])) (fun t_ k_ => XS.iload X0.here hx rfl (hb hby d2_8) rfl k_) ?_
        refine Go.icmp X0 hx hby d2_10 (pcT := 46) (pcF := 13) (by decide) (by decide) rfl (fun q => ?_) (fun q => absurd q (by decide))
        clear q
        show Go p e below _ _ (mkF m 46 _ [])
        refine Go.on (g' := (mkF m 47 _ [(.int (3 : Int32))])) (fun t_ k_ => XS.iloadN X0.here hx rfl (hb hby d2_46) rfl k_) ?_
        exact Go.retI X0 hx hlk hret hby d2_47 rfl (by simp) (by decide) (by decide) ⟨congrArg (fun z => some (Value.int z)) (by simp only [Int32.lt_iff_toInt_lt] at q1 q3 q4 s2 s3 s4; unfold own_e5; simp only [Int32.lt_iff_toInt_lt]; (repeat' split) <;> first | rfl | (exfalso; omega)), rfl, e0⟩
      · have q4 := iGt.2 q
        clear q
        show Go p e below _ _ (mkF m 31 _ [])
        refine Go.on (g' := (mkF m 33 _ [(.int (4 : Int32))])) (fun t_ k_ => XS.iload X0.here hx rfl (hb hby d2_31) rfl k_) ?_
        refine Go.on (g' := (mkF m 34 #[.val (.ref a), .val (.int (5 : Int32)), .val (.int v), .val (.int (4 : Int32)), .val (.int (4 : Int32)), .val (.int (4 : Int32))] [])) (fun t_ k_ => XS.istoreN X0.here hx rfl (hb hby d2_33) rfl (l' := #[.val (.ref a), .val (.int (5 : Int32)), .val (.int v), .val (.int (4 : Int32)), .val (.int (4 : Int32)), .val (.int (4 : Int32))]) rfl k_) ?_
        refine Go.on (g' := (mkF m 43 _ [])) (fun t_ k_ => XS.goto X0.here hx rfl (pc0 := 34) (pc' := 43) rfl (hb hby d2_34) (by decide) (by decide) k_) ?_
        refine Go.on (g' := (mkF m 7 _ [])) (fun t_ k_ => XS.goto X0.here hx rfl (pc0 := 43) (pc' := 7) rfl (hb hby d2_43) (by decide) (by decide) k_) ?_
        refine Go.on (g' := (mkF m 8 _ [(.int (4 : Int32))])) (fun t_ k_ => XS.iloadN X0.here hx rfl (hb hby d2_7) rfl k_) ?_
        refine Go.on (g' := (mkF m 10 _ [(.int (4 : Int32)), (.int (4 : Int32))])) (fun t_ k_ => XS.iload X0.here hx rfl (hb hby d2_8) rfl k_) ?_
        refine Go.icmp X0 hx hby d2_10 (pcT := 46) (pcF := 13) (by decide) (by decide) rfl (fun q => ?_) (fun q => absurd q (by decide))
        clear q
        show Go p e below _ _ (mkF m 46 _ [])
        refine Go.on (g' := (mkF m 47 _ [(.int (4 : Int32))])) (fun t_ k_ => XS.iloadN X0.here hx rfl (hb hby d2_46) rfl k_) ?_
        exact Go.retI X0 hx hlk hret hby d2_47 rfl (by simp) (by decide) (by decide) ⟨congrArg (fun z => some (Value.int z)) (by simp only [Int32.lt_iff_toInt_lt] at q1 q3 q4 s2 s3 s4; unfold own_e5; simp only [Int32.lt_iff_toInt_lt]; (repeat' split) <;> first | rfl | (exfalso; omega)), rfl, e0⟩
set_option maxRecDepth 65536 in
set_option maxHeartbeats 40000000 in
theorem rmL6 (l : Launch) (Z : State) (w0 : Array Value) (hw : ∀ d ∈ tables_1, d.before w0 Z = true) (ws : List Jvm.Cond) (a : Addr) (v : Int32) (h0 : Heap) (cl : Cell) (A0 : Arr Z h0 a cl .int) (hsz : cl.slots.size = 7) (f1 : Int32) (hk1 : cl.slots[(1 : Int32).toNatClampNeg]? = some (.int f1)) (f2 : Int32) (hk2 : cl.slots[(2 : Int32).toNatClampNeg]? = some (.int f2)) (f3 : Int32) (hk3 : cl.slots[(3 : Int32).toNatClampNeg]? = some (.int f3)) (f4 : Int32) (hk4 : cl.slots[(4 : Int32).toNatClampNeg]? = some (.int f4)) (f5 : Int32) (hk5 : cl.slots[(5 : Int32).toNatClampNeg]? = some (.int f5)) (s2 : ¬ f2 < f1) (s3 : ¬ f3 < f2) (s4 : ¬ f4 < f3) (s5 : ¬ f5 < f4) : Pact l Z (⟨"com/example/loomtrace/loomtrace/model/IntSort", "lastAtMost", "([III)I"⟩ : MethodName) prog_213_method_2_code 6 (some .int) ws ({ frames := 0, cells := 0, slots := 0, locals := 0 } : Room) #[.ref a, .int (6 : Int32), .int v] h0 (own_QR h0 (.int (own_e6 f1 f2 f3 f4 f5 v))) := by
  refine Pact.intro (plainFor_of_name pnS) ?_
  intro p e s m below meth c T0 X0 hx hby hml hret hlk hown hnm hZ e0
  refine Go.at (efL m a (6 : Int32) v) ?_
  refine Go.on (g' := (mkF m 1 _ [(.int (0 : Int32))])) (fun t_ k_ => XS.iconst X0.here hx rfl (hb hby d2_0) k_) ?_
  refine Go.on (g' := (mkF m 2 #[.val (.ref a), .val (.int (6 : Int32)), .val (.int v), .val (.int (0 : Int32)), .unset, .unset] [])) (fun t_ k_ => XS.istoreN X0.here hx rfl (hb hby d2_1) rfl (l' := #[.val (.ref a), .val (.int (6 : Int32)), .val (.int v), .val (.int (0 : Int32)), .unset, .unset]) rfl k_) ?_
  refine Go.on (g' := (mkF m 3 _ [(.int (6 : Int32))])) (fun t_ k_ => XS.iloadN X0.here hx rfl (hb hby d2_2) rfl k_) ?_
  refine Go.on (g' := (mkF m 4 _ [(.int (1 : Int32)), (.int (6 : Int32))])) (fun t_ k_ => XS.iconst X0.here hx rfl (hb hby d2_3) k_) ?_
  refine Go.on (g' := (mkF m 5 _ [(.int ((6 : Int32) - (1 : Int32)))])) (fun t_ k_ => XS.isub X0.here hx rfl (hb hby d2_4) rfl k_) ?_
  rw [show ((6 : Int32) - (1 : Int32)) = (5 : Int32) from by decide]
  refine Go.on (g' := (mkF m 7 #[.val (.ref a), .val (.int (6 : Int32)), .val (.int v), .val (.int (0 : Int32)), .val (.int (5 : Int32)), .unset] [])) (fun t_ k_ => XS.istore X0.here hx rfl (hb hby d2_5) rfl (l' := #[.val (.ref a), .val (.int (6 : Int32)), .val (.int v), .val (.int (0 : Int32)), .val (.int (5 : Int32)), .unset]) rfl k_) ?_
  refine Go.on (g' := (mkF m 8 _ [(.int (0 : Int32))])) (fun t_ k_ => XS.iloadN X0.here hx rfl (hb hby d2_7) rfl k_) ?_
  refine Go.on (g' := (mkF m 10 _ [(.int (5 : Int32)), (.int (0 : Int32))])) (fun t_ k_ => XS.iload X0.here hx rfl (hb hby d2_8) rfl k_) ?_
  refine Go.icmp X0 hx hby d2_10 (pcT := 46) (pcF := 13) (by decide) (by decide) rfl (fun q => absurd q (by decide)) (fun q => ?_)
  clear q
  show Go p e below _ _ (mkF m 13 _ [])
  refine Go.on (g' := (mkF m 14 _ [(.int (0 : Int32))])) (fun t_ k_ => XS.iloadN X0.here hx rfl (hb hby d2_13) rfl k_) ?_
  refine Go.on (g' := (mkF m 16 _ [(.int (5 : Int32)), (.int (0 : Int32))])) (fun t_ k_ => XS.iload X0.here hx rfl (hb hby d2_14) rfl k_) ?_
  refine Go.on (g' := (mkF m 17 _ [(.int ((0 : Int32) + (5 : Int32)))])) (fun t_ k_ => XS.iadd X0.here hx rfl (hb hby d2_16) rfl k_) ?_
  rw [show ((0 : Int32) + (5 : Int32)) = (5 : Int32) from by decide]
  refine Go.on (g' := (mkF m 18 _ [(.int (1 : Int32)), (.int (5 : Int32))])) (fun t_ k_ => XS.iconst X0.here hx rfl (hb hby d2_17) k_) ?_
  refine Go.on (g' := (mkF m 19 _ [(.int ((5 : Int32) + (1 : Int32)))])) (fun t_ k_ => XS.iadd X0.here hx rfl (hb hby d2_18) rfl k_) ?_
  rw [show ((5 : Int32) + (1 : Int32)) = (6 : Int32) from by decide]
  refine Go.on (g' := (mkF m 20 _ [(.int (1 : Int32)), (.int (6 : Int32))])) (fun t_ k_ => XS.iconst X0.here hx rfl (hb hby d2_19) k_) ?_
  refine Go.on (g' := (mkF m 21 _ [(.int (XT.ushr (6 : Int32) (1 : Int32)))])) (fun t_ k_ => XT.iushr X0.here hx rfl (hb hby d2_20) rfl k_) ?_
  rw [show (XT.ushr (6 : Int32) (1 : Int32)) = (3 : Int32) from by decide]
  refine Go.on (g' := (mkF m 23 #[.val (.ref a), .val (.int (6 : Int32)), .val (.int v), .val (.int (0 : Int32)), .val (.int (5 : Int32)), .val (.int (3 : Int32))] [])) (fun t_ k_ => XS.istore X0.here hx rfl (hb hby d2_21) rfl (l' := #[.val (.ref a), .val (.int (6 : Int32)), .val (.int v), .val (.int (0 : Int32)), .val (.int (5 : Int32)), .val (.int (3 : Int32))]) rfl k_) ?_
  refine Go.on (g' := (mkF m 24 _ [(.ref a)])) (fun t_ k_ => XS.aloadN X0.here hx rfl (hb hby d2_23) rfl rfl k_) ?_
  refine Go.on (g' := (mkF m 26 _ [(.int (3 : Int32)), (.ref a)])) (fun t_ k_ => XS.iload X0.here hx rfl (hb hby d2_24) rfl k_) ?_
  refine Go.on (g' := (mkF m 27 _ [(.int f3)])) (X0.iaload hx (j := (3 : Int32)) (v := (.int f3)) (by rw [e0]; exact A0.1) (State.isArrayOf_alike hZ.alike A0.2.1) A0.2.2 (by rw [hsz]; decide) hk3 (g := (mkF m 26 #[.val (.ref a), .val (.int (6 : Int32)), .val (.int v), .val (.int (0 : Int32)), .val (.int (5 : Int32)), .val (.int (3 : Int32))] [(.int (3 : Int32)), (.ref a)])) rfl rfl (hb hby d2_26)) ?_
  refine Go.on (g' := (mkF m 28 _ [(.int v), (.int f3)])) (fun t_ k_ => XS.iloadN X0.here hx rfl (hb hby d2_27) rfl k_) ?_
  refine Go.icmp X0 hx hby d2_28 (pcT := 37) (pcF := 31) (by decide) (by decide) rfl (fun q => ?_) (fun q => ?_)
  · have q1 := iGt.1 q
    clear q
    show Go p e below _ _ (mkF m 37 _ [])
    refine Go.on (g' := (mkF m 39 _ [(.int (3 : Int32))])) (fun t_ k_ => XS.iload X0.here hx rfl (hb hby d2_37) rfl k_) ?_
    refine Go.on (g' := (mkF m 40 _ [(.int (1 : Int32)), (.int (3 : Int32))])) (fun t_ k_ => XS.iconst X0.here hx rfl (hb hby d2_39) k_) ?_
    refine Go.on (g' := (mkF m 41 _ [(.int ((3 : Int32) - (1 : Int32)))])) (fun t_ k_ => XS.isub X0.here hx rfl (hb hby d2_40) rfl k_) ?_
    rw [show ((3 : Int32) - (1 : Int32)) = (2 : Int32) from by decide]
    refine Go.on (g' := (mkF m 43 #[.val (.ref a), .val (.int (6 : Int32)), .val (.int v), .val (.int (0 : Int32)), .val (.int (2 : Int32)), .val (.int (3 : Int32))] [])) (fun t_ k_ => XS.istore X0.here hx rfl (hb hby d2_41) rfl (l' := #[.val (.ref a), .val (.int (6 : Int32)), .val (.int v), .val (.int (0 : Int32)), .val (.int (2 : Int32)), .val (.int (3 : Int32))]) rfl k_) ?_
    refine Go.on (g' := (mkF m 7 _ [])) (fun t_ k_ => XS.goto X0.here hx rfl (pc0 := 43) (pc' := 7) rfl (hb hby d2_43) (by decide) (by decide) k_) ?_
    refine Go.on (g' := (mkF m 8 _ [(.int (0 : Int32))])) (fun t_ k_ => XS.iloadN X0.here hx rfl (hb hby d2_7) rfl k_) ?_
    refine Go.on (g' := (mkF m 10 _ [(.int (2 : Int32)), (.int (0 : Int32))])) (fun t_ k_ => XS.iload X0.here hx rfl (hb hby d2_8) rfl k_) ?_
    refine Go.icmp X0 hx hby d2_10 (pcT := 46) (pcF := 13) (by decide) (by decide) rfl (fun q => absurd q (by decide)) (fun q => ?_)
    clear q
    show Go p e below _ _ (mkF m 13 _ [])
    refine Go.on (g' := (mkF m 14 _ [(.int (0 : Int32))])) (fun t_ k_ => XS.iloadN X0.here hx rfl (hb hby d2_13) rfl k_) ?_
    refine Go.on (g' := (mkF m 16 _ [(.int (2 : Int32)), (.int (0 : Int32))])) (fun t_ k_ => XS.iload X0.here hx rfl (hb hby d2_14) rfl k_) ?_
    refine Go.on (g' := (mkF m 17 _ [(.int ((0 : Int32) + (2 : Int32)))])) (fun t_ k_ => XS.iadd X0.here hx rfl (hb hby d2_16) rfl k_) ?_
    rw [show ((0 : Int32) + (2 : Int32)) = (2 : Int32) from by decide]
    refine Go.on (g' := (mkF m 18 _ [(.int (1 : Int32)), (.int (2 : Int32))])) (fun t_ k_ => XS.iconst X0.here hx rfl (hb hby d2_17) k_) ?_
    refine Go.on (g' := (mkF m 19 _ [(.int ((2 : Int32) + (1 : Int32)))])) (fun t_ k_ => XS.iadd X0.here hx rfl (hb hby d2_18) rfl k_) ?_
    rw [show ((2 : Int32) + (1 : Int32)) = (3 : Int32) from by decide]
    refine Go.on (g' := (mkF m 20 _ [(.int (1 : Int32)), (.int (3 : Int32))])) (fun t_ k_ => XS.iconst X0.here hx rfl (hb hby d2_19) k_) ?_
    refine Go.on (g' := (mkF m 21 _ [(.int (XT.ushr (3 : Int32) (1 : Int32)))])) (fun t_ k_ => XT.iushr X0.here hx rfl (hb hby d2_20) rfl k_) ?_
    rw [show (XT.ushr (3 : Int32) (1 : Int32)) = (1 : Int32) from by decide]
    refine Go.on (g' := (mkF m 23 #[.val (.ref a), .val (.int (6 : Int32)), .val (.int v), .val (.int (0 : Int32)), .val (.int (2 : Int32)), .val (.int (1 : Int32))] [])) (fun t_ k_ => XS.istore X0.here hx rfl (hb hby d2_21) rfl (l' := #[.val (.ref a), .val (.int (6 : Int32)), .val (.int v), .val (.int (0 : Int32)), .val (.int (2 : Int32)), .val (.int (1 : Int32))]) rfl k_) ?_
    refine Go.on (g' := (mkF m 24 _ [(.ref a)])) (fun t_ k_ => XS.aloadN X0.here hx rfl (hb hby d2_23) rfl rfl k_) ?_
    refine Go.on (g' := (mkF m 26 _ [(.int (1 : Int32)), (.ref a)])) (fun t_ k_ => XS.iload X0.here hx rfl (hb hby d2_24) rfl k_) ?_
    refine Go.on (g' := (mkF m 27 _ [(.int f1)])) (X0.iaload hx (j := (1 : Int32)) (v := (.int f1)) (by rw [e0]; exact A0.1) (State.isArrayOf_alike hZ.alike A0.2.1) A0.2.2 (by rw [hsz]; decide) hk1 (g := (mkF m 26 #[.val (.ref a), .val (.int (6 : Int32)), .val (.int v), .val (.int (0 : Int32)), .val (.int (2 : Int32)), .val (.int (1 : Int32))] [(.int (1 : Int32)), (.ref a)])) rfl rfl (hb hby d2_26)) ?_
    refine Go.on (g' := (mkF m 28 _ [(.int v), (.int f1)])) (fun t_ k_ => XS.iloadN X0.here hx rfl (hb hby d2_27) rfl k_) ?_
    refine Go.icmp X0 hx hby d2_28 (pcT := 37) (pcF := 31) (by decide) (by decide) rfl (fun q => ?_) (fun q => ?_)
    · have q2 := iGt.1 q
      clear q
      show Go p e below _ _ (mkF m 37 _ [])
      refine Go.on (g' := (mkF m 39 _ [(.int (1 : Int32))])) (fun t_ k_ => XS.iload X0.here hx rfl (hb hby d2_37) rfl k_) ?_
      refine Go.on (g' := (mkF m 40 _ [(.int (1 : Int32)), (.int (1 : Int32))])) (fun t_ k_ => XS.iconst X0.here hx rfl (hb hby d2_39) k_) ?_
      refine Go.on (g' := (mkF m 41 _ [(.int ((1 : Int32) - (1 : Int32)))])) (fun t_ k_ => XS.isub X0.here hx rfl (hb hby d2_40) rfl k_) ?_
      rw [show ((1 : Int32) - (1 : Int32)) = (0 : Int32) from by decide]
      refine Go.on (g' := (mkF m 43 #[.val (.ref a), .val (.int (6 : Int32)), .val (.int v), .val (.int (0 : Int32)), .val (.int (0 : Int32)), .val (.int (1 : Int32))] [])) (fun t_ k_ => XS.istore X0.here hx rfl (hb hby d2_41) rfl (l' := #[.val (.ref a), .val (.int (6 : Int32)), .val (.int v), .val (.int (0 : Int32)), .val (.int (0 : Int32)), .val (.int (1 : Int32))]) rfl k_) ?_
      refine Go.on (g' := (mkF m 7 _ [])) (fun t_ k_ => XS.goto X0.here hx rfl (pc0 := 43) (pc' := 7) rfl (hb hby d2_43) (by decide) (by decide) k_) ?_
      refine Go.on (g' := (mkF m 8 _ [(.int (0 : Int32))])) (fun t_ k_ => XS.iloadN X0.here hx rfl (hb hby d2_7) rfl k_) ?_
      refine Go.on (g' := (mkF m 10 _ [(.int (0 : Int32)), (.int (0 : Int32))])) (fun t_ k_ => XS.iload X0.here hx rfl (hb hby d2_8) rfl k_) ?_
      refine Go.icmp X0 hx hby d2_10 (pcT := 46) (pcF := 13) (by decide) (by decide) rfl (fun q => ?_) (fun q => absurd q (by decide))
      clear q
      show Go p e below _ _ (mkF m 46 _ [])
      refine Go.on (g' := (mkF m 47 _ [(.int (0 : Int32))])) (fun t_ k_ => XS.iloadN X0.here hx rfl (hb hby d2_46) rfl k_) ?_
      exact Go.retI X0 hx hlk hret hby d2_47 rfl (by simp) (by decide) (by decide) ⟨congrArg (fun z => some (Value.int z)) (by simp only [Int32.lt_iff_toInt_lt] at q1 q2 s2 s3 s4 s5; unfold own_e6; simp only [Int32.lt_iff_toInt_lt]; (repeat' split) <;> first | rfl | (exfalso; omega)), rfl, e0⟩
    · have q2 := iGt.2 q
      clear q
      show Go p e below _ _ (mkF m 31 _ [])
      refine Go.on (g' := (mkF m 33 _ [(.int (1 : Int32))])) (fun t_ k_ => XS.iload X0.here hx rfl (hb hby d2_31) rfl k_) ?_
      refine Go.on (g' := (mkF m 34 #[.val (.ref a), .val (.int (6 : Int32)), .val (.int v), .val (.int (1 : Int32)), .val (.int (2 : Int32)), .val (.int (1 : Int32))] [])) (fun t_ k_ => XS.istoreN X0.here hx rfl (hb hby d2_33) rfl (l' := #[.val (.ref a), .val (.int (6 : Int32)), .val (.int v), .val (.int (1 : Int32)), .val (.int (2 : Int32)), .val (.int (1 : Int32))]) rfl k_) ?_
      refine Go.on (g' := (mkF m 43 _ [])) (fun t_ k_ => XS.goto X0.here hx rfl (pc0 := 34) (pc' := 43) rfl (hb hby d2_34) (by decide) (by decide) k_) ?_
      refine Go.on (g' := (mkF m 7 _ [])) (fun t_ k_ => XS.goto X0.here hx rfl (pc0 := 43) (pc' := 7) rfl (hb hby d2_43) (by decide) (by decide) k_) ?_
      refine Go.on (g' := (mkF m 8 _ [(.int (1 : Int32))])) (fun t_ k_ => XS.iloadN X0.here hx rfl (hb hby d2_7) rfl k_) ?_
      refine Go.on (g' := (mkF m 10 _ [(.int (2 : Int32)), (.int (1 : Int32))])) (fun t_ k_ => XS.iload X0.here hx rfl (hb hby d2_8) rfl k_) ?_
      refine Go.icmp X0 hx hby d2_10 (pcT := 46) (pcF := 13) (by decide) (by decide) rfl (fun q => absurd q (by decide)) (fun q => ?_)
      clear q
      show Go p e below _ _ (mkF m 13 _ [])
      refine Go.on (g' := (mkF m 14 _ [(.int (1 : Int32))])) (fun t_ k_ => XS.iloadN X0.here hx rfl (hb hby d2_13) rfl k_) ?_
      refine Go.on (g' := (mkF m 16 _ [(.int (2 : Int32)), (.int (1 : Int32))])) (fun t_ k_ => XS.iload X0.here hx rfl (hb hby d2_14) rfl k_) ?_
      refine Go.on (g' := (mkF m 17 _ [(.int ((1 : Int32) + (2 : Int32)))])) (fun t_ k_ => XS.iadd X0.here hx rfl (hb hby d2_16) rfl k_) ?_
      rw [show ((1 : Int32) + (2 : Int32)) = (3 : Int32) from by decide]
      refine Go.on (g' := (mkF m 18 _ [(.int (1 : Int32)), (.int (3 : Int32))])) (fun t_ k_ => XS.iconst X0.here hx rfl (hb hby d2_17) k_) ?_
      refine Go.on (g' := (mkF m 19 _ [(.int ((3 : Int32) + (1 : Int32)))])) (fun t_ k_ => XS.iadd X0.here hx rfl (hb hby d2_18) rfl k_) ?_
      rw [show ((3 : Int32) + (1 : Int32)) = (4 : Int32) from by decide]
      refine Go.on (g' := (mkF m 20 _ [(.int (1 : Int32)), (.int (4 : Int32))])) (fun t_ k_ => XS.iconst X0.here hx rfl (hb hby d2_19) k_) ?_
      refine Go.on (g' := (mkF m 21 _ [(.int (XT.ushr (4 : Int32) (1 : Int32)))])) (fun t_ k_ => XT.iushr X0.here hx rfl (hb hby d2_20) rfl k_) ?_
      rw [show (XT.ushr (4 : Int32) (1 : Int32)) = (2 : Int32) from by decide]
      refine Go.on (g' := (mkF m 23 #[.val (.ref a), .val (.int (6 : Int32)), .val (.int v), .val (.int (1 : Int32)), .val (.int (2 : Int32)), .val (.int (2 : Int32))] [])) (fun t_ k_ => XS.istore X0.here hx rfl (hb hby d2_21) rfl (l' := #[.val (.ref a), .val (.int (6 : Int32)), .val (.int v), .val (.int (1 : Int32)), .val (.int (2 : Int32)), .val (.int (2 : Int32))]) rfl k_) ?_
      refine Go.on (g' := (mkF m 24 _ [(.ref a)])) (fun t_ k_ => XS.aloadN X0.here hx rfl (hb hby d2_23) rfl rfl k_) ?_
      refine Go.on (g' := (mkF m 26 _ [(.int (2 : Int32)), (.ref a)])) (fun t_ k_ => XS.iload X0.here hx rfl (hb hby d2_24) rfl k_) ?_
      refine Go.on (g' := (mkF m 27 _ [(.int f2)])) (X0.iaload hx (j := (2 : Int32)) (v := (.int f2)) (by rw [e0]; exact A0.1) (State.isArrayOf_alike hZ.alike A0.2.1) A0.2.2 (by rw [hsz]; decide) hk2 (g := (mkF m 26 #[.val (.ref a), .val (.int (6 : Int32)), .val (.int v), .val (.int (1 : Int32)), .val (.int (2 : Int32)), .val (.int (2 : Int32))] [(.int (2 : Int32)), (.ref a)])) rfl rfl (hb hby d2_26)) ?_
      refine Go.on (g' := (mkF m 28 _ [(.int v), (.int f2)])) (fun t_ k_ => XS.iloadN X0.here hx rfl (hb hby d2_27) rfl k_) ?_
      refine Go.icmp X0 hx hby d2_28 (pcT := 37) (pcF := 31) (by decide) (by decide) rfl (fun q => ?_) (fun q => ?_)
      · have q3 := iGt.1 q
        clear q
        show Go p e below _ _ (mkF m 37 _ [])
        refine Go.on (g' := (mkF m 39 _ [(.int (2 : Int32))])) (fun t_ k_ => XS.iload X0.here hx rfl (hb hby d2_37) rfl k_) ?_
        refine Go.on (g' := (mkF m 40 _ [(.int (1 : Int32)), (.int (2 : Int32))])) (fun t_ k_ => XS.iconst X0.here hx rfl (hb hby d2_39) k_) ?_
        refine Go.on (g' := (mkF m 41 _ [(.int ((2 : Int32) - (1 : Int32)))])) (fun t_ k_ => XS.isub X0.here hx rfl (hb hby d2_40) rfl k_) ?_
        rw [show ((2 : Int32) - (1 : Int32)) = (1 : Int32) from by decide]
        refine Go.on (g' := (mkF m 43 #[.val (.ref a), .val (.int (6 : Int32)), .val (.int v), .val (.int (1 : Int32)), .val (.int (1 : Int32)), .val (.int (2 : Int32))] [])) (fun t_ k_ => XS.istore X0.here hx rfl (hb hby d2_41) rfl (l' := #[.val (.ref a), .val (.int (6 : Int32)), .val (.int v), .val (.int (1 : Int32)), .val (.int (1 : Int32)), .val (.int (2 : Int32))]) rfl k_) ?_
        refine Go.on (g' := (mkF m 7 _ [])) (fun t_ k_ => XS.goto X0.here hx rfl (pc0 := 43) (pc' := 7) rfl (hb hby d2_43) (by decide) (by decide) k_) ?_
        refine Go.on (g' := (mkF m 8 _ [(.int (1 : Int32))])) (fun t_ k_ => XS.iloadN X0.here hx rfl (hb hby d2_7) rfl k_) ?_
        refine Go.on (g' := (mkF m 10 _ [(.int (1 : Int32)), (.int (1 : Int32))])) (fun t_ k_ => XS.iload X0.here hx rfl (hb hby d2_8) rfl k_) ?_
        refine Go.icmp X0 hx hby d2_10 (pcT := 46) (pcF := 13) (by decide) (by decide) rfl (fun q => ?_) (fun q => absurd q (by decide))
        clear q
        show Go p e below _ _ (mkF m 46 _ [])
        refine Go.on (g' := (mkF m 47 _ [(.int (1 : Int32))])) (fun t_ k_ => XS.iloadN X0.here hx rfl (hb hby d2_46) rfl k_) ?_
        exact Go.retI X0 hx hlk hret hby d2_47 rfl (by simp) (by decide) (by decide) ⟨congrArg (fun z => some (Value.int z)) (by simp only [Int32.lt_iff_toInt_lt] at q1 q2 q3 s2 s3 s4 s5; unfold own_e6; simp only [Int32.lt_iff_toInt_lt]; (repeat' split) <;> first | rfl | (exfalso; omega)), rfl, e0⟩
      · have q3 := iGt.2 q
        clear q
        show Go p e below _ _ (mkF m 31 _ [])
        refine Go.on (g' := (mkF m 33 _ [(.int (2 : Int32))])) (fun t_ k_ => XS.iload X0.here hx rfl (hb hby d2_31) rfl k_) ?_
        refine Go.on (g' := (mkF m 34 #[.val (.ref a), .val (.int (6 : Int32)), .val (.int v), .val (.int (2 : Int32)), .val (.int (2 : Int32)), .val (.int (2 : Int32))] [])) (fun t_ k_ => XS.istoreN X0.here hx rfl (hb hby d2_33) rfl (l' := #[.val (.ref a), .val (.int (6 : Int32)), .val (.int v), .val (.int (2 : Int32)), .val (.int (2 : Int32)), .val (.int (2 : Int32))]) rfl k_) ?_
        refine Go.on (g' := (mkF m 43 _ [])) (fun t_ k_ => XS.goto X0.here hx rfl (pc0 := 34) (pc' := 43) rfl (hb hby d2_34) (by decide) (by decide) k_) ?_
        refine Go.on (g' := (mkF m 7 _ [])) (fun t_ k_ => XS.goto X0.here hx rfl (pc0 := 43) (pc' := 7) rfl (hb hby d2_43) (by decide) (by decide) k_) ?_
        refine Go.on (g' := (mkF m 8 _ [(.int (2 : Int32))])) (fun t_ k_ => XS.iloadN X0.here hx rfl (hb hby d2_7) rfl k_) ?_
        refine Go.on (g' := (mkF m 10 _ [(.int (2 : Int32)), (.int (2 : Int32))])) (fun t_ k_ => XS.iload X0.here hx rfl (hb hby d2_8) rfl k_) ?_
        refine Go.icmp X0 hx hby d2_10 (pcT := 46) (pcF := 13) (by decide) (by decide) rfl (fun q => ?_) (fun q => absurd q (by decide))
        clear q
        show Go p e below _ _ (mkF m 46 _ [])
        refine Go.on (g' := (mkF m 47 _ [(.int (2 : Int32))])) (fun t_ k_ => XS.iloadN X0.here hx rfl (hb hby d2_46) rfl k_) ?_
        exact Go.retI X0 hx hlk hret hby d2_47 rfl (by simp) (by decide) (by decide) ⟨congrArg (fun z => some (Value.int z)) (by simp only [Int32.lt_iff_toInt_lt] at q1 q2 q3 s2 s3 s4 s5; unfold own_e6; simp only [Int32.lt_iff_toInt_lt]; (repeat' split) <;> first | rfl | (exfalso; omega)), rfl, e0⟩
  · have q1 := iGt.2 q
    clear q
    show Go p e below _ _ (mkF m 31 _ [])
    refine Go.on (g' := (mkF m 33 _ [(.int (3 : Int32))])) (fun t_ k_ => XS.iload X0.here hx rfl (hb hby d2_31) rfl k_) ?_
    refine Go.on (g' := (mkF m 34 #[.val (.ref a), .val (.int (6 : Int32)), .val (.int v), .val (.int (3 : Int32)), .val (.int (5 : Int32)), .val (.int (3 : Int32))] [])) (fun t_ k_ => XS.istoreN X0.here hx rfl (hb hby d2_33) rfl (l' := #[.val (.ref a), .val (.int (6 : Int32)), .val (.int v), .val (.int (3 : Int32)), .val (.int (5 : Int32)), .val (.int (3 : Int32))]) rfl k_) ?_
    refine Go.on (g' := (mkF m 43 _ [])) (fun t_ k_ => XS.goto X0.here hx rfl (pc0 := 34) (pc' := 43) rfl (hb hby d2_34) (by decide) (by decide) k_) ?_
    refine Go.on (g' := (mkF m 7 _ [])) (fun t_ k_ => XS.goto X0.here hx rfl (pc0 := 43) (pc' := 7) rfl (hb hby d2_43) (by decide) (by decide) k_) ?_
    refine Go.on (g' := (mkF m 8 _ [(.int (3 : Int32))])) (fun t_ k_ => XS.iloadN X0.here hx rfl (hb hby d2_7) rfl k_) ?_
    refine Go.on (g' := (mkF m 10 _ [(.int (5 : Int32)), (.int (3 : Int32))])) (fun t_ k_ => XS.iload X0.here hx rfl (hb hby d2_8) rfl k_) ?_
    refine Go.icmp X0 hx hby d2_10 (pcT := 46) (pcF := 13) (by decide) (by decide) rfl (fun q => absurd q (by decide)) (fun q => ?_)
    clear q
    show Go p e below _ _ (mkF m 13 _ [])
    refine Go.on (g' := (mkF m 14 _ [(.int (3 : Int32))])) (fun t_ k_ => XS.iloadN X0.here hx rfl (hb hby d2_13) rfl k_) ?_
    refine Go.on (g' := (mkF m 16 _ [(.int (5 : Int32)), (.int (3 : Int32))])) (fun t_ k_ => XS.iload X0.here hx rfl (hb hby d2_14) rfl k_) ?_
    refine Go.on (g' := (mkF m 17 _ [(.int ((3 : Int32) + (5 : Int32)))])) (fun t_ k_ => XS.iadd X0.here hx rfl (hb hby d2_16) rfl k_) ?_
    rw [show ((3 : Int32) + (5 : Int32)) = (8 : Int32) from by decide]
    refine Go.on (g' := (mkF m 18 _ [(.int (1 : Int32)), (.int (8 : Int32))])) (fun t_ k_ => XS.iconst X0.here hx rfl (hb hby d2_17) k_) ?_
    refine Go.on (g' := (mkF m 19 _ [(.int ((8 : Int32) + (1 : Int32)))])) (fun t_ k_ => XS.iadd X0.here hx rfl (hb hby d2_18) rfl k_) ?_
    rw [show ((8 : Int32) + (1 : Int32)) = (9 : Int32) from by decide]
    refine Go.on (g' := (mkF m 20 _ [(.int (1 : Int32)), (.int (9 : Int32))])) (fun t_ k_ => XS.iconst X0.here hx rfl (hb hby d2_19) k_) ?_
    refine Go.on (g' := (mkF m 21 _ [(.int (XT.ushr (9 : Int32) (1 : Int32)))])) (fun t_ k_ => XT.iushr X0.here hx rfl (hb hby d2_20) rfl k_) ?_
    rw [show (XT.ushr (9 : Int32) (1 : Int32)) = (4 : Int32) from by decide]
    refine Go.on (g' := (mkF m 23 #[.val (.ref a), .val (.int (6 : Int32)), .val (.int v), .val (.int (3 : Int32)), .val (.int (5 : Int32)), .val (.int (4 : Int32))] [])) (fun t_ k_ => XS.istore X0.here hx rfl (hb hby d2_21) rfl (l' := #[.val (.ref a), .val (.int (6 : Int32)), .val (.int v), .val (.int (3 : Int32)), .val (.int (5 : Int32)), .val (.int (4 : Int32))]) rfl k_) ?_
    refine Go.on (g' := (mkF m 24 _ [(.ref a)])) (fun t_ k_ => XS.aloadN X0.here hx rfl (hb hby d2_23) rfl rfl k_) ?_
    refine Go.on (g' := (mkF m 26 _ [(.int (4 : Int32)), (.ref a)])) (fun t_ k_ => XS.iload X0.here hx rfl (hb hby d2_24) rfl k_) ?_
    refine Go.on (g' := (mkF m 27 _ [(.int f4)])) (X0.iaload hx (j := (4 : Int32)) (v := (.int f4)) (by rw [e0]; exact A0.1) (State.isArrayOf_alike hZ.alike A0.2.1) A0.2.2 (by rw [hsz]; decide) hk4 (g := (mkF m 26 #[.val (.ref a), .val (.int (6 : Int32)), .val (.int v), .val (.int (3 : Int32)), .val (.int (5 : Int32)), .val (.int (4 : Int32))] [(.int (4 : Int32)), (.ref a)])) rfl rfl (hb hby d2_26)) ?_
    refine Go.on (g' := (mkF m 28 _ [(.int v), (.int f4)])) (fun t_ k_ => XS.iloadN X0.here hx rfl (hb hby d2_27) rfl k_) ?_
    refine Go.icmp X0 hx hby d2_28 (pcT := 37) (pcF := 31) (by decide) (by decide) rfl (fun q => ?_) (fun q => ?_)
    · have q4 := iGt.1 q
      clear q
      show Go p e below _ _ (mkF m 37 _ [])
      refine Go.on (g' := (mkF m 39 _ [(.int (4 : Int32))])) (fun t_ k_ => XS.iload X0.here hx rfl (hb hby d2_37) rfl k_) ?_
      refine Go.on (g' := (mkF m 40 _ [(.int (1 : Int32)), (.int (4 : Int32))])) (fun t_ k_ => XS.iconst X0.here hx rfl (hb hby d2_39) k_) ?_
      refine Go.on (g' := (mkF m 41 _ [(.int ((4 : Int32) - (1 : Int32)))])) (fun t_ k_ => XS.isub X0.here hx rfl (hb hby d2_40) rfl k_) ?_
      rw [show ((4 : Int32) - (1 : Int32)) = (3 : Int32) from by decide]
      refine Go.on (g' := (mkF m 43 #[.val (.ref a), .val (.int (6 : Int32)), .val (.int v), .val (.int (3 : Int32)), .val (.int (3 : Int32)), .val (.int (4 : Int32))] [])) (fun t_ k_ => XS.istore X0.here hx rfl (hb hby d2_41) rfl (l' := #[.val (.ref a), .val (.int (6 : Int32)), .val (.int v), .val (.int (3 : Int32)), .val (.int (3 : Int32)), .val (.int (4 : Int32))]) rfl k_) ?_
      refine Go.on (g' := (mkF m 7 _ [])) (fun t_ k_ => XS.goto X0.here hx rfl (pc0 := 43) (pc' := 7) rfl (hb hby d2_43) (by decide) (by decide) k_) ?_
      refine Go.on (g' := (mkF m 8 _ [(.int (3 : Int32))])) (fun t_ k_ => XS.iloadN X0.here hx rfl (hb hby d2_7) rfl k_) ?_
      refine Go.on (g' := (mkF m 10 _ [(.int (3 : Int32)), (.int (3 : Int32))])) (fun t_ k_ => XS.iload X0.here hx rfl (hb hby d2_8) rfl k_) ?_
      refine Go.icmp X0 hx hby d2_10 (pcT := 46) (pcF := 13) (by decide) (by decide) rfl (fun q => ?_) (fun q => absurd q (by decide))
      clear q
      show Go p e below _ _ (mkF m 46 _ [])
      refine Go.on (g' := (mkF m 47 _ [(.int (3 : Int32))])) (fun t_ k_ => XS.iloadN X0.here hx rfl (hb hby d2_46) rfl k_) ?_
      exact Go.retI X0 hx hlk hret hby d2_47 rfl (by simp) (by decide) (by decide) ⟨congrArg (fun z => some (Value.int z)) (by simp only [Int32.lt_iff_toInt_lt] at q1 q4 s2 s3 s4 s5; unfold own_e6; simp only [Int32.lt_iff_toInt_lt]; (repeat' split) <;> first | rfl | (exfalso; omega)), rfl, e0⟩
    · have q4 := iGt.2 q
      clear q
      show Go p e below _ _ (mkF m 31 _ [])
      refine Go.on (g' := (mkF m 33 _ [(.int (4 : Int32))])) (fun t_ k_ => XS.iload X0.here hx rfl (hb hby d2_31) rfl k_) ?_
      refine Go.on (g' := (mkF m 34 #[.val (.ref a), .val (.int (6 : Int32)), .val (.int v), .val (.int (4 : Int32)), .val (.int (5 : Int32)), .val (.int (4 : Int32))] [])) (fun t_ k_ => XS.istoreN X0.here hx rfl (hb hby d2_33) rfl (l' := #[.val (.ref a), .val (.int (6 : Int32)), .val (.int v), .val (.int (4 : Int32)), .val (.int (5 : Int32)), .val (.int (4 : Int32))]) rfl k_) ?_
      refine Go.on (g' := (mkF m 43 _ [])) (fun t_ k_ => XS.goto X0.here hx rfl (pc0 := 34) (pc' := 43) rfl (hb hby d2_34) (by decide) (by decide) k_) ?_
      refine Go.on (g' := (mkF m 7 _ [])) (fun t_ k_ => XS.goto X0.here hx rfl (pc0 := 43) (pc' := 7) rfl (hb hby d2_43) (by decide) (by decide) k_) ?_
      refine Go.on (g' := (mkF m 8 _ [(.int (4 : Int32))])) (fun t_ k_ => XS.iloadN X0.here hx rfl (hb hby d2_7) rfl k_) ?_
      refine Go.on (g' := (mkF m 10 _ [(.int (5 : Int32)), (.int (4 : Int32))])) (fun t_ k_ => XS.iload X0.here hx rfl (hb hby d2_8) rfl k_) ?_
      refine Go.icmp X0 hx hby d2_10 (pcT := 46) (pcF := 13) (by decide) (by decide) rfl (fun q => absurd q (by decide)) (fun q => ?_)
      clear q
      show Go p e below _ _ (mkF m 13 _ [])
      refine Go.on (g' := (mkF m 14 _ [(.int (4 : Int32))])) (fun t_ k_ => XS.iloadN X0.here hx rfl (hb hby d2_13) rfl k_) ?_
      refine Go.on (g' := (mkF m 16 _ [(.int (5 : Int32)), (.int (4 : Int32))])) (fun t_ k_ => XS.iload X0.here hx rfl (hb hby d2_14) rfl k_) ?_
      refine Go.on (g' := (mkF m 17 _ [(.int ((4 : Int32) + (5 : Int32)))])) (fun t_ k_ => XS.iadd X0.here hx rfl (hb hby d2_16) rfl k_) ?_
      rw [show ((4 : Int32) + (5 : Int32)) = (9 : Int32) from by decide]
      refine Go.on (g' := (mkF m 18 _ [(.int (1 : Int32)), (.int (9 : Int32))])) (fun t_ k_ => XS.iconst X0.here hx rfl (hb hby d2_17) k_) ?_
      refine Go.on (g' := (mkF m 19 _ [(.int ((9 : Int32) + (1 : Int32)))])) (fun t_ k_ => XS.iadd X0.here hx rfl (hb hby d2_18) rfl k_) ?_
      rw [show ((9 : Int32) + (1 : Int32)) = (10 : Int32) from by decide]
      refine Go.on (g' := (mkF m 20 _ [(.int (1 : Int32)), (.int (10 : Int32))])) (fun t_ k_ => XS.iconst X0.here hx rfl (hb hby d2_19) k_) ?_
      refine Go.on (g' := (mkF m 21 _ [(.int (XT.ushr (10 : Int32) (1 : Int32)))])) (fun t_ k_ => XT.iushr X0.here hx rfl (hb hby d2_20) rfl k_) ?_
      rw [show (XT.ushr (10 : Int32) (1 : Int32)) = (5 : Int32) from by decide]
      refine Go.on (g' := (mkF m 23 #[.val (.ref a), .val (.int (6 : Int32)), .val (.int v), .val (.int (4 : Int32)), .val (.int (5 : Int32)), .val (.int (5 : Int32))] [])) (fun t_ k_ => XS.istore X0.here hx rfl (hb hby d2_21) rfl (l' := #[.val (.ref a), .val (.int (6 : Int32)), .val (.int v), .val (.int (4 : Int32)), .val (.int (5 : Int32)), .val (.int (5 : Int32))]) rfl k_) ?_
      refine Go.on (g' := (mkF m 24 _ [(.ref a)])) (fun t_ k_ => XS.aloadN X0.here hx rfl (hb hby d2_23) rfl rfl k_) ?_
      refine Go.on (g' := (mkF m 26 _ [(.int (5 : Int32)), (.ref a)])) (fun t_ k_ => XS.iload X0.here hx rfl (hb hby d2_24) rfl k_) ?_
      refine Go.on (g' := (mkF m 27 _ [(.int f5)])) (X0.iaload hx (j := (5 : Int32)) (v := (.int f5)) (by rw [e0]; exact A0.1) (State.isArrayOf_alike hZ.alike A0.2.1) A0.2.2 (by rw [hsz]; decide) hk5 (g := (mkF m 26 #[.val (.ref a), .val (.int (6 : Int32)), .val (.int v), .val (.int (4 : Int32)), .val (.int (5 : Int32)), .val (.int (5 : Int32))] [(.int (5 : Int32)), (.ref a)])) rfl rfl (hb hby d2_26)) ?_
      refine Go.on (g' := (mkF m 28 _ [(.int v), (.int f5)])) (fun t_ k_ => XS.iloadN X0.here hx rfl (hb hby d2_27) rfl k_) ?_
      refine Go.icmp X0 hx hby d2_28 (pcT := 37) (pcF := 31) (by decide) (by decide) rfl (fun q => ?_) (fun q => ?_)
      · have q5 := iGt.1 q
        clear q
        show Go p e below _ _ (mkF m 37 _ [])
        refine Go.on (g' := (mkF m 39 _ [(.int (5 : Int32))])) (fun t_ k_ => XS.iload X0.here hx rfl (hb hby d2_37) rfl k_) ?_
        refine Go.on (g' := (mkF m 40 _ [(.int (1 : Int32)), (.int (5 : Int32))])) (fun t_ k_ => XS.iconst X0.here hx rfl (hb hby d2_39) k_) ?_
        refine Go.on (g' := (mkF m 41 _ [(.int ((5 : Int32) - (1 : Int32)))])) (fun t_ k_ => XS.isub X0.here hx rfl (hb hby d2_40) rfl k_) ?_
        rw [show ((5 : Int32) - (1 : Int32)) = (4 : Int32) from by decide]
        refine Go.on (g' := (mkF m 43 #[.val (.ref a), .val (.int (6 : Int32)), .val (.int v), .val (.int (4 : Int32)), .val (.int (4 : Int32)), .val (.int (5 : Int32))] [])) (fun t_ k_ => XS.istore X0.here hx rfl (hb hby d2_41) rfl (l' := #[.val (.ref a), .val (.int (6 : Int32)), .val (.int v), .val (.int (4 : Int32)), .val (.int (4 : Int32)), .val (.int (5 : Int32))]) rfl k_) ?_
        refine Go.on (g' := (mkF m 7 _ [])) (fun t_ k_ => XS.goto X0.here hx rfl (pc0 := 43) (pc' := 7) rfl (hb hby d2_43) (by decide) (by decide) k_) ?_
        refine Go.on (g' := (mkF m 8 _ [(.int (4 : Int32))])) (fun t_ k_ => XS.iloadN X0.here hx rfl (hb hby d2_7) rfl k_) ?_
        refine Go.on (g' := (mkF m 10 _ [(.int (4 : Int32)), (.int (4 : Int32))])) (fun t_ k_ => XS.iload X0.here hx rfl (hb hby d2_8) rfl k_) ?_
        refine Go.icmp X0 hx hby d2_10 (pcT := 46) (pcF := 13) (by decide) (by decide) rfl (fun q => ?_) (fun q => absurd q (by decide))
        clear q
        show Go p e below _ _ (mkF m 46 _ [])
        refine Go.on (g' := (mkF m 47 _ [(.int (4 : Int32))])) (fun t_ k_ => XS.iloadN X0.here hx rfl (hb hby d2_46) rfl k_) ?_
        exact Go.retI X0 hx hlk hret hby d2_47 rfl (by simp) (by decide) (by decide) ⟨congrArg (fun z => some (Value.int z)) (by simp only [Int32.lt_iff_toInt_lt] at q1 q4 q5 s2 s3 s4 s5; unfold own_e6; simp only [Int32.lt_iff_toInt_lt]; (repeat' split) <;> first | rfl | (exfalso; omega)), rfl, e0⟩
      · have q5 := iGt.2 q
        clear q
        show Go p e below _ _ (mkF m 31 _ [])
        refine Go.on (g' := (mkF m 33 _ [(.int (5 : Int32))])) (fun t_ k_ => XS.iload X0.here hx rfl (hb hby d2_31) rfl k_) ?_
        refine Go.on (g' := (mkF m 34 #[.val (.ref a), .val (.int (6 : Int32)), .val (.int v), .val (.int (5 : Int32)), .val (.int (5 : Int32)), .val (.int (5 : Int32))] [])) (fun t_ k_ => XS.istoreN X0.here hx rfl (hb hby d2_33) rfl (l' := #[.val (.ref a), .val (.int (6 : Int32)), .val (.int v), .val (.int (5 : Int32)), .val (.int (5 : Int32)), .val (.int (5 : Int32))]) rfl k_) ?_
        refine Go.on (g' := (mkF m 43 _ [])) (fun t_ k_ => XS.goto X0.here hx rfl (pc0 := 34) (pc' := 43) rfl (hb hby d2_34) (by decide) (by decide) k_) ?_
        refine Go.on (g' := (mkF m 7 _ [])) (fun t_ k_ => XS.goto X0.here hx rfl (pc0 := 43) (pc' := 7) rfl (hb hby d2_43) (by decide) (by decide) k_) ?_
        refine Go.on (g' := (mkF m 8 _ [(.int (5 : Int32))])) (fun t_ k_ => XS.iloadN X0.here hx rfl (hb hby d2_7) rfl k_) ?_
        refine Go.on (g' := (mkF m 10 _ [(.int (5 : Int32)), (.int (5 : Int32))])) (fun t_ k_ => XS.iload X0.here hx rfl (hb hby d2_8) rfl k_) ?_
        refine Go.icmp X0 hx hby d2_10 (pcT := 46) (pcF := 13) (by decide) (by decide) rfl (fun q => ?_) (fun q => absurd q (by decide))
        clear q
        show Go p e below _ _ (mkF m 46 _ [])
        refine Go.on (g' := (mkF m 47 _ [(.int (5 : Int32))])) (fun t_ k_ => XS.iloadN X0.here hx rfl (hb hby d2_46) rfl k_) ?_
        exact Go.retI X0 hx hlk hret hby d2_47 rfl (by simp) (by decide) (by decide) ⟨congrArg (fun z => some (Value.int z)) (by simp only [Int32.lt_iff_toInt_lt] at q1 q4 q5 s2 s3 s4 s5; unfold own_e6; simp only [Int32.lt_iff_toInt_lt]; (repeat' split) <;> first | rfl | (exfalso; omega)), rfl, e0⟩
def own_Q0 (n0 : Nat) (v : Option Value) (h : Heap) (L : List Loc) : Prop := v = some (.int 1) ∧ Fr n0 L
set_option maxRecDepth 65536 in
set_option maxHeartbeats 40000000 in
theorem tl0 (l : Launch) (Z : State) (w0 : Array Value) (hw : ∀ d ∈ tables_1, d.before w0 Z = true) (ws : List Jvm.Cond) (p0 p1 p2 : Int64) (p3 p4 c0 c1 c2 c3 c4 c5 : Int32) (p : Program) (e : Env) (s : State) (m : MethodId) (below : List Frame) (meth : Method) (c : Code) (T0 : State) (locs : List Loc) (X0 : Stand p l e room_1 s m #[.long p0, .long p1, .long p2, .int p3, .int p4] below meth c T0 locs 1 7) (hx : p.tables.exec = Jvm.exec) (hby : c.code = code) (hml : c.maxLocals = maxLocals) (hret : meth.sig.returnType = ret) (hlk : meth.locks = false) (hown : s.vm.findClass "com/example/loomtrace/loomtrace/model/IntSortLastAtMostPinLaw" = some m.cls) (hZ : Z.Warmed39 s.vm) (h0 : Heap) (e0 : T0.heap = h0) (n0 : Nat) (N0 : Fr n0 locs) (a : Addr) (cl : Cell) (A0 : Arr Z h0 a cl .int) (hsz : cl.slots.size = 7)   : Go p e below (EndK s (own_Q0 n0) room_1.cells room_1.slots) T0 (mkF m 184 #[.val (.long p0), .second, .val (.long p1), .second, .val (.long p2), .second, .val (.int p3), .val (.int p4), .val (.int (0 : Int32)), .val (.int c0), .val (.int c1), .val (.int c2), .val (.int c3), .val (.int c4), .val (.int c5), .val (.ref a), .unset] []) := by
  refine Go.on (g' := (mkF m 185 _ [(.int (0 : Int32))])) (fun t_ k_ => XS.iconst X0.here hx rfl (hb hby at_184) k_) ?_
  refine Go.on (g' := (mkF m 187 #[.val (.long p0), .second, .val (.long p1), .second, .val (.long p2), .second, .val (.int p3), .val (.int p4), .val (.int (0 : Int32)), .val (.int c0), .val (.int c1), .val (.int c2), .val (.int c3), .val (.int c4), .val (.int c5), .val (.ref a), .val (.int (0 : Int32))] [])) (fun t_ k_ => XS.istore X0.here hx rfl (hb hby at_185) rfl (l' := #[.val (.long p0), .second, .val (.long p1), .second, .val (.long p2), .second, .val (.int p3), .val (.int p4), .val (.int (0 : Int32)), .val (.int c0), .val (.int c1), .val (.int c2), .val (.int c3), .val (.int c4), .val (.int c5), .val (.ref a), .val (.int (0 : Int32))]) rfl k_) ?_
  refine Go.on (g' := (mkF m 189 _ [(.int (0 : Int32))])) (fun t_ k_ => XS.iload X0.here hx rfl (hb hby at_187) rfl k_) ?_
  refine Go.on (g' := (mkF m 190 _ [(.int (1 : Int32)), (.int (0 : Int32))])) (fun t_ k_ => XS.iconst X0.here hx rfl (hb hby at_189) k_) ?_
  refine Go.icmp X0 hx hby at_190 (pcT := 203) (pcF := 193) (by decide) (by decide) rfl (fun q => ?_) (fun q => absurd q (by decide))
  clear q
  show Go p e below _ _ (mkF m 203 _ [])
  refine Go.on (g' := (mkF m 205 _ [(.int (0 : Int32))])) (fun t_ k_ => XS.iload X0.here hx rfl (hb hby at_203) rfl k_) ?_
  refine Go.on (g' := (mkF m 206 _ [(.int (2 : Int32)), (.int (0 : Int32))])) (fun t_ k_ => XS.iconst X0.here hx rfl (hb hby at_205) k_) ?_
  refine Go.icmp X0 hx hby at_206 (pcT := 219) (pcF := 209) (by decide) (by decide) rfl (fun q => ?_) (fun q => absurd q (by decide))
  clear q
  show Go p e below _ _ (mkF m 219 _ [])
  refine Go.on (g' := (mkF m 221 _ [(.int (0 : Int32))])) (fun t_ k_ => XS.iload X0.here hx rfl (hb hby at_219) rfl k_) ?_
  refine Go.on (g' := (mkF m 222 _ [(.int (3 : Int32)), (.int (0 : Int32))])) (fun t_ k_ => XS.iconst X0.here hx rfl (hb hby at_221) k_) ?_
  refine Go.icmp X0 hx hby at_222 (pcT := 235) (pcF := 225) (by decide) (by decide) rfl (fun q => ?_) (fun q => absurd q (by decide))
  clear q
  show Go p e below _ _ (mkF m 235 _ [])
  refine Go.on (g' := (mkF m 237 _ [(.int (0 : Int32))])) (fun t_ k_ => XS.iload X0.here hx rfl (hb hby at_235) rfl k_) ?_
  refine Go.on (g' := (mkF m 238 _ [(.int (4 : Int32)), (.int (0 : Int32))])) (fun t_ k_ => XS.iconst X0.here hx rfl (hb hby at_237) k_) ?_
  refine Go.icmp X0 hx hby at_238 (pcT := 251) (pcF := 241) (by decide) (by decide) rfl (fun q => ?_) (fun q => absurd q (by decide))
  clear q
  show Go p e below _ _ (mkF m 251 _ [])
  refine Go.on (g' := (mkF m 253 _ [(.int (0 : Int32))])) (fun t_ k_ => XS.iload X0.here hx rfl (hb hby at_251) rfl k_) ?_
  refine Go.on (g' := (mkF m 254 _ [(.int (5 : Int32)), (.int (0 : Int32))])) (fun t_ k_ => XS.iconst X0.here hx rfl (hb hby at_253) k_) ?_
  refine Go.icmp X0 hx hby at_254 (pcT := 267) (pcF := 257) (by decide) (by decide) rfl (fun q => ?_) (fun q => absurd q (by decide))
  clear q
  show Go p e below _ _ (mkF m 267 _ [])
  refine Go.on (g' := (mkF m 269 _ [(.ref a)])) (fun t_ k_ => XS.aload X0.here hx rfl (hb hby at_267) rfl rfl k_) ?_
  refine Go.on (g' := (mkF m 271 _ [(.int (0 : Int32)), (.ref a)])) (fun t_ k_ => XS.iload X0.here hx rfl (hb hby at_269) rfl k_) ?_
  refine Go.on (g' := (mkF m 273 _ [(.int p3), (.int (0 : Int32)), (.ref a)])) (fun t_ k_ => XS.iload X0.here hx rfl (hb hby at_271) rfl k_) ?_
  refine Go.callS X0 hx hZ hby (by rw [hml]; rfl) (y := (⟨"com/example/loomtrace/loomtrace/model/IntSort", "lastAtMost", "([III)I"⟩ : MethodName)) hown (hw _ (List.mem_of_getElem? (i := 7) rfl)) (hw _ (List.mem_of_getElem? (i := 8) rfl)) (hw _ (List.mem_of_getElem? (i := 9) rfl)) (hw _ (List.mem_of_getElem? (i := 10) rfl)) (by decide) (argsL := [(.ref a), (.int (0 : Int32)), (.int p3)]) (rest := []) (rmL0 l Z w0 hw [] a p3 h0 cl A0 hsz  ) e0 0 (by decide) (by decide) (by decide) (by decide) rfl pdL rfl (Nat.le_of_eq rfl) at_273 (pcF := 276) rfl ?_
  intro v1 T1 L1 X1 hQ1
  obtain ⟨rfl, rfl, e1⟩ := hQ1
  rw [List.append_nil] at X1
  show Go p e below _ _ (mkF m 276 _ [(.int (0 : Int32))])
  refine Go.on (g' := (mkF m 278 _ [(.int (0 : Int32)), (.int (0 : Int32))])) (fun t_ k_ => XS.iload X1.here hx rfl (hb hby at_276) rfl k_) ?_
  refine Go.icmp X1 hx hby at_278 (pcT := 285) (pcF := 281) (by decide) (by decide) rfl (fun q => absurd q (by decide)) (fun q => ?_)
  clear q
  show Go p e below _ _ (mkF m 281 _ [])
  refine Go.on (g' := (mkF m 282 _ [(.int (1 : Int32))])) (fun t_ k_ => XS.iconst X1.here hx rfl (hb hby at_281) k_) ?_
  refine Go.on (g' := (mkF m 286 _ [(.int (1 : Int32))])) (fun t_ k_ => XS.goto X1.here hx rfl (pc0 := 282) (pc' := 286) rfl (hb hby at_282) (by decide) (by decide) k_) ?_
  exact Go.retI X1 hx hlk hret hby at_286 rfl (by simp) (by decide) (by decide) ⟨rfl, N0⟩
set_option maxRecDepth 65536 in
set_option maxHeartbeats 40000000 in
theorem tl1 (l : Launch) (Z : State) (w0 : Array Value) (hw : ∀ d ∈ tables_1, d.before w0 Z = true) (ws : List Jvm.Cond) (p0 p1 p2 : Int64) (p3 p4 c0 c1 c2 c3 c4 c5 : Int32) (p : Program) (e : Env) (s : State) (m : MethodId) (below : List Frame) (meth : Method) (c : Code) (T0 : State) (locs : List Loc) (X0 : Stand p l e room_1 s m #[.long p0, .long p1, .long p2, .int p3, .int p4] below meth c T0 locs 1 7) (hx : p.tables.exec = Jvm.exec) (hby : c.code = code) (hml : c.maxLocals = maxLocals) (hret : meth.sig.returnType = ret) (hlk : meth.locks = false) (hown : s.vm.findClass "com/example/loomtrace/loomtrace/model/IntSortLastAtMostPinLaw" = some m.cls) (hZ : Z.Warmed39 s.vm) (h0 : Heap) (e0 : T0.heap = h0) (n0 : Nat) (N0 : Fr n0 locs) (a : Addr) (cl : Cell) (A0 : Arr Z h0 a cl .int) (hsz : cl.slots.size = 7)   : Go p e below (EndK s (own_Q0 n0) room_1.cells room_1.slots) T0 (mkF m 184 #[.val (.long p0), .second, .val (.long p1), .second, .val (.long p2), .second, .val (.int p3), .val (.int p4), .val (.int (1 : Int32)), .val (.int c0), .val (.int c1), .val (.int c2), .val (.int c3), .val (.int c4), .val (.int c5), .val (.ref a), .unset] []) := by
  refine Go.on (g' := (mkF m 185 _ [(.int (0 : Int32))])) (fun t_ k_ => XS.iconst X0.here hx rfl (hb hby at_184) k_) ?_
  refine Go.on (g' := (mkF m 187 #[.val (.long p0), .second, .val (.long p1), .second, .val (.long p2), .second, .val (.int p3), .val (.int p4), .val (.int (1 : Int32)), .val (.int c0), .val (.int c1), .val (.int c2), .val (.int c3), .val (.int c4), .val (.int c5), .val (.ref a), .val (.int (0 : Int32))] [])) (fun t_ k_ => XS.istore X0.here hx rfl (hb hby at_185) rfl (l' := #[.val (.long p0), .second, .val (.long p1), .second, .val (.long p2), .second, .val (.int p3), .val (.int p4), .val (.int (1 : Int32)), .val (.int c0), .val (.int c1), .val (.int c2), .val (.int c3), .val (.int c4), .val (.int c5), .val (.ref a), .val (.int (0 : Int32))]) rfl k_) ?_
  refine Go.on (g' := (mkF m 189 _ [(.int (1 : Int32))])) (fun t_ k_ => XS.iload X0.here hx rfl (hb hby at_187) rfl k_) ?_
  refine Go.on (g' := (mkF m 190 _ [(.int (1 : Int32)), (.int (1 : Int32))])) (fun t_ k_ => XS.iconst X0.here hx rfl (hb hby at_189) k_) ?_
  refine Go.icmp X0 hx hby at_190 (pcT := 203) (pcF := 193) (by decide) (by decide) rfl (fun q => ?_) (fun q => absurd q (by decide))
  clear q
  show Go p e below _ _ (mkF m 203 _ [])
  refine Go.on (g' := (mkF m 205 _ [(.int (1 : Int32))])) (fun t_ k_ => XS.iload X0.here hx rfl (hb hby at_203) rfl k_) ?_
  refine Go.on (g' := (mkF m 206 _ [(.int (2 : Int32)), (.int (1 : Int32))])) (fun t_ k_ => XS.iconst X0.here hx rfl (hb hby at_205) k_) ?_
  refine Go.icmp X0 hx hby at_206 (pcT := 219) (pcF := 209) (by decide) (by decide) rfl (fun q => ?_) (fun q => absurd q (by decide))
  clear q
  show Go p e below _ _ (mkF m 219 _ [])
  refine Go.on (g' := (mkF m 221 _ [(.int (1 : Int32))])) (fun t_ k_ => XS.iload X0.here hx rfl (hb hby at_219) rfl k_) ?_
  refine Go.on (g' := (mkF m 222 _ [(.int (3 : Int32)), (.int (1 : Int32))])) (fun t_ k_ => XS.iconst X0.here hx rfl (hb hby at_221) k_) ?_
  refine Go.icmp X0 hx hby at_222 (pcT := 235) (pcF := 225) (by decide) (by decide) rfl (fun q => ?_) (fun q => absurd q (by decide))
  clear q
  show Go p e below _ _ (mkF m 235 _ [])
  refine Go.on (g' := (mkF m 237 _ [(.int (1 : Int32))])) (fun t_ k_ => XS.iload X0.here hx rfl (hb hby at_235) rfl k_) ?_
  refine Go.on (g' := (mkF m 238 _ [(.int (4 : Int32)), (.int (1 : Int32))])) (fun t_ k_ => XS.iconst X0.here hx rfl (hb hby at_237) k_) ?_
  refine Go.icmp X0 hx hby at_238 (pcT := 251) (pcF := 241) (by decide) (by decide) rfl (fun q => ?_) (fun q => absurd q (by decide))
  clear q
  show Go p e below _ _ (mkF m 251 _ [])
  refine Go.on (g' := (mkF m 253 _ [(.int (1 : Int32))])) (fun t_ k_ => XS.iload X0.here hx rfl (hb hby at_251) rfl k_) ?_
  refine Go.on (g' := (mkF m 254 _ [(.int (5 : Int32)), (.int (1 : Int32))])) (fun t_ k_ => XS.iconst X0.here hx rfl (hb hby at_253) k_) ?_
  refine Go.icmp X0 hx hby at_254 (pcT := 267) (pcF := 257) (by decide) (by decide) rfl (fun q => ?_) (fun q => absurd q (by decide))
  clear q
  show Go p e below _ _ (mkF m 267 _ [])
  refine Go.on (g' := (mkF m 269 _ [(.ref a)])) (fun t_ k_ => XS.aload X0.here hx rfl (hb hby at_267) rfl rfl k_) ?_
  refine Go.on (g' := (mkF m 271 _ [(.int (1 : Int32)), (.ref a)])) (fun t_ k_ => XS.iload X0.here hx rfl (hb hby at_269) rfl k_) ?_
  refine Go.on (g' := (mkF m 273 _ [(.int p3), (.int (1 : Int32)), (.ref a)])) (fun t_ k_ => XS.iload X0.here hx rfl (hb hby at_271) rfl k_) ?_
  refine Go.callS X0 hx hZ hby (by rw [hml]; rfl) (y := (⟨"com/example/loomtrace/loomtrace/model/IntSort", "lastAtMost", "([III)I"⟩ : MethodName)) hown (hw _ (List.mem_of_getElem? (i := 7) rfl)) (hw _ (List.mem_of_getElem? (i := 8) rfl)) (hw _ (List.mem_of_getElem? (i := 9) rfl)) (hw _ (List.mem_of_getElem? (i := 10) rfl)) (by decide) (argsL := [(.ref a), (.int (1 : Int32)), (.int p3)]) (rest := []) (rmL1 l Z w0 hw [] a p3 h0 cl A0 hsz  ) e0 0 (by decide) (by decide) (by decide) (by decide) rfl pdL rfl (Nat.le_of_eq rfl) at_273 (pcF := 276) rfl ?_
  intro v1 T1 L1 X1 hQ1
  obtain ⟨rfl, rfl, e1⟩ := hQ1
  rw [List.append_nil] at X1
  show Go p e below _ _ (mkF m 276 _ [(.int (0 : Int32))])
  refine Go.on (g' := (mkF m 278 _ [(.int (0 : Int32)), (.int (0 : Int32))])) (fun t_ k_ => XS.iload X1.here hx rfl (hb hby at_276) rfl k_) ?_
  refine Go.icmp X1 hx hby at_278 (pcT := 285) (pcF := 281) (by decide) (by decide) rfl (fun q => absurd q (by decide)) (fun q => ?_)
  clear q
  show Go p e below _ _ (mkF m 281 _ [])
  refine Go.on (g' := (mkF m 282 _ [(.int (1 : Int32))])) (fun t_ k_ => XS.iconst X1.here hx rfl (hb hby at_281) k_) ?_
  refine Go.on (g' := (mkF m 286 _ [(.int (1 : Int32))])) (fun t_ k_ => XS.goto X1.here hx rfl (pc0 := 282) (pc' := 286) rfl (hb hby at_282) (by decide) (by decide) k_) ?_
  exact Go.retI X1 hx hlk hret hby at_286 rfl (by simp) (by decide) (by decide) ⟨rfl, N0⟩
set_option maxRecDepth 65536 in
set_option maxHeartbeats 40000000 in
theorem tl2 (l : Launch) (Z : State) (w0 : Array Value) (hw : ∀ d ∈ tables_1, d.before w0 Z = true) (ws : List Jvm.Cond) (p0 p1 p2 : Int64) (p3 p4 c0 c1 c2 c3 c4 c5 : Int32) (p : Program) (e : Env) (s : State) (m : MethodId) (below : List Frame) (meth : Method) (c : Code) (T0 : State) (locs : List Loc) (X0 : Stand p l e room_1 s m #[.long p0, .long p1, .long p2, .int p3, .int p4] below meth c T0 locs 1 7) (hx : p.tables.exec = Jvm.exec) (hby : c.code = code) (hml : c.maxLocals = maxLocals) (hret : meth.sig.returnType = ret) (hlk : meth.locks = false) (hown : s.vm.findClass "com/example/loomtrace/loomtrace/model/IntSortLastAtMostPinLaw" = some m.cls) (hZ : Z.Warmed39 s.vm) (h0 : Heap) (e0 : T0.heap = h0) (n0 : Nat) (N0 : Fr n0 locs) (a : Addr) (cl : Cell) (A0 : Arr Z h0 a cl .int) (hsz : cl.slots.size = 7) (hk1 : cl.slots[(1 : Int32).toNatClampNeg]? = some (.int c1))  : Go p e below (EndK s (own_Q0 n0) room_1.cells room_1.slots) T0 (mkF m 184 #[.val (.long p0), .second, .val (.long p1), .second, .val (.long p2), .second, .val (.int p3), .val (.int p4), .val (.int (2 : Int32)), .val (.int c0), .val (.int c1), .val (.int c2), .val (.int c3), .val (.int c4), .val (.int c5), .val (.ref a), .unset] []) := by
  refine Go.on (g' := (mkF m 185 _ [(.int (0 : Int32))])) (fun t_ k_ => XS.iconst X0.here hx rfl (hb hby at_184) k_) ?_
  refine Go.on (g' := (mkF m 187 #[.val (.long p0), .second, .val (.long p1), .second, .val (.long p2), .second, .val (.int p3), .val (.int p4), .val (.int (2 : Int32)), .val (.int c0), .val (.int c1), .val (.int c2), .val (.int c3), .val (.int c4), .val (.int c5), .val (.ref a), .val (.int (0 : Int32))] [])) (fun t_ k_ => XS.istore X0.here hx rfl (hb hby at_185) rfl (l' := #[.val (.long p0), .second, .val (.long p1), .second, .val (.long p2), .second, .val (.int p3), .val (.int p4), .val (.int (2 : Int32)), .val (.int c0), .val (.int c1), .val (.int c2), .val (.int c3), .val (.int c4), .val (.int c5), .val (.ref a), .val (.int (0 : Int32))]) rfl k_) ?_
  refine Go.on (g' := (mkF m 189 _ [(.int (2 : Int32))])) (fun t_ k_ => XS.iload X0.here hx rfl (hb hby at_187) rfl k_) ?_
  refine Go.on (g' := (mkF m 190 _ [(.int (1 : Int32)), (.int (2 : Int32))])) (fun t_ k_ => XS.iconst X0.here hx rfl (hb hby at_189) k_) ?_
  refine Go.icmp X0 hx hby at_190 (pcT := 203) (pcF := 193) (by decide) (by decide) rfl (fun q => absurd q (by decide)) (fun q => ?_)
  clear q
  show Go p e below _ _ (mkF m 193 _ [])
  refine Go.on (g' := (mkF m 195 _ [(.int c1)])) (fun t_ k_ => XS.iload X0.here hx rfl (hb hby at_193) rfl k_) ?_
  refine Go.on (g' := (mkF m 197 _ [(.int p3), (.int c1)])) (fun t_ k_ => XS.iload X0.here hx rfl (hb hby at_195) rfl k_) ?_
  refine Go.icmp X0 hx hby at_197 (pcT := 203) (pcF := 200) (by decide) (by decide) rfl (fun q => ?_) (fun q => ?_)
  · have q1 := iGt.1 q
    clear q
    show Go p e below _ _ (mkF m 203 _ [])
    refine Go.on (g' := (mkF m 205 _ [(.int (2 : Int32))])) (fun t_ k_ => XS.iload X0.here hx rfl (hb hby at_203) rfl k_) ?_
    refine Go.on (g' := (mkF m 206 _ [(.int (2 : Int32)), (.int (2 : Int32))])) (fun t_ k_ => XS.iconst X0.here hx rfl (hb hby at_205) k_) ?_
    refine Go.icmp X0 hx hby at_206 (pcT := 219) (pcF := 209) (by decide) (by decide) rfl (fun q => ?_) (fun q => absurd q (by decide))
    clear q
    show Go p e below _ _ (mkF m 219 _ [])
    refine Go.on (g' := (mkF m 221 _ [(.int (2 : Int32))])) (fun t_ k_ => XS.iload X0.here hx rfl (hb hby at_219) rfl k_) ?_
    refine Go.on (g' := (mkF m 222 _ [(.int (3 : Int32)), (.int (2 : Int32))])) (fun t_ k_ => XS.iconst X0.here hx rfl (hb hby at_221) k_) ?_
    refine Go.icmp X0 hx hby at_222 (pcT := 235) (pcF := 225) (by decide) (by decide) rfl (fun q => ?_) (fun q => absurd q (by decide))
    clear q
    show Go p e below _ _ (mkF m 235 _ [])
    refine Go.on (g' := (mkF m 237 _ [(.int (2 : Int32))])) (fun t_ k_ => XS.iload X0.here hx rfl (hb hby at_235) rfl k_) ?_
    refine Go.on (g' := (mkF m 238 _ [(.int (4 : Int32)), (.int (2 : Int32))])) (fun t_ k_ => XS.iconst X0.here hx rfl (hb hby at_237) k_) ?_
    refine Go.icmp X0 hx hby at_238 (pcT := 251) (pcF := 241) (by decide) (by decide) rfl (fun q => ?_) (fun q => absurd q (by decide))
    clear q
    show Go p e below _ _ (mkF m 251 _ [])
    refine Go.on (g' := (mkF m 253 _ [(.int (2 : Int32))])) (fun t_ k_ => XS.iload X0.here hx rfl (hb hby at_251) rfl k_) ?_
    refine Go.on (g' := (mkF m 254 _ [(.int (5 : Int32)), (.int (2 : Int32))])) (fun t_ k_ => XS.iconst X0.here hx rfl (hb hby at_253) k_) ?_
    refine Go.icmp X0 hx hby at_254 (pcT := 267) (pcF := 257) (by decide) (by decide) rfl (fun q => ?_) (fun q => absurd q (by decide))
    clear q
    show Go p e below _ _ (mkF m 267 _ [])
    refine Go.on (g' := (mkF m 269 _ [(.ref a)])) (fun t_ k_ => XS.aload X0.here hx rfl (hb hby at_267) rfl rfl k_) ?_
    refine Go.on (g' := (mkF m 271 _ [(.int (2 : Int32)), (.ref a)])) (fun t_ k_ => XS.iload X0.here hx rfl (hb hby at_269) rfl k_) ?_
    refine Go.on (g' := (mkF m 273 _ [(.int p3), (.int (2 : Int32)), (.ref a)])) (fun t_ k_ => XS.iload X0.here hx rfl (hb hby at_271) rfl k_) ?_
    refine Go.callS X0 hx hZ hby (by rw [hml]; rfl) (y := (⟨"com/example/loomtrace/loomtrace/model/IntSort", "lastAtMost", "([III)I"⟩ : MethodName)) hown (hw _ (List.mem_of_getElem? (i := 7) rfl)) (hw _ (List.mem_of_getElem? (i := 8) rfl)) (hw _ (List.mem_of_getElem? (i := 9) rfl)) (hw _ (List.mem_of_getElem? (i := 10) rfl)) (by decide) (argsL := [(.ref a), (.int (2 : Int32)), (.int p3)]) (rest := []) (rmL2 l Z w0 hw [] a p3 h0 cl A0 hsz c1 hk1 ) e0 0 (by decide) (by decide) (by decide) (by decide) rfl pdL rfl (Nat.le_of_eq rfl) at_273 (pcF := 276) rfl ?_
    intro v1 T1 L1 X1 hQ1
    obtain ⟨rfl, rfl, e1⟩ := hQ1
    rw [List.append_nil] at X1
    show Go p e below _ _ (mkF m 276 _ [(.int (own_e2 c1 p3))])
    refine Go.on (g' := (mkF m 278 _ [(.int (0 : Int32)), (.int (own_e2 c1 p3))])) (fun t_ k_ => XS.iload X1.here hx rfl (hb hby at_276) rfl k_) ?_
    refine Go.icmp X1 hx hby at_278 (pcT := 285) (pcF := 281) (by decide) (by decide) rfl (fun q => absurd q (fun q => (iNe.1 q) (by simp only [Int32.lt_iff_toInt_lt] at q1; unfold own_e2; simp only [Int32.lt_iff_toInt_lt]; (repeat' split) <;> first | rfl | (exfalso; omega)))) (fun q => ?_)
    clear q
    show Go p e below _ _ (mkF m 281 _ [])
    refine Go.on (g' := (mkF m 282 _ [(.int (1 : Int32))])) (fun t_ k_ => XS.iconst X1.here hx rfl (hb hby at_281) k_) ?_
    refine Go.on (g' := (mkF m 286 _ [(.int (1 : Int32))])) (fun t_ k_ => XS.goto X1.here hx rfl (pc0 := 282) (pc' := 286) rfl (hb hby at_282) (by decide) (by decide) k_) ?_
    exact Go.retI X1 hx hlk hret hby at_286 rfl (by simp) (by decide) (by decide) ⟨rfl, N0⟩
  · have q1 := iGt.2 q
    clear q
    show Go p e below _ _ (mkF m 200 _ [])
    refine Go.on (g' := (mkF m 201 _ [(.int (1 : Int32))])) (fun t_ k_ => XS.iconst X0.here hx rfl (hb hby at_200) k_) ?_
    refine Go.on (g' := (mkF m 203 #[.val (.long p0), .second, .val (.long p1), .second, .val (.long p2), .second, .val (.int p3), .val (.int p4), .val (.int (2 : Int32)), .val (.int c0), .val (.int c1), .val (.int c2), .val (.int c3), .val (.int c4), .val (.int c5), .val (.ref a), .val (.int (1 : Int32))] [])) (fun t_ k_ => XS.istore X0.here hx rfl (hb hby at_201) rfl (l' := #[.val (.long p0), .second, .val (.long p1), .second, .val (.long p2), .second, .val (.int p3), .val (.int p4), .val (.int (2 : Int32)), .val (.int c0), .val (.int c1), .val (.int c2), .val (.int c3), .val (.int c4), .val (.int c5), .val (.ref a), .val (.int (1 : Int32))]) rfl k_) ?_
    refine Go.on (g' := (mkF m 205 _ [(.int (2 : Int32))])) (fun t_ k_ => XS.iload X0.here hx rfl (hb hby at_203) rfl k_) ?_
    refine Go.on (g' := (mkF m 206 _ [(.int (2 : Int32)), (.int (2 : Int32))])) (fun t_ k_ => XS.iconst X0.here hx rfl (hb hby at_205) k_) ?_
    refine Go.icmp X0 hx hby at_206 (pcT := 219) (pcF := 209) (by decide) (by decide) rfl (fun q => ?_) (fun q => absurd q (by decide))
    clear q
    show Go p e below _ _ (mkF m 219 _ [])
    refine Go.on (g' := (mkF m 221 _ [(.int (2 : Int32))])) (fun t_ k_ => XS.iload X0.here hx rfl (hb hby at_219) rfl k_) ?_
    refine Go.on (g' := (mkF m 222 _ [(.int (3 : Int32)), (.int (2 : Int32))])) (fun t_ k_ => XS.iconst X0.here hx rfl (hb hby at_221) k_) ?_
    refine Go.icmp X0 hx hby at_222 (pcT := 235) (pcF := 225) (by decide) (by decide) rfl (fun q => ?_) (fun q => absurd q (by decide))
    clear q
    show Go p e below _ _ (mkF m 235 _ [])
    refine Go.on (g' := (mkF m 237 _ [(.int (2 : Int32))])) (fun t_ k_ => XS.iload X0.here hx rfl (hb hby at_235) rfl k_) ?_
    refine Go.on (g' := (mkF m 238 _ [(.int (4 : Int32)), (.int (2 : Int32))])) (fun t_ k_ => XS.iconst X0.here hx rfl (hb hby at_237) k_) ?_
    refine Go.icmp X0 hx hby at_238 (pcT := 251) (pcF := 241) (by decide) (by decide) rfl (fun q => ?_) (fun q => absurd q (by decide))
    clear q
    show Go p e below _ _ (mkF m 251 _ [])
    refine Go.on (g' := (mkF m 253 _ [(.int (2 : Int32))])) (fun t_ k_ => XS.iload X0.here hx rfl (hb hby at_251) rfl k_) ?_
    refine Go.on (g' := (mkF m 254 _ [(.int (5 : Int32)), (.int (2 : Int32))])) (fun t_ k_ => XS.iconst X0.here hx rfl (hb hby at_253) k_) ?_
    refine Go.icmp X0 hx hby at_254 (pcT := 267) (pcF := 257) (by decide) (by decide) rfl (fun q => ?_) (fun q => absurd q (by decide))
    clear q
    show Go p e below _ _ (mkF m 267 _ [])
    refine Go.on (g' := (mkF m 269 _ [(.ref a)])) (fun t_ k_ => XS.aload X0.here hx rfl (hb hby at_267) rfl rfl k_) ?_
    refine Go.on (g' := (mkF m 271 _ [(.int (2 : Int32)), (.ref a)])) (fun t_ k_ => XS.iload X0.here hx rfl (hb hby at_269) rfl k_) ?_
    refine Go.on (g' := (mkF m 273 _ [(.int p3), (.int (2 : Int32)), (.ref a)])) (fun t_ k_ => XS.iload X0.here hx rfl (hb hby at_271) rfl k_) ?_
    refine Go.callS X0 hx hZ hby (by rw [hml]; rfl) (y := (⟨"com/example/loomtrace/loomtrace/model/IntSort", "lastAtMost", "([III)I"⟩ : MethodName)) hown (hw _ (List.mem_of_getElem? (i := 7) rfl)) (hw _ (List.mem_of_getElem? (i := 8) rfl)) (hw _ (List.mem_of_getElem? (i := 9) rfl)) (hw _ (List.mem_of_getElem? (i := 10) rfl)) (by decide) (argsL := [(.ref a), (.int (2 : Int32)), (.int p3)]) (rest := []) (rmL2 l Z w0 hw [] a p3 h0 cl A0 hsz c1 hk1 ) e0 0 (by decide) (by decide) (by decide) (by decide) rfl pdL rfl (Nat.le_of_eq rfl) at_273 (pcF := 276) rfl ?_
    intro v2 T2 L2 X2 hQ2
    obtain ⟨rfl, rfl, e2⟩ := hQ2
    rw [List.append_nil] at X2
    show Go p e below _ _ (mkF m 276 _ [(.int (own_e2 c1 p3))])
    refine Go.on (g' := (mkF m 278 _ [(.int (1 : Int32)), (.int (own_e2 c1 p3))])) (fun t_ k_ => XS.iload X2.here hx rfl (hb hby at_276) rfl k_) ?_
    refine Go.icmp X2 hx hby at_278 (pcT := 285) (pcF := 281) (by decide) (by decide) rfl (fun q => absurd q (fun q => (iNe.1 q) (by simp only [Int32.lt_iff_toInt_lt] at q1; unfold own_e2; simp only [Int32.lt_iff_toInt_lt]; (repeat' split) <;> first | rfl | (exfalso; omega)))) (fun q => ?_)
    clear q
    show Go p e below _ _ (mkF m 281 _ [])
    refine Go.on (g' := (mkF m 282 _ [(.int (1 : Int32))])) (fun t_ k_ => XS.iconst X2.here hx rfl (hb hby at_281) k_) ?_
    refine Go.on (g' := (mkF m 286 _ [(.int (1 : Int32))])) (fun t_ k_ => XS.goto X2.here hx rfl (pc0 := 282) (pc' := 286) rfl (hb hby at_282) (by decide) (by decide) k_) ?_
    exact Go.retI X2 hx hlk hret hby at_286 rfl (by simp) (by decide) (by decide) ⟨rfl, N0⟩
set_option maxRecDepth 65536 in
set_option maxHeartbeats 40000000 in
theorem tl3 (l : Launch) (Z : State) (w0 : Array Value) (hw : ∀ d ∈ tables_1, d.before w0 Z = true) (ws : List Jvm.Cond) (p0 p1 p2 : Int64) (p3 p4 c0 c1 c2 c3 c4 c5 : Int32) (p : Program) (e : Env) (s : State) (m : MethodId) (below : List Frame) (meth : Method) (c : Code) (T0 : State) (locs : List Loc) (X0 : Stand p l e room_1 s m #[.long p0, .long p1, .long p2, .int p3, .int p4] below meth c T0 locs 1 7) (hx : p.tables.exec = Jvm.exec) (hby : c.code = code) (hml : c.maxLocals = maxLocals) (hret : meth.sig.returnType = ret) (hlk : meth.locks = false) (hown : s.vm.findClass "com/example/loomtrace/loomtrace/model/IntSortLastAtMostPinLaw" = some m.cls) (hZ : Z.Warmed39 s.vm) (h0 : Heap) (e0 : T0.heap = h0) (n0 : Nat) (N0 : Fr n0 locs) (a : Addr) (cl : Cell) (A0 : Arr Z h0 a cl .int) (hsz : cl.slots.size = 7) (hk1 : cl.slots[(1 : Int32).toNatClampNeg]? = some (.int c1)) (hk2 : cl.slots[(2 : Int32).toNatClampNeg]? = some (.int c2)) (s2 : ¬ c2 < c1) : Go p e below (EndK s (own_Q0 n0) room_1.cells room_1.slots) T0 (mkF m 184 #[.val (.long p0), .second, .val (.long p1), .second, .val (.long p2), .second, .val (.int p3), .val (.int p4), .val (.int (3 : Int32)), .val (.int c0), .val (.int c1), .val (.int c2), .val (.int c3), .val (.int c4), .val (.int c5), .val (.ref a), .unset] []) := by
  refine Go.on (g' := (mkF m 185 _ [(.int (0 : Int32))])) (fun t_ k_ => XS.iconst X0.here hx rfl (hb hby at_184) k_) ?_
  refine Go.on (g' := (mkF m 187 #[.val (.long p0), .second, .val (.long p1), .second, .val (.long p2), .second, .val (.int p3), .val (.int p4), .val (.int (3 : Int32)), .val (.int c0), .val (.int c1), .val (.int c2), .val (.int c3), .val (.int c4), .val (.int c5), .val (.ref a), .val (.int (0 : Int32))] [])) (fun t_ k_ => XS.istore X0.here hx rfl (hb hby at_185) rfl (l' := #[.val (.long p0), .second, .val (.long p1), .second, .val (.long p2), .second, .val (.int p3), .val (.int p4), .val (.int (3 : Int32)), .val (.int c0), .val (.int c1), .val (.int c2), .val (.int c3), .val (.int c4), .val (.int c5), .val (.ref a), .val (.int (0 : Int32))]) rfl k_) ?_
  refine Go.on (g' := (mkF m 189 _ [(.int (3 : Int32))])) (fun t_ k_ => XS.iload X0.here hx rfl (hb hby at_187) rfl k_) ?_
  refine Go.on (g' := (mkF m 190 _ [(.int (1 : Int32)), (.int (3 : Int32))])) (fun t_ k_ => XS.iconst X0.here hx rfl (hb hby at_189) k_) ?_
  refine Go.icmp X0 hx hby at_190 (pcT := 203) (pcF := 193) (by decide) (by decide) rfl (fun q => absurd q (by decide)) (fun q => ?_)
  clear q
  show Go p e below _ _ (mkF m 193 _ [])
  refine Go.on (g' := (mkF m 195 _ [(.int c1)])) (fun t_ k_ => XS.iload X0.here hx rfl (hb hby at_193) rfl k_) ?_
  refine Go.on (g' := (mkF m 197 _ [(.int p3), (.int c1)])) (fun t_ k_ => XS.iload X0.here hx rfl (hb hby at_195) rfl k_) ?_
  refine Go.icmp X0 hx hby at_197 (pcT := 203) (pcF := 200) (by decide) (by decide) rfl (fun q => ?_) (fun q => ?_)
  · have q1 := iGt.1 q
    clear q
    show Go p e below _ _ (mkF m 203 _ [])
    refine Go.on (g' := (mkF m 205 _ [(.int (3 : Int32))])) (fun t_ k_ => XS.iload X0.here hx rfl (hb hby at_203) rfl k_) ?_
    refine Go.on (g' := (mkF m 206 _ [(.int (2 : Int32)), (.int (3 : Int32))])) (fun t_ k_ => XS.iconst X0.here hx rfl (hb hby at_205) k_) ?_
    refine Go.icmp X0 hx hby at_206 (pcT := 219) (pcF := 209) (by decide) (by decide) rfl (fun q => absurd q (by decide)) (fun q => ?_)
    clear q
    show Go p e below _ _ (mkF m 209 _ [])
    refine Go.on (g' := (mkF m 211 _ [(.int c2)])) (fun t_ k_ => XS.iload X0.here hx rfl (hb hby at_209) rfl k_) ?_
    refine Go.on (g' := (mkF m 213 _ [(.int p3), (.int c2)])) (fun t_ k_ => XS.iload X0.here hx rfl (hb hby at_211) rfl k_) ?_
    refine Go.icmp X0 hx hby at_213 (pcT := 219) (pcF := 216) (by decide) (by decide) rfl (fun q => ?_) (fun q => ?_)
    · have q2 := iGt.1 q
      clear q
      show Go p e below _ _ (mkF m 219 _ [])
      refine Go.on (g' := (mkF m 221 _ [(.int (3 : Int32))])) (fun t_ k_ => XS.iload X0.here hx rfl (hb hby at_219) rfl k_) ?_
      refine Go.on (g' := (mkF m 222 _ [(.int (3 : Int32)), (.int (3 : Int32))])) (fun t_ k_ => XS.iconst X0.here hx rfl (hb hby at_221) k_) ?_
      refine Go.icmp X0 hx hby at_222 (pcT := 235) (pcF := 225) (by decide) (by decide) rfl (fun q => ?_) (fun q => absurd q (by decide))
      clear q
      show Go p e below _ _ (mkF m 235 _ [])
      refine Go.on (g' := (mkF m 237 _ [(.int (3 : Int32))])) (fun t_ k_ => XS.iload X0.here hx rfl (hb hby at_235) rfl k_) ?_
      refine Go.on (g' := (mkF m 238 _ [(.int (4 : Int32)), (.int (3 : Int32))])) (fun t_ k_ => XS.iconst X0.here hx rfl (hb hby at_237) k_) ?_
      refine Go.icmp X0 hx hby at_238 (pcT := 251) (pcF := 241) (by decide) (by decide) rfl (fun q => ?_) (fun q => absurd q (by decide))
      clear q
      show Go p e below _ _ (mkF m 251 _ [])
      refine Go.on (g' := (mkF m 253 _ [(.int (3 : Int32))])) (fun t_ k_ => XS.iload X0.here hx rfl (hb hby at_251) rfl k_) ?_
      refine Go.on (g' := (mkF m 254 _ [(.int (5 : Int32)), (.int (3 : Int32))])) (fun t_ k_ => XS.iconst X0.here hx rfl (hb hby at_253) k_) ?_
      refine Go.icmp X0 hx hby at_254 (pcT := 267) (pcF := 257) (by decide) (by decide) rfl (fun q => ?_) (fun q => absurd q (by decide))
      clear q
      show Go p e below _ _ (mkF m 267 _ [])
      refine Go.on (g' := (mkF m 269 _ [(.ref a)])) (fun t_ k_ => XS.aload X0.here hx rfl (hb hby at_267) rfl rfl k_) ?_
      refine Go.on (g' := (mkF m 271 _ [(.int (3 : Int32)), (.ref a)])) (fun t_ k_ => XS.iload X0.here hx rfl (hb hby at_269) rfl k_) ?_
      refine Go.on (g' := (mkF m 273 _ [(.int p3), (.int (3 : Int32)), (.ref a)])) (fun t_ k_ => XS.iload X0.here hx rfl (hb hby at_271) rfl k_) ?_
      refine Go.callS X0 hx hZ hby (by rw [hml]; rfl) (y := (⟨"com/example/loomtrace/loomtrace/model/IntSort", "lastAtMost", "([III)I"⟩ : MethodName)) hown (hw _ (List.mem_of_getElem? (i := 7) rfl)) (hw _ (List.mem_of_getElem? (i := 8) rfl)) (hw _ (List.mem_of_getElem? (i := 9) rfl)) (hw _ (List.mem_of_getElem? (i := 10) rfl)) (by decide) (argsL := [(.ref a), (.int (3 : Int32)), (.int p3)]) (rest := []) (rmL3 l Z w0 hw [] a p3 h0 cl A0 hsz c1 hk1 c2 hk2 s2) e0 0 (by decide) (by decide) (by decide) (by decide) rfl pdL rfl (Nat.le_of_eq rfl) at_273 (pcF := 276) rfl ?_
      intro v1 T1 L1 X1 hQ1
      obtain ⟨rfl, rfl, e1⟩ := hQ1
      rw [List.append_nil] at X1
      show Go p e below _ _ (mkF m 276 _ [(.int (own_e3 c1 c2 p3))])
      refine Go.on (g' := (mkF m 278 _ [(.int (0 : Int32)), (.int (own_e3 c1 c2 p3))])) (fun t_ k_ => XS.iload X1.here hx rfl (hb hby at_276) rfl k_) ?_
      refine Go.icmp X1 hx hby at_278 (pcT := 285) (pcF := 281) (by decide) (by decide) rfl (fun q => absurd q (fun q => (iNe.1 q) (by simp only [Int32.lt_iff_toInt_lt] at q1 q2 s2; unfold own_e3; simp only [Int32.lt_iff_toInt_lt]; (repeat' split) <;> first | rfl | (exfalso; omega)))) (fun q => ?_)
      clear q
      show Go p e below _ _ (mkF m 281 _ [])
      refine Go.on (g' := (mkF m 282 _ [(.int (1 : Int32))])) (fun t_ k_ => XS.iconst X1.here hx rfl (hb hby at_281) k_) ?_
      refine Go.on (g' := (mkF m 286 _ [(.int (1 : Int32))])) (fun t_ k_ => XS.goto X1.here hx rfl (pc0 := 282) (pc' := 286) rfl (hb hby at_282) (by decide) (by decide) k_) ?_
      exact Go.retI X1 hx hlk hret hby at_286 rfl (by simp) (by decide) (by decide) ⟨rfl, N0⟩
    · have q2 := iGt.2 q
      clear q
      show Go p e below _ _ (mkF m 216 _ [])
      refine Go.on (g' := (mkF m 217 _ [(.int (2 : Int32))])) (fun t_ k_ => XS.iconst X0.here hx rfl (hb hby at_216) k_) ?_
      refine Go.on (g' := (mkF m 219 #[.val (.long p0), .second, .val (.long p1), .second, .val (.long p2), .second, .val (.int p3), .val (.int p4), .val (.int (3 : Int32)), .val (.int c0), .val (.int c1), .val (.int c2), .val (.int c3), .val (.int c4), .val (.int c5), .val (.ref a), .val (.int (2 : Int32))] [])) (fun t_ k_ => XS.istore X0.here hx rfl (hb hby at_217) rfl (l' := #[.val (.long p0), .second, .val (.long p1), .second, .val (.long p2), .second, .val (.int p3), .val (.int p4), .val (.int (3 : Int32)), .val (.int c0), .val (.int c1), .val (.int c2), .val (.int c3), .val (.int c4), .val (.int c5), .val (.ref a), .val (.int (2 : Int32))]) rfl k_) ?_
      refine Go.on (g' := (mkF m 221 _ [(.int (3 : Int32))])) (fun t_ k_ => XS.iload X0.here hx rfl (hb hby at_219) rfl k_) ?_
      refine Go.on (g' := (mkF m 222 _ [(.int (3 : Int32)), (.int (3 : Int32))])) (fun t_ k_ => XS.iconst X0.here hx rfl (hb hby at_221) k_) ?_
      refine Go.icmp X0 hx hby at_222 (pcT := 235) (pcF := 225) (by decide) (by decide) rfl (fun q => ?_) (fun q => absurd q (by decide))
      clear q
      show Go p e below _ _ (mkF m 235 _ [])
      refine Go.on (g' := (mkF m 237 _ [(.int (3 : Int32))])) (fun t_ k_ => XS.iload X0.here hx rfl (hb hby at_235) rfl k_) ?_
      refine Go.on (g' := (mkF m 238 _ [(.int (4 : Int32)), (.int (3 : Int32))])) (fun t_ k_ => XS.iconst X0.here hx rfl (hb hby at_237) k_) ?_
      refine Go.icmp X0 hx hby at_238 (pcT := 251) (pcF := 241) (by decide) (by decide) rfl (fun q => ?_) (fun q => absurd q (by decide))
      clear q
      show Go p e below _ _ (mkF m 251 _ [])
      refine Go.on (g' := (mkF m 253 _ [(.int (3 : Int32))])) (fun t_ k_ => XS.iload X0.here hx rfl (hb hby at_251) rfl k_) ?_
      refine Go.on (g' := (mkF m 254 _ [(.int (5 : Int32)), (.int (3 : Int32))])) (fun t_ k_ => XS.iconst X0.here hx rfl (hb hby at_253) k_) ?_
      refine Go.icmp X0 hx hby at_254 (pcT := 267) (pcF := 257) (by decide) (by decide) rfl (fun q => ?_) (fun q => absurd q (by decide))
      clear q
      show Go p e below _ _ (mkF m 267 _ [])
      refine Go.on (g' := (mkF m 269 _ [(.ref a)])) (fun t_ k_ => XS.aload X0.here hx rfl (hb hby at_267) rfl rfl k_) ?_
      refine Go.on (g' := (mkF m 271 _ [(.int (3 : Int32)), (.ref a)])) (fun t_ k_ => XS.iload X0.here hx rfl (hb hby at_269) rfl k_) ?_
      refine Go.on (g' := (mkF m 273 _ [(.int p3), (.int (3 : Int32)), (.ref a)])) (fun t_ k_ => XS.iload X0.here hx rfl (hb hby at_271) rfl k_) ?_
      refine Go.callS X0 hx hZ hby (by rw [hml]; rfl) (y := (⟨"com/example/loomtrace/loomtrace/model/IntSort", "lastAtMost", "([III)I"⟩ : MethodName)) hown (hw _ (List.mem_of_getElem? (i := 7) rfl)) (hw _ (List.mem_of_getElem? (i := 8) rfl)) (hw _ (List.mem_of_getElem? (i := 9) rfl)) (hw _ (List.mem_of_getElem? (i := 10) rfl)) (by decide) (argsL := [(.ref a), (.int (3 : Int32)), (.int p3)]) (rest := []) (rmL3 l Z w0 hw [] a p3 h0 cl A0 hsz c1 hk1 c2 hk2 s2) e0 0 (by decide) (by decide) (by decide) (by decide) rfl pdL rfl (Nat.le_of_eq rfl) at_273 (pcF := 276) rfl ?_
      intro v2 T2 L2 X2 hQ2
      obtain ⟨rfl, rfl, e2⟩ := hQ2
      rw [List.append_nil] at X2
      show Go p e below _ _ (mkF m 276 _ [(.int (own_e3 c1 c2 p3))])
      refine Go.on (g' := (mkF m 278 _ [(.int (2 : Int32)), (.int (own_e3 c1 c2 p3))])) (fun t_ k_ => XS.iload X2.here hx rfl (hb hby at_276) rfl k_) ?_
      refine Go.icmp X2 hx hby at_278 (pcT := 285) (pcF := 281) (by decide) (by decide) rfl (fun q => absurd q (fun q => (iNe.1 q) (by simp only [Int32.lt_iff_toInt_lt] at q1 q2 s2; unfold own_e3; simp only [Int32.lt_iff_toInt_lt]; (repeat' split) <;> first | rfl | (exfalso; omega)))) (fun q => ?_)
      clear q
      show Go p e below _ _ (mkF m 281 _ [])
      refine Go.on (g' := (mkF m 282 _ [(.int (1 : Int32))])) (fun t_ k_ => XS.iconst X2.here hx rfl (hb hby at_281) k_) ?_
      refine Go.on (g' := (mkF m 286 _ [(.int (1 : Int32))])) (fun t_ k_ => XS.goto X2.here hx rfl (pc0 := 282) (pc' := 286) rfl (hb hby at_282) (by decide) (by decide) k_) ?_
      exact Go.retI X2 hx hlk hret hby at_286 rfl (by simp) (by decide) (by decide) ⟨rfl, N0⟩
  · have q1 := iGt.2 q
    clear q
    show Go p e below _ _ (mkF m 200 _ [])
    refine Go.on (g' := (mkF m 201 _ [(.int (1 : Int32))])) (fun t_ k_ => XS.iconst X0.here hx rfl (hb hby at_200) k_) ?_
    refine Go.on (g' := (mkF m 203 #[.val (.long p0), .second, .val (.long p1), .second, .val (.long p2), .second, .val (.int p3), .val (.int p4), .val (.int (3 : Int32)), .val (.int c0), .val (.int c1), .val (.int c2), .val (.int c3), .val (.int c4), .val (.int c5), .val (.ref a), .val (.int (1 : Int32))] [])) (fun t_ k_ => XS.istore X0.here hx rfl (hb hby at_201) rfl (l' := #[.val (.long p0), .second, .val (.long p1), .second, .val (.long p2), .second, .val (.int p3), .val (.int p4), .val (.int (3 : Int32)), .val (.int c0), .val (.int c1), .val (.int c2), .val (.int c3), .val (.int c4), .val (.int c5), .val (.ref a), .val (.int (1 : Int32))]) rfl k_) ?_
    refine Go.on (g' := (mkF m 205 _ [(.int (3 : Int32))])) (fun t_ k_ => XS.iload X0.here hx rfl (hb hby at_203) rfl k_) ?_
    refine Go.on (g' := (mkF m 206 _ [(.int (2 : Int32)), (.int (3 : Int32))])) (fun t_ k_ => XS.iconst X0.here hx rfl (hb hby at_205) k_) ?_
    refine Go.icmp X0 hx hby at_206 (pcT := 219) (pcF := 209) (by decide) (by decide) rfl (fun q => absurd q (by decide)) (fun q => ?_)
    clear q
    show Go p e below _ _ (mkF m 209 _ [])
    refine Go.on (g' := (mkF m 211 _ [(.int c2)])) (fun t_ k_ => XS.iload X0.here hx rfl (hb hby at_209) rfl k_) ?_
    refine Go.on (g' := (mkF m 213 _ [(.int p3), (.int c2)])) (fun t_ k_ => XS.iload X0.here hx rfl (hb hby at_211) rfl k_) ?_
    refine Go.icmp X0 hx hby at_213 (pcT := 219) (pcF := 216) (by decide) (by decide) rfl (fun q => ?_) (fun q => ?_)
    · have q3 := iGt.1 q
      clear q
      show Go p e below _ _ (mkF m 219 _ [])
      refine Go.on (g' := (mkF m 221 _ [(.int (3 : Int32))])) (fun t_ k_ => XS.iload X0.here hx rfl (hb hby at_219) rfl k_) ?_
      refine Go.on (g' := (mkF m 222 _ [(.int (3 : Int32)), (.int (3 : Int32))])) (fun t_ k_ => XS.iconst X0.here hx rfl (hb hby at_221) k_) ?_
      refine Go.icmp X0 hx hby at_222 (pcT := 235) (pcF := 225) (by decide) (by decide) rfl (fun q => ?_) (fun q => absurd q (by decide))
      clear q
      show Go p e below _ _ (mkF m 235 _ [])
      refine Go.on (g' := (mkF m 237 _ [(.int (3 : Int32))])) (fun t_ k_ => XS.iload X0.here hx rfl (hb hby at_235) rfl k_) ?_
      refine Go.on (g' := (mkF m 238 _ [(.int (4 : Int32)), (.int (3 : Int32))])) (fun t_ k_ => XS.iconst X0.here hx rfl (hb hby at_237) k_) ?_
      refine Go.icmp X0 hx hby at_238 (pcT := 251) (pcF := 241) (by decide) (by decide) rfl (fun q => ?_) (fun q => absurd q (by decide))
      clear q
      show Go p e below _ _ (mkF m 251 _ [])
      refine Go.on (g' := (mkF m 253 _ [(.int (3 : Int32))])) (fun t_ k_ => XS.iload X0.here hx rfl (hb hby at_251) rfl k_) ?_
      refine Go.on (g' := (mkF m 254 _ [(.int (5 : Int32)), (.int (3 : Int32))])) (fun t_ k_ => XS.iconst X0.here hx rfl (hb hby at_253) k_) ?_
      refine Go.icmp X0 hx hby at_254 (pcT := 267) (pcF := 257) (by decide) (by decide) rfl (fun q => ?_) (fun q => absurd q (by decide))
      clear q
      show Go p e below _ _ (mkF m 267 _ [])
      refine Go.on (g' := (mkF m 269 _ [(.ref a)])) (fun t_ k_ => XS.aload X0.here hx rfl (hb hby at_267) rfl rfl k_) ?_
      refine Go.on (g' := (mkF m 271 _ [(.int (3 : Int32)), (.ref a)])) (fun t_ k_ => XS.iload X0.here hx rfl (hb hby at_269) rfl k_) ?_
      refine Go.on (g' := (mkF m 273 _ [(.int p3), (.int (3 : Int32)), (.ref a)])) (fun t_ k_ => XS.iload X0.here hx rfl (hb hby at_271) rfl k_) ?_
      refine Go.callS X0 hx hZ hby (by rw [hml]; rfl) (y := (⟨"com/example/loomtrace/loomtrace/model/IntSort", "lastAtMost", "([III)I"⟩ : MethodName)) hown (hw _ (List.mem_of_getElem? (i := 7) rfl)) (hw _ (List.mem_of_getElem? (i := 8) rfl)) (hw _ (List.mem_of_getElem? (i := 9) rfl)) (hw _ (List.mem_of_getElem? (i := 10) rfl)) (by decide) (argsL := [(.ref a), (.int (3 : Int32)), (.int p3)]) (rest := []) (rmL3 l Z w0 hw [] a p3 h0 cl A0 hsz c1 hk1 c2 hk2 s2) e0 0 (by decide) (by decide) (by decide) (by decide) rfl pdL rfl (Nat.le_of_eq rfl) at_273 (pcF := 276) rfl ?_
      intro v3 T3 L3 X3 hQ3
      obtain ⟨rfl, rfl, e3⟩ := hQ3
      rw [List.append_nil] at X3
      show Go p e below _ _ (mkF m 276 _ [(.int (own_e3 c1 c2 p3))])
      refine Go.on (g' := (mkF m 278 _ [(.int (1 : Int32)), (.int (own_e3 c1 c2 p3))])) (fun t_ k_ => XS.iload X3.here hx rfl (hb hby at_276) rfl k_) ?_
      refine Go.icmp X3 hx hby at_278 (pcT := 285) (pcF := 281) (by decide) (by decide) rfl (fun q => absurd q (fun q => (iNe.1 q) (by simp only [Int32.lt_iff_toInt_lt] at q1 q3 s2; unfold own_e3; simp only [Int32.lt_iff_toInt_lt]; (repeat' split) <;> first | rfl | (exfalso; omega)))) (fun q => ?_)
      clear q
      show Go p e below _ _ (mkF m 281 _ [])
      refine Go.on (g' := (mkF m 282 _ [(.int (1 : Int32))])) (fun t_ k_ => XS.iconst X3.here hx rfl (hb hby at_281) k_) ?_
      refine Go.on (g' := (mkF m 286 _ [(.int (1 : Int32))])) (fun t_ k_ => XS.goto X3.here hx rfl (pc0 := 282) (pc' := 286) rfl (hb hby at_282) (by decide) (by decide) k_) ?_
      exact Go.retI X3 hx hlk hret hby at_286 rfl (by simp) (by decide) (by decide) ⟨rfl, N0⟩
    · have q3 := iGt.2 q
      clear q
      show Go p e below _ _ (mkF m 216 _ [])
      refine Go.on (g' := (mkF m 217 _ [(.int (2 : Int32))])) (fun t_ k_ => XS.iconst X0.here hx rfl (hb hby at_216) k_) ?_
      refine Go.on (g' := (mkF m 219 #[.val (.long p0), .second, .val (.long p1), .second, .val (.long p2), .second, .val (.int p3), .val (.int p4), .val (.int (3 : Int32)), .val (.int c0), .val (.int c1), .val (.int c2), .val (.int c3), .val (.int c4), .val (.int c5), .val (.ref a), .val (.int (2 : Int32))] [])) (fun t_ k_ => XS.istore X0.here hx rfl (hb hby at_217) rfl (l' := #[.val (.long p0), .second, .val (.long p1), .second, .val (.long p2), .second, .val (.int p3), .val (.int p4), .val (.int (3 : Int32)), .val (.int c0), .val (.int c1), .val (.int c2), .val (.int c3), .val (.int c4), .val (.int c5), .val (.ref a), .val (.int (2 : Int32))]) rfl k_) ?_
      refine Go.on (g' := (mkF m 221 _ [(.int (3 : Int32))])) (fun t_ k_ => XS.iload X0.here hx rfl (hb hby at_219) rfl k_) ?_
      refine Go.on (g' := (mkF m 222 _ [(.int (3 : Int32)), (.int (3 : Int32))])) (fun t_ k_ => XS.iconst X0.here hx rfl (hb hby at_221) k_) ?_
      refine Go.icmp X0 hx hby at_222 (pcT := 235) (pcF := 225) (by decide) (by decide) rfl (fun q => ?_) (fun q => absurd q (by decide))
      clear q
      show Go p e below _ _ (mkF m 235 _ [])
      refine Go.on (g' := (mkF m 237 _ [(.int (3 : Int32))])) (fun t_ k_ => XS.iload X0.here hx rfl (hb hby at_235) rfl k_) ?_
      refine Go.on (g' := (mkF m 238 _ [(.int (4 : Int32)), (.int (3 : Int32))])) (fun t_ k_ => XS.iconst X0.here hx rfl (hb hby at_237) k_) ?_
      refine Go.icmp X0 hx hby at_238 (pcT := 251) (pcF := 241) (by decide) (by decide) rfl (fun q => ?_) (fun q => absurd q (by decide))
      clear q
      show Go p e below _ _ (mkF m 251 _ [])
      refine Go.on (g' := (mkF m 253 _ [(.int (3 : Int32))])) (fun t_ k_ => XS.iload X0.here hx rfl (hb hby at_251) rfl k_) ?_
      refine Go.on (g' := (mkF m 254 _ [(.int (5 : Int32)), (.int (3 : Int32))])) (fun t_ k_ => XS.iconst X0.here hx rfl (hb hby at_253) k_) ?_
      refine Go.icmp X0 hx hby at_254 (pcT := 267) (pcF := 257) (by decide) (by decide) rfl (fun q => ?_) (fun q => absurd q (by decide))
      clear q
      show Go p e below _ _ (mkF m 267 _ [])
      refine Go.on (g' := (mkF m 269 _ [(.ref a)])) (fun t_ k_ => XS.aload X0.here hx rfl (hb hby at_267) rfl rfl k_) ?_
      refine Go.on (g' := (mkF m 271 _ [(.int (3 : Int32)), (.ref a)])) (fun t_ k_ => XS.iload X0.here hx rfl (hb hby at_269) rfl k_) ?_
      refine Go.on (g' := (mkF m 273 _ [(.int p3), (.int (3 : Int32)), (.ref a)])) (fun t_ k_ => XS.iload X0.here hx rfl (hb hby at_271) rfl k_) ?_
      refine Go.callS X0 hx hZ hby (by rw [hml]; rfl) (y := (⟨"com/example/loomtrace/loomtrace/model/IntSort", "lastAtMost", "([III)I"⟩ : MethodName)) hown (hw _ (List.mem_of_getElem? (i := 7) rfl)) (hw _ (List.mem_of_getElem? (i := 8) rfl)) (hw _ (List.mem_of_getElem? (i := 9) rfl)) (hw _ (List.mem_of_getElem? (i := 10) rfl)) (by decide) (argsL := [(.ref a), (.int (3 : Int32)), (.int p3)]) (rest := []) (rmL3 l Z w0 hw [] a p3 h0 cl A0 hsz c1 hk1 c2 hk2 s2) e0 0 (by decide) (by decide) (by decide) (by decide) rfl pdL rfl (Nat.le_of_eq rfl) at_273 (pcF := 276) rfl ?_
      intro v4 T4 L4 X4 hQ4
      obtain ⟨rfl, rfl, e4⟩ := hQ4
      rw [List.append_nil] at X4
      show Go p e below _ _ (mkF m 276 _ [(.int (own_e3 c1 c2 p3))])
      refine Go.on (g' := (mkF m 278 _ [(.int (2 : Int32)), (.int (own_e3 c1 c2 p3))])) (fun t_ k_ => XS.iload X4.here hx rfl (hb hby at_276) rfl k_) ?_
      refine Go.icmp X4 hx hby at_278 (pcT := 285) (pcF := 281) (by decide) (by decide) rfl (fun q => absurd q (fun q => (iNe.1 q) (by simp only [Int32.lt_iff_toInt_lt] at q1 q3 s2; unfold own_e3; simp only [Int32.lt_iff_toInt_lt]; (repeat' split) <;> first | rfl | (exfalso; omega)))) (fun q => ?_)
      clear q
      show Go p e below _ _ (mkF m 281 _ [])
      refine Go.on (g' := (mkF m 282 _ [(.int (1 : Int32))])) (fun t_ k_ => XS.iconst X4.here hx rfl (hb hby at_281) k_) ?_
      refine Go.on (g' := (mkF m 286 _ [(.int (1 : Int32))])) (fun t_ k_ => XS.goto X4.here hx rfl (pc0 := 282) (pc' := 286) rfl (hb hby at_282) (by decide) (by decide) k_) ?_
      exact Go.retI X4 hx hlk hret hby at_286 rfl (by simp) (by decide) (by decide) ⟨rfl, N0⟩
set_option maxRecDepth 65536 in
set_option maxHeartbeats 40000000 in
theorem tl4 (l : Launch) (Z : State) (w0 : Array Value) (hw : ∀ d ∈ tables_1, d.before w0 Z = true) (ws : List Jvm.Cond) (p0 p1 p2 : Int64) (p3 p4 c0 c1 c2 c3 c4 c5 : Int32) (p : Program) (e : Env) (s : State) (m : MethodId) (below : List Frame) (meth : Method) (c : Code) (T0 : State) (locs : List Loc) (X0 : Stand p l e room_1 s m #[.long p0, .long p1, .long p2, .int p3, .int p4] below meth c T0 locs 1 7) (hx : p.tables.exec = Jvm.exec) (hby : c.code = code) (hml : c.maxLocals = maxLocals) (hret : meth.sig.returnType = ret) (hlk : meth.locks = false) (hown : s.vm.findClass "com/example/loomtrace/loomtrace/model/IntSortLastAtMostPinLaw" = some m.cls) (hZ : Z.Warmed39 s.vm) (h0 : Heap) (e0 : T0.heap = h0) (n0 : Nat) (N0 : Fr n0 locs) (a : Addr) (cl : Cell) (A0 : Arr Z h0 a cl .int) (hsz : cl.slots.size = 7) (hk1 : cl.slots[(1 : Int32).toNatClampNeg]? = some (.int c1)) (hk2 : cl.slots[(2 : Int32).toNatClampNeg]? = some (.int c2)) (hk3 : cl.slots[(3 : Int32).toNatClampNeg]? = some (.int c3)) (s2 : ¬ c2 < c1) (s3 : ¬ c3 < c2) : Go p e below (EndK s (own_Q0 n0) room_1.cells room_1.slots) T0 (mkF m 184 #[.val (.long p0), .second, .val (.long p1), .second, .val (.long p2), .second, .val (.int p3), .val (.int p4), .val (.int (4 : Int32)), .val (.int c0), .val (.int c1), .val (.int c2), .val (.int c3), .val (.int c4), .val (.int c5), .val (.ref a), .unset] []) := by
  refine Go.on (g' := (mkF m 185 _ [(.int (0 : Int32))])) (fun t_ k_ => XS.iconst X0.here hx rfl (hb hby at_184) k_) ?_
  refine Go.on (g' := (mkF m 187 #[.val (.long p0), .second, .val (.long p1), .second, .val (.long p2), .second, .val (.int p3), .val (.int p4), .val (.int (4 : Int32)), .val (.int c0), .val (.int c1), .val (.int c2), .val (.int c3), .val (.int c4), .val (.int c5), .val (.ref a), .val (.int (0 : Int32))] [])) (fun t_ k_ => XS.istore X0.here hx rfl (hb hby at_185) rfl (l' := #[.val (.long p0), .second, .val (.long p1), .second, .val (.long p2), .second, .val (.int p3), .val (.int p4), .val (.int (4 : Int32)), .val (.int c0), .val (.int c1), .val (.int c2), .val (.int c3), .val (.int c4), .val (.int c5), .val (.ref a), .val (.int (0 : Int32))]) rfl k_) ?_
  refine Go.on (g' := (mkF m 189 _ [(.int (4 : Int32))])) (fun t_ k_ => XS.iload X0.here hx rfl (hb hby at_187) rfl k_) ?_
  refine Go.on (g' := (mkF m 190 _ [(.int (1 : Int32)), (.int (4 : Int32))])) (fun t_ k_ => XS.iconst X0.here hx rfl (hb hby at_189) k_) ?_
  refine Go.icmp X0 hx hby at_190 (pcT := 203) (pcF := 193) (by decide) (by decide) rfl (fun q => absurd q (by decide)) (fun q => ?_)
  clear q
  show Go p e below _ _ (mkF m 193 _ [])
  refine Go.on (g' := (mkF m 195 _ [(.int c1)])) (fun t_ k_ => XS.iload X0.here hx rfl (hb hby at_193) rfl k_) ?_
  refine Go.on (g' := (mkF m 197 _ [(.int p3), (.int c1)])) (fun t_ k_ => XS.iload X0.here hx rfl (hb hby at_195) rfl k_) ?_
  refine Go.icmp X0 hx hby at_197 (pcT := 203) (pcF := 200) (by decide) (by decide) rfl (fun q => ?_) (fun q => ?_)
  · have q1 := iGt.1 q
    clear q
    show Go p e below _ _ (mkF m 203 _ [])
    refine Go.on (g' := (mkF m 205 _ [(.int (4 : Int32))])) (fun t_ k_ => XS.iload X0.here hx rfl (hb hby at_203) rfl k_) ?_
    refine Go.on (g' := (mkF m 206 _ [(.int (2 : Int32)), (.int (4 : Int32))])) (fun t_ k_ => XS.iconst X0.here hx rfl (hb hby at_205) k_) ?_
    refine Go.icmp X0 hx hby at_206 (pcT := 219) (pcF := 209) (by decide) (by decide) rfl (fun q => absurd q (by decide)) (fun q => ?_)
    clear q
    show Go p e below _ _ (mkF m 209 _ [])
    refine Go.on (g' := (mkF m 211 _ [(.int c2)])) (fun t_ k_ => XS.iload X0.here hx rfl (hb hby at_209) rfl k_) ?_
    refine Go.on (g' := (mkF m 213 _ [(.int p3), (.int c2)])) (fun t_ k_ => XS.iload X0.here hx rfl (hb hby at_211) rfl k_) ?_
    refine Go.icmp X0 hx hby at_213 (pcT := 219) (pcF := 216) (by decide) (by decide) rfl (fun q => ?_) (fun q => ?_)
    · have q2 := iGt.1 q
      clear q
      show Go p e below _ _ (mkF m 219 _ [])
      refine Go.on (g' := (mkF m 221 _ [(.int (4 : Int32))])) (fun t_ k_ => XS.iload X0.here hx rfl (hb hby at_219) rfl k_) ?_
      refine Go.on (g' := (mkF m 222 _ [(.int (3 : Int32)), (.int (4 : Int32))])) (fun t_ k_ => XS.iconst X0.here hx rfl (hb hby at_221) k_) ?_
      refine Go.icmp X0 hx hby at_222 (pcT := 235) (pcF := 225) (by decide) (by decide) rfl (fun q => absurd q (by decide)) (fun q => ?_)
      clear q
      show Go p e below _ _ (mkF m 225 _ [])
      refine Go.on (g' := (mkF m 227 _ [(.int c3)])) (fun t_ k_ => XS.iload X0.here hx rfl (hb hby at_225) rfl k_) ?_
      refine Go.on (g' := (mkF m 229 _ [(.int p3), (.int c3)])) (fun t_ k_ => XS.iload X0.here hx rfl (hb hby at_227) rfl k_) ?_
      refine Go.icmp X0 hx hby at_229 (pcT := 235) (pcF := 232) (by decide) (by decide) rfl (fun q => ?_) (fun q => ?_)
      · have q3 := iGt.1 q
        clear q
        show Go p e below _ _ (mkF m 235 _ [])
        refine Go.on (g' := (mkF m 237 _ [(.int (4 : Int32))])) (fun t_ k_ => XS.iload X0.here hx rfl (hb hby at_235) rfl k_) ?_
        refine Go.on (g' := (mkF m 238 _ [(.int (4 : Int32)), (.int (4 : Int32))])) (fun t_ k_ => XS.iconst X0.here hx rfl (hb hby at_237) k_) ?_
        refine Go.icmp X0 hx hby at_238 (pcT := 251) (pcF := 241) (by decide) (by decide) rfl (fun q => ?_) (fun q => absurd q (by decide))
        clear q
        show Go p e below _ _ (mkF m 251 _ [])
        refine Go.on (g' := (mkF m 253 _ [(.int (4 : Int32))])) (fun t_ k_ => XS.iload X0.here hx rfl (hb hby at_251) rfl k_) ?_
        refine Go.on (g' := (mkF m 254 _ [(.int (5 : Int32)), (.int (4 : Int32))])) (fun t_ k_ => XS.iconst X0.here hx rfl (hb hby at_253) k_) ?_
        refine Go.icmp X0 hx hby at_254 (pcT := 267) (pcF := 257) (by decide) (by decide) rfl (fun q => ?_) (fun q => absurd q (by decide))
        clear q
        show Go p e below _ _ (mkF m 267 _ [])
        refine Go.on (g' := (mkF m 269 _ [(.ref a)])) (fun t_ k_ => XS.aload X0.here hx rfl (hb hby at_267) rfl rfl k_) ?_
        refine Go.on (g' := (mkF m 271 _ [(.int (4 : Int32)), (.ref a)])) (fun t_ k_ => XS.iload X0.here hx rfl (hb hby at_269) rfl k_) ?_
        refine Go.on (g' := (mkF m 273 _ [(.int p3), (.int (4 : Int32)), (.ref a)])) (fun t_ k_ => XS.iload X0.here hx rfl (hb hby at_271) rfl k_) ?_
        refine Go.callS X0 hx hZ hby (by rw [hml]; rfl) (y := (⟨"com/example/loomtrace/loomtrace/model/IntSort", "lastAtMost", "([III)I"⟩ : MethodName)) hown (hw _ (List.mem_of_getElem? (i := 7) rfl)) (hw _ (List.mem_of_getElem? (i := 8) rfl)) (hw _ (List.mem_of_getElem? (i := 9) rfl)) (hw _ (List.mem_of_getElem? (i := 10) rfl)) (by decide) (argsL := [(.ref a), (.int (4 : Int32)), (.int p3)]) (rest := []) (rmL4 l Z w0 hw [] a p3 h0 cl A0 hsz c1 hk1 c2 hk2 c3 hk3 s2 s3) e0 0 (by decide) (by decide) (by decide) (by decide) rfl pdL rfl (Nat.le_of_eq rfl) at_273 (pcF := 276) rfl ?_
        intro v1 T1 L1 X1 hQ1
        obtain ⟨rfl, rfl, e1⟩ := hQ1
        rw [List.append_nil] at X1
        show Go p e below _ _ (mkF m 276 _ [(.int (own_e4 c1 c2 c3 p3))])
        refine Go.on (g' := (mkF m 278 _ [(.int (0 : Int32)), (.int (own_e4 c1 c2 c3 p3))])) (fun t_ k_ => XS.iload X1.here hx rfl (hb hby at_276) rfl k_) ?_
        refine Go.icmp X1 hx hby at_278 (pcT := 285) (pcF := 281) (by decide) (by decide) rfl (fun q => absurd q (fun q => (iNe.1 q) (by simp only [Int32.lt_iff_toInt_lt] at q1 q2 q3 s2 s3; unfold own_e4; simp only [Int32.lt_iff_toInt_lt]; (repeat' split) <;> first | rfl | (exfalso; omega)))) (fun q => ?_)
        clear q
        show Go p e below _ _ (mkF m 281 _ [])
        refine Go.on (g' := (mkF m 282 _ [(.int (1 : Int32))])) (fun t_ k_ => XS.iconst X1.here hx rfl (hb hby at_281) k_) ?_
        refine Go.on (g' := (mkF m 286 _ [(.int (1 : Int32))])) (fun t_ k_ => XS.goto X1.here hx rfl (pc0 := 282) (pc' := 286) rfl (hb hby at_282) (by decide) (by decide) k_) ?_
        exact Go.retI X1 hx hlk hret hby at_286 rfl (by simp) (by decide) (by decide) ⟨rfl, N0⟩
      · have q3 := iGt.2 q
        clear q
        show Go p e below _ _ (mkF m 232 _ [])
        refine Go.on (g' := (mkF m 233 _ [(.int (3 : Int32))])) (fun t_ k_ => XS.iconst X0.here hx rfl (hb hby at_232) k_) ?_
        refine Go.on (g' := (mkF m 235 #[.val (.long p0), .second, .val (.long p1), .second, .val (.long p2), .second, .val (.int p3), .val (.int p4), .val (.int (4 : Int32)), .val (.int c0), .val (.int c1), .val (.int c2), .val (.int c3), .val (.int c4), .val (.int c5), .val (.ref a), .val (.int (3 : Int32))] [])) (fun t_ k_ => XS.istore X0.here hx rfl (hb hby at_233) rfl (l' := #[.val (.long p0), .second, .val (.long p1), .second, .val (.long p2), .second, .val (.int p3), .val (.int p4), .val (.int (4 : Int32)), .val (.int c0), .val (.int c1), .val (.int c2), .val (.int c3), .val (.int c4), .val (.int c5), .val (.ref a), .val (.int (3 : Int32))]) rfl k_) ?_
        refine Go.on (g' := (mkF m 237 _ [(.int (4 : Int32))])) (fun t_ k_ => XS.iload X0.here hx rfl (hb hby at_235) rfl k_) ?_
        refine Go.on (g' := (mkF m 238 _ [(.int (4 : Int32)), (.int (4 : Int32))])) (fun t_ k_ => XS.iconst X0.here hx rfl (hb hby at_237) k_) ?_
        refine Go.icmp X0 hx hby at_238 (pcT := 251) (pcF := 241) (by decide) (by decide) rfl (fun q => ?_) (fun q => absurd q (by decide))
        clear q
        show Go p e below _ _ (mkF m 251 _ [])
        refine Go.on (g' := (mkF m 253 _ [(.int (4 : Int32))])) (fun t_ k_ => XS.iload X0.here hx rfl (hb hby at_251) rfl k_) ?_
        refine Go.on (g' := (mkF m 254 _ [(.int (5 : Int32)), (.int (4 : Int32))])) (fun t_ k_ => XS.iconst X0.here hx rfl (hb hby at_253) k_) ?_
        refine Go.icmp X0 hx hby at_254 (pcT := 267) (pcF := 257) (by decide) (by decide) rfl (fun q => ?_) (fun q => absurd q (by decide))
        clear q
        show Go p e below _ _ (mkF m 267 _ [])
        refine Go.on (g' := (mkF m 269 _ [(.ref a)])) (fun t_ k_ => XS.aload X0.here hx rfl (hb hby at_267) rfl rfl k_) ?_
        refine Go.on (g' := (mkF m 271 _ [(.int (4 : Int32)), (.ref a)])) (fun t_ k_ => XS.iload X0.here hx rfl (hb hby at_269) rfl k_) ?_
        refine Go.on (g' := (mkF m 273 _ [(.int p3), (.int (4 : Int32)), (.ref a)])) (fun t_ k_ => XS.iload X0.here hx rfl (hb hby at_271) rfl k_) ?_
        refine Go.callS X0 hx hZ hby (by rw [hml]; rfl) (y := (⟨"com/example/loomtrace/loomtrace/model/IntSort", "lastAtMost", "([III)I"⟩ : MethodName)) hown (hw _ (List.mem_of_getElem? (i := 7) rfl)) (hw _ (List.mem_of_getElem? (i := 8) rfl)) (hw _ (List.mem_of_getElem? (i := 9) rfl)) (hw _ (List.mem_of_getElem? (i := 10) rfl)) (by decide) (argsL := [(.ref a), (.int (4 : Int32)), (.int p3)]) (rest := []) (rmL4 l Z w0 hw [] a p3 h0 cl A0 hsz c1 hk1 c2 hk2 c3 hk3 s2 s3) e0 0 (by decide) (by decide) (by decide) (by decide) rfl pdL rfl (Nat.le_of_eq rfl) at_273 (pcF := 276) rfl ?_
        intro v2 T2 L2 X2 hQ2
        obtain ⟨rfl, rfl, e2⟩ := hQ2
        rw [List.append_nil] at X2
        show Go p e below _ _ (mkF m 276 _ [(.int (own_e4 c1 c2 c3 p3))])
        refine Go.on (g' := (mkF m 278 _ [(.int (3 : Int32)), (.int (own_e4 c1 c2 c3 p3))])) (fun t_ k_ => XS.iload X2.here hx rfl (hb hby at_276) rfl k_) ?_
        refine Go.icmp X2 hx hby at_278 (pcT := 285) (pcF := 281) (by decide) (by decide) rfl (fun q => absurd q (fun q => (iNe.1 q) (by simp only [Int32.lt_iff_toInt_lt] at q1 q2 q3 s2 s3; unfold own_e4; simp only [Int32.lt_iff_toInt_lt]; (repeat' split) <;> first | rfl | (exfalso; omega)))) (fun q => ?_)
        clear q
        show Go p e below _ _ (mkF m 281 _ [])
        refine Go.on (g' := (mkF m 282 _ [(.int (1 : Int32))])) (fun t_ k_ => XS.iconst X2.here hx rfl (hb hby at_281) k_) ?_
        refine Go.on (g' := (mkF m 286 _ [(.int (1 : Int32))])) (fun t_ k_ => XS.goto X2.here hx rfl (pc0 := 282) (pc' := 286) rfl (hb hby at_282) (by decide) (by decide) k_) ?_
        exact Go.retI X2 hx hlk hret hby at_286 rfl (by simp) (by decide) (by decide) ⟨rfl, N0⟩
    · have q2 := iGt.2 q
      clear q
      show Go p e below _ _ (mkF m 216 _ [])
      refine Go.on (g' := (mkF m 217 _ [(.int (2 : Int32))])) (fun t_ k_ => XS.iconst X0.here hx rfl (hb hby at_216) k_) ?_
      refine Go.on (g' := (mkF m 219 #[.val (.long p0), .second, .val (.long p1), .second, .val (.long p2), .second, .val (.int p3), .val (.int p4), .val (.int (4 : Int32)), .val (.int c0), .val (.int c1), .val (.int c2), .val (.int c3), .val (.int c4), .val (.int c5), .val (.ref a), .val (.int (2 : Int32))] [])) (fun t_ k_ => XS.istore X0.here hx rfl (hb hby at_217) rfl (l' := #[.val (.long p0), .second, .val (.long p1), .second, .val (.long p2), .second, .val (.int p3), .val (.int p4), .val (.int (4 : Int32)), .val (.int c0), .val (.int c1), .val (.int c2), .val (.int c3), .val (.int c4), .val (.int c5), .val (.ref a), .val (.int (2 : Int32))]) rfl k_) ?_
      refine Go.on (g' := (mkF m 221 _ [(.int (4 : Int32))])) (fun t_ k_ => XS.iload X0.here hx rfl (hb hby at_219) rfl k_) ?_
      refine Go.on (g' := (mkF m 222 _ [(.int (3 : Int32)), (.int (4 : Int32))])) (fun t_ k_ => XS.iconst X0.here hx rfl (hb hby at_221) k_) ?_
      refine Go.icmp X0 hx hby at_222 (pcT := 235) (pcF := 225) (by decide) (by decide) rfl (fun q => absurd q (by decide)) (fun q => ?_)
      clear q
      show Go p e below _ _ (mkF m 225 _ [])
      refine Go.on (g' := (mkF m 227 _ [(.int c3)])) (fun t_ k_ => XS.iload X0.here hx rfl (hb hby at_225) rfl k_) ?_
      refine Go.on (g' := (mkF m 229 _ [(.int p3), (.int c3)])) (fun t_ k_ => XS.iload X0.here hx rfl (hb hby at_227) rfl k_) ?_
      refine Go.icmp X0 hx hby at_229 (pcT := 235) (pcF := 232) (by decide) (by decide) rfl (fun q => ?_) (fun q => ?_)
      · have q4 := iGt.1 q
        clear q
        show Go p e below _ _ (mkF m 235 _ [])
        refine Go.on (g' := (mkF m 237 _ [(.int (4 : Int32))])) (fun t_ k_ => XS.iload X0.here hx rfl (hb hby at_235) rfl k_) ?_
        refine Go.on (g' := (mkF m 238 _ [(.int (4 : Int32)), (.int (4 : Int32))])) (fun t_ k_ => XS.iconst X0.here hx rfl (hb hby at_237) k_) ?_
        refine Go.icmp X0 hx hby at_238 (pcT := 251) (pcF := 241) (by decide) (by decide) rfl (fun q => ?_) (fun q => absurd q (by decide))
        clear q
        show Go p e below _ _ (mkF m 251 _ [])
        refine Go.on (g' := (mkF m 253 _ [(.int (4 : Int32))])) (fun t_ k_ => XS.iload X0.here hx rfl (hb hby at_251) rfl k_) ?_
        refine Go.on (g' := (mkF m 254 _ [(.int (5 : Int32)), (.int (4 : Int32))])) (fun t_ k_ => XS.iconst X0.here hx rfl (hb hby at_253) k_) ?_
        refine Go.icmp X0 hx hby at_254 (pcT := 267) (pcF := 257) (by decide) (by decide) rfl (fun q => ?_) (fun q => absurd q (by decide))
        clear q
        show Go p e below _ _ (mkF m 267 _ [])
        refine Go.on (g' := (mkF m 269 _ [(.ref a)])) (fun t_ k_ => XS.aload X0.here hx rfl (hb hby at_267) rfl rfl k_) ?_
        refine Go.on (g' := (mkF m 271 _ [(.int (4 : Int32)), (.ref a)])) (fun t_ k_ => XS.iload X0.here hx rfl (hb hby at_269) rfl k_) ?_
        refine Go.on (g' := (mkF m 273 _ [(.int p3), (.int (4 : Int32)), (.ref a)])) (fun t_ k_ => XS.iload X0.here hx rfl (hb hby at_271) rfl k_) ?_
        refine Go.callS X0 hx hZ hby (by rw [hml]; rfl) (y := (⟨"com/example/loomtrace/loomtrace/model/IntSort", "lastAtMost", "([III)I"⟩ : MethodName)) hown (hw _ (List.mem_of_getElem? (i := 7) rfl)) (hw _ (List.mem_of_getElem? (i := 8) rfl)) (hw _ (List.mem_of_getElem? (i := 9) rfl)) (hw _ (List.mem_of_getElem? (i := 10) rfl)) (by decide) (argsL := [(.ref a), (.int (4 : Int32)), (.int p3)]) (rest := []) (rmL4 l Z w0 hw [] a p3 h0 cl A0 hsz c1 hk1 c2 hk2 c3 hk3 s2 s3) e0 0 (by decide) (by decide) (by decide) (by decide) rfl pdL rfl (Nat.le_of_eq rfl) at_273 (pcF := 276) rfl ?_
        intro v3 T3 L3 X3 hQ3
        obtain ⟨rfl, rfl, e3⟩ := hQ3
        rw [List.append_nil] at X3
        show Go p e below _ _ (mkF m 276 _ [(.int (own_e4 c1 c2 c3 p3))])
        refine Go.on (g' := (mkF m 278 _ [(.int (2 : Int32)), (.int (own_e4 c1 c2 c3 p3))])) (fun t_ k_ => XS.iload X3.here hx rfl (hb hby at_276) rfl k_) ?_
        refine Go.icmp X3 hx hby at_278 (pcT := 285) (pcF := 281) (by decide) (by decide) rfl (fun q => absurd q (fun q => (iNe.1 q) (by simp only [Int32.lt_iff_toInt_lt] at q1 q2 q4 s2 s3; unfold own_e4; simp only [Int32.lt_iff_toInt_lt]; (repeat' split) <;> first | rfl | (exfalso; omega)))) (fun q => ?_)
        clear q
        show Go p e below _ _ (mkF m 281 _ [])
        refine Go.on (g' := (mkF m 282 _ [(.int (1 : Int32))])) (fun t_ k_ => XS.iconst X3.here hx rfl (hb hby at_281) k_) ?_
        refine Go.on (g' := (mkF m 286 _ [(.int (1 : Int32))])) (fun t_ k_ => XS.goto X3.here hx rfl (pc0 := 282) (pc' := 286) rfl (hb hby at_282) (by decide) (by decide) k_) ?_
        exact Go.retI X3 hx hlk hret hby at_286 rfl (by simp) (by decide) (by decide) ⟨rfl, N0⟩
      · have q4 := iGt.2 q
        clear q
        show Go p e below _ _ (mkF m 232 _ [])
        refine Go.on (g' := (mkF m 233 _ [(.int (3 : Int32))])) (fun t_ k_ => XS.iconst X0.here hx rfl (hb hby at_232) k_) ?_
        refine Go.on (g' := (mkF m 235 #[.val (.long p0), .second, .val (.long p1), .second, .val (.long p2), .second, .val (.int p3), .val (.int p4), .val (.int (4 : Int32)), .val (.int c0), .val (.int c1), .val (.int c2), .val (.int c3), .val (.int c4), .val (.int c5), .val (.ref a), .val (.int (3 : Int32))] [])) (fun t_ k_ => XS.istore X0.here hx rfl (hb hby at_233) rfl (l' := #[.val (.long p0), .second, .val (.long p1), .second, .val (.long p2), .second, .val (.int p3), .val (.int p4), .val (.int (4 : Int32)), .val (.int c0), .val (.int c1), .val (.int c2), .val (.int c3), .val (.int c4), .val (.int c5), .val (.ref a), .val (.int (3 : Int32))]) rfl k_) ?_
        refine Go.on (g' := (mkF m 237 _ [(.int (4 : Int32))])) (fun t_ k_ => XS.iload X0.here hx rfl (hb hby at_235) rfl k_) ?_
        refine Go.on (g' := (mkF m 238 _ [(.int (4 : Int32)), (.int (4 : Int32))])) (fun t_ k_ => XS.iconst X0.here hx rfl (hb hby at_237) k_) ?_
        refine Go.icmp X0 hx hby at_238 (pcT := 251) (pcF := 241) (by decide) (by decide) rfl (fun q => ?_) (fun q => absurd q (by decide))
        clear q
        show Go p e below _ _ (mkF m 251 _ [])
        refine Go.on (g' := (mkF m 253 _ [(.int (4 : Int32))])) (fun t_ k_ => XS.iload X0.here hx rfl (hb hby at_251) rfl k_) ?_
        refine Go.on (g' := (mkF m 254 _ [(.int (5 : Int32)), (.int (4 : Int32))])) (fun t_ k_ => XS.iconst X0.here hx rfl (hb hby at_253) k_) ?_
        refine Go.icmp X0 hx hby at_254 (pcT := 267) (pcF := 257) (by decide) (by decide) rfl (fun q => ?_) (fun q => absurd q (by decide))
        clear q
        show Go p e below _ _ (mkF m 267 _ [])
        refine Go.on (g' := (mkF m 269 _ [(.ref a)])) (fun t_ k_ => XS.aload X0.here hx rfl (hb hby at_267) rfl rfl k_) ?_
        refine Go.on (g' := (mkF m 271 _ [(.int (4 : Int32)), (.ref a)])) (fun t_ k_ => XS.iload X0.here hx rfl (hb hby at_269) rfl k_) ?_
        refine Go.on (g' := (mkF m 273 _ [(.int p3), (.int (4 : Int32)), (.ref a)])) (fun t_ k_ => XS.iload X0.here hx rfl (hb hby at_271) rfl k_) ?_
        refine Go.callS X0 hx hZ hby (by rw [hml]; rfl) (y := (⟨"com/example/loomtrace/loomtrace/model/IntSort", "lastAtMost", "([III)I"⟩ : MethodName)) hown (hw _ (List.mem_of_getElem? (i := 7) rfl)) (hw _ (List.mem_of_getElem? (i := 8) rfl)) (hw _ (List.mem_of_getElem? (i := 9) rfl)) (hw _ (List.mem_of_getElem? (i := 10) rfl)) (by decide) (argsL := [(.ref a), (.int (4 : Int32)), (.int p3)]) (rest := []) (rmL4 l Z w0 hw [] a p3 h0 cl A0 hsz c1 hk1 c2 hk2 c3 hk3 s2 s3) e0 0 (by decide) (by decide) (by decide) (by decide) rfl pdL rfl (Nat.le_of_eq rfl) at_273 (pcF := 276) rfl ?_
        intro v4 T4 L4 X4 hQ4
        obtain ⟨rfl, rfl, e4⟩ := hQ4
        rw [List.append_nil] at X4
        show Go p e below _ _ (mkF m 276 _ [(.int (own_e4 c1 c2 c3 p3))])
        refine Go.on (g' := (mkF m 278 _ [(.int (3 : Int32)), (.int (own_e4 c1 c2 c3 p3))])) (fun t_ k_ => XS.iload X4.here hx rfl (hb hby at_276) rfl k_) ?_
        refine Go.icmp X4 hx hby at_278 (pcT := 285) (pcF := 281) (by decide) (by decide) rfl (fun q => absurd q (fun q => (iNe.1 q) (by simp only [Int32.lt_iff_toInt_lt] at q1 q2 q4 s2 s3; unfold own_e4; simp only [Int32.lt_iff_toInt_lt]; (repeat' split) <;> first | rfl | (exfalso; omega)))) (fun q => ?_)
        clear q
        show Go p e below _ _ (mkF m 281 _ [])
        refine Go.on (g' := (mkF m 282 _ [(.int (1 : Int32))])) (fun t_ k_ => XS.iconst X4.here hx rfl (hb hby at_281) k_) ?_
        refine Go.on (g' := (mkF m 286 _ [(.int (1 : Int32))])) (fun t_ k_ => XS.goto X4.here hx rfl (pc0 := 282) (pc' := 286) rfl (hb hby at_282) (by decide) (by decide) k_) ?_
        exact Go.retI X4 hx hlk hret hby at_286 rfl (by simp) (by decide) (by decide) ⟨rfl, N0⟩
  · have q1 := iGt.2 q
    clear q
    show Go p e below _ _ (mkF m 200 _ [])
    refine Go.on (g' := (mkF m 201 _ [(.int (1 : Int32))])) (fun t_ k_ => XS.iconst X0.here hx rfl (hb hby at_200) k_) ?_
    refine Go.on (g' := (mkF m 203 #[.val (.long p0), .second, .val (.long p1), .second, .val (.long p2), .second, .val (.int p3), .val (.int p4), .val (.int (4 : Int32)), .val (.int c0), .val (.int c1), .val (.int c2), .val (.int c3), .val (.int c4), .val (.int c5), .val (.ref a), .val (.int (1 : Int32))] [])) (fun t_ k_ => XS.istore X0.here hx rfl (hb hby at_201) rfl (l' := #[.val (.long p0), .second, .val (.long p1), .second, .val (.long p2), .second, .val (.int p3), .val (.int p4), .val (.int (4 : Int32)), .val (.int c0), .val (.int c1), .val (.int c2), .val (.int c3), .val (.int c4), .val (.int c5), .val (.ref a), .val (.int (1 : Int32))]) rfl k_) ?_
    refine Go.on (g' := (mkF m 205 _ [(.int (4 : Int32))])) (fun t_ k_ => XS.iload X0.here hx rfl (hb hby at_203) rfl k_) ?_
    refine Go.on (g' := (mkF m 206 _ [(.int (2 : Int32)), (.int (4 : Int32))])) (fun t_ k_ => XS.iconst X0.here hx rfl (hb hby at_205) k_) ?_
    refine Go.icmp X0 hx hby at_206 (pcT := 219) (pcF := 209) (by decide) (by decide) rfl (fun q => absurd q (by decide)) (fun q => ?_)
    clear q
    show Go p e below _ _ (mkF m 209 _ [])
    refine Go.on (g' := (mkF m 211 _ [(.int c2)])) (fun t_ k_ => XS.iload X0.here hx rfl (hb hby at_209) rfl k_) ?_
    refine Go.on (g' := (mkF m 213 _ [(.int p3), (.int c2)])) (fun t_ k_ => XS.iload X0.here hx rfl (hb hby at_211) rfl k_) ?_
    refine Go.icmp X0 hx hby at_213 (pcT := 219) (pcF := 216) (by decide) (by decide) rfl (fun q => ?_) (fun q => ?_)
    · have q5 := iGt.1 q
      clear q
      show Go p e below _ _ (mkF m 219 _ [])
      refine Go.on (g' := (mkF m 221 _ [(.int (4 : Int32))])) (fun t_ k_ => XS.iload X0.here hx rfl (hb hby at_219) rfl k_) ?_
      refine Go.on (g' := (mkF m 222 _ [(.int (3 : Int32)), (.int (4 : Int32))])) (fun t_ k_ => XS.iconst X0.here hx rfl (hb hby at_221) k_) ?_
      refine Go.icmp X0 hx hby at_222 (pcT := 235) (pcF := 225) (by decide) (by decide) rfl (fun q => absurd q (by decide)) (fun q => ?_)
      clear q
      show Go p e below _ _ (mkF m 225 _ [])
      refine Go.on (g' := (mkF m 227 _ [(.int c3)])) (fun t_ k_ => XS.iload X0.here hx rfl (hb hby at_225) rfl k_) ?_
      refine Go.on (g' := (mkF m 229 _ [(.int p3), (.int c3)])) (fun t_ k_ => XS.iload X0.here hx rfl (hb hby at_227) rfl k_) ?_
      refine Go.icmp X0 hx hby at_229 (pcT := 235) (pcF := 232) (by decide) (by decide) rfl (fun q => ?_) (fun q => ?_)
      · have q6 := iGt.1 q
        clear q
        show Go p e below _ _ (mkF m 235 _ [])
        refine Go.on (g' := (mkF m 237 _ [(.int (4 : Int32))])) (fun t_ k_ => XS.iload X0.here hx rfl (hb hby at_235) rfl k_) ?_
        refine Go.on (g' := (mkF m 238 _ [(.int (4 : Int32)), (.int (4 : Int32))])) (fun t_ k_ => XS.iconst X0.here hx rfl (hb hby at_237) k_) ?_
        refine Go.icmp X0 hx hby at_238 (pcT := 251) (pcF := 241) (by decide) (by decide) rfl (fun q => ?_) (fun q => absurd q (by decide))
        clear q
        show Go p e below _ _ (mkF m 251 _ [])
        refine Go.on (g' := (mkF m 253 _ [(.int (4 : Int32))])) (fun t_ k_ => XS.iload X0.here hx rfl (hb hby at_251) rfl k_) ?_
        refine Go.on (g' := (mkF m 254 _ [(.int (5 : Int32)), (.int (4 : Int32))])) (fun t_ k_ => XS.iconst X0.here hx rfl (hb hby at_253) k_) ?_
        refine Go.icmp X0 hx hby at_254 (pcT := 267) (pcF := 257) (by decide) (by decide) rfl (fun q => ?_) (fun q => absurd q (by decide))
        clear q
        show Go p e below _ _ (mkF m 267 _ [])
        refine Go.on (g' := (mkF m 269 _ [(.ref a)])) (fun t_ k_ => XS.aload X0.here hx rfl (hb hby at_267) rfl rfl k_) ?_
        refine Go.on (g' := (mkF m 271 _ [(.int (4 : Int32)), (.ref a)])) (fun t_ k_ => XS.iload X0.here hx rfl (hb hby at_269) rfl k_) ?_
        refine Go.on (g' := (mkF m 273 _ [(.int p3), (.int (4 : Int32)), (.ref a)])) (fun t_ k_ => XS.iload X0.here hx rfl (hb hby at_271) rfl k_) ?_
        refine Go.callS X0 hx hZ hby (by rw [hml]; rfl) (y := (⟨"com/example/loomtrace/loomtrace/model/IntSort", "lastAtMost", "([III)I"⟩ : MethodName)) hown (hw _ (List.mem_of_getElem? (i := 7) rfl)) (hw _ (List.mem_of_getElem? (i := 8) rfl)) (hw _ (List.mem_of_getElem? (i := 9) rfl)) (hw _ (List.mem_of_getElem? (i := 10) rfl)) (by decide) (argsL := [(.ref a), (.int (4 : Int32)), (.int p3)]) (rest := []) (rmL4 l Z w0 hw [] a p3 h0 cl A0 hsz c1 hk1 c2 hk2 c3 hk3 s2 s3) e0 0 (by decide) (by decide) (by decide) (by decide) rfl pdL rfl (Nat.le_of_eq rfl) at_273 (pcF := 276) rfl ?_
        intro v5 T5 L5 X5 hQ5
        obtain ⟨rfl, rfl, e5⟩ := hQ5
        rw [List.append_nil] at X5
        show Go p e below _ _ (mkF m 276 _ [(.int (own_e4 c1 c2 c3 p3))])
        refine Go.on (g' := (mkF m 278 _ [(.int (1 : Int32)), (.int (own_e4 c1 c2 c3 p3))])) (fun t_ k_ => XS.iload X5.here hx rfl (hb hby at_276) rfl k_) ?_
        refine Go.icmp X5 hx hby at_278 (pcT := 285) (pcF := 281) (by decide) (by decide) rfl (fun q => absurd q (fun q => (iNe.1 q) (by simp only [Int32.lt_iff_toInt_lt] at q1 q5 q6 s2 s3; unfold own_e4; simp only [Int32.lt_iff_toInt_lt]; (repeat' split) <;> first | rfl | (exfalso; omega)))) (fun q => ?_)
        clear q
        show Go p e below _ _ (mkF m 281 _ [])
        refine Go.on (g' := (mkF m 282 _ [(.int (1 : Int32))])) (fun t_ k_ => XS.iconst X5.here hx rfl (hb hby at_281) k_) ?_
        refine Go.on (g' := (mkF m 286 _ [(.int (1 : Int32))])) (fun t_ k_ => XS.goto X5.here hx rfl (pc0 := 282) (pc' := 286) rfl (hb hby at_282) (by decide) (by decide) k_) ?_
        exact Go.retI X5 hx hlk hret hby at_286 rfl (by simp) (by decide) (by decide) ⟨rfl, N0⟩
      · have q6 := iGt.2 q
        clear q
        show Go p e below _ _ (mkF m 232 _ [])
        refine Go.on (g' := (mkF m 233 _ [(.int (3 : Int32))])) (fun t_ k_ => XS.iconst X0.here hx rfl (hb hby at_232) k_) ?_
        refine Go.on (g' := (mkF m 235 #[.val (.long p0), .second, .val (.long p1), .second, .val (.long p2), .second, .val (.int p3), .val (.int p4), .val (.int (4 : Int32)), .val (.int c0), .val (.int c1), .val (.int c2), .val (.int c3), .val (.int c4), .val (.int c5), .val (.ref a), .val (.int (3 : Int32))] [])) (fun t_ k_ => XS.istore X0.here hx rfl (hb hby at_233) rfl (l' := #[.val (.long p0), .second, .val (.long p1), .second, .val (.long p2), .second, .val (.int p3), .val (.int p4), .val (.int (4 : Int32)), .val (.int c0), .val (.int c1), .val (.int c2), .val (.int c3), .val (.int c4), .val (.int c5), .val (.ref a), .val (.int (3 : Int32))]) rfl k_) ?_
        refine Go.on (g' := (mkF m 237 _ [(.int (4 : Int32))])) (fun t_ k_ => XS.iload X0.here hx rfl (hb hby at_235) rfl k_) ?_
        refine Go.on (g' := (mkF m 238 _ [(.int (4 : Int32)), (.int (4 : Int32))])) (fun t_ k_ => XS.iconst X0.here hx rfl (hb hby at_237) k_) ?_
        refine Go.icmp X0 hx hby at_238 (pcT := 251) (pcF := 241) (by decide) (by decide) rfl (fun q => ?_) (fun q => absurd q (by decide))
        clear q
        show Go p e below _ _ (mkF m 251 _ [])
        refine Go.on (g' := (mkF m 253 _ [(.int (4 : Int32))])) (fun t_ k_ => XS.iload X0.here hx rfl (hb hby at_251) rfl k_) ?_
        refine Go.on (g' := (mkF m 254 _ [(.int (5 : Int32)), (.int (4 : Int32))])) (fun t_ k_ => XS.iconst X0.here hx rfl (hb hby at_253) k_) ?_
        refine Go.icmp X0 hx hby at_254 (pcT := 267) (pcF := 257) (by decide) (by decide) rfl (fun q => ?_) (fun q => absurd q (by decide))
        clear q
        show Go p e below _ _ (mkF m 267 _ [])
        refine Go.on (g' := (mkF m 269 _ [(.ref a)])) (fun t_ k_ => XS.aload X0.here hx rfl (hb hby at_267) rfl rfl k_) ?_
        refine Go.on (g' := (mkF m 271 _ [(.int (4 : Int32)), (.ref a)])) (fun t_ k_ => XS.iload X0.here hx rfl (hb hby at_269) rfl k_) ?_
        refine Go.on (g' := (mkF m 273 _ [(.int p3), (.int (4 : Int32)), (.ref a)])) (fun t_ k_ => XS.iload X0.here hx rfl (hb hby at_271) rfl k_) ?_
        refine Go.callS X0 hx hZ hby (by rw [hml]; rfl) (y := (⟨"com/example/loomtrace/loomtrace/model/IntSort", "lastAtMost", "([III)I"⟩ : MethodName)) hown (hw _ (List.mem_of_getElem? (i := 7) rfl)) (hw _ (List.mem_of_getElem? (i := 8) rfl)) (hw _ (List.mem_of_getElem? (i := 9) rfl)) (hw _ (List.mem_of_getElem? (i := 10) rfl)) (by decide) (argsL := [(.ref a), (.int (4 : Int32)), (.int p3)]) (rest := []) (rmL4 l Z w0 hw [] a p3 h0 cl A0 hsz c1 hk1 c2 hk2 c3 hk3 s2 s3) e0 0 (by decide) (by decide) (by decide) (by decide) rfl pdL rfl (Nat.le_of_eq rfl) at_273 (pcF := 276) rfl ?_
        intro v6 T6 L6 X6 hQ6
        obtain ⟨rfl, rfl, e6⟩ := hQ6
        rw [List.append_nil] at X6
        show Go p e below _ _ (mkF m 276 _ [(.int (own_e4 c1 c2 c3 p3))])
        refine Go.on (g' := (mkF m 278 _ [(.int (3 : Int32)), (.int (own_e4 c1 c2 c3 p3))])) (fun t_ k_ => XS.iload X6.here hx rfl (hb hby at_276) rfl k_) ?_
        refine Go.icmp X6 hx hby at_278 (pcT := 285) (pcF := 281) (by decide) (by decide) rfl (fun q => absurd q (fun q => (iNe.1 q) (by simp only [Int32.lt_iff_toInt_lt] at q1 q5 q6 s2 s3; unfold own_e4; simp only [Int32.lt_iff_toInt_lt]; (repeat' split) <;> first | rfl | (exfalso; omega)))) (fun q => ?_)
        clear q
        show Go p e below _ _ (mkF m 281 _ [])
        refine Go.on (g' := (mkF m 282 _ [(.int (1 : Int32))])) (fun t_ k_ => XS.iconst X6.here hx rfl (hb hby at_281) k_) ?_
        refine Go.on (g' := (mkF m 286 _ [(.int (1 : Int32))])) (fun t_ k_ => XS.goto X6.here hx rfl (pc0 := 282) (pc' := 286) rfl (hb hby at_282) (by decide) (by decide) k_) ?_
        exact Go.retI X6 hx hlk hret hby at_286 rfl (by simp) (by decide) (by decide) ⟨rfl, N0⟩
    · have q5 := iGt.2 q
      clear q
      show Go p e below _ _ (mkF m 216 _ [])
      refine Go.on (g' := (mkF m 217 _ [(.int (2 : Int32))])) (fun t_ k_ => XS.iconst X0.here hx rfl (hb hby at_216) k_) ?_
      refine Go.on (g' := (mkF m 219 #[.val (.long p0), .second, .val (.long p1), .second, .val (.long p2), .second, .val (.int p3), .val (.int p4), .val (.int (4 : Int32)), .val (.int c0), .val (.int c1), .val (.int c2), .val (.int c3), .val (.int c4), .val (.int c5), .val (.ref a), .val (.int (2 : Int32))] [])) (fun t_ k_ => XS.istore X0.here hx rfl (hb hby at_217) rfl (l' := #[.val (.long p0), .second, .val (.long p1), .second, .val (.long p2), .second, .val (.int p3), .val (.int p4), .val (.int (4 : Int32)), .val (.int c0), .val (.int c1), .val (.int c2), .val (.int c3), .val (.int c4), .val (.int c5), .val (.ref a), .val (.int (2 : Int32))]) rfl k_) ?_
      refine Go.on (g' := (mkF m 221 _ [(.int (4 : Int32))])) (fun t_ k_ => XS.iload X0.here hx rfl (hb hby at_219) rfl k_) ?_
      refine Go.on (g' := (mkF m 222 _ [(.int (3 : Int32)), (.int (4 : Int32))])) (fun t_ k_ => XS.iconst X0.here hx rfl (hb hby at_221) k_) ?_
      refine Go.icmp X0 hx hby at_222 (pcT := 235) (pcF := 225) (by decide) (by decide) rfl (fun q => absurd q (by decide)) (fun q => ?_)
      clear q
      show Go p e below _ _ (mkF m 225 _ [])
      refine Go.on (g' := (mkF m 227 _ [(.int c3)])) (fun t_ k_ => XS.iload X0.here hx rfl (hb hby at_225) rfl k_) ?_
      refine Go.on (g' := (mkF m 229 _ [(.int p3), (.int c3)])) (fun t_ k_ => XS.iload X0.here hx rfl (hb hby at_227) rfl k_) ?_
      refine Go.icmp X0 hx hby at_229 (pcT := 235) (pcF := 232) (by decide) (by decide) rfl (fun q => ?_) (fun q => ?_)
      · have q7 := iGt.1 q
        clear q
        show Go p e below _ _ (mkF m 235 _ [])
        refine Go.on (g' := (mkF m 237 _ [(.int (4 : Int32))])) (fun t_ k_ => XS.iload X0.here hx rfl (hb hby at_235) rfl k_) ?_
        refine Go.on (g' := (mkF m 238 _ [(.int (4 : Int32)), (.int (4 : Int32))])) (fun t_ k_ => XS.iconst X0.here hx rfl (hb hby at_237) k_) ?_
        refine Go.icmp X0 hx hby at_238 (pcT := 251) (pcF := 241) (by decide) (by decide) rfl (fun q => ?_) (fun q => absurd q (by decide))
        clear q
        show Go p e below _ _ (mkF m 251 _ [])
        refine Go.on (g' := (mkF m 253 _ [(.int (4 : Int32))])) (fun t_ k_ => XS.iload X0.here hx rfl (hb hby at_251) rfl k_) ?_
        refine Go.on (g' := (mkF m 254 _ [(.int (5 : Int32)), (.int (4 : Int32))])) (fun t_ k_ => XS.iconst X0.here hx rfl (hb hby at_253) k_) ?_
        refine Go.icmp X0 hx hby at_254 (pcT := 267) (pcF := 257) (by decide) (by decide) rfl (fun q => ?_) (fun q => absurd q (by decide))
        clear q
        show Go p e below _ _ (mkF m 267 _ [])
        refine Go.on (g' := (mkF m 269 _ [(.ref a)])) (fun t_ k_ => XS.aload X0.here hx rfl (hb hby at_267) rfl rfl k_) ?_
        refine Go.on (g' := (mkF m 271 _ [(.int (4 : Int32)), (.ref a)])) (fun t_ k_ => XS.iload X0.here hx rfl (hb hby at_269) rfl k_) ?_
        refine Go.on (g' := (mkF m 273 _ [(.int p3), (.int (4 : Int32)), (.ref a)])) (fun t_ k_ => XS.iload X0.here hx rfl (hb hby at_271) rfl k_) ?_
        refine Go.callS X0 hx hZ hby (by rw [hml]; rfl) (y := (⟨"com/example/loomtrace/loomtrace/model/IntSort", "lastAtMost", "([III)I"⟩ : MethodName)) hown (hw _ (List.mem_of_getElem? (i := 7) rfl)) (hw _ (List.mem_of_getElem? (i := 8) rfl)) (hw _ (List.mem_of_getElem? (i := 9) rfl)) (hw _ (List.mem_of_getElem? (i := 10) rfl)) (by decide) (argsL := [(.ref a), (.int (4 : Int32)), (.int p3)]) (rest := []) (rmL4 l Z w0 hw [] a p3 h0 cl A0 hsz c1 hk1 c2 hk2 c3 hk3 s2 s3) e0 0 (by decide) (by decide) (by decide) (by decide) rfl pdL rfl (Nat.le_of_eq rfl) at_273 (pcF := 276) rfl ?_
        intro v7 T7 L7 X7 hQ7
        obtain ⟨rfl, rfl, e7⟩ := hQ7
        rw [List.append_nil] at X7
        show Go p e below _ _ (mkF m 276 _ [(.int (own_e4 c1 c2 c3 p3))])
        refine Go.on (g' := (mkF m 278 _ [(.int (2 : Int32)), (.int (own_e4 c1 c2 c3 p3))])) (fun t_ k_ => XS.iload X7.here hx rfl (hb hby at_276) rfl k_) ?_
        refine Go.icmp X7 hx hby at_278 (pcT := 285) (pcF := 281) (by decide) (by decide) rfl (fun q => absurd q (fun q => (iNe.1 q) (by simp only [Int32.lt_iff_toInt_lt] at q1 q5 q7 s2 s3; unfold own_e4; simp only [Int32.lt_iff_toInt_lt]; (repeat' split) <;> first | rfl | (exfalso; omega)))) (fun q => ?_)
        clear q
        show Go p e below _ _ (mkF m 281 _ [])
        refine Go.on (g' := (mkF m 282 _ [(.int (1 : Int32))])) (fun t_ k_ => XS.iconst X7.here hx rfl (hb hby at_281) k_) ?_
        refine Go.on (g' := (mkF m 286 _ [(.int (1 : Int32))])) (fun t_ k_ => XS.goto X7.here hx rfl (pc0 := 282) (pc' := 286) rfl (hb hby at_282) (by decide) (by decide) k_) ?_
        exact Go.retI X7 hx hlk hret hby at_286 rfl (by simp) (by decide) (by decide) ⟨rfl, N0⟩
      · have q7 := iGt.2 q
        clear q
        show Go p e below _ _ (mkF m 232 _ [])
        refine Go.on (g' := (mkF m 233 _ [(.int (3 : Int32))])) (fun t_ k_ => XS.iconst X0.here hx rfl (hb hby at_232) k_) ?_
        refine Go.on (g' := (mkF m 235 #[.val (.long p0), .second, .val (.long p1), .second, .val (.long p2), .second, .val (.int p3), .val (.int p4), .val (.int (4 : Int32)), .val (.int c0), .val (.int c1), .val (.int c2), .val (.int c3), .val (.int c4), .val (.int c5), .val (.ref a), .val (.int (3 : Int32))] [])) (fun t_ k_ => XS.istore X0.here hx rfl (hb hby at_233) rfl (l' := #[.val (.long p0), .second, .val (.long p1), .second, .val (.long p2), .second, .val (.int p3), .val (.int p4), .val (.int (4 : Int32)), .val (.int c0), .val (.int c1), .val (.int c2), .val (.int c3), .val (.int c4), .val (.int c5), .val (.ref a), .val (.int (3 : Int32))]) rfl k_) ?_
        refine Go.on (g' := (mkF m 237 _ [(.int (4 : Int32))])) (fun t_ k_ => XS.iload X0.here hx rfl (hb hby at_235) rfl k_) ?_
        refine Go.on (g' := (mkF m 238 _ [(.int (4 : Int32)), (.int (4 : Int32))])) (fun t_ k_ => XS.iconst X0.here hx rfl (hb hby at_237) k_) ?_
        refine Go.icmp X0 hx hby at_238 (pcT := 251) (pcF := 241) (by decide) (by decide) rfl (fun q => ?_) (fun q => absurd q (by decide))
        clear q
        show Go p e below _ _ (mkF m 251 _ [])
        refine Go.on (g' := (mkF m 253 _ [(.int (4 : Int32))])) (fun t_ k_ => XS.iload X0.here hx rfl (hb hby at_251) rfl k_) ?_
        refine Go.on (g' := (mkF m 254 _ [(.int (5 : Int32)), (.int (4 : Int32))])) (fun t_ k_ => XS.iconst X0.here hx rfl (hb hby at_253) k_) ?_
        refine Go.icmp X0 hx hby at_254 (pcT := 267) (pcF := 257) (by decide) (by decide) rfl (fun q => ?_) (fun q => absurd q (by decide))
        clear q
        show Go p e below _ _ (mkF m 267 _ [])
        refine Go.on (g' := (mkF m 269 _ [(.ref a)])) (fun t_ k_ => XS.aload X0.here hx rfl (hb hby at_267) rfl rfl k_) ?_
        refine Go.on (g' := (mkF m 271 _ [(.int (4 : Int32)), (.ref a)])) (fun t_ k_ => XS.iload X0.here hx rfl (hb hby at_269) rfl k_) ?_
        refine Go.on (g' := (mkF m 273 _ [(.int p3), (.int (4 : Int32)), (.ref a)])) (fun t_ k_ => XS.iload X0.here hx rfl (hb hby at_271) rfl k_) ?_
        refine Go.callS X0 hx hZ hby (by rw [hml]; rfl) (y := (⟨"com/example/loomtrace/loomtrace/model/IntSort", "lastAtMost", "([III)I"⟩ : MethodName)) hown (hw _ (List.mem_of_getElem? (i := 7) rfl)) (hw _ (List.mem_of_getElem? (i := 8) rfl)) (hw _ (List.mem_of_getElem? (i := 9) rfl)) (hw _ (List.mem_of_getElem? (i := 10) rfl)) (by decide) (argsL := [(.ref a), (.int (4 : Int32)), (.int p3)]) (rest := []) (rmL4 l Z w0 hw [] a p3 h0 cl A0 hsz c1 hk1 c2 hk2 c3 hk3 s2 s3) e0 0 (by decide) (by decide) (by decide) (by decide) rfl pdL rfl (Nat.le_of_eq rfl) at_273 (pcF := 276) rfl ?_
        intro v8 T8 L8 X8 hQ8
        obtain ⟨rfl, rfl, e8⟩ := hQ8
        rw [List.append_nil] at X8
        show Go p e below _ _ (mkF m 276 _ [(.int (own_e4 c1 c2 c3 p3))])
        refine Go.on (g' := (mkF m 278 _ [(.int (3 : Int32)), (.int (own_e4 c1 c2 c3 p3))])) (fun t_ k_ => XS.iload X8.here hx rfl (hb hby at_276) rfl k_) ?_
        refine Go.icmp X8 hx hby at_278 (pcT := 285) (pcF := 281) (by decide) (by decide) rfl (fun q => absurd q (fun q => (iNe.1 q) (by simp only [Int32.lt_iff_toInt_lt] at q1 q5 q7 s2 s3; unfold own_e4; simp only [Int32.lt_iff_toInt_lt]; (repeat' split) <;> first | rfl | (exfalso; omega)))) (fun q => ?_)
        clear q
        show Go p e below _ _ (mkF m 281 _ [])
        refine Go.on (g' := (mkF m 282 _ [(.int (1 : Int32))])) (fun t_ k_ => XS.iconst X8.here hx rfl (hb hby at_281) k_) ?_
        refine Go.on (g' := (mkF m 286 _ [(.int (1 : Int32))])) (fun t_ k_ => XS.goto X8.here hx rfl (pc0 := 282) (pc' := 286) rfl (hb hby at_282) (by decide) (by decide) k_) ?_
        exact Go.retI X8 hx hlk hret hby at_286 rfl (by simp) (by decide) (by decide) ⟨rfl, N0⟩
set_option maxRecDepth 65536 in
set_option maxHeartbeats 40000000 in
theorem tl5 (l : Launch) (Z : State) (w0 : Array Value) (hw : ∀ d ∈ tables_1, d.before w0 Z = true) (ws : List Jvm.Cond) (p0 p1 p2 : Int64) (p3 p4 c0 c1 c2 c3 c4 c5 : Int32) (p : Program) (e : Env) (s : State) (m : MethodId) (below : List Frame) (meth : Method) (c : Code) (T0 : State) (locs : List Loc) (X0 : Stand p l e room_1 s m #[.long p0, .long p1, .long p2, .int p3, .int p4] below meth c T0 locs 1 7) (hx : p.tables.exec = Jvm.exec) (hby : c.code = code) (hml : c.maxLocals = maxLocals) (hret : meth.sig.returnType = ret) (hlk : meth.locks = false) (hown : s.vm.findClass "com/example/loomtrace/loomtrace/model/IntSortLastAtMostPinLaw" = some m.cls) (hZ : Z.Warmed39 s.vm) (h0 : Heap) (e0 : T0.heap = h0) (n0 : Nat) (N0 : Fr n0 locs) (a : Addr) (cl : Cell) (A0 : Arr Z h0 a cl .int) (hsz : cl.slots.size = 7) (hk1 : cl.slots[(1 : Int32).toNatClampNeg]? = some (.int c1)) (hk2 : cl.slots[(2 : Int32).toNatClampNeg]? = some (.int c2)) (hk3 : cl.slots[(3 : Int32).toNatClampNeg]? = some (.int c3)) (hk4 : cl.slots[(4 : Int32).toNatClampNeg]? = some (.int c4)) (s2 : ¬ c2 < c1) (s3 : ¬ c3 < c2) (s4 : ¬ c4 < c3) : Go p e below (EndK s (own_Q0 n0) room_1.cells room_1.slots) T0 (mkF m 184 #[.val (.long p0), .second, .val (.long p1), .second, .val (.long p2), .second, .val (.int p3), .val (.int p4), .val (.int (5 : Int32)), .val (.int c0), .val (.int c1), .val (.int c2), .val (.int c3), .val (.int c4), .val (.int c5), .val (.ref a), .unset] []) := by
  refine Go.on (g' := (mkF m 185 _ [(.int (0 : Int32))])) (fun t_ k_ => XS.iconst X0.here hx rfl (hb hby at_184) k_) ?_
  refine Go.on (g' := (mkF m 187 #[.val (.long p0), .second, .val (.long p1), .second, .val (.long p2), .second, .val (.int p3), .val (.int p4), .val (.int (5 : Int32)), .val (.int c0), .val (.int c1), .val (.int c2), .val (.int c3), .val (.int c4), .val (.int c5), .val (.ref a), .val (.int (0 : Int32))] [])) (fun t_ k_ => XS.istore X0.here hx rfl (hb hby at_185) rfl (l' := #[.val (.long p0), .second, .val (.long p1), .second, .val (.long p2), .second, .val (.int p3), .val (.int p4), .val (.int (5 : Int32)), .val (.int c0), .val (.int c1), .val (.int c2), .val (.int c3), .val (.int c4), .val (.int c5), .val (.ref a), .val (.int (0 : Int32))]) rfl k_) ?_
  refine Go.on (g' := (mkF m 189 _ [(.int (5 : Int32))])) (fun t_ k_ => XS.iload X0.here hx rfl (hb hby at_187) rfl k_) ?_
  refine Go.on (g' := (mkF m 190 _ [(.int (1 : Int32)), (.int (5 : Int32))])) (fun t_ k_ => XS.iconst X0.here hx rfl (hb hby at_189) k_) ?_
  refine Go.icmp X0 hx hby at_190 (pcT := 203) (pcF := 193) (by decide) (by decide) rfl (fun q => absurd q (by decide)) (fun q => ?_)
  clear q
  show Go p e below _ _ (mkF m 193 _ [])
  refine Go.on (g' := (mkF m 195 _ [(.int c1)])) (fun t_ k_ => XS.iload X0.here hx rfl (hb hby at_193) rfl k_) ?_
  refine Go.on (g' := (mkF m 197 _ [(.int p3), (.int c1)])) (fun t_ k_ => XS.iload X0.here hx rfl (hb hby at_195) rfl k_) ?_
  refine Go.icmp X0 hx hby at_197 (pcT := 203) (pcF := 200) (by decide) (by decide) rfl (fun q => ?_) (fun q => ?_)
  · have q1 := iGt.1 q
    clear q
    show Go p e below _ _ (mkF m 203 _ [])
    refine Go.on (g' := (mkF m 205 _ [(.int (5 : Int32))])) (fun t_ k_ => XS.iload X0.here hx rfl (hb hby at_203) rfl k_) ?_
    refine Go.on (g' := (mkF m 206 _ [(.int (2 : Int32)), (.int (5 : Int32))])) (fun t_ k_ => XS.iconst X0.here hx rfl (hb hby at_205) k_) ?_
    refine Go.icmp X0 hx hby at_206 (pcT := 219) (pcF := 209) (by decide) (by decide) rfl (fun q => absurd q (by decide)) (fun q => ?_)
    clear q
    show Go p e below _ _ (mkF m 209 _ [])
    refine Go.on (g' := (mkF m 211 _ [(.int c2)])) (fun t_ k_ => XS.iload X0.here hx rfl (hb hby at_209) rfl k_) ?_
    refine Go.on (g' := (mkF m 213 _ [(.int p3), (.int c2)])) (fun t_ k_ => XS.iload X0.here hx rfl (hb hby at_211) rfl k_) ?_
    refine Go.icmp X0 hx hby at_213 (pcT := 219) (pcF := 216) (by decide) (by decide) rfl (fun q => ?_) (fun q => ?_)
    · have q2 := iGt.1 q
      clear q
      show Go p e below _ _ (mkF m 219 _ [])
      refine Go.on (g' := (mkF m 221 _ [(.int (5 : Int32))])) (fun t_ k_ => XS.iload X0.here hx rfl (hb hby at_219) rfl k_) ?_
      refine Go.on (g' := (mkF m 222 _ [(.int (3 : Int32)), (.int (5 : Int32))])) (fun t_ k_ => XS.iconst X0.here hx rfl (hb hby at_221) k_) ?_
      refine Go.icmp X0 hx hby at_222 (pcT := 235) (pcF := 225) (by decide) (by decide) rfl (fun q => absurd q (by decide)) (fun q => ?_)
      clear q
      show Go p e below _ _ (mkF m 225 _ [])
      refine Go.on (g' := (mkF m 227 _ [(.int c3)])) (fun t_ k_ => XS.iload X0.here hx rfl (hb hby at_225) rfl k_) ?_
      refine Go.on (g' := (mkF m 229 _ [(.int p3), (.int c3)])) (fun t_ k_ => XS.iload X0.here hx rfl (hb hby at_227) rfl k_) ?_
      refine Go.icmp X0 hx hby at_229 (pcT := 235) (pcF := 232) (by decide) (by decide) rfl (fun q => ?_) (fun q => ?_)
      · have q3 := iGt.1 q
        clear q
        show Go p e below _ _ (mkF m 235 _ [])
        refine Go.on (g' := (mkF m 237 _ [(.int (5 : Int32))])) (fun t_ k_ => XS.iload X0.here hx rfl (hb hby at_235) rfl k_) ?_
        refine Go.on (g' := (mkF m 238 _ [(.int (4 : Int32)), (.int (5 : Int32))])) (fun t_ k_ => XS.iconst X0.here hx rfl (hb hby at_237) k_) ?_
        refine Go.icmp X0 hx hby at_238 (pcT := 251) (pcF := 241) (by decide) (by decide) rfl (fun q => absurd q (by decide)) (fun q => ?_)
        clear q
        show Go p e below _ _ (mkF m 241 _ [])
        refine Go.on (g' := (mkF m 243 _ [(.int c4)])) (fun t_ k_ => XS.iload X0.here hx rfl (hb hby at_241) rfl k_) ?_
        refine Go.on (g' := (mkF m 245 _ [(.int p3), (.int c4)])) (fun t_ k_ => XS.iload X0.here hx rfl (hb hby at_243) rfl k_) ?_
        refine Go.icmp X0 hx hby at_245 (pcT := 251) (pcF := 248) (by decide) (by decide) rfl (fun q => ?_) (fun q => ?_)
        · have q4 := iGt.1 q
          clear q
          show Go p e below _ _ (mkF m 251 _ [])
          refine Go.on (g' := (mkF m 253 _ [(.int (5 : Int32))])) (fun t_ k_ => XS.iload X0.here hx rfl (hb hby at_251) rfl k_) ?_
          refine Go.on (g' := (mkF m 254 _ [(.int (5 : Int32)), (.int (5 : Int32))])) (fun t_ k_ => XS.iconst X0.here hx rfl (hb hby at_253) k_) ?_
          refine Go.icmp X0 hx hby at_254 (pcT := 267) (pcF := 257) (by decide) (by decide) rfl (fun q => ?_) (fun q => absurd q (by decide))
          clear q
          show Go p e below _ _ (mkF m 267 _ [])
          refine Go.on (g' := (mkF m 269 _ [(.ref a)])) (fun t_ k_ => XS.aload X0.here hx rfl (hb hby at_267) rfl rfl k_) ?_
          refine Go.on (g' := (mkF m 271 _ [(.int (5 : Int32)), (.ref a)])) (fun t_ k_ => XS.iload X0.here hx rfl (hb hby at_269) rfl k_) ?_
          refine Go.on (g' := (mkF m 273 _ [(.int p3), (.int (5 : Int32)), (.ref a)])) (fun t_ k_ => XS.iload X0.here hx rfl (hb hby at_271) rfl k_) ?_
          refine Go.callS X0 hx hZ hby (by rw [hml]; rfl) (y := (⟨"com/example/loomtrace/loomtrace/model/IntSort", "lastAtMost", "([III)I"⟩ : MethodName)) hown (hw _ (List.mem_of_getElem? (i := 7) rfl)) (hw _ (List.mem_of_getElem? (i := 8) rfl)) (hw _ (List.mem_of_getElem? (i := 9) rfl)) (hw _ (List.mem_of_getElem? (i := 10) rfl)) (by decide) (argsL := [(.ref a), (.int (5 : Int32)), (.int p3)]) (rest := []) (rmL5 l Z w0 hw [] a p3 h0 cl A0 hsz c1 hk1 c2 hk2 c3 hk3 c4 hk4 s2 s3 s4) e0 0 (by decide) (by decide) (by decide) (by decide) rfl pdL rfl (Nat.le_of_eq rfl) at_273 (pcF := 276) rfl ?_
          intro v1 T1 L1 X1 hQ1
          obtain ⟨rfl, rfl, e1⟩ := hQ1
          rw [List.append_nil] at X1
          show Go p e below _ _ (mkF m 276 _ [(.int (own_e5 c1 c2 c3 c4 p3))])
          refine Go.on (g' := (mkF m 278 _ [(.int (0 : Int32)), (.int (own_e5 c1 c2 c3 c4 p3))])) (fun t_ k_ => XS.iload X1.here hx rfl (hb hby at_276) rfl k_) ?_
          refine Go.icmp X1 hx hby at_278 (pcT := 285) (pcF := 281) (by decide) (by decide) rfl (fun q => absurd q (fun q => (iNe.1 q) (by simp only [Int32.lt_iff_toInt_lt] at q1 q2 q3 q4 s2 s3 s4; unfold own_e5; simp only [Int32.lt_iff_toInt_lt]; (repeat' split) <;> first | rfl | (exfalso; omega)))) (fun q => ?_)
          clear q
          show Go p e below _ _ (mkF m 281 _ [])
          refine Go.on (g' := (mkF m 282 _ [(.int (1 : Int32))])) (fun t_ k_ => XS.iconst X1.here hx rfl (hb hby at_281) k_) ?_
          refine Go.on (g' := (mkF m 286 _ [(.int (1 : Int32))])) (fun t_ k_ => XS.goto X1.here hx rfl (pc0 := 282) (pc' := 286) rfl (hb hby at_282) (by decide) (by decide) k_) ?_
          exact Go.retI X1 hx hlk hret hby at_286 rfl (by simp) (by decide) (by decide) ⟨rfl, N0⟩
        · have q4 := iGt.2 q
          clear q
          show Go p e below _ _ (mkF m 248 _ [])
          refine Go.on (g' := (mkF m 249 _ [(.int (4 : Int32))])) (fun t_ k_ => XS.iconst X0.here hx rfl (hb hby at_248) k_) ?_
          refine Go.on (g' := (mkF m 251 #[.val (.long p0), .second, .val (.long p1), .second, .val (.long p2), .second, .val (.int p3), .val (.int p4), .val (.int (5 : Int32)), .val (.int c0), .val (.int c1), .val (.int c2), .val (.int c3), .val (.int c4), .val (.int c5), .val (.ref a), .val (.int (4 : Int32))] [])) (fun t_ k_ => XS.istore X0.here hx rfl (hb hby at_249) rfl (l' := #[.val (.long p0), .second, .val (.long p1), .second, .val (.long p2), .second, .val (.int p3), .val (.int p4), .val (.int (5 : Int32)), .val (.int c0), .val (.int c1), .val (.int c2), .val (.int c3), .val (.int c4), .val (.int c5), .val (.ref a), .val (.int (4 : Int32))]) rfl k_) ?_
          refine Go.on (g' := (mkF m 253 _ [(.int (5 : Int32))])) (fun t_ k_ => XS.iload X0.here hx rfl (hb hby at_251) rfl k_) ?_
          refine Go.on (g' := (mkF m 254 _ [(.int (5 : Int32)), (.int (5 : Int32))])) (fun t_ k_ => XS.iconst X0.here hx rfl (hb hby at_253) k_) ?_
          refine Go.icmp X0 hx hby at_254 (pcT := 267) (pcF := 257) (by decide) (by decide) rfl (fun q => ?_) (fun q => absurd q (by decide))
          clear q
          show Go p e below _ _ (mkF m 267 _ [])
          refine Go.on (g' := (mkF m 269 _ [(.ref a)])) (fun t_ k_ => XS.aload X0.here hx rfl (hb hby at_267) rfl rfl k_) ?_
          refine Go.on (g' := (mkF m 271 _ [(.int (5 : Int32)), (.ref a)])) (fun t_ k_ => XS.iload X0.here hx rfl (hb hby at_269) rfl k_) ?_
          refine Go.on (g' := (mkF m 273 _ [(.int p3), (.int (5 : Int32)), (.ref a)])) (fun t_ k_ => XS.iload X0.here hx rfl (hb hby at_271) rfl k_) ?_
          refine Go.callS X0 hx hZ hby (by rw [hml]; rfl) (y := (⟨"com/example/loomtrace/loomtrace/model/IntSort", "lastAtMost", "([III)I"⟩ : MethodName)) hown (hw _ (List.mem_of_getElem? (i := 7) rfl)) (hw _ (List.mem_of_getElem? (i := 8) rfl)) (hw _ (List.mem_of_getElem? (i := 9) rfl)) (hw _ (List.mem_of_getElem? (i := 10) rfl)) (by decide) (argsL := [(.ref a), (.int (5 : Int32)), (.int p3)]) (rest := []) (rmL5 l Z w0 hw [] a p3 h0 cl A0 hsz c1 hk1 c2 hk2 c3 hk3 c4 hk4 s2 s3 s4) e0 0 (by decide) (by decide) (by decide) (by decide) rfl pdL rfl (Nat.le_of_eq rfl) at_273 (pcF := 276) rfl ?_
          intro v2 T2 L2 X2 hQ2
          obtain ⟨rfl, rfl, e2⟩ := hQ2
          rw [List.append_nil] at X2
          show Go p e below _ _ (mkF m 276 _ [(.int (own_e5 c1 c2 c3 c4 p3))])
          refine Go.on (g' := (mkF m 278 _ [(.int (4 : Int32)), (.int (own_e5 c1 c2 c3 c4 p3))])) (fun t_ k_ => XS.iload X2.here hx rfl (hb hby at_276) rfl k_) ?_
          refine Go.icmp X2 hx hby at_278 (pcT := 285) (pcF := 281) (by decide) (by decide) rfl (fun q => absurd q (fun q => (iNe.1 q) (by simp only [Int32.lt_iff_toInt_lt] at q1 q2 q3 q4 s2 s3 s4; unfold own_e5; simp only [Int32.lt_iff_toInt_lt]; (repeat' split) <;> first | rfl | (exfalso; omega)))) (fun q => ?_)
          clear q
          show Go p e below _ _ (mkF m 281 _ [])
          refine Go.on (g' := (mkF m 282 _ [(.int (1 : Int32))])) (fun t_ k_ => XS.iconst X2.here hx rfl (hb hby at_281) k_) ?_
          refine Go.on (g' := (mkF m 286 _ [(.int (1 : Int32))])) (fun t_ k_ => XS.goto X2.here hx rfl (pc0 := 282) (pc' := 286) rfl (hb hby at_282) (by decide) (by decide) k_) ?_
          exact Go.retI X2 hx hlk hret hby at_286 rfl (by simp) (by decide) (by decide) ⟨rfl, N0⟩
      · have q3 := iGt.2 q
        clear q
        show Go p e below _ _ (mkF m 232 _ [])
        refine Go.on (g' := (mkF m 233 _ [(.int (3 : Int32))])) (fun t_ k_ => XS.iconst X0.here hx rfl (hb hby at_232) k_) ?_
        refine Go.on (g' := (mkF m 235 #[.val (.long p0), .second, .val (.long p1), .second, .val (.long p2), .second, .val (.int p3), .val (.int p4), .val (.int (5 : Int32)), .val (.int c0), .val (.int c1), .val (.int c2), .val (.int c3), .val (.int c4), .val (.int c5), .val (.ref a), .val (.int (3 : Int32))] [])) (fun t_ k_ => XS.istore X0.here hx rfl (hb hby at_233) rfl (l' := #[.val (.long p0), .second, .val (.long p1), .second, .val (.long p2), .second, .val (.int p3), .val (.int p4), .val (.int (5 : Int32)), .val (.int c0), .val (.int c1), .val (.int c2), .val (.int c3), .val (.int c4), .val (.int c5), .val (.ref a), .val (.int (3 : Int32))]) rfl k_) ?_
        refine Go.on (g' := (mkF m 237 _ [(.int (5 : Int32))])) (fun t_ k_ => XS.iload X0.here hx rfl (hb hby at_235) rfl k_) ?_
        refine Go.on (g' := (mkF m 238 _ [(.int (4 : Int32)), (.int (5 : Int32))])) (fun t_ k_ => XS.iconst X0.here hx rfl (hb hby at_237) k_) ?_
        refine Go.icmp X0 hx hby at_238 (pcT := 251) (pcF := 241) (by decide) (by decide) rfl (fun q => absurd q (by decide)) (fun q => ?_)
        clear q
        show Go p e below _ _ (mkF m 241 _ [])
        refine Go.on (g' := (mkF m 243 _ [(.int c4)])) (fun t_ k_ => XS.iload X0.here hx rfl (hb hby at_241) rfl k_) ?_
        refine Go.on (g' := (mkF m 245 _ [(.int p3), (.int c4)])) (fun t_ k_ => XS.iload X0.here hx rfl (hb hby at_243) rfl k_) ?_
        refine Go.icmp X0 hx hby at_245 (pcT := 251) (pcF := 248) (by decide) (by decide) rfl (fun q => ?_) (fun q => ?_)
        · have q5 := iGt.1 q
          clear q
          show Go p e below _ _ (mkF m 251 _ [])
          refine Go.on (g' := (mkF m 253 _ [(.int (5 : Int32))])) (fun t_ k_ => XS.iload X0.here hx rfl (hb hby at_251) rfl k_) ?_
          refine Go.on (g' := (mkF m 254 _ [(.int (5 : Int32)), (.int (5 : Int32))])) (fun t_ k_ => XS.iconst X0.here hx rfl (hb hby at_253) k_) ?_
          refine Go.icmp X0 hx hby at_254 (pcT := 267) (pcF := 257) (by decide) (by decide) rfl (fun q => ?_) (fun q => absurd q (by decide))
          clear q
          show Go p e below _ _ (mkF m 267 _ [])
          refine Go.on (g' := (mkF m 269 _ [(.ref a)])) (fun t_ k_ => XS.aload X0.here hx rfl (hb hby at_267) rfl rfl k_) ?_
          refine Go.on (g' := (mkF m 271 _ [(.int (5 : Int32)), (.ref a)])) (fun t_ k_ => XS.iload X0.here hx rfl (hb hby at_269) rfl k_) ?_
          refine Go.on (g' := (mkF m 273 _ [(.int p3), (.int (5 : Int32)), (.ref a)])) (fun t_ k_ => XS.iload X0.here hx rfl (hb hby at_271) rfl k_) ?_
          refine Go.callS X0 hx hZ hby (by rw [hml]; rfl) (y := (⟨"com/example/loomtrace/loomtrace/model/IntSort", "lastAtMost", "([III)I"⟩ : MethodName)) hown (hw _ (List.mem_of_getElem? (i := 7) rfl)) (hw _ (List.mem_of_getElem? (i := 8) rfl)) (hw _ (List.mem_of_getElem? (i := 9) rfl)) (hw _ (List.mem_of_getElem? (i := 10) rfl)) (by decide) (argsL := [(.ref a), (.int (5 : Int32)), (.int p3)]) (rest := []) (rmL5 l Z w0 hw [] a p3 h0 cl A0 hsz c1 hk1 c2 hk2 c3 hk3 c4 hk4 s2 s3 s4) e0 0 (by decide) (by decide) (by decide) (by decide) rfl pdL rfl (Nat.le_of_eq rfl) at_273 (pcF := 276) rfl ?_
          intro v3 T3 L3 X3 hQ3
          obtain ⟨rfl, rfl, e3⟩ := hQ3
          rw [List.append_nil] at X3
          show Go p e below _ _ (mkF m 276 _ [(.int (own_e5 c1 c2 c3 c4 p3))])
          refine Go.on (g' := (mkF m 278 _ [(.int (3 : Int32)), (.int (own_e5 c1 c2 c3 c4 p3))])) (fun t_ k_ => XS.iload X3.here hx rfl (hb hby at_276) rfl k_) ?_
          refine Go.icmp X3 hx hby at_278 (pcT := 285) (pcF := 281) (by decide) (by decide) rfl (fun q => absurd q (fun q => (iNe.1 q) (by simp only [Int32.lt_iff_toInt_lt] at q1 q2 q3 q5 s2 s3 s4; unfold own_e5; simp only [Int32.lt_iff_toInt_lt]; (repeat' split) <;> first | rfl | (exfalso; omega)))) (fun q => ?_)
          clear q
          show Go p e below _ _ (mkF m 281 _ [])
          refine Go.on (g' := (mkF m 282 _ [(.int (1 : Int32))])) (fun t_ k_ => XS.iconst X3.here hx rfl (hb hby at_281) k_) ?_
          refine Go.on (g' := (mkF m 286 _ [(.int (1 : Int32))])) (fun t_ k_ => XS.goto X3.here hx rfl (pc0 := 282) (pc' := 286) rfl (hb hby at_282) (by decide) (by decide) k_) ?_
          exact Go.retI X3 hx hlk hret hby at_286 rfl (by simp) (by decide) (by decide) ⟨rfl, N0⟩
        · have q5 := iGt.2 q
          clear q
          show Go p e below _ _ (mkF m 248 _ [])
          refine Go.on (g' := (mkF m 249 _ [(.int (4 : Int32))])) (fun t_ k_ => XS.iconst X0.here hx rfl (hb hby at_248) k_) ?_
          refine Go.on (g' := (mkF m 251 #[.val (.long p0), .second, .val (.long p1), .second, .val (.long p2), .second, .val (.int p3), .val (.int p4), .val (.int (5 : Int32)), .val (.int c0), .val (.int c1), .val (.int c2), .val (.int c3), .val (.int c4), .val (.int c5), .val (.ref a), .val (.int (4 : Int32))] [])) (fun t_ k_ => XS.istore X0.here hx rfl (hb hby at_249) rfl (l' := #[.val (.long p0), .second, .val (.long p1), .second, .val (.long p2), .second, .val (.int p3), .val (.int p4), .val (.int (5 : Int32)), .val (.int c0), .val (.int c1), .val (.int c2), .val (.int c3), .val (.int c4), .val (.int c5), .val (.ref a), .val (.int (4 : Int32))]) rfl k_) ?_
          refine Go.on (g' := (mkF m 253 _ [(.int (5 : Int32))])) (fun t_ k_ => XS.iload X0.here hx rfl (hb hby at_251) rfl k_) ?_
          refine Go.on (g' := (mkF m 254 _ [(.int (5 : Int32)), (.int (5 : Int32))])) (fun t_ k_ => XS.iconst X0.here hx rfl (hb hby at_253) k_) ?_
          refine Go.icmp X0 hx hby at_254 (pcT := 267) (pcF := 257) (by decide) (by decide) rfl (fun q => ?_) (fun q => absurd q (by decide))
          clear q
          show Go p e below _ _ (mkF m 267 _ [])
          refine Go.on (g' := (mkF m 269 _ [(.ref a)])) (fun t_ k_ => XS.aload X0.here hx rfl (hb hby at_267) rfl rfl k_) ?_
          refine Go.on (g' := (mkF m 271 _ [(.int (5 : Int32)), (.ref a)])) (fun t_ k_ => XS.iload X0.here hx rfl (hb hby at_269) rfl k_) ?_
          refine Go.on (g' := (mkF m 273 _ [(.int p3), (.int (5 : Int32)), (.ref a)])) (fun t_ k_ => XS.iload X0.here hx rfl (hb hby at_271) rfl k_) ?_
          refine Go.callS X0 hx hZ hby (by rw [hml]; rfl) (y := (⟨"com/example/loomtrace/loomtrace/model/IntSort", "lastAtMost", "([III)I"⟩ : MethodName)) hown (hw _ (List.mem_of_getElem? (i := 7) rfl)) (hw _ (List.mem_of_getElem? (i := 8) rfl)) (hw _ (List.mem_of_getElem? (i := 9) rfl)) (hw _ (List.mem_of_getElem? (i := 10) rfl)) (by decide) (argsL := [(.ref a), (.int (5 : Int32)), (.int p3)]) (rest := []) (rmL5 l Z w0 hw [] a p3 h0 cl A0 hsz c1 hk1 c2 hk2 c3 hk3 c4 hk4 s2 s3 s4) e0 0 (by decide) (by decide) (by decide) (by decide) rfl pdL rfl (Nat.le_of_eq rfl) at_273 (pcF := 276) rfl ?_
          intro v4 T4 L4 X4 hQ4
          obtain ⟨rfl, rfl, e4⟩ := hQ4
          rw [List.append_nil] at X4
          show Go p e below _ _ (mkF m 276 _ [(.int (own_e5 c1 c2 c3 c4 p3))])
          refine Go.on (g' := (mkF m 278 _ [(.int (4 : Int32)), (.int (own_e5 c1 c2 c3 c4 p3))])) (fun t_ k_ => XS.iload X4.here hx rfl (hb hby at_276) rfl k_) ?_
          refine Go.icmp X4 hx hby at_278 (pcT := 285) (pcF := 281) (by decide) (by decide) rfl (fun q => absurd q (fun q => (iNe.1 q) (by simp only [Int32.lt_iff_toInt_lt] at q1 q2 q3 q5 s2 s3 s4; unfold own_e5; simp only [Int32.lt_iff_toInt_lt]; (repeat' split) <;> first | rfl | (exfalso; omega)))) (fun q => ?_)
          clear q
          show Go p e below _ _ (mkF m 281 _ [])
          refine Go.on (g' := (mkF m 282 _ [(.int (1 : Int32))])) (fun t_ k_ => XS.iconst X4.here hx rfl (hb hby at_281) k_) ?_
          refine Go.on (g' := (mkF m 286 _ [(.int (1 : Int32))])) (fun t_ k_ => XS.goto X4.here hx rfl (pc0 := 282) (pc' := 286) rfl (hb hby at_282) (by decide) (by decide) k_) ?_
          exact Go.retI X4 hx hlk hret hby at_286 rfl (by simp) (by decide) (by decide) ⟨rfl, N0⟩
    · have q2 := iGt.2 q
      clear q
      show Go p e below _ _ (mkF m 216 _ [])
      refine Go.on (g' := (mkF m 217 _ [(.int (2 : Int32))])) (fun t_ k_ => XS.iconst X0.here hx rfl (hb hby at_216) k_) ?_
      refine Go.on (g' := (mkF m 219 #[.val (.long p0), .second, .val (.long p1), .second, .val (.long p2), .second, .val (.int p3), .val (.int p4), .val (.int (5 : Int32)), .val (.int c0), .val (.int c1), .val (.int c2), .val (.int c3), .val (.int c4), .val (.int c5), .val (.ref a), .val (.int (2 : Int32))] [])) (fun t_ k_ => XS.istore X0.here hx rfl (hb hby at_217) rfl (l' := #[.val (.long p0), .second, .val (.long p1), .second, .val (.long p2), .second, .val (.int p3), .val (.int p4), .val (.int (5 : Int32)), .val (.int c0), .val (.int c1), .val (.int c2), .val (.int c3), .val (.int c4), .val (.int c5), .val (.ref a), .val (.int (2 : Int32))]) rfl k_) ?_
      refine Go.on (g' := (mkF m 221 _ [(.int (5 : Int32))])) (fun t_ k_ => XS.iload X0.here hx rfl (hb hby at_219) rfl k_) ?_
      refine Go.on (g' := (mkF m 222 _ [(.int (3 : Int32)), (.int (5 : Int32))])) (fun t_ k_ => XS.iconst X0.here hx rfl (hb hby at_221) k_) ?_
      refine Go.icmp X0 hx hby at_222 (pcT := 235) (pcF := 225) (by decide) (by decide) rfl (fun q => absurd q (by decide)) (fun q => ?_)
      clear q
      show Go p e below _ _ (mkF m 225 _ [])
      refine Go.on (g' := (mkF m 227 _ [(.int c3)])) (fun t_ k_ => XS.iload X0.here hx rfl (hb hby at_225) rfl k_) ?_
      refine Go.on (g' := (mkF m 229 _ [(.int p3), (.int c3)])) (fun t_ k_ => XS.iload X0.here hx rfl (hb hby at_227) rfl k_) ?_
      refine Go.icmp X0 hx hby at_229 (pcT := 235) (pcF := 232) (by decide) (by decide) rfl (fun q => ?_) (fun q => ?_)
      · have q6 := iGt.1 q
        clear q
        show Go p e below _ _ (mkF m 235 _ [])
        refine Go.on (g' := (mkF m 237 _ [(.int (5 : Int32))])) (fun t_ k_ => XS.iload X0.here hx rfl (hb hby at_235) rfl k_) ?_
        refine Go.on (g' := (mkF m 238 _ [(.int (4 : Int32)), (.int (5 : Int32))])) (fun t_ k_ => XS.iconst X0.here hx rfl (hb hby at_237) k_) ?_
        refine Go.icmp X0 hx hby at_238 (pcT := 251) (pcF := 241) (by decide) (by decide) rfl (fun q => absurd q (by decide)) (fun q => ?_)
        clear q
        show Go p e below _ _ (mkF m 241 _ [])
        refine Go.on (g' := (mkF m 243 _ [(.int c4)])) (fun t_ k_ => XS.iload X0.here hx rfl (hb hby at_241) rfl k_) ?_
        refine Go.on (g' := (mkF m 245 _ [(.int p3), (.int c4)])) (fun t_ k_ => XS.iload X0.here hx rfl (hb hby at_243) rfl k_) ?_
        refine Go.icmp X0 hx hby at_245 (pcT := 251) (pcF := 248) (by decide) (by decide) rfl (fun q => ?_) (fun q => ?_)
        · have q7 := iGt.1 q
          clear q
          show Go p e below _ _ (mkF m 251 _ [])
          refine Go.on (g' := (mkF m 253 _ [(.int (5 : Int32))])) (fun t_ k_ => XS.iload X0.here hx rfl (hb hby at_251) rfl k_) ?_
          refine Go.on (g' := (mkF m 254 _ [(.int (5 : Int32)), (.int (5 : Int32))])) (fun t_ k_ => XS.iconst X0.here hx rfl (hb hby at_253) k_) ?_
          refine Go.icmp X0 hx hby at_254 (pcT := 267) (pcF := 257) (by decide) (by decide) rfl (fun q => ?_) (fun q => absurd q (by decide))
          clear q
          show Go p e below _ _ (mkF m 267 _ [])
          refine Go.on (g' := (mkF m 269 _ [(.ref a)])) (fun t_ k_ => XS.aload X0.here hx rfl (hb hby at_267) rfl rfl k_) ?_
          refine Go.on (g' := (mkF m 271 _ [(.int (5 : Int32)), (.ref a)])) (fun t_ k_ => XS.iload X0.here hx rfl (hb hby at_269) rfl k_) ?_
          refine Go.on (g' := (mkF m 273 _ [(.int p3), (.int (5 : Int32)), (.ref a)])) (fun t_ k_ => XS.iload X0.here hx rfl (hb hby at_271) rfl k_) ?_
          refine Go.callS X0 hx hZ hby (by rw [hml]; rfl) (y := (⟨"com/example/loomtrace/loomtrace/model/IntSort", "lastAtMost", "([III)I"⟩ : MethodName)) hown (hw _ (List.mem_of_getElem? (i := 7) rfl)) (hw _ (List.mem_of_getElem? (i := 8) rfl)) (hw _ (List.mem_of_getElem? (i := 9) rfl)) (hw _ (List.mem_of_getElem? (i := 10) rfl)) (by decide) (argsL := [(.ref a), (.int (5 : Int32)), (.int p3)]) (rest := []) (rmL5 l Z w0 hw [] a p3 h0 cl A0 hsz c1 hk1 c2 hk2 c3 hk3 c4 hk4 s2 s3 s4) e0 0 (by decide) (by decide) (by decide) (by decide) rfl pdL rfl (Nat.le_of_eq rfl) at_273 (pcF := 276) rfl ?_
          intro v5 T5 L5 X5 hQ5
          obtain ⟨rfl, rfl, e5⟩ := hQ5
          rw [List.append_nil] at X5
          show Go p e below _ _ (mkF m 276 _ [(.int (own_e5 c1 c2 c3 c4 p3))])
          refine Go.on (g' := (mkF m 278 _ [(.int (2 : Int32)), (.int (own_e5 c1 c2 c3 c4 p3))])) (fun t_ k_ => XS.iload X5.here hx rfl (hb hby at_276) rfl k_) ?_
          refine Go.icmp X5 hx hby at_278 (pcT := 285) (pcF := 281) (by decide) (by decide) rfl (fun q => absurd q (fun q => (iNe.1 q) (by simp only [Int32.lt_iff_toInt_lt] at q1 q2 q6 q7 s2 s3 s4; unfold own_e5; simp only [Int32.lt_iff_toInt_lt]; (repeat' split) <;> first | rfl | (exfalso; omega)))) (fun q => ?_)
          clear q
          show Go p e below _ _ (mkF m 281 _ [])
          refine Go.on (g' := (mkF m 282 _ [(.int (1 : Int32))])) (fun t_ k_ => XS.iconst X5.here hx rfl (hb hby at_281) k_) ?_
          refine Go.on (g' := (mkF m 286 _ [(.int (1 : Int32))])) (fun t_ k_ => XS.goto X5.here hx rfl (pc0 := 282) (pc' := 286) rfl (hb hby at_282) (by decide) (by decide) k_) ?_
          exact Go.retI X5 hx hlk hret hby at_286 rfl (by simp) (by decide) (by decide) ⟨rfl, N0⟩
        · have q7 := iGt.2 q
          clear q
          show Go p e below _ _ (mkF m 248 _ [])
          refine Go.on (g' := (mkF m 249 _ [(.int (4 : Int32))])) (fun t_ k_ => XS.iconst X0.here hx rfl (hb hby at_248) k_) ?_
          refine Go.on (g' := (mkF m 251 #[.val (.long p0), .second, .val (.long p1), .second, .val (.long p2), .second, .val (.int p3), .val (.int p4), .val (.int (5 : Int32)), .val (.int c0), .val (.int c1), .val (.int c2), .val (.int c3), .val (.int c4), .val (.int c5), .val (.ref a), .val (.int (4 : Int32))] [])) (fun t_ k_ => XS.istore X0.here hx rfl (hb hby at_249) rfl (l' := #[.val (.long p0), .second, .val (.long p1), .second, .val (.long p2), .second, .val (.int p3), .val (.int p4), .val (.int (5 : Int32)), .val (.int c0), .val (.int c1), .val (.int c2), .val (.int c3), .val (.int c4), .val (.int c5), .val (.ref a), .val (.int (4 : Int32))]) rfl k_) ?_
          refine Go.on (g' := (mkF m 253 _ [(.int (5 : Int32))])) (fun t_ k_ => XS.iload X0.here hx rfl (hb hby at_251) rfl k_) ?_
          refine Go.on (g' := (mkF m 254 _ [(.int (5 : Int32)), (.int (5 : Int32))])) (fun t_ k_ => XS.iconst X0.here hx rfl (hb hby at_253) k_) ?_
          refine Go.icmp X0 hx hby at_254 (pcT := 267) (pcF := 257) (by decide) (by decide) rfl (fun q => ?_) (fun q => absurd q (by decide))
          clear q
          show Go p e below _ _ (mkF m 267 _ [])
          refine Go.on (g' := (mkF m 269 _ [(.ref a)])) (fun t_ k_ => XS.aload X0.here hx rfl (hb hby at_267) rfl rfl k_) ?_
          refine Go.on (g' := (mkF m 271 _ [(.int (5 : Int32)), (.ref a)])) (fun t_ k_ => XS.iload X0.here hx rfl (hb hby at_269) rfl k_) ?_
          refine Go.on (g' := (mkF m 273 _ [(.int p3), (.int (5 : Int32)), (.ref a)])) (fun t_ k_ => XS.iload X0.here hx rfl (hb hby at_271) rfl k_) ?_
          refine Go.callS X0 hx hZ hby (by rw [hml]; rfl) (y := (⟨"com/example/loomtrace/loomtrace/model/IntSort", "lastAtMost", "([III)I"⟩ : MethodName)) hown (hw _ (List.mem_of_getElem? (i := 7) rfl)) (hw _ (List.mem_of_getElem? (i := 8) rfl)) (hw _ (List.mem_of_getElem? (i := 9) rfl)) (hw _ (List.mem_of_getElem? (i := 10) rfl)) (by decide) (argsL := [(.ref a), (.int (5 : Int32)), (.int p3)]) (rest := []) (rmL5 l Z w0 hw [] a p3 h0 cl A0 hsz c1 hk1 c2 hk2 c3 hk3 c4 hk4 s2 s3 s4) e0 0 (by decide) (by decide) (by decide) (by decide) rfl pdL rfl (Nat.le_of_eq rfl) at_273 (pcF := 276) rfl ?_
          intro v6 T6 L6 X6 hQ6
          obtain ⟨rfl, rfl, e6⟩ := hQ6
          rw [List.append_nil] at X6
          show Go p e below _ _ (mkF m 276 _ [(.int (own_e5 c1 c2 c3 c4 p3))])
          refine Go.on (g' := (mkF m 278 _ [(.int (4 : Int32)), (.int (own_e5 c1 c2 c3 c4 p3))])) (fun t_ k_ => XS.iload X6.here hx rfl (hb hby at_276) rfl k_) ?_
          refine Go.icmp X6 hx hby at_278 (pcT := 285) (pcF := 281) (by decide) (by decide) rfl (fun q => absurd q (fun q => (iNe.1 q) (by simp only [Int32.lt_iff_toInt_lt] at q1 q2 q6 q7 s2 s3 s4; unfold own_e5; simp only [Int32.lt_iff_toInt_lt]; (repeat' split) <;> first | rfl | (exfalso; omega)))) (fun q => ?_)
          clear q
          show Go p e below _ _ (mkF m 281 _ [])
          refine Go.on (g' := (mkF m 282 _ [(.int (1 : Int32))])) (fun t_ k_ => XS.iconst X6.here hx rfl (hb hby at_281) k_) ?_
          refine Go.on (g' := (mkF m 286 _ [(.int (1 : Int32))])) (fun t_ k_ => XS.goto X6.here hx rfl (pc0 := 282) (pc' := 286) rfl (hb hby at_282) (by decide) (by decide) k_) ?_
          exact Go.retI X6 hx hlk hret hby at_286 rfl (by simp) (by decide) (by decide) ⟨rfl, N0⟩
      · have q6 := iGt.2 q
        clear q
        show Go p e below _ _ (mkF m 232 _ [])
        refine Go.on (g' := (mkF m 233 _ [(.int (3 : Int32))])) (fun t_ k_ => XS.iconst X0.here hx rfl (hb hby at_232) k_) ?_
        refine Go.on (g' := (mkF m 235 #[.val (.long p0), .second, .val (.long p1), .second, .val (.long p2), .second, .val (.int p3), .val (.int p4), .val (.int (5 : Int32)), .val (.int c0), .val (.int c1), .val (.int c2), .val (.int c3), .val (.int c4), .val (.int c5), .val (.ref a), .val (.int (3 : Int32))] [])) (fun t_ k_ => XS.istore X0.here hx rfl (hb hby at_233) rfl (l' := #[.val (.long p0), .second, .val (.long p1), .second, .val (.long p2), .second, .val (.int p3), .val (.int p4), .val (.int (5 : Int32)), .val (.int c0), .val (.int c1), .val (.int c2), .val (.int c3), .val (.int c4), .val (.int c5), .val (.ref a), .val (.int (3 : Int32))]) rfl k_) ?_
        refine Go.on (g' := (mkF m 237 _ [(.int (5 : Int32))])) (fun t_ k_ => XS.iload X0.here hx rfl (hb hby at_235) rfl k_) ?_
        refine Go.on (g' := (mkF m 238 _ [(.int (4 : Int32)), (.int (5 : Int32))])) (fun t_ k_ => XS.iconst X0.here hx rfl (hb hby at_237) k_) ?_
        refine Go.icmp X0 hx hby at_238 (pcT := 251) (pcF := 241) (by decide) (by decide) rfl (fun q => absurd q (by decide)) (fun q => ?_)
        clear q
        show Go p e below _ _ (mkF m 241 _ [])
        refine Go.on (g' := (mkF m 243 _ [(.int c4)])) (fun t_ k_ => XS.iload X0.here hx rfl (hb hby at_241) rfl k_) ?_
        refine Go.on (g' := (mkF m 245 _ [(.int p3), (.int c4)])) (fun t_ k_ => XS.iload X0.here hx rfl (hb hby at_243) rfl k_) ?_
        refine Go.icmp X0 hx hby at_245 (pcT := 251) (pcF := 248) (by decide) (by decide) rfl (fun q => ?_) (fun q => ?_)
        · have q8 := iGt.1 q
          clear q
          show Go p e below _ _ (mkF m 251 _ [])
          refine Go.on (g' := (mkF m 253 _ [(.int (5 : Int32))])) (fun t_ k_ => XS.iload X0.here hx rfl (hb hby at_251) rfl k_) ?_
          refine Go.on (g' := (mkF m 254 _ [(.int (5 : Int32)), (.int (5 : Int32))])) (fun t_ k_ => XS.iconst X0.here hx rfl (hb hby at_253) k_) ?_
          refine Go.icmp X0 hx hby at_254 (pcT := 267) (pcF := 257) (by decide) (by decide) rfl (fun q => ?_) (fun q => absurd q (by decide))
          clear q
          show Go p e below _ _ (mkF m 267 _ [])
          refine Go.on (g' := (mkF m 269 _ [(.ref a)])) (fun t_ k_ => XS.aload X0.here hx rfl (hb hby at_267) rfl rfl k_) ?_
          refine Go.on (g' := (mkF m 271 _ [(.int (5 : Int32)), (.ref a)])) (fun t_ k_ => XS.iload X0.here hx rfl (hb hby at_269) rfl k_) ?_
          refine Go.on (g' := (mkF m 273 _ [(.int p3), (.int (5 : Int32)), (.ref a)])) (fun t_ k_ => XS.iload X0.here hx rfl (hb hby at_271) rfl k_) ?_
          refine Go.callS X0 hx hZ hby (by rw [hml]; rfl) (y := (⟨"com/example/loomtrace/loomtrace/model/IntSort", "lastAtMost", "([III)I"⟩ : MethodName)) hown (hw _ (List.mem_of_getElem? (i := 7) rfl)) (hw _ (List.mem_of_getElem? (i := 8) rfl)) (hw _ (List.mem_of_getElem? (i := 9) rfl)) (hw _ (List.mem_of_getElem? (i := 10) rfl)) (by decide) (argsL := [(.ref a), (.int (5 : Int32)), (.int p3)]) (rest := []) (rmL5 l Z w0 hw [] a p3 h0 cl A0 hsz c1 hk1 c2 hk2 c3 hk3 c4 hk4 s2 s3 s4) e0 0 (by decide) (by decide) (by decide) (by decide) rfl pdL rfl (Nat.le_of_eq rfl) at_273 (pcF := 276) rfl ?_
          intro v7 T7 L7 X7 hQ7
          obtain ⟨rfl, rfl, e7⟩ := hQ7
          rw [List.append_nil] at X7
          show Go p e below _ _ (mkF m 276 _ [(.int (own_e5 c1 c2 c3 c4 p3))])
          refine Go.on (g' := (mkF m 278 _ [(.int (3 : Int32)), (.int (own_e5 c1 c2 c3 c4 p3))])) (fun t_ k_ => XS.iload X7.here hx rfl (hb hby at_276) rfl k_) ?_
          refine Go.icmp X7 hx hby at_278 (pcT := 285) (pcF := 281) (by decide) (by decide) rfl (fun q => absurd q (fun q => (iNe.1 q) (by simp only [Int32.lt_iff_toInt_lt] at q1 q2 q6 q8 s2 s3 s4; unfold own_e5; simp only [Int32.lt_iff_toInt_lt]; (repeat' split) <;> first | rfl | (exfalso; omega)))) (fun q => ?_)
          clear q
          show Go p e below _ _ (mkF m 281 _ [])
          refine Go.on (g' := (mkF m 282 _ [(.int (1 : Int32))])) (fun t_ k_ => XS.iconst X7.here hx rfl (hb hby at_281) k_) ?_
          refine Go.on (g' := (mkF m 286 _ [(.int (1 : Int32))])) (fun t_ k_ => XS.goto X7.here hx rfl (pc0 := 282) (pc' := 286) rfl (hb hby at_282) (by decide) (by decide) k_) ?_
          exact Go.retI X7 hx hlk hret hby at_286 rfl (by simp) (by decide) (by decide) ⟨rfl, N0⟩
        · have q8 := iGt.2 q
          clear q
          show Go p e below _ _ (mkF m 248 _ [])
          refine Go.on (g' := (mkF m 249 _ [(.int (4 : Int32))])) (fun t_ k_ => XS.iconst X0.here hx rfl (hb hby at_248) k_) ?_
          refine Go.on (g' := (mkF m 251 #[.val (.long p0), .second, .val (.long p1), .second, .val (.long p2), .second, .val (.int p3), .val (.int p4), .val (.int (5 : Int32)), .val (.int c0), .val (.int c1), .val (.int c2), .val (.int c3), .val (.int c4), .val (.int c5), .val (.ref a), .val (.int (4 : Int32))] [])) (fun t_ k_ => XS.istore X0.here hx rfl (hb hby at_249) rfl (l' := #[.val (.long p0), .second, .val (.long p1), .second, .val (.long p2), .second, .val (.int p3), .val (.int p4), .val (.int (5 : Int32)), .val (.int c0), .val (.int c1), .val (.int c2), .val (.int c3), .val (.int c4), .val (.int c5), .val (.ref a), .val (.int (4 : Int32))]) rfl k_) ?_
          refine Go.on (g' := (mkF m 253 _ [(.int (5 : Int32))])) (fun t_ k_ => XS.iload X0.here hx rfl (hb hby at_251) rfl k_) ?_
          refine Go.on (g' := (mkF m 254 _ [(.int (5 : Int32)), (.int (5 : Int32))])) (fun t_ k_ => XS.iconst X0.here hx rfl (hb hby at_253) k_) ?_
          refine Go.icmp X0 hx hby at_254 (pcT := 267) (pcF := 257) (by decide) (by decide) rfl (fun q => ?_) (fun q => absurd q (by decide))
          clear q
          show Go p e below _ _ (mkF m 267 _ [])
          refine Go.on (g' := (mkF m 269 _ [(.ref a)])) (fun t_ k_ => XS.aload X0.here hx rfl (hb hby at_267) rfl rfl k_) ?_
          refine Go.on (g' := (mkF m 271 _ [(.int (5 : Int32)), (.ref a)])) (fun t_ k_ => XS.iload X0.here hx rfl (hb hby at_269) rfl k_) ?_
          refine Go.on (g' := (mkF m 273 _ [(.int p3), (.int (5 : Int32)), (.ref a)])) (fun t_ k_ => XS.iload X0.here hx rfl (hb hby at_271) rfl k_) ?_
          refine Go.callS X0 hx hZ hby (by rw [hml]; rfl) (y := (⟨"com/example/loomtrace/loomtrace/model/IntSort", "lastAtMost", "([III)I"⟩ : MethodName)) hown (hw _ (List.mem_of_getElem? (i := 7) rfl)) (hw _ (List.mem_of_getElem? (i := 8) rfl)) (hw _ (List.mem_of_getElem? (i := 9) rfl)) (hw _ (List.mem_of_getElem? (i := 10) rfl)) (by decide) (argsL := [(.ref a), (.int (5 : Int32)), (.int p3)]) (rest := []) (rmL5 l Z w0 hw [] a p3 h0 cl A0 hsz c1 hk1 c2 hk2 c3 hk3 c4 hk4 s2 s3 s4) e0 0 (by decide) (by decide) (by decide) (by decide) rfl pdL rfl (Nat.le_of_eq rfl) at_273 (pcF := 276) rfl ?_
          intro v8 T8 L8 X8 hQ8
          obtain ⟨rfl, rfl, e8⟩ := hQ8
          rw [List.append_nil] at X8
          show Go p e below _ _ (mkF m 276 _ [(.int (own_e5 c1 c2 c3 c4 p3))])
          refine Go.on (g' := (mkF m 278 _ [(.int (4 : Int32)), (.int (own_e5 c1 c2 c3 c4 p3))])) (fun t_ k_ => XS.iload X8.here hx rfl (hb hby at_276) rfl k_) ?_
          refine Go.icmp X8 hx hby at_278 (pcT := 285) (pcF := 281) (by decide) (by decide) rfl (fun q => absurd q (fun q => (iNe.1 q) (by simp only [Int32.lt_iff_toInt_lt] at q1 q2 q6 q8 s2 s3 s4; unfold own_e5; simp only [Int32.lt_iff_toInt_lt]; (repeat' split) <;> first | rfl | (exfalso; omega)))) (fun q => ?_)
          clear q
          show Go p e below _ _ (mkF m 281 _ [])
          refine Go.on (g' := (mkF m 282 _ [(.int (1 : Int32))])) (fun t_ k_ => XS.iconst X8.here hx rfl (hb hby at_281) k_) ?_
          refine Go.on (g' := (mkF m 286 _ [(.int (1 : Int32))])) (fun t_ k_ => XS.goto X8.here hx rfl (pc0 := 282) (pc' := 286) rfl (hb hby at_282) (by decide) (by decide) k_) ?_
          exact Go.retI X8 hx hlk hret hby at_286 rfl (by simp) (by decide) (by decide) ⟨rfl, N0⟩
  · have q1 := iGt.2 q
    clear q
    show Go p e below _ _ (mkF m 200 _ [])
    refine Go.on (g' := (mkF m 201 _ [(.int (1 : Int32))])) (fun t_ k_ => XS.iconst X0.here hx rfl (hb hby at_200) k_) ?_
    refine Go.on (g' := (mkF m 203 #[.val (.long p0), .second, .val (.long p1), .second, .val (.long p2), .second, .val (.int p3), .val (.int p4), .val (.int (5 : Int32)), .val (.int c0), .val (.int c1), .val (.int c2), .val (.int c3), .val (.int c4), .val (.int c5), .val (.ref a), .val (.int (1 : Int32))] [])) (fun t_ k_ => XS.istore X0.here hx rfl (hb hby at_201) rfl (l' := #[.val (.long p0), .second, .val (.long p1), .second, .val (.long p2), .second, .val (.int p3), .val (.int p4), .val (.int (5 : Int32)), .val (.int c0), .val (.int c1), .val (.int c2), .val (.int c3), .val (.int c4), .val (.int c5), .val (.ref a), .val (.int (1 : Int32))]) rfl k_) ?_
    refine Go.on (g' := (mkF m 205 _ [(.int (5 : Int32))])) (fun t_ k_ => XS.iload X0.here hx rfl (hb hby at_203) rfl k_) ?_
    refine Go.on (g' := (mkF m 206 _ [(.int (2 : Int32)), (.int (5 : Int32))])) (fun t_ k_ => XS.iconst X0.here hx rfl (hb hby at_205) k_) ?_
    refine Go.icmp X0 hx hby at_206 (pcT := 219) (pcF := 209) (by decide) (by decide) rfl (fun q => absurd q (by decide)) (fun q => ?_)
    clear q
    show Go p e below _ _ (mkF m 209 _ [])
    refine Go.on (g' := (mkF m 211 _ [(.int c2)])) (fun t_ k_ => XS.iload X0.here hx rfl (hb hby at_209) rfl k_) ?_
    refine Go.on (g' := (mkF m 213 _ [(.int p3), (.int c2)])) (fun t_ k_ => XS.iload X0.here hx rfl (hb hby at_211) rfl k_) ?_
    refine Go.icmp X0 hx hby at_213 (pcT := 219) (pcF := 216) (by decide) (by decide) rfl (fun q => ?_) (fun q => ?_)
    · have q9 := iGt.1 q
      clear q
      show Go p e below _ _ (mkF m 219 _ [])
      refine Go.on (g' := (mkF m 221 _ [(.int (5 : Int32))])) (fun t_ k_ => XS.iload X0.here hx rfl (hb hby at_219) rfl k_) ?_
      refine Go.on (g' := (mkF m 222 _ [(.int (3 : Int32)), (.int (5 : Int32))])) (fun t_ k_ => XS.iconst X0.here hx rfl (hb hby at_221) k_) ?_
      refine Go.icmp X0 hx hby at_222 (pcT := 235) (pcF := 225) (by decide) (by decide) rfl (fun q => absurd q (by decide)) (fun q => ?_)
      clear q
      show Go p e below _ _ (mkF m 225 _ [])
      refine Go.on (g' := (mkF m 227 _ [(.int c3)])) (fun t_ k_ => XS.iload X0.here hx rfl (hb hby at_225) rfl k_) ?_
      refine Go.on (g' := (mkF m 229 _ [(.int p3), (.int c3)])) (fun t_ k_ => XS.iload X0.here hx rfl (hb hby at_227) rfl k_) ?_
      refine Go.icmp X0 hx hby at_229 (pcT := 235) (pcF := 232) (by decide) (by decide) rfl (fun q => ?_) (fun q => ?_)
      · have q10 := iGt.1 q
        clear q
        show Go p e below _ _ (mkF m 235 _ [])
        refine Go.on (g' := (mkF m 237 _ [(.int (5 : Int32))])) (fun t_ k_ => XS.iload X0.here hx rfl (hb hby at_235) rfl k_) ?_
        refine Go.on (g' := (mkF m 238 _ [(.int (4 : Int32)), (.int (5 : Int32))])) (fun t_ k_ => XS.iconst X0.here hx rfl (hb hby at_237) k_) ?_
        refine Go.icmp X0 hx hby at_238 (pcT := 251) (pcF := 241) (by decide) (by decide) rfl (fun q => absurd q (by decide)) (fun q => ?_)
        clear q
        show Go p e below _ _ (mkF m 241 _ [])
        refine Go.on (g' := (mkF m 243 _ [(.int c4)])) (fun t_ k_ => XS.iload X0.here hx rfl (hb hby at_241) rfl k_) ?_
        refine Go.on (g' := (mkF m 245 _ [(.int p3), (.int c4)])) (fun t_ k_ => XS.iload X0.here hx rfl (hb hby at_243) rfl k_) ?_
        refine Go.icmp X0 hx hby at_245 (pcT := 251) (pcF := 248) (by decide) (by decide) rfl (fun q => ?_) (fun q => ?_)
        · have q11 := iGt.1 q
          clear q
          show Go p e below _ _ (mkF m 251 _ [])
          refine Go.on (g' := (mkF m 253 _ [(.int (5 : Int32))])) (fun t_ k_ => XS.iload X0.here hx rfl (hb hby at_251) rfl k_) ?_
          refine Go.on (g' := (mkF m 254 _ [(.int (5 : Int32)), (.int (5 : Int32))])) (fun t_ k_ => XS.iconst X0.here hx rfl (hb hby at_253) k_) ?_
          refine Go.icmp X0 hx hby at_254 (pcT := 267) (pcF := 257) (by decide) (by decide) rfl (fun q => ?_) (fun q => absurd q (by decide))
          clear q
          show Go p e below _ _ (mkF m 267 _ [])
          refine Go.on (g' := (mkF m 269 _ [(.ref a)])) (fun t_ k_ => XS.aload X0.here hx rfl (hb hby at_267) rfl rfl k_) ?_
          refine Go.on (g' := (mkF m 271 _ [(.int (5 : Int32)), (.ref a)])) (fun t_ k_ => XS.iload X0.here hx rfl (hb hby at_269) rfl k_) ?_
          refine Go.on (g' := (mkF m 273 _ [(.int p3), (.int (5 : Int32)), (.ref a)])) (fun t_ k_ => XS.iload X0.here hx rfl (hb hby at_271) rfl k_) ?_
          refine Go.callS X0 hx hZ hby (by rw [hml]; rfl) (y := (⟨"com/example/loomtrace/loomtrace/model/IntSort", "lastAtMost", "([III)I"⟩ : MethodName)) hown (hw _ (List.mem_of_getElem? (i := 7) rfl)) (hw _ (List.mem_of_getElem? (i := 8) rfl)) (hw _ (List.mem_of_getElem? (i := 9) rfl)) (hw _ (List.mem_of_getElem? (i := 10) rfl)) (by decide) (argsL := [(.ref a), (.int (5 : Int32)), (.int p3)]) (rest := []) (rmL5 l Z w0 hw [] a p3 h0 cl A0 hsz c1 hk1 c2 hk2 c3 hk3 c4 hk4 s2 s3 s4) e0 0 (by decide) (by decide) (by decide) (by decide) rfl pdL rfl (Nat.le_of_eq rfl) at_273 (pcF := 276) rfl ?_
          intro v9 T9 L9 X9 hQ9
          obtain ⟨rfl, rfl, e9⟩ := hQ9
          rw [List.append_nil] at X9
          show Go p e below _ _ (mkF m 276 _ [(.int (own_e5 c1 c2 c3 c4 p3))])
          refine Go.on (g' := (mkF m 278 _ [(.int (1 : Int32)), (.int (own_e5 c1 c2 c3 c4 p3))])) (fun t_ k_ => XS.iload X9.here hx rfl (hb hby at_276) rfl k_) ?_
          refine Go.icmp X9 hx hby at_278 (pcT := 285) (pcF := 281) (by decide) (by decide) rfl (fun q => absurd q (fun q => (iNe.1 q) (by simp only [Int32.lt_iff_toInt_lt] at q1 q9 q10 q11 s2 s3 s4; unfold own_e5; simp only [Int32.lt_iff_toInt_lt]; (repeat' split) <;> first | rfl | (exfalso; omega)))) (fun q => ?_)
          clear q
          show Go p e below _ _ (mkF m 281 _ [])
          refine Go.on (g' := (mkF m 282 _ [(.int (1 : Int32))])) (fun t_ k_ => XS.iconst X9.here hx rfl (hb hby at_281) k_) ?_
          refine Go.on (g' := (mkF m 286 _ [(.int (1 : Int32))])) (fun t_ k_ => XS.goto X9.here hx rfl (pc0 := 282) (pc' := 286) rfl (hb hby at_282) (by decide) (by decide) k_) ?_
          exact Go.retI X9 hx hlk hret hby at_286 rfl (by simp) (by decide) (by decide) ⟨rfl, N0⟩
        · have q11 := iGt.2 q
          clear q
          show Go p e below _ _ (mkF m 248 _ [])
          refine Go.on (g' := (mkF m 249 _ [(.int (4 : Int32))])) (fun t_ k_ => XS.iconst X0.here hx rfl (hb hby at_248) k_) ?_
          refine Go.on (g' := (mkF m 251 #[.val (.long p0), .second, .val (.long p1), .second, .val (.long p2), .second, .val (.int p3), .val (.int p4), .val (.int (5 : Int32)), .val (.int c0), .val (.int c1), .val (.int c2), .val (.int c3), .val (.int c4), .val (.int c5), .val (.ref a), .val (.int (4 : Int32))] [])) (fun t_ k_ => XS.istore X0.here hx rfl (hb hby at_249) rfl (l' := #[.val (.long p0), .second, .val (.long p1), .second, .val (.long p2), .second, .val (.int p3), .val (.int p4), .val (.int (5 : Int32)), .val (.int c0), .val (.int c1), .val (.int c2), .val (.int c3), .val (.int c4), .val (.int c5), .val (.ref a), .val (.int (4 : Int32))]) rfl k_) ?_
          refine Go.on (g' := (mkF m 253 _ [(.int (5 : Int32))])) (fun t_ k_ => XS.iload X0.here hx rfl (hb hby at_251) rfl k_) ?_
          refine Go.on (g' := (mkF m 254 _ [(.int (5 : Int32)), (.int (5 : Int32))])) (fun t_ k_ => XS.iconst X0.here hx rfl (hb hby at_253) k_) ?_
          refine Go.icmp X0 hx hby at_254 (pcT := 267) (pcF := 257) (by decide) (by decide) rfl (fun q => ?_) (fun q => absurd q (by decide))
          clear q
          show Go p e below _ _ (mkF m 267 _ [])
          refine Go.on (g' := (mkF m 269 _ [(.ref a)])) (fun t_ k_ => XS.aload X0.here hx rfl (hb hby at_267) rfl rfl k_) ?_
          refine Go.on (g' := (mkF m 271 _ [(.int (5 : Int32)), (.ref a)])) (fun t_ k_ => XS.iload X0.here hx rfl (hb hby at_269) rfl k_) ?_
          refine Go.on (g' := (mkF m 273 _ [(.int p3), (.int (5 : Int32)), (.ref a)])) (fun t_ k_ => XS.iload X0.here hx rfl (hb hby at_271) rfl k_) ?_
          refine Go.callS X0 hx hZ hby (by rw [hml]; rfl) (y := (⟨"com/example/loomtrace/loomtrace/model/IntSort", "lastAtMost", "([III)I"⟩ : MethodName)) hown (hw _ (List.mem_of_getElem? (i := 7) rfl)) (hw _ (List.mem_of_getElem? (i := 8) rfl)) (hw _ (List.mem_of_getElem? (i := 9) rfl)) (hw _ (List.mem_of_getElem? (i := 10) rfl)) (by decide) (argsL := [(.ref a), (.int (5 : Int32)), (.int p3)]) (rest := []) (rmL5 l Z w0 hw [] a p3 h0 cl A0 hsz c1 hk1 c2 hk2 c3 hk3 c4 hk4 s2 s3 s4) e0 0 (by decide) (by decide) (by decide) (by decide) rfl pdL rfl (Nat.le_of_eq rfl) at_273 (pcF := 276) rfl ?_
          intro v10 T10 L10 X10 hQ10
          obtain ⟨rfl, rfl, e10⟩ := hQ10
          rw [List.append_nil] at X10
          show Go p e below _ _ (mkF m 276 _ [(.int (own_e5 c1 c2 c3 c4 p3))])
          refine Go.on (g' := (mkF m 278 _ [(.int (4 : Int32)), (.int (own_e5 c1 c2 c3 c4 p3))])) (fun t_ k_ => XS.iload X10.here hx rfl (hb hby at_276) rfl k_) ?_
          refine Go.icmp X10 hx hby at_278 (pcT := 285) (pcF := 281) (by decide) (by decide) rfl (fun q => absurd q (fun q => (iNe.1 q) (by simp only [Int32.lt_iff_toInt_lt] at q1 q9 q10 q11 s2 s3 s4; unfold own_e5; simp only [Int32.lt_iff_toInt_lt]; (repeat' split) <;> first | rfl | (exfalso; omega)))) (fun q => ?_)
          clear q
          show Go p e below _ _ (mkF m 281 _ [])
          refine Go.on (g' := (mkF m 282 _ [(.int (1 : Int32))])) (fun t_ k_ => XS.iconst X10.here hx rfl (hb hby at_281) k_) ?_
          refine Go.on (g' := (mkF m 286 _ [(.int (1 : Int32))])) (fun t_ k_ => XS.goto X10.here hx rfl (pc0 := 282) (pc' := 286) rfl (hb hby at_282) (by decide) (by decide) k_) ?_
          exact Go.retI X10 hx hlk hret hby at_286 rfl (by simp) (by decide) (by decide) ⟨rfl, N0⟩
      · have q10 := iGt.2 q
        clear q
        show Go p e below _ _ (mkF m 232 _ [])
        refine Go.on (g' := (mkF m 233 _ [(.int (3 : Int32))])) (fun t_ k_ => XS.iconst X0.here hx rfl (hb hby at_232) k_) ?_
        refine Go.on (g' := (mkF m 235 #[.val (.long p0), .second, .val (.long p1), .second, .val (.long p2), .second, .val (.int p3), .val (.int p4), .val (.int (5 : Int32)), .val (.int c0), .val (.int c1), .val (.int c2), .val (.int c3), .val (.int c4), .val (.int c5), .val (.ref a), .val (.int (3 : Int32))] [])) (fun t_ k_ => XS.istore X0.here hx rfl (hb hby at_233) rfl (l' := #[.val (.long p0), .second, .val (.long p1), .second, .val (.long p2), .second, .val (.int p3), .val (.int p4), .val (.int (5 : Int32)), .val (.int c0), .val (.int c1), .val (.int c2), .val (.int c3), .val (.int c4), .val (.int c5), .val (.ref a), .val (.int (3 : Int32))]) rfl k_) ?_
        refine Go.on (g' := (mkF m 237 _ [(.int (5 : Int32))])) (fun t_ k_ => XS.iload X0.here hx rfl (hb hby at_235) rfl k_) ?_
        refine Go.on (g' := (mkF m 238 _ [(.int (4 : Int32)), (.int (5 : Int32))])) (fun t_ k_ => XS.iconst X0.here hx rfl (hb hby at_237) k_) ?_
        refine Go.icmp X0 hx hby at_238 (pcT := 251) (pcF := 241) (by decide) (by decide) rfl (fun q => absurd q (by decide)) (fun q => ?_)
        clear q
        show Go p e below _ _ (mkF m 241 _ [])
        refine Go.on (g' := (mkF m 243 _ [(.int c4)])) (fun t_ k_ => XS.iload X0.here hx rfl (hb hby at_241) rfl k_) ?_
        refine Go.on (g' := (mkF m 245 _ [(.int p3), (.int c4)])) (fun t_ k_ => XS.iload X0.here hx rfl (hb hby at_243) rfl k_) ?_
        refine Go.icmp X0 hx hby at_245 (pcT := 251) (pcF := 248) (by decide) (by decide) rfl (fun q => ?_) (fun q => ?_)
        · have q12 := iGt.1 q
          clear q
          show Go p e below _ _ (mkF m 251 _ [])
          refine Go.on (g' := (mkF m 253 _ [(.int (5 : Int32))])) (fun t_ k_ => XS.iload X0.here hx rfl (hb hby at_251) rfl k_) ?_
          refine Go.on (g' := (mkF m 254 _ [(.int (5 : Int32)), (.int (5 : Int32))])) (fun t_ k_ => XS.iconst X0.here hx rfl (hb hby at_253) k_) ?_
          refine Go.icmp X0 hx hby at_254 (pcT := 267) (pcF := 257) (by decide) (by decide) rfl (fun q => ?_) (fun q => absurd q (by decide))
          clear q
          show Go p e below _ _ (mkF m 267 _ [])
          refine Go.on (g' := (mkF m 269 _ [(.ref a)])) (fun t_ k_ => XS.aload X0.here hx rfl (hb hby at_267) rfl rfl k_) ?_
          refine Go.on (g' := (mkF m 271 _ [(.int (5 : Int32)), (.ref a)])) (fun t_ k_ => XS.iload X0.here hx rfl (hb hby at_269) rfl k_) ?_
          refine Go.on (g' := (mkF m 273 _ [(.int p3), (.int (5 : Int32)), (.ref a)])) (fun t_ k_ => XS.iload X0.here hx rfl (hb hby at_271) rfl k_) ?_
          refine Go.callS X0 hx hZ hby (by rw [hml]; rfl) (y := (⟨"com/example/loomtrace/loomtrace/model/IntSort", "lastAtMost", "([III)I"⟩ : MethodName)) hown (hw _ (List.mem_of_getElem? (i := 7) rfl)) (hw _ (List.mem_of_getElem? (i := 8) rfl)) (hw _ (List.mem_of_getElem? (i := 9) rfl)) (hw _ (List.mem_of_getElem? (i := 10) rfl)) (by decide) (argsL := [(.ref a), (.int (5 : Int32)), (.int p3)]) (rest := []) (rmL5 l Z w0 hw [] a p3 h0 cl A0 hsz c1 hk1 c2 hk2 c3 hk3 c4 hk4 s2 s3 s4) e0 0 (by decide) (by decide) (by decide) (by decide) rfl pdL rfl (Nat.le_of_eq rfl) at_273 (pcF := 276) rfl ?_
          intro v11 T11 L11 X11 hQ11
          obtain ⟨rfl, rfl, e11⟩ := hQ11
          rw [List.append_nil] at X11
          show Go p e below _ _ (mkF m 276 _ [(.int (own_e5 c1 c2 c3 c4 p3))])
          refine Go.on (g' := (mkF m 278 _ [(.int (3 : Int32)), (.int (own_e5 c1 c2 c3 c4 p3))])) (fun t_ k_ => XS.iload X11.here hx rfl (hb hby at_276) rfl k_) ?_
          refine Go.icmp X11 hx hby at_278 (pcT := 285) (pcF := 281) (by decide) (by decide) rfl (fun q => absurd q (fun q => (iNe.1 q) (by simp only [Int32.lt_iff_toInt_lt] at q1 q9 q10 q12 s2 s3 s4; unfold own_e5; simp only [Int32.lt_iff_toInt_lt]; (repeat' split) <;> first | rfl | (exfalso; omega)))) (fun q => ?_)
          clear q
          show Go p e below _ _ (mkF m 281 _ [])
          refine Go.on (g' := (mkF m 282 _ [(.int (1 : Int32))])) (fun t_ k_ => XS.iconst X11.here hx rfl (hb hby at_281) k_) ?_
          refine Go.on (g' := (mkF m 286 _ [(.int (1 : Int32))])) (fun t_ k_ => XS.goto X11.here hx rfl (pc0 := 282) (pc' := 286) rfl (hb hby at_282) (by decide) (by decide) k_) ?_
          exact Go.retI X11 hx hlk hret hby at_286 rfl (by simp) (by decide) (by decide) ⟨rfl, N0⟩
        · have q12 := iGt.2 q
          clear q
          show Go p e below _ _ (mkF m 248 _ [])
          refine Go.on (g' := (mkF m 249 _ [(.int (4 : Int32))])) (fun t_ k_ => XS.iconst X0.here hx rfl (hb hby at_248) k_) ?_
          refine Go.on (g' := (mkF m 251 #[.val (.long p0), .second, .val (.long p1), .second, .val (.long p2), .second, .val (.int p3), .val (.int p4), .val (.int (5 : Int32)), .val (.int c0), .val (.int c1), .val (.int c2), .val (.int c3), .val (.int c4), .val (.int c5), .val (.ref a), .val (.int (4 : Int32))] [])) (fun t_ k_ => XS.istore X0.here hx rfl (hb hby at_249) rfl (l' := #[.val (.long p0), .second, .val (.long p1), .second, .val (.long p2), .second, .val (.int p3), .val (.int p4), .val (.int (5 : Int32)), .val (.int c0), .val (.int c1), .val (.int c2), .val (.int c3), .val (.int c4), .val (.int c5), .val (.ref a), .val (.int (4 : Int32))]) rfl k_) ?_
          refine Go.on (g' := (mkF m 253 _ [(.int (5 : Int32))])) (fun t_ k_ => XS.iload X0.here hx rfl (hb hby at_251) rfl k_) ?_
          refine Go.on (g' := (mkF m 254 _ [(.int (5 : Int32)), (.int (5 : Int32))])) (fun t_ k_ => XS.iconst X0.here hx rfl (hb hby at_253) k_) ?_
          refine Go.icmp X0 hx hby at_254 (pcT := 267) (pcF := 257) (by decide) (by decide) rfl (fun q => ?_) (fun q => absurd q (by decide))
          clear q
          show Go p e below _ _ (mkF m 267 _ [])
          refine Go.on (g' := (mkF m 269 _ [(.ref a)])) (fun t_ k_ => XS.aload X0.here hx rfl (hb hby at_267) rfl rfl k_) ?_
          refine Go.on (g' := (mkF m 271 _ [(.int (5 : Int32)), (.ref a)])) (fun t_ k_ => XS.iload X0.here hx rfl (hb hby at_269) rfl k_) ?_
          refine Go.on (g' := (mkF m 273 _ [(.int p3), (.int (5 : Int32)), (.ref a)])) (fun t_ k_ => XS.iload X0.here hx rfl (hb hby at_271) rfl k_) ?_
          refine Go.callS X0 hx hZ hby (by rw [hml]; rfl) (y := (⟨"com/example/loomtrace/loomtrace/model/IntSort", "lastAtMost", "([III)I"⟩ : MethodName)) hown (hw _ (List.mem_of_getElem? (i := 7) rfl)) (hw _ (List.mem_of_getElem? (i := 8) rfl)) (hw _ (List.mem_of_getElem? (i := 9) rfl)) (hw _ (List.mem_of_getElem? (i := 10) rfl)) (by decide) (argsL := [(.ref a), (.int (5 : Int32)), (.int p3)]) (rest := []) (rmL5 l Z w0 hw [] a p3 h0 cl A0 hsz c1 hk1 c2 hk2 c3 hk3 c4 hk4 s2 s3 s4) e0 0 (by decide) (by decide) (by decide) (by decide) rfl pdL rfl (Nat.le_of_eq rfl) at_273 (pcF := 276) rfl ?_
          intro v12 T12 L12 X12 hQ12
          obtain ⟨rfl, rfl, e12⟩ := hQ12
          rw [List.append_nil] at X12
          show Go p e below _ _ (mkF m 276 _ [(.int (own_e5 c1 c2 c3 c4 p3))])
          refine Go.on (g' := (mkF m 278 _ [(.int (4 : Int32)), (.int (own_e5 c1 c2 c3 c4 p3))])) (fun t_ k_ => XS.iload X12.here hx rfl (hb hby at_276) rfl k_) ?_
          refine Go.icmp X12 hx hby at_278 (pcT := 285) (pcF := 281) (by decide) (by decide) rfl (fun q => absurd q (fun q => (iNe.1 q) (by simp only [Int32.lt_iff_toInt_lt] at q1 q9 q10 q12 s2 s3 s4; unfold own_e5; simp only [Int32.lt_iff_toInt_lt]; (repeat' split) <;> first | rfl | (exfalso; omega)))) (fun q => ?_)
          clear q
          show Go p e below _ _ (mkF m 281 _ [])
          refine Go.on (g' := (mkF m 282 _ [(.int (1 : Int32))])) (fun t_ k_ => XS.iconst X12.here hx rfl (hb hby at_281) k_) ?_
          refine Go.on (g' := (mkF m 286 _ [(.int (1 : Int32))])) (fun t_ k_ => XS.goto X12.here hx rfl (pc0 := 282) (pc' := 286) rfl (hb hby at_282) (by decide) (by decide) k_) ?_
          exact Go.retI X12 hx hlk hret hby at_286 rfl (by simp) (by decide) (by decide) ⟨rfl, N0⟩
    · have q9 := iGt.2 q
      clear q
      show Go p e below _ _ (mkF m 216 _ [])
      refine Go.on (g' := (mkF m 217 _ [(.int (2 : Int32))])) (fun t_ k_ => XS.iconst X0.here hx rfl (hb hby at_216) k_) ?_
      refine Go.on (g' := (mkF m 219 #[.val (.long p0), .second, .val (.long p1), .second, .val (.long p2), .second, .val (.int p3), .val (.int p4), .val (.int (5 : Int32)), .val (.int c0), .val (.int c1), .val (.int c2), .val (.int c3), .val (.int c4), .val (.int c5), .val (.ref a), .val (.int (2 : Int32))] [])) (fun t_ k_ => XS.istore X0.here hx rfl (hb hby at_217) rfl (l' := #[.val (.long p0), .second, .val (.long p1), .second, .val (.long p2), .second, .val (.int p3), .val (.int p4), .val (.int (5 : Int32)), .val (.int c0), .val (.int c1), .val (.int c2), .val (.int c3), .val (.int c4), .val (.int c5), .val (.ref a), .val (.int (2 : Int32))]) rfl k_) ?_
      refine Go.on (g' := (mkF m 221 _ [(.int (5 : Int32))])) (fun t_ k_ => XS.iload X0.here hx rfl (hb hby at_219) rfl k_) ?_
      refine Go.on (g' := (mkF m 222 _ [(.int (3 : Int32)), (.int (5 : Int32))])) (fun t_ k_ => XS.iconst X0.here hx rfl (hb hby at_221) k_) ?_
      refine Go.icmp X0 hx hby at_222 (pcT := 235) (pcF := 225) (by decide) (by decide) rfl (fun q => absurd q (by decide)) (fun q => ?_)
      clear q
      show Go p e below _ _ (mkF m 225 _ [])
      refine Go.on (g' := (mkF m 227 _ [(.int c3)])) (fun t_ k_ => XS.iload X0.here hx rfl (hb hby at_225) rfl k_) ?_
      refine Go.on (g' := (mkF m 229 _ [(.int p3), (.int c3)])) (fun t_ k_ => XS.iload X0.here hx rfl (hb hby at_227) rfl k_) ?_
      refine Go.icmp X0 hx hby at_229 (pcT := 235) (pcF := 232) (by decide) (by decide) rfl (fun q => ?_) (fun q => ?_)
      · have q13 := iGt.1 q
        clear q
        show Go p e below _ _ (mkF m 235 _ [])
        refine Go.on (g' := (mkF m 237 _ [(.int (5 : Int32))])) (fun t_ k_ => XS.iload X0.here hx rfl (hb hby at_235) rfl k_) ?_
        refine Go.on (g' := (mkF m 238 _ [(.int (4 : Int32)), (.int (5 : Int32))])) (fun t_ k_ => XS.iconst X0.here hx rfl (hb hby at_237) k_) ?_
        refine Go.icmp X0 hx hby at_238 (pcT := 251) (pcF := 241) (by decide) (by decide) rfl (fun q => absurd q (by decide)) (fun q => ?_)
        clear q
        show Go p e below _ _ (mkF m 241 _ [])
        refine Go.on (g' := (mkF m 243 _ [(.int c4)])) (fun t_ k_ => XS.iload X0.here hx rfl (hb hby at_241) rfl k_) ?_
        refine Go.on (g' := (mkF m 245 _ [(.int p3), (.int c4)])) (fun t_ k_ => XS.iload X0.here hx rfl (hb hby at_243) rfl k_) ?_
        refine Go.icmp X0 hx hby at_245 (pcT := 251) (pcF := 248) (by decide) (by decide) rfl (fun q => ?_) (fun q => ?_)
        · have q14 := iGt.1 q
          clear q
          show Go p e below _ _ (mkF m 251 _ [])
          refine Go.on (g' := (mkF m 253 _ [(.int (5 : Int32))])) (fun t_ k_ => XS.iload X0.here hx rfl (hb hby at_251) rfl k_) ?_
          refine Go.on (g' := (mkF m 254 _ [(.int (5 : Int32)), (.int (5 : Int32))])) (fun t_ k_ => XS.iconst X0.here hx rfl (hb hby at_253) k_) ?_
          refine Go.icmp X0 hx hby at_254 (pcT := 267) (pcF := 257) (by decide) (by decide) rfl (fun q => ?_) (fun q => absurd q (by decide))
          clear q
          show Go p e below _ _ (mkF m 267 _ [])
          refine Go.on (g' := (mkF m 269 _ [(.ref a)])) (fun t_ k_ => XS.aload X0.here hx rfl (hb hby at_267) rfl rfl k_) ?_
          refine Go.on (g' := (mkF m 271 _ [(.int (5 : Int32)), (.ref a)])) (fun t_ k_ => XS.iload X0.here hx rfl (hb hby at_269) rfl k_) ?_
          refine Go.on (g' := (mkF m 273 _ [(.int p3), (.int (5 : Int32)), (.ref a)])) (fun t_ k_ => XS.iload X0.here hx rfl (hb hby at_271) rfl k_) ?_
          refine Go.callS X0 hx hZ hby (by rw [hml]; rfl) (y := (⟨"com/example/loomtrace/loomtrace/model/IntSort", "lastAtMost", "([III)I"⟩ : MethodName)) hown (hw _ (List.mem_of_getElem? (i := 7) rfl)) (hw _ (List.mem_of_getElem? (i := 8) rfl)) (hw _ (List.mem_of_getElem? (i := 9) rfl)) (hw _ (List.mem_of_getElem? (i := 10) rfl)) (by decide) (argsL := [(.ref a), (.int (5 : Int32)), (.int p3)]) (rest := []) (rmL5 l Z w0 hw [] a p3 h0 cl A0 hsz c1 hk1 c2 hk2 c3 hk3 c4 hk4 s2 s3 s4) e0 0 (by decide) (by decide) (by decide) (by decide) rfl pdL rfl (Nat.le_of_eq rfl) at_273 (pcF := 276) rfl ?_
          intro v13 T13 L13 X13 hQ13
          obtain ⟨rfl, rfl, e13⟩ := hQ13
          rw [List.append_nil] at X13
          show Go p e below _ _ (mkF m 276 _ [(.int (own_e5 c1 c2 c3 c4 p3))])
          refine Go.on (g' := (mkF m 278 _ [(.int (2 : Int32)), (.int (own_e5 c1 c2 c3 c4 p3))])) (fun t_ k_ => XS.iload X13.here hx rfl (hb hby at_276) rfl k_) ?_
          refine Go.icmp X13 hx hby at_278 (pcT := 285) (pcF := 281) (by decide) (by decide) rfl (fun q => absurd q (fun q => (iNe.1 q) (by simp only [Int32.lt_iff_toInt_lt] at q1 q9 q13 q14 s2 s3 s4; unfold own_e5; simp only [Int32.lt_iff_toInt_lt]; (repeat' split) <;> first | rfl | (exfalso; omega)))) (fun q => ?_)
          clear q
          show Go p e below _ _ (mkF m 281 _ [])
          refine Go.on (g' := (mkF m 282 _ [(.int (1 : Int32))])) (fun t_ k_ => XS.iconst X13.here hx rfl (hb hby at_281) k_) ?_
          refine Go.on (g' := (mkF m 286 _ [(.int (1 : Int32))])) (fun t_ k_ => XS.goto X13.here hx rfl (pc0 := 282) (pc' := 286) rfl (hb hby at_282) (by decide) (by decide) k_) ?_
          exact Go.retI X13 hx hlk hret hby at_286 rfl (by simp) (by decide) (by decide) ⟨rfl, N0⟩
        · have q14 := iGt.2 q
          clear q
          show Go p e below _ _ (mkF m 248 _ [])
          refine Go.on (g' := (mkF m 249 _ [(.int (4 : Int32))])) (fun t_ k_ => XS.iconst X0.here hx rfl (hb hby at_248) k_) ?_
          refine Go.on (g' := (mkF m 251 #[.val (.long p0), .second, .val (.long p1), .second, .val (.long p2), .second, .val (.int p3), .val (.int p4), .val (.int (5 : Int32)), .val (.int c0), .val (.int c1), .val (.int c2), .val (.int c3), .val (.int c4), .val (.int c5), .val (.ref a), .val (.int (4 : Int32))] [])) (fun t_ k_ => XS.istore X0.here hx rfl (hb hby at_249) rfl (l' := #[.val (.long p0), .second, .val (.long p1), .second, .val (.long p2), .second, .val (.int p3), .val (.int p4), .val (.int (5 : Int32)), .val (.int c0), .val (.int c1), .val (.int c2), .val (.int c3), .val (.int c4), .val (.int c5), .val (.ref a), .val (.int (4 : Int32))]) rfl k_) ?_
          refine Go.on (g' := (mkF m 253 _ [(.int (5 : Int32))])) (fun t_ k_ => XS.iload X0.here hx rfl (hb hby at_251) rfl k_) ?_
          refine Go.on (g' := (mkF m 254 _ [(.int (5 : Int32)), (.int (5 : Int32))])) (fun t_ k_ => XS.iconst X0.here hx rfl (hb hby at_253) k_) ?_
          refine Go.icmp X0 hx hby at_254 (pcT := 267) (pcF := 257) (by decide) (by decide) rfl (fun q => ?_) (fun q => absurd q (by decide))
          clear q
          show Go p e below _ _ (mkF m 267 _ [])
          refine Go.on (g' := (mkF m 269 _ [(.ref a)])) (fun t_ k_ => XS.aload X0.here hx rfl (hb hby at_267) rfl rfl k_) ?_
          refine Go.on (g' := (mkF m 271 _ [(.int (5 : Int32)), (.ref a)])) (fun t_ k_ => XS.iload X0.here hx rfl (hb hby at_269) rfl k_) ?_
          refine Go.on (g' := (mkF m 273 _ [(.int p3), (.int (5 : Int32)), (.ref a)])) (fun t_ k_ => XS.iload X0.here hx rfl (hb hby at_271) rfl k_) ?_
          refine Go.callS X0 hx hZ hby (by rw [hml]; rfl) (y := (⟨"com/example/loomtrace/loomtrace/model/IntSort", "lastAtMost", "([III)I"⟩ : MethodName)) hown (hw _ (List.mem_of_getElem? (i := 7) rfl)) (hw _ (List.mem_of_getElem? (i := 8) rfl)) (hw _ (List.mem_of_getElem? (i := 9) rfl)) (hw _ (List.mem_of_getElem? (i := 10) rfl)) (by decide) (argsL := [(.ref a), (.int (5 : Int32)), (.int p3)]) (rest := []) (rmL5 l Z w0 hw [] a p3 h0 cl A0 hsz c1 hk1 c2 hk2 c3 hk3 c4 hk4 s2 s3 s4) e0 0 (by decide) (by decide) (by decide) (by decide) rfl pdL rfl (Nat.le_of_eq rfl) at_273 (pcF := 276) rfl ?_
          intro v14 T14 L14 X14 hQ14
          obtain ⟨rfl, rfl, e14⟩ := hQ14
          rw [List.append_nil] at X14
          show Go p e below _ _ (mkF m 276 _ [(.int (own_e5 c1 c2 c3 c4 p3))])
          refine Go.on (g' := (mkF m 278 _ [(.int (4 : Int32)), (.int (own_e5 c1 c2 c3 c4 p3))])) (fun t_ k_ => XS.iload X14.here hx rfl (hb hby at_276) rfl k_) ?_
          refine Go.icmp X14 hx hby at_278 (pcT := 285) (pcF := 281) (by decide) (by decide) rfl (fun q => absurd q (fun q => (iNe.1 q) (by simp only [Int32.lt_iff_toInt_lt] at q1 q9 q13 q14 s2 s3 s4; unfold own_e5; simp only [Int32.lt_iff_toInt_lt]; (repeat' split) <;> first | rfl | (exfalso; omega)))) (fun q => ?_)
          clear q
          show Go p e below _ _ (mkF m 281 _ [])
          refine Go.on (g' := (mkF m 282 _ [(.int (1 : Int32))])) (fun t_ k_ => XS.iconst X14.here hx rfl (hb hby at_281) k_) ?_
          refine Go.on (g' := (mkF m 286 _ [(.int (1 : Int32))])) (fun t_ k_ => XS.goto X14.here hx rfl (pc0 := 282) (pc' := 286) rfl (hb hby at_282) (by decide) (by decide) k_) ?_
          exact Go.retI X14 hx hlk hret hby at_286 rfl (by simp) (by decide) (by decide) ⟨rfl, N0⟩
      · have q13 := iGt.2 q
        clear q
        show Go p e below _ _ (mkF m 232 _ [])
        refine Go.on (g' := (mkF m 233 _ [(.int (3 : Int32))])) (fun t_ k_ => XS.iconst X0.here hx rfl (hb hby at_232) k_) ?_
        refine Go.on (g' := (mkF m 235 #[.val (.long p0), .second, .val (.long p1), .second, .val (.long p2), .second, .val (.int p3), .val (.int p4), .val (.int (5 : Int32)), .val (.int c0), .val (.int c1), .val (.int c2), .val (.int c3), .val (.int c4), .val (.int c5), .val (.ref a), .val (.int (3 : Int32))] [])) (fun t_ k_ => XS.istore X0.here hx rfl (hb hby at_233) rfl (l' := #[.val (.long p0), .second, .val (.long p1), .second, .val (.long p2), .second, .val (.int p3), .val (.int p4), .val (.int (5 : Int32)), .val (.int c0), .val (.int c1), .val (.int c2), .val (.int c3), .val (.int c4), .val (.int c5), .val (.ref a), .val (.int (3 : Int32))]) rfl k_) ?_
        refine Go.on (g' := (mkF m 237 _ [(.int (5 : Int32))])) (fun t_ k_ => XS.iload X0.here hx rfl (hb hby at_235) rfl k_) ?_
        refine Go.on (g' := (mkF m 238 _ [(.int (4 : Int32)), (.int (5 : Int32))])) (fun t_ k_ => XS.iconst X0.here hx rfl (hb hby at_237) k_) ?_
        refine Go.icmp X0 hx hby at_238 (pcT := 251) (pcF := 241) (by decide) (by decide) rfl (fun q => absurd q (by decide)) (fun q => ?_)
        clear q
        show Go p e below _ _ (mkF m 241 _ [])
        refine Go.on (g' := (mkF m 243 _ [(.int c4)])) (fun t_ k_ => XS.iload X0.here hx rfl (hb hby at_241) rfl k_) ?_
        refine Go.on (g' := (mkF m 245 _ [(.int p3), (.int c4)])) (fun t_ k_ => XS.iload X0.here hx rfl (hb hby at_243) rfl k_) ?_
        refine Go.icmp X0 hx hby at_245 (pcT := 251) (pcF := 248) (by decide) (by decide) rfl (fun q => ?_) (fun q => ?_)
        · have q15 := iGt.1 q
          clear q
          show Go p e below _ _ (mkF m 251 _ [])
          refine Go.on (g' := (mkF m 253 _ [(.int (5 : Int32))])) (fun t_ k_ => XS.iload X0.here hx rfl (hb hby at_251) rfl k_) ?_
          refine Go.on (g' := (mkF m 254 _ [(.int (5 : Int32)), (.int (5 : Int32))])) (fun t_ k_ => XS.iconst X0.here hx rfl (hb hby at_253) k_) ?_
          refine Go.icmp X0 hx hby at_254 (pcT := 267) (pcF := 257) (by decide) (by decide) rfl (fun q => ?_) (fun q => absurd q (by decide))
          clear q
          show Go p e below _ _ (mkF m 267 _ [])
          refine Go.on (g' := (mkF m 269 _ [(.ref a)])) (fun t_ k_ => XS.aload X0.here hx rfl (hb hby at_267) rfl rfl k_) ?_
          refine Go.on (g' := (mkF m 271 _ [(.int (5 : Int32)), (.ref a)])) (fun t_ k_ => XS.iload X0.here hx rfl (hb hby at_269) rfl k_) ?_
          refine Go.on (g' := (mkF m 273 _ [(.int p3), (.int (5 : Int32)), (.ref a)])) (fun t_ k_ => XS.iload X0.here hx rfl (hb hby at_271) rfl k_) ?_
          refine Go.callS X0 hx hZ hby (by rw [hml]; rfl) (y := (⟨"com/example/loomtrace/loomtrace/model/IntSort", "lastAtMost", "([III)I"⟩ : MethodName)) hown (hw _ (List.mem_of_getElem? (i := 7) rfl)) (hw _ (List.mem_of_getElem? (i := 8) rfl)) (hw _ (List.mem_of_getElem? (i := 9) rfl)) (hw _ (List.mem_of_getElem? (i := 10) rfl)) (by decide) (argsL := [(.ref a), (.int (5 : Int32)), (.int p3)]) (rest := []) (rmL5 l Z w0 hw [] a p3 h0 cl A0 hsz c1 hk1 c2 hk2 c3 hk3 c4 hk4 s2 s3 s4) e0 0 (by decide) (by decide) (by decide) (by decide) rfl pdL rfl (Nat.le_of_eq rfl) at_273 (pcF := 276) rfl ?_
          intro v15 T15 L15 X15 hQ15
          obtain ⟨rfl, rfl, e15⟩ := hQ15
          rw [List.append_nil] at X15
          show Go p e below _ _ (mkF m 276 _ [(.int (own_e5 c1 c2 c3 c4 p3))])
          refine Go.on (g' := (mkF m 278 _ [(.int (3 : Int32)), (.int (own_e5 c1 c2 c3 c4 p3))])) (fun t_ k_ => XS.iload X15.here hx rfl (hb hby at_276) rfl k_) ?_
          refine Go.icmp X15 hx hby at_278 (pcT := 285) (pcF := 281) (by decide) (by decide) rfl (fun q => absurd q (fun q => (iNe.1 q) (by simp only [Int32.lt_iff_toInt_lt] at q1 q9 q13 q15 s2 s3 s4; unfold own_e5; simp only [Int32.lt_iff_toInt_lt]; (repeat' split) <;> first | rfl | (exfalso; omega)))) (fun q => ?_)
          clear q
          show Go p e below _ _ (mkF m 281 _ [])
          refine Go.on (g' := (mkF m 282 _ [(.int (1 : Int32))])) (fun t_ k_ => XS.iconst X15.here hx rfl (hb hby at_281) k_) ?_
          refine Go.on (g' := (mkF m 286 _ [(.int (1 : Int32))])) (fun t_ k_ => XS.goto X15.here hx rfl (pc0 := 282) (pc' := 286) rfl (hb hby at_282) (by decide) (by decide) k_) ?_
          exact Go.retI X15 hx hlk hret hby at_286 rfl (by simp) (by decide) (by decide) ⟨rfl, N0⟩
        · have q15 := iGt.2 q
          clear q
          show Go p e below _ _ (mkF m 248 _ [])
          refine Go.on (g' := (mkF m 249 _ [(.int (4 : Int32))])) (fun t_ k_ => XS.iconst X0.here hx rfl (hb hby at_248) k_) ?_
          refine Go.on (g' := (mkF m 251 #[.val (.long p0), .second, .val (.long p1), .second, .val (.long p2), .second, .val (.int p3), .val (.int p4), .val (.int (5 : Int32)), .val (.int c0), .val (.int c1), .val (.int c2), .val (.int c3), .val (.int c4), .val (.int c5), .val (.ref a), .val (.int (4 : Int32))] [])) (fun t_ k_ => XS.istore X0.here hx rfl (hb hby at_249) rfl (l' := #[.val (.long p0), .second, .val (.long p1), .second, .val (.long p2), .second, .val (.int p3), .val (.int p4), .val (.int (5 : Int32)), .val (.int c0), .val (.int c1), .val (.int c2), .val (.int c3), .val (.int c4), .val (.int c5), .val (.ref a), .val (.int (4 : Int32))]) rfl k_) ?_
          refine Go.on (g' := (mkF m 253 _ [(.int (5 : Int32))])) (fun t_ k_ => XS.iload X0.here hx rfl (hb hby at_251) rfl k_) ?_
          refine Go.on (g' := (mkF m 254 _ [(.int (5 : Int32)), (.int (5 : Int32))])) (fun t_ k_ => XS.iconst X0.here hx rfl (hb hby at_253) k_) ?_
          refine Go.icmp X0 hx hby at_254 (pcT := 267) (pcF := 257) (by decide) (by decide) rfl (fun q => ?_) (fun q => absurd q (by decide))
          clear q
          show Go p e below _ _ (mkF m 267 _ [])
          refine Go.on (g' := (mkF m 269 _ [(.ref a)])) (fun t_ k_ => XS.aload X0.here hx rfl (hb hby at_267) rfl rfl k_) ?_
          refine Go.on (g' := (mkF m 271 _ [(.int (5 : Int32)), (.ref a)])) (fun t_ k_ => XS.iload X0.here hx rfl (hb hby at_269) rfl k_) ?_
          refine Go.on (g' := (mkF m 273 _ [(.int p3), (.int (5 : Int32)), (.ref a)])) (fun t_ k_ => XS.iload X0.here hx rfl (hb hby at_271) rfl k_) ?_
          refine Go.callS X0 hx hZ hby (by rw [hml]; rfl) (y := (⟨"com/example/loomtrace/loomtrace/model/IntSort", "lastAtMost", "([III)I"⟩ : MethodName)) hown (hw _ (List.mem_of_getElem? (i := 7) rfl)) (hw _ (List.mem_of_getElem? (i := 8) rfl)) (hw _ (List.mem_of_getElem? (i := 9) rfl)) (hw _ (List.mem_of_getElem? (i := 10) rfl)) (by decide) (argsL := [(.ref a), (.int (5 : Int32)), (.int p3)]) (rest := []) (rmL5 l Z w0 hw [] a p3 h0 cl A0 hsz c1 hk1 c2 hk2 c3 hk3 c4 hk4 s2 s3 s4) e0 0 (by decide) (by decide) (by decide) (by decide) rfl pdL rfl (Nat.le_of_eq rfl) at_273 (pcF := 276) rfl ?_
          intro v16 T16 L16 X16 hQ16
          obtain ⟨rfl, rfl, e16⟩ := hQ16
          rw [List.append_nil] at X16
          show Go p e below _ _ (mkF m 276 _ [(.int (own_e5 c1 c2 c3 c4 p3))])
          refine Go.on (g' := (mkF m 278 _ [(.int (4 : Int32)), (.int (own_e5 c1 c2 c3 c4 p3))])) (fun t_ k_ => XS.iload X16.here hx rfl (hb hby at_276) rfl k_) ?_
          refine Go.icmp X16 hx hby at_278 (pcT := 285) (pcF := 281) (by decide) (by decide) rfl (fun q => absurd q (fun q => (iNe.1 q) (by simp only [Int32.lt_iff_toInt_lt] at q1 q9 q13 q15 s2 s3 s4; unfold own_e5; simp only [Int32.lt_iff_toInt_lt]; (repeat' split) <;> first | rfl | (exfalso; omega)))) (fun q => ?_)
          clear q
          show Go p e below _ _ (mkF m 281 _ [])
          refine Go.on (g' := (mkF m 282 _ [(.int (1 : Int32))])) (fun t_ k_ => XS.iconst X16.here hx rfl (hb hby at_281) k_) ?_
          refine Go.on (g' := (mkF m 286 _ [(.int (1 : Int32))])) (fun t_ k_ => XS.goto X16.here hx rfl (pc0 := 282) (pc' := 286) rfl (hb hby at_282) (by decide) (by decide) k_) ?_
          exact Go.retI X16 hx hlk hret hby at_286 rfl (by simp) (by decide) (by decide) ⟨rfl, N0⟩
set_option maxRecDepth 65536 in
set_option maxHeartbeats 40000000 in
theorem tl6 (l : Launch) (Z : State) (w0 : Array Value) (hw : ∀ d ∈ tables_1, d.before w0 Z = true) (ws : List Jvm.Cond) (p0 p1 p2 : Int64) (p3 p4 c0 c1 c2 c3 c4 c5 : Int32) (p : Program) (e : Env) (s : State) (m : MethodId) (below : List Frame) (meth : Method) (c : Code) (T0 : State) (locs : List Loc) (X0 : Stand p l e room_1 s m #[.long p0, .long p1, .long p2, .int p3, .int p4] below meth c T0 locs 1 7) (hx : p.tables.exec = Jvm.exec) (hby : c.code = code) (hml : c.maxLocals = maxLocals) (hret : meth.sig.returnType = ret) (hlk : meth.locks = false) (hown : s.vm.findClass "com/example/loomtrace/loomtrace/model/IntSortLastAtMostPinLaw" = some m.cls) (hZ : Z.Warmed39 s.vm) (h0 : Heap) (e0 : T0.heap = h0) (n0 : Nat) (N0 : Fr n0 locs) (a : Addr) (cl : Cell) (A0 : Arr Z h0 a cl .int) (hsz : cl.slots.size = 7) (hk1 : cl.slots[(1 : Int32).toNatClampNeg]? = some (.int c1)) (hk2 : cl.slots[(2 : Int32).toNatClampNeg]? = some (.int c2)) (hk3 : cl.slots[(3 : Int32).toNatClampNeg]? = some (.int c3)) (hk4 : cl.slots[(4 : Int32).toNatClampNeg]? = some (.int c4)) (hk5 : cl.slots[(5 : Int32).toNatClampNeg]? = some (.int c5)) (s2 : ¬ c2 < c1) (s3 : ¬ c3 < c2) (s4 : ¬ c4 < c3) (s5 : ¬ c5 < c4) : Go p e below (EndK s (own_Q0 n0) room_1.cells room_1.slots) T0 (mkF m 184 #[.val (.long p0), .second, .val (.long p1), .second, .val (.long p2), .second, .val (.int p3), .val (.int p4), .val (.int (6 : Int32)), .val (.int c0), .val (.int c1), .val (.int c2), .val (.int c3), .val (.int c4), .val (.int c5), .val (.ref a), .unset] []) := by
  refine Go.on (g' := (mkF m 185 _ [(.int (0 : Int32))])) (fun t_ k_ => XS.iconst X0.here hx rfl (hb hby at_184) k_) ?_
  refine Go.on (g' := (mkF m 187 #[.val (.long p0), .second, .val (.long p1), .second, .val (.long p2), .second, .val (.int p3), .val (.int p4), .val (.int (6 : Int32)), .val (.int c0), .val (.int c1), .val (.int c2), .val (.int c3), .val (.int c4), .val (.int c5), .val (.ref a), .val (.int (0 : Int32))] [])) (fun t_ k_ => XS.istore X0.here hx rfl (hb hby at_185) rfl (l' := #[.val (.long p0), .second, .val (.long p1), .second, .val (.long p2), .second, .val (.int p3), .val (.int p4), .val (.int (6 : Int32)), .val (.int c0), .val (.int c1), .val (.int c2), .val (.int c3), .val (.int c4), .val (.int c5), .val (.ref a), .val (.int (0 : Int32))]) rfl k_) ?_
  refine Go.on (g' := (mkF m 189 _ [(.int (6 : Int32))])) (fun t_ k_ => XS.iload X0.here hx rfl (hb hby at_187) rfl k_) ?_
  refine Go.on (g' := (mkF m 190 _ [(.int (1 : Int32)), (.int (6 : Int32))])) (fun t_ k_ => XS.iconst X0.here hx rfl (hb hby at_189) k_) ?_
  refine Go.icmp X0 hx hby at_190 (pcT := 203) (pcF := 193) (by decide) (by decide) rfl (fun q => absurd q (by decide)) (fun q => ?_)
  clear q
  show Go p e below _ _ (mkF m 193 _ [])
  refine Go.on (g' := (mkF m 195 _ [(.int c1)])) (fun t_ k_ => XS.iload X0.here hx rfl (hb hby at_193) rfl k_) ?_
  refine Go.on (g' := (mkF m 197 _ [(.int p3), (.int c1)])) (fun t_ k_ => XS.iload X0.here hx rfl (hb hby at_195) rfl k_) ?_
  refine Go.icmp X0 hx hby at_197 (pcT := 203) (pcF := 200) (by decide) (by decide) rfl (fun q => ?_) (fun q => ?_)
  · have q1 := iGt.1 q
    clear q
    show Go p e below _ _ (mkF m 203 _ [])
    refine Go.on (g' := (mkF m 205 _ [(.int (6 : Int32))])) (fun t_ k_ => XS.iload X0.here hx rfl (hb hby at_203) rfl k_) ?_
    refine Go.on (g' := (mkF m 206 _ [(.int (2 : Int32)), (.int (6 : Int32))])) (fun t_ k_ => XS.iconst X0.here hx rfl (hb hby at_205) k_) ?_
    refine Go.icmp X0 hx hby at_206 (pcT := 219) (pcF := 209) (by decide) (by decide) rfl (fun q => absurd q (by decide)) (fun q => ?_)
    clear q
    show Go p e below _ _ (mkF m 209 _ [])
    refine Go.on (g' := (mkF m 211 _ [(.int c2)])) (fun t_ k_ => XS.iload X0.here hx rfl (hb hby at_209) rfl k_) ?_
    refine Go.on (g' := (mkF m 213 _ [(.int p3), (.int c2)])) (fun t_ k_ => XS.iload X0.here hx rfl (hb hby at_211) rfl k_) ?_
    refine Go.icmp X0 hx hby at_213 (pcT := 219) (pcF := 216) (by decide) (by decide) rfl (fun q => ?_) (fun q => ?_)
    · have q2 := iGt.1 q
      clear q
      show Go p e below _ _ (mkF m 219 _ [])
      refine Go.on (g' := (mkF m 221 _ [(.int (6 : Int32))])) (fun t_ k_ => XS.iload X0.here hx rfl (hb hby at_219) rfl k_) ?_
      refine Go.on (g' := (mkF m 222 _ [(.int (3 : Int32)), (.int (6 : Int32))])) (fun t_ k_ => XS.iconst X0.here hx rfl (hb hby at_221) k_) ?_
      refine Go.icmp X0 hx hby at_222 (pcT := 235) (pcF := 225) (by decide) (by decide) rfl (fun q => absurd q (by decide)) (fun q => ?_)
      clear q
      show Go p e below _ _ (mkF m 225 _ [])
      refine Go.on (g' := (mkF m 227 _ [(.int c3)])) (fun t_ k_ => XS.iload X0.here hx rfl (hb hby at_225) rfl k_) ?_
      refine Go.on (g' := (mkF m 229 _ [(.int p3), (.int c3)])) (fun t_ k_ => XS.iload X0.here hx rfl (hb hby at_227) rfl k_) ?_
      refine Go.icmp X0 hx hby at_229 (pcT := 235) (pcF := 232) (by decide) (by decide) rfl (fun q => ?_) (fun q => ?_)
      · have q3 := iGt.1 q
        clear q
        show Go p e below _ _ (mkF m 235 _ [])
        refine Go.on (g' := (mkF m 237 _ [(.int (6 : Int32))])) (fun t_ k_ => XS.iload X0.here hx rfl (hb hby at_235) rfl k_) ?_
        refine Go.on (g' := (mkF m 238 _ [(.int (4 : Int32)), (.int (6 : Int32))])) (fun t_ k_ => XS.iconst X0.here hx rfl (hb hby at_237) k_) ?_
        refine Go.icmp X0 hx hby at_238 (pcT := 251) (pcF := 241) (by decide) (by decide) rfl (fun q => absurd q (by decide)) (fun q => ?_)
        clear q
        show Go p e below _ _ (mkF m 241 _ [])
        refine Go.on (g' := (mkF m 243 _ [(.int c4)])) (fun t_ k_ => XS.iload X0.here hx rfl (hb hby at_241) rfl k_) ?_
        refine Go.on (g' := (mkF m 245 _ [(.int p3), (.int c4)])) (fun t_ k_ => XS.iload X0.here hx rfl (hb hby at_243) rfl k_) ?_
        refine Go.icmp X0 hx hby at_245 (pcT := 251) (pcF := 248) (by decide) (by decide) rfl (fun q => ?_) (fun q => ?_)
        · have q4 := iGt.1 q
          clear q
          show Go p e below _ _ (mkF m 251 _ [])
          refine Go.on (g' := (mkF m 253 _ [(.int (6 : Int32))])) (fun t_ k_ => XS.iload X0.here hx rfl (hb hby at_251) rfl k_) ?_
          refine Go.on (g' := (mkF m 254 _ [(.int (5 : Int32)), (.int (6 : Int32))])) (fun t_ k_ => XS.iconst X0.here hx rfl (hb hby at_253) k_) ?_
          refine Go.icmp X0 hx hby at_254 (pcT := 267) (pcF := 257) (by decide) (by decide) rfl (fun q => absurd q (by decide)) (fun q => ?_)
          clear q
          show Go p e below _ _ (mkF m 257 _ [])
          refine Go.on (g' := (mkF m 259 _ [(.int c5)])) (fun t_ k_ => XS.iload X0.here hx rfl (hb hby at_257) rfl k_) ?_
          refine Go.on (g' := (mkF m 261 _ [(.int p3), (.int c5)])) (fun t_ k_ => XS.iload X0.here hx rfl (hb hby at_259) rfl k_) ?_
          refine Go.icmp X0 hx hby at_261 (pcT := 267) (pcF := 264) (by decide) (by decide) rfl (fun q => ?_) (fun q => ?_)
          · have q5 := iGt.1 q
            clear q
            show Go p e below _ _ (mkF m 267 _ [])
            refine Go.on (g' := (mkF m 269 _ [(.ref a)])) (fun t_ k_ => XS.aload X0.here hx rfl (hb hby at_267) rfl rfl k_) ?_
            refine Go.on (g' := (mkF m 271 _ [(.int (6 : Int32)), (.ref a)])) (fun t_ k_ => XS.iload X0.here hx rfl (hb hby at_269) rfl k_) ?_
            refine Go.on (g' := (mkF m 273 _ [(.int p3), (.int (6 : Int32)), (.ref a)])) (fun t_ k_ => XS.iload X0.here hx rfl (hb hby at_271) rfl k_) ?_
            refine Go.callS X0 hx hZ hby (by rw [hml]; rfl) (y := (⟨"com/example/loomtrace/loomtrace/model/IntSort", "lastAtMost", "([III)I"⟩ : MethodName)) hown (hw _ (List.mem_of_getElem? (i := 7) rfl)) (hw _ (List.mem_of_getElem? (i := 8) rfl)) (hw _ (List.mem_of_getElem? (i := 9) rfl)) (hw _ (List.mem_of_getElem? (i := 10) rfl)) (by decide) (argsL := [(.ref a), (.int (6 : Int32)), (.int p3)]) (rest := []) (rmL6 l Z w0 hw [] a p3 h0 cl A0 hsz c1 hk1 c2 hk2 c3 hk3 c4 hk4 c5 hk5 s2 s3 s4 s5) e0 0 (by decide) (by decide) (by decide) (by decide) rfl pdL rfl (Nat.le_of_eq rfl) at_273 (pcF := 276) rfl ?_
            intro v1 T1 L1 X1 hQ1
            obtain ⟨rfl, rfl, e1⟩ := hQ1
            rw [List.append_nil] at X1
            show Go p e below _ _ (mkF m 276 _ [(.int (own_e6 c1 c2 c3 c4 c5 p3))])
            refine Go.on (g' := (mkF m 278 _ [(.int (0 : Int32)), (.int (own_e6 c1 c2 c3 c4 c5 p3))])) (fun t_ k_ => XS.iload X1.here hx rfl (hb hby at_276) rfl k_) ?_
            refine Go.icmp X1 hx hby at_278 (pcT := 285) (pcF := 281) (by decide) (by decide) rfl (fun q => absurd q (fun q => (iNe.1 q) (by simp only [Int32.lt_iff_toInt_lt] at q1 q2 q3 q4 q5 s2 s3 s4 s5; unfold own_e6; simp only [Int32.lt_iff_toInt_lt]; (repeat' split) <;> first | rfl | (exfalso; omega)))) (fun q => ?_)
            clear q
            show Go p e below _ _ (mkF m 281 _ [])
            refine Go.on (g' := (mkF m 282 _ [(.int (1 : Int32))])) (fun t_ k_ => XS.iconst X1.here hx rfl (hb hby at_281) k_) ?_
            refine Go.on (g' := (mkF m 286 _ [(.int (1 : Int32))])) (fun t_ k_ => XS.goto X1.here hx rfl (pc0 := 282) (pc' := 286) rfl (hb hby at_282) (by decide) (by decide) k_) ?_
            exact Go.retI X1 hx hlk hret hby at_286 rfl (by simp) (by decide) (by decide) ⟨rfl, N0⟩
          · have q5 := iGt.2 q
            clear q
            show Go p e below _ _ (mkF m 264 _ [])
            refine Go.on (g' := (mkF m 265 _ [(.int (5 : Int32))])) (fun t_ k_ => XS.iconst X0.here hx rfl (hb hby at_264) k_) ?_
            refine Go.on (g' := (mkF m 267 #[.val (.long p0), .second, .val (.long p1), .second, .val (.long p2), .second, .val (.int p3), .val (.int p4), .val (.int (6 : Int32)), .val (.int c0), .val (.int c1), .val (.int c2), .val (.int c3), .val (.int c4), .val (.int c5), .val (.ref a), .val (.int (5 : Int32))] [])) (fun t_ k_ => XS.istore X0.here hx rfl (hb hby at_265) rfl (l' := #[.val (.long p0), .second, .val (.long p1), .second, .val (.long p2), .second, .val (.int p3), .val (.int p4), .val (.int (6 : Int32)), .val (.int c0), .val (.int c1), .val (.int c2), .val (.int c3), .val (.int c4), .val (.int c5), .val (.ref a), .val (.int (5 : Int32))]) rfl k_) ?_
            refine Go.on (g' := (mkF m 269 _ [(.ref a)])) (fun t_ k_ => XS.aload X0.here hx rfl (hb hby at_267) rfl rfl k_) ?_
            refine Go.on (g' := (mkF m 271 _ [(.int (6 : Int32)), (.ref a)])) (fun t_ k_ => XS.iload X0.here hx rfl (hb hby at_269) rfl k_) ?_
            refine Go.on (g' := (mkF m 273 _ [(.int p3), (.int (6 : Int32)), (.ref a)])) (fun t_ k_ => XS.iload X0.here hx rfl (hb hby at_271) rfl k_) ?_
            refine Go.callS X0 hx hZ hby (by rw [hml]; rfl) (y := (⟨"com/example/loomtrace/loomtrace/model/IntSort", "lastAtMost", "([III)I"⟩ : MethodName)) hown (hw _ (List.mem_of_getElem? (i := 7) rfl)) (hw _ (List.mem_of_getElem? (i := 8) rfl)) (hw _ (List.mem_of_getElem? (i := 9) rfl)) (hw _ (List.mem_of_getElem? (i := 10) rfl)) (by decide) (argsL := [(.ref a), (.int (6 : Int32)), (.int p3)]) (rest := []) (rmL6 l Z w0 hw [] a p3 h0 cl A0 hsz c1 hk1 c2 hk2 c3 hk3 c4 hk4 c5 hk5 s2 s3 s4 s5) e0 0 (by decide) (by decide) (by decide) (by decide) rfl pdL rfl (Nat.le_of_eq rfl) at_273 (pcF := 276) rfl ?_
            intro v2 T2 L2 X2 hQ2
            obtain ⟨rfl, rfl, e2⟩ := hQ2
            rw [List.append_nil] at X2
            show Go p e below _ _ (mkF m 276 _ [(.int (own_e6 c1 c2 c3 c4 c5 p3))])
            refine Go.on (g' := (mkF m 278 _ [(.int (5 : Int32)), (.int (own_e6 c1 c2 c3 c4 c5 p3))])) (fun t_ k_ => XS.iload X2.here hx rfl (hb hby at_276) rfl k_) ?_
            refine Go.icmp X2 hx hby at_278 (pcT := 285) (pcF := 281) (by decide) (by decide) rfl (fun q => absurd q (fun q => (iNe.1 q) (by simp only [Int32.lt_iff_toInt_lt] at q1 q2 q3 q4 q5 s2 s3 s4 s5; unfold own_e6; simp only [Int32.lt_iff_toInt_lt]; (repeat' split) <;> first | rfl | (exfalso; omega)))) (fun q => ?_)
            clear q
            show Go p e below _ _ (mkF m 281 _ [])
            refine Go.on (g' := (mkF m 282 _ [(.int (1 : Int32))])) (fun t_ k_ => XS.iconst X2.here hx rfl (hb hby at_281) k_) ?_
            refine Go.on (g' := (mkF m 286 _ [(.int (1 : Int32))])) (fun t_ k_ => XS.goto X2.here hx rfl (pc0 := 282) (pc' := 286) rfl (hb hby at_282) (by decide) (by decide) k_) ?_
            exact Go.retI X2 hx hlk hret hby at_286 rfl (by simp) (by decide) (by decide) ⟨rfl, N0⟩
        · have q4 := iGt.2 q
          clear q
          show Go p e below _ _ (mkF m 248 _ [])
          refine Go.on (g' := (mkF m 249 _ [(.int (4 : Int32))])) (fun t_ k_ => XS.iconst X0.here hx rfl (hb hby at_248) k_) ?_
          refine Go.on (g' := (mkF m 251 #[.val (.long p0), .second, .val (.long p1), .second, .val (.long p2), .second, .val (.int p3), .val (.int p4), .val (.int (6 : Int32)), .val (.int c0), .val (.int c1), .val (.int c2), .val (.int c3), .val (.int c4), .val (.int c5), .val (.ref a), .val (.int (4 : Int32))] [])) (fun t_ k_ => XS.istore X0.here hx rfl (hb hby at_249) rfl (l' := #[.val (.long p0), .second, .val (.long p1), .second, .val (.long p2), .second, .val (.int p3), .val (.int p4), .val (.int (6 : Int32)), .val (.int c0), .val (.int c1), .val (.int c2), .val (.int c3), .val (.int c4), .val (.int c5), .val (.ref a), .val (.int (4 : Int32))]) rfl k_) ?_
          refine Go.on (g' := (mkF m 253 _ [(.int (6 : Int32))])) (fun t_ k_ => XS.iload X0.here hx rfl (hb hby at_251) rfl k_) ?_
          refine Go.on (g' := (mkF m 254 _ [(.int (5 : Int32)), (.int (6 : Int32))])) (fun t_ k_ => XS.iconst X0.here hx rfl (hb hby at_253) k_) ?_
          refine Go.icmp X0 hx hby at_254 (pcT := 267) (pcF := 257) (by decide) (by decide) rfl (fun q => absurd q (by decide)) (fun q => ?_)
          clear q
          show Go p e below _ _ (mkF m 257 _ [])
          refine Go.on (g' := (mkF m 259 _ [(.int c5)])) (fun t_ k_ => XS.iload X0.here hx rfl (hb hby at_257) rfl k_) ?_
          refine Go.on (g' := (mkF m 261 _ [(.int p3), (.int c5)])) (fun t_ k_ => XS.iload X0.here hx rfl (hb hby at_259) rfl k_) ?_
          refine Go.icmp X0 hx hby at_261 (pcT := 267) (pcF := 264) (by decide) (by decide) rfl (fun q => ?_) (fun q => ?_)
          · have q6 := iGt.1 q
            clear q
            show Go p e below _ _ (mkF m 267 _ [])
            refine Go.on (g' := (mkF m 269 _ [(.ref a)])) (fun t_ k_ => XS.aload X0.here hx rfl (hb hby at_267) rfl rfl k_) ?_
            refine Go.on (g' := (mkF m 271 _ [(.int (6 : Int32)), (.ref a)])) (fun t_ k_ => XS.iload X0.here hx rfl (hb hby at_269) rfl k_) ?_
            refine Go.on (g' := (mkF m 273 _ [(.int p3), (.int (6 : Int32)), (.ref a)])) (fun t_ k_ => XS.iload X0.here hx rfl (hb hby at_271) rfl k_) ?_
            refine Go.callS X0 hx hZ hby (by rw [hml]; rfl) (y := (⟨"com/example/loomtrace/loomtrace/model/IntSort", "lastAtMost", "([III)I"⟩ : MethodName)) hown (hw _ (List.mem_of_getElem? (i := 7) rfl)) (hw _ (List.mem_of_getElem? (i := 8) rfl)) (hw _ (List.mem_of_getElem? (i := 9) rfl)) (hw _ (List.mem_of_getElem? (i := 10) rfl)) (by decide) (argsL := [(.ref a), (.int (6 : Int32)), (.int p3)]) (rest := []) (rmL6 l Z w0 hw [] a p3 h0 cl A0 hsz c1 hk1 c2 hk2 c3 hk3 c4 hk4 c5 hk5 s2 s3 s4 s5) e0 0 (by decide) (by decide) (by decide) (by decide) rfl pdL rfl (Nat.le_of_eq rfl) at_273 (pcF := 276) rfl ?_
            intro v3 T3 L3 X3 hQ3
            obtain ⟨rfl, rfl, e3⟩ := hQ3
            rw [List.append_nil] at X3
            show Go p e below _ _ (mkF m 276 _ [(.int (own_e6 c1 c2 c3 c4 c5 p3))])
            refine Go.on (g' := (mkF m 278 _ [(.int (4 : Int32)), (.int (own_e6 c1 c2 c3 c4 c5 p3))])) (fun t_ k_ => XS.iload X3.here hx rfl (hb hby at_276) rfl k_) ?_
            refine Go.icmp X3 hx hby at_278 (pcT := 285) (pcF := 281) (by decide) (by decide) rfl (fun q => absurd q (fun q => (iNe.1 q) (by simp only [Int32.lt_iff_toInt_lt] at q1 q2 q3 q4 q6 s2 s3 s4 s5; unfold own_e6; simp only [Int32.lt_iff_toInt_lt]; (repeat' split) <;> first | rfl | (exfalso; omega)))) (fun q => ?_)
            clear q
            show Go p e below _ _ (mkF m 281 _ [])
            refine Go.on (g' := (mkF m 282 _ [(.int (1 : Int32))])) (fun t_ k_ => XS.iconst X3.here hx rfl (hb hby at_281) k_) ?_
            refine Go.on (g' := (mkF m 286 _ [(.int (1 : Int32))])) (fun t_ k_ => XS.goto X3.here hx rfl (pc0 := 282) (pc' := 286) rfl (hb hby at_282) (by decide) (by decide) k_) ?_
            exact Go.retI X3 hx hlk hret hby at_286 rfl (by simp) (by decide) (by decide) ⟨rfl, N0⟩
          · have q6 := iGt.2 q
            clear q
            show Go p e below _ _ (mkF m 264 _ [])
            refine Go.on (g' := (mkF m 265 _ [(.int (5 : Int32))])) (fun t_ k_ => XS.iconst X0.here hx rfl (hb hby at_264) k_) ?_
            refine Go.on (g' := (mkF m 267 #[.val (.long p0), .second, .val (.long p1), .second, .val (.long p2), .second, .val (.int p3), .val (.int p4), .val (.int (6 : Int32)), .val (.int c0), .val (.int c1), .val (.int c2), .val (.int c3), .val (.int c4), .val (.int c5), .val (.ref a), .val (.int (5 : Int32))] [])) (fun t_ k_ => XS.istore X0.here hx rfl (hb hby at_265) rfl (l' := #[.val (.long p0), .second, .val (.long p1), .second, .val (.long p2), .second, .val (.int p3), .val (.int p4), .val (.int (6 : Int32)), .val (.int c0), .val (.int c1), .val (.int c2), .val (.int c3), .val (.int c4), .val (.int c5), .val (.ref a), .val (.int (5 : Int32))]) rfl k_) ?_
            refine Go.on (g' := (mkF m 269 _ [(.ref a)])) (fun t_ k_ => XS.aload X0.here hx rfl (hb hby at_267) rfl rfl k_) ?_
            refine Go.on (g' := (mkF m 271 _ [(.int (6 : Int32)), (.ref a)])) (fun t_ k_ => XS.iload X0.here hx rfl (hb hby at_269) rfl k_) ?_
            refine Go.on (g' := (mkF m 273 _ [(.int p3), (.int (6 : Int32)), (.ref a)])) (fun t_ k_ => XS.iload X0.here hx rfl (hb hby at_271) rfl k_) ?_
            refine Go.callS X0 hx hZ hby (by rw [hml]; rfl) (y := (⟨"com/example/loomtrace/loomtrace/model/IntSort", "lastAtMost", "([III)I"⟩ : MethodName)) hown (hw _ (List.mem_of_getElem? (i := 7) rfl)) (hw _ (List.mem_of_getElem? (i := 8) rfl)) (hw _ (List.mem_of_getElem? (i := 9) rfl)) (hw _ (List.mem_of_getElem? (i := 10) rfl)) (by decide) (argsL := [(.ref a), (.int (6 : Int32)), (.int p3)]) (rest := []) (rmL6 l Z w0 hw [] a p3 h0 cl A0 hsz c1 hk1 c2 hk2 c3 hk3 c4 hk4 c5 hk5 s2 s3 s4 s5) e0 0 (by decide) (by decide) (by decide) (by decide) rfl pdL rfl (Nat.le_of_eq rfl) at_273 (pcF := 276) rfl ?_
            intro v4 T4 L4 X4 hQ4
            obtain ⟨rfl, rfl, e4⟩ := hQ4
            rw [List.append_nil] at X4
            show Go p e below _ _ (mkF m 276 _ [(.int (own_e6 c1 c2 c3 c4 c5 p3))])
            refine Go.on (g' := (mkF m 278 _ [(.int (5 : Int32)), (.int (own_e6 c1 c2 c3 c4 c5 p3))])) (fun t_ k_ => XS.iload X4.here hx rfl (hb hby at_276) rfl k_) ?_
            refine Go.icmp X4 hx hby at_278 (pcT := 285) (pcF := 281) (by decide) (by decide) rfl (fun q => absurd q (fun q => (iNe.1 q) (by simp only [Int32.lt_iff_toInt_lt] at q1 q2 q3 q4 q6 s2 s3 s4 s5; unfold own_e6; simp only [Int32.lt_iff_toInt_lt]; (repeat' split) <;> first | rfl | (exfalso; omega)))) (fun q => ?_)
            clear q
            show Go p e below _ _ (mkF m 281 _ [])
            refine Go.on (g' := (mkF m 282 _ [(.int (1 : Int32))])) (fun t_ k_ => XS.iconst X4.here hx rfl (hb hby at_281) k_) ?_
            refine Go.on (g' := (mkF m 286 _ [(.int (1 : Int32))])) (fun t_ k_ => XS.goto X4.here hx rfl (pc0 := 282) (pc' := 286) rfl (hb hby at_282) (by decide) (by decide) k_) ?_
            exact Go.retI X4 hx hlk hret hby at_286 rfl (by simp) (by decide) (by decide) ⟨rfl, N0⟩
      · have q3 := iGt.2 q
        clear q
        show Go p e below _ _ (mkF m 232 _ [])
        refine Go.on (g' := (mkF m 233 _ [(.int (3 : Int32))])) (fun t_ k_ => XS.iconst X0.here hx rfl (hb hby at_232) k_) ?_
        refine Go.on (g' := (mkF m 235 #[.val (.long p0), .second, .val (.long p1), .second, .val (.long p2), .second, .val (.int p3), .val (.int p4), .val (.int (6 : Int32)), .val (.int c0), .val (.int c1), .val (.int c2), .val (.int c3), .val (.int c4), .val (.int c5), .val (.ref a), .val (.int (3 : Int32))] [])) (fun t_ k_ => XS.istore X0.here hx rfl (hb hby at_233) rfl (l' := #[.val (.long p0), .second, .val (.long p1), .second, .val (.long p2), .second, .val (.int p3), .val (.int p4), .val (.int (6 : Int32)), .val (.int c0), .val (.int c1), .val (.int c2), .val (.int c3), .val (.int c4), .val (.int c5), .val (.ref a), .val (.int (3 : Int32))]) rfl k_) ?_
        refine Go.on (g' := (mkF m 237 _ [(.int (6 : Int32))])) (fun t_ k_ => XS.iload X0.here hx rfl (hb hby at_235) rfl k_) ?_
        refine Go.on (g' := (mkF m 238 _ [(.int (4 : Int32)), (.int (6 : Int32))])) (fun t_ k_ => XS.iconst X0.here hx rfl (hb hby at_237) k_) ?_
        refine Go.icmp X0 hx hby at_238 (pcT := 251) (pcF := 241) (by decide) (by decide) rfl (fun q => absurd q (by decide)) (fun q => ?_)
        clear q
        show Go p e below _ _ (mkF m 241 _ [])
        refine Go.on (g' := (mkF m 243 _ [(.int c4)])) (fun t_ k_ => XS.iload X0.here hx rfl (hb hby at_241) rfl k_) ?_
        refine Go.on (g' := (mkF m 245 _ [(.int p3), (.int c4)])) (fun t_ k_ => XS.iload X0.here hx rfl (hb hby at_243) rfl k_) ?_
        refine Go.icmp X0 hx hby at_245 (pcT := 251) (pcF := 248) (by decide) (by decide) rfl (fun q => ?_) (fun q => ?_)
        · have q7 := iGt.1 q
          clear q
          show Go p e below _ _ (mkF m 251 _ [])
          refine Go.on (g' := (mkF m 253 _ [(.int (6 : Int32))])) (fun t_ k_ => XS.iload X0.here hx rfl (hb hby at_251) rfl k_) ?_
          refine Go.on (g' := (mkF m 254 _ [(.int (5 : Int32)), (.int (6 : Int32))])) (fun t_ k_ => XS.iconst X0.here hx rfl (hb hby at_253) k_) ?_
          refine Go.icmp X0 hx hby at_254 (pcT := 267) (pcF := 257) (by decide) (by decide) rfl (fun q => absurd q (by decide)) (fun q => ?_)
          clear q
          show Go p e below _ _ (mkF m 257 _ [])
          refine Go.on (g' := (mkF m 259 _ [(.int c5)])) (fun t_ k_ => XS.iload X0.here hx rfl (hb hby at_257) rfl k_) ?_
          refine Go.on (g' := (mkF m 261 _ [(.int p3), (.int c5)])) (fun t_ k_ => XS.iload X0.here hx rfl (hb hby at_259) rfl k_) ?_
          refine Go.icmp X0 hx hby at_261 (pcT := 267) (pcF := 264) (by decide) (by decide) rfl (fun q => ?_) (fun q => ?_)
          · have q8 := iGt.1 q
            clear q
            show Go p e below _ _ (mkF m 267 _ [])
            refine Go.on (g' := (mkF m 269 _ [(.ref a)])) (fun t_ k_ => XS.aload X0.here hx rfl (hb hby at_267) rfl rfl k_) ?_
            refine Go.on (g' := (mkF m 271 _ [(.int (6 : Int32)), (.ref a)])) (fun t_ k_ => XS.iload X0.here hx rfl (hb hby at_269) rfl k_) ?_
            refine Go.on (g' := (mkF m 273 _ [(.int p3), (.int (6 : Int32)), (.ref a)])) (fun t_ k_ => XS.iload X0.here hx rfl (hb hby at_271) rfl k_) ?_
            refine Go.callS X0 hx hZ hby (by rw [hml]; rfl) (y := (⟨"com/example/loomtrace/loomtrace/model/IntSort", "lastAtMost", "([III)I"⟩ : MethodName)) hown (hw _ (List.mem_of_getElem? (i := 7) rfl)) (hw _ (List.mem_of_getElem? (i := 8) rfl)) (hw _ (List.mem_of_getElem? (i := 9) rfl)) (hw _ (List.mem_of_getElem? (i := 10) rfl)) (by decide) (argsL := [(.ref a), (.int (6 : Int32)), (.int p3)]) (rest := []) (rmL6 l Z w0 hw [] a p3 h0 cl A0 hsz c1 hk1 c2 hk2 c3 hk3 c4 hk4 c5 hk5 s2 s3 s4 s5) e0 0 (by decide) (by decide) (by decide) (by decide) rfl pdL rfl (Nat.le_of_eq rfl) at_273 (pcF := 276) rfl ?_
            intro v5 T5 L5 X5 hQ5
            obtain ⟨rfl, rfl, e5⟩ := hQ5
            rw [List.append_nil] at X5
            show Go p e below _ _ (mkF m 276 _ [(.int (own_e6 c1 c2 c3 c4 c5 p3))])
            refine Go.on (g' := (mkF m 278 _ [(.int (3 : Int32)), (.int (own_e6 c1 c2 c3 c4 c5 p3))])) (fun t_ k_ => XS.iload X5.here hx rfl (hb hby at_276) rfl k_) ?_
            refine Go.icmp X5 hx hby at_278 (pcT := 285) (pcF := 281) (by decide) (by decide) rfl (fun q => absurd q (fun q => (iNe.1 q) (by simp only [Int32.lt_iff_toInt_lt] at q1 q2 q3 q7 q8 s2 s3 s4 s5; unfold own_e6; simp only [Int32.lt_iff_toInt_lt]; (repeat' split) <;> first | rfl | (exfalso; omega)))) (fun q => ?_)
            clear q
            show Go p e below _ _ (mkF m 281 _ [])
            refine Go.on (g' := (mkF m 282 _ [(.int (1 : Int32))])) (fun t_ k_ => XS.iconst X5.here hx rfl (hb hby at_281) k_) ?_
            refine Go.on (g' := (mkF m 286 _ [(.int (1 : Int32))])) (fun t_ k_ => XS.goto X5.here hx rfl (pc0 := 282) (pc' := 286) rfl (hb hby at_282) (by decide) (by decide) k_) ?_
            exact Go.retI X5 hx hlk hret hby at_286 rfl (by simp) (by decide) (by decide) ⟨rfl, N0⟩
          · have q8 := iGt.2 q
            clear q
            show Go p e below _ _ (mkF m 264 _ [])
            refine Go.on (g' := (mkF m 265 _ [(.int (5 : Int32))])) (fun t_ k_ => XS.iconst X0.here hx rfl (hb hby at_264) k_) ?_
            refine Go.on (g' := (mkF m 267 #[.val (.long p0), .second, .val (.long p1), .second, .val (.long p2), .second, .val (.int p3), .val (.int p4), .val (.int (6 : Int32)), .val (.int c0), .val (.int c1), .val (.int c2), .val (.int c3), .val (.int c4), .val (.int c5), .val (.ref a), .val (.int (5 : Int32))] [])) (fun t_ k_ => XS.istore X0.here hx rfl (hb hby at_265) rfl (l' := #[.val (.long p0), .second, .val (.long p1), .second, .val (.long p2), .second, .val (.int p3), .val (.int p4), .val (.int (6 : Int32)), .val (.int c0), .val (.int c1), .val (.int c2), .val (.int c3), .val (.int c4), .val (.int c5), .val (.ref a), .val (.int (5 : Int32))]) rfl k_) ?_
            refine Go.on (g' := (mkF m 269 _ [(.ref a)])) (fun t_ k_ => XS.aload X0.here hx rfl (hb hby at_267) rfl rfl k_) ?_
            refine Go.on (g' := (mkF m 271 _ [(.int (6 : Int32)), (.ref a)])) (fun t_ k_ => XS.iload X0.here hx rfl (hb hby at_269) rfl k_) ?_
            refine Go.on (g' := (mkF m 273 _ [(.int p3), (.int (6 : Int32)), (.ref a)])) (fun t_ k_ => XS.iload X0.here hx rfl (hb hby at_271) rfl k_) ?_
            refine Go.callS X0 hx hZ hby (by rw [hml]; rfl) (y := (⟨"com/example/loomtrace/loomtrace/model/IntSort", "lastAtMost", "([III)I"⟩ : MethodName)) hown (hw _ (List.mem_of_getElem? (i := 7) rfl)) (hw _ (List.mem_of_getElem? (i := 8) rfl)) (hw _ (List.mem_of_getElem? (i := 9) rfl)) (hw _ (List.mem_of_getElem? (i := 10) rfl)) (by decide) (argsL := [(.ref a), (.int (6 : Int32)), (.int p3)]) (rest := []) (rmL6 l Z w0 hw [] a p3 h0 cl A0 hsz c1 hk1 c2 hk2 c3 hk3 c4 hk4 c5 hk5 s2 s3 s4 s5) e0 0 (by decide) (by decide) (by decide) (by decide) rfl pdL rfl (Nat.le_of_eq rfl) at_273 (pcF := 276) rfl ?_
            intro v6 T6 L6 X6 hQ6
            obtain ⟨rfl, rfl, e6⟩ := hQ6
            rw [List.append_nil] at X6
            show Go p e below _ _ (mkF m 276 _ [(.int (own_e6 c1 c2 c3 c4 c5 p3))])
            refine Go.on (g' := (mkF m 278 _ [(.int (5 : Int32)), (.int (own_e6 c1 c2 c3 c4 c5 p3))])) (fun t_ k_ => XS.iload X6.here hx rfl (hb hby at_276) rfl k_) ?_
            refine Go.icmp X6 hx hby at_278 (pcT := 285) (pcF := 281) (by decide) (by decide) rfl (fun q => absurd q (fun q => (iNe.1 q) (by simp only [Int32.lt_iff_toInt_lt] at q1 q2 q3 q7 q8 s2 s3 s4 s5; unfold own_e6; simp only [Int32.lt_iff_toInt_lt]; (repeat' split) <;> first | rfl | (exfalso; omega)))) (fun q => ?_)
            clear q
            show Go p e below _ _ (mkF m 281 _ [])
            refine Go.on (g' := (mkF m 282 _ [(.int (1 : Int32))])) (fun t_ k_ => XS.iconst X6.here hx rfl (hb hby at_281) k_) ?_
            refine Go.on (g' := (mkF m 286 _ [(.int (1 : Int32))])) (fun t_ k_ => XS.goto X6.here hx rfl (pc0 := 282) (pc' := 286) rfl (hb hby at_282) (by decide) (by decide) k_) ?_
            exact Go.retI X6 hx hlk hret hby at_286 rfl (by simp) (by decide) (by decide) ⟨rfl, N0⟩
        · have q7 := iGt.2 q
          clear q
          show Go p e below _ _ (mkF m 248 _ [])
          refine Go.on (g' := (mkF m 249 _ [(.int (4 : Int32))])) (fun t_ k_ => XS.iconst X0.here hx rfl (hb hby at_248) k_) ?_
          refine Go.on (g' := (mkF m 251 #[.val (.long p0), .second, .val (.long p1), .second, .val (.long p2), .second, .val (.int p3), .val (.int p4), .val (.int (6 : Int32)), .val (.int c0), .val (.int c1), .val (.int c2), .val (.int c3), .val (.int c4), .val (.int c5), .val (.ref a), .val (.int (4 : Int32))] [])) (fun t_ k_ => XS.istore X0.here hx rfl (hb hby at_249) rfl (l' := #[.val (.long p0), .second, .val (.long p1), .second, .val (.long p2), .second, .val (.int p3), .val (.int p4), .val (.int (6 : Int32)), .val (.int c0), .val (.int c1), .val (.int c2), .val (.int c3), .val (.int c4), .val (.int c5), .val (.ref a), .val (.int (4 : Int32))]) rfl k_) ?_
          refine Go.on (g' := (mkF m 253 _ [(.int (6 : Int32))])) (fun t_ k_ => XS.iload X0.here hx rfl (hb hby at_251) rfl k_) ?_
          refine Go.on (g' := (mkF m 254 _ [(.int (5 : Int32)), (.int (6 : Int32))])) (fun t_ k_ => XS.iconst X0.here hx rfl (hb hby at_253) k_) ?_
          refine Go.icmp X0 hx hby at_254 (pcT := 267) (pcF := 257) (by decide) (by decide) rfl (fun q => absurd q (by decide)) (fun q => ?_)
          clear q
          show Go p e below _ _ (mkF m 257 _ [])
          refine Go.on (g' := (mkF m 259 _ [(.int c5)])) (fun t_ k_ => XS.iload X0.here hx rfl (hb hby at_257) rfl k_) ?_
          refine Go.on (g' := (mkF m 261 _ [(.int p3), (.int c5)])) (fun t_ k_ => XS.iload X0.here hx rfl (hb hby at_259) rfl k_) ?_
          refine Go.icmp X0 hx hby at_261 (pcT := 267) (pcF := 264) (by decide) (by decide) rfl (fun q => ?_) (fun q => ?_)
          · have q9 := iGt.1 q
            clear q
            show Go p e below _ _ (mkF m 267 _ [])
            refine Go.on (g' := (mkF m 269 _ [(.ref a)])) (fun t_ k_ => XS.aload X0.here hx rfl (hb hby at_267) rfl rfl k_) ?_
            refine Go.on (g' := (mkF m 271 _ [(.int (6 : Int32)), (.ref a)])) (fun t_ k_ => XS.iload X0.here hx rfl (hb hby at_269) rfl k_) ?_
            refine Go.on (g' := (mkF m 273 _ [(.int p3), (.int (6 : Int32)), (.ref a)])) (fun t_ k_ => XS.iload X0.here hx rfl (hb hby at_271) rfl k_) ?_
            refine Go.callS X0 hx hZ hby (by rw [hml]; rfl) (y := (⟨"com/example/loomtrace/loomtrace/model/IntSort", "lastAtMost", "([III)I"⟩ : MethodName)) hown (hw _ (List.mem_of_getElem? (i := 7) rfl)) (hw _ (List.mem_of_getElem? (i := 8) rfl)) (hw _ (List.mem_of_getElem? (i := 9) rfl)) (hw _ (List.mem_of_getElem? (i := 10) rfl)) (by decide) (argsL := [(.ref a), (.int (6 : Int32)), (.int p3)]) (rest := []) (rmL6 l Z w0 hw [] a p3 h0 cl A0 hsz c1 hk1 c2 hk2 c3 hk3 c4 hk4 c5 hk5 s2 s3 s4 s5) e0 0 (by decide) (by decide) (by decide) (by decide) rfl pdL rfl (Nat.le_of_eq rfl) at_273 (pcF := 276) rfl ?_
            intro v7 T7 L7 X7 hQ7
            obtain ⟨rfl, rfl, e7⟩ := hQ7
            rw [List.append_nil] at X7
            show Go p e below _ _ (mkF m 276 _ [(.int (own_e6 c1 c2 c3 c4 c5 p3))])
            refine Go.on (g' := (mkF m 278 _ [(.int (4 : Int32)), (.int (own_e6 c1 c2 c3 c4 c5 p3))])) (fun t_ k_ => XS.iload X7.here hx rfl (hb hby at_276) rfl k_) ?_
            refine Go.icmp X7 hx hby at_278 (pcT := 285) (pcF := 281) (by decide) (by decide) rfl (fun q => absurd q (fun q => (iNe.1 q) (by simp only [Int32.lt_iff_toInt_lt] at q1 q2 q3 q7 q9 s2 s3 s4 s5; unfold own_e6; simp only [Int32.lt_iff_toInt_lt]; (repeat' split) <;> first | rfl | (exfalso; omega)))) (fun q => ?_)
            clear q
            show Go p e below _ _ (mkF m 281 _ [])
            refine Go.on (g' := (mkF m 282 _ [(.int (1 : Int32))])) (fun t_ k_ => XS.iconst X7.here hx rfl (hb hby at_281) k_) ?_
            refine Go.on (g' := (mkF m 286 _ [(.int (1 : Int32))])) (fun t_ k_ => XS.goto X7.here hx rfl (pc0 := 282) (pc' := 286) rfl (hb hby at_282) (by decide) (by decide) k_) ?_
            exact Go.retI X7 hx hlk hret hby at_286 rfl (by simp) (by decide) (by decide) ⟨rfl, N0⟩
          · have q9 := iGt.2 q
            clear q
            show Go p e below _ _ (mkF m 264 _ [])
            refine Go.on (g' := (mkF m 265 _ [(.int (5 : Int32))])) (fun t_ k_ => XS.iconst X0.here hx rfl (hb hby at_264) k_) ?_
            refine Go.on (g' := (mkF m 267 #[.val (.long p0), .second, .val (.long p1), .second, .val (.long p2), .second, .val (.int p3), .val (.int p4), .val (.int (6 : Int32)), .val (.int c0), .val (.int c1), .val (.int c2), .val (.int c3), .val (.int c4), .val (.int c5), .val (.ref a), .val (.int (5 : Int32))] [])) (fun t_ k_ => XS.istore X0.here hx rfl (hb hby at_265) rfl (l' := #[.val (.long p0), .second, .val (.long p1), .second, .val (.long p2), .second, .val (.int p3), .val (.int p4), .val (.int (6 : Int32)), .val (.int c0), .val (.int c1), .val (.int c2), .val (.int c3), .val (.int c4), .val (.int c5), .val (.ref a), .val (.int (5 : Int32))]) rfl k_) ?_
            refine Go.on (g' := (mkF m 269 _ [(.ref a)])) (fun t_ k_ => XS.aload X0.here hx rfl (hb hby at_267) rfl rfl k_) ?_
            refine Go.on (g' := (mkF m 271 _ [(.int (6 : Int32)), (.ref a)])) (fun t_ k_ => XS.iload X0.here hx rfl (hb hby at_269) rfl k_) ?_
            refine Go.on (g' := (mkF m 273 _ [(.int p3), (.int (6 : Int32)), (.ref a)])) (fun t_ k_ => XS.iload X0.here hx rfl (hb hby at_271) rfl k_) ?_
            refine Go.callS X0 hx hZ hby (by rw [hml]; rfl) (y := (⟨"com/example/loomtrace/loomtrace/model/IntSort", "lastAtMost", "([III)I"⟩ : MethodName)) hown (hw _ (List.mem_of_getElem? (i := 7) rfl)) (hw _ (List.mem_of_getElem? (i := 8) rfl)) (hw _ (List.mem_of_getElem? (i := 9) rfl)) (hw _ (List.mem_of_getElem? (i := 10) rfl)) (by decide) (argsL := [(.ref a), (.int (6 : Int32)), (.int p3)]) (rest := []) (rmL6 l Z w0 hw [] a p3 h0 cl A0 hsz c1 hk1 c2 hk2 c3 hk3 c4 hk4 c5 hk5 s2 s3 s4 s5) e0 0 (by decide) (by decide) (by decide) (by decide) rfl pdL rfl (Nat.le_of_eq rfl) at_273 (pcF := 276) rfl ?_
            intro v8 T8 L8 X8 hQ8
            obtain ⟨rfl, rfl, e8⟩ := hQ8
            rw [List.append_nil] at X8
            show Go p e below _ _ (mkF m 276 _ [(.int (own_e6 c1 c2 c3 c4 c5 p3))])
            refine Go.on (g' := (mkF m 278 _ [(.int (5 : Int32)), (.int (own_e6 c1 c2 c3 c4 c5 p3))])) (fun t_ k_ => XS.iload X8.here hx rfl (hb hby at_276) rfl k_) ?_
            refine Go.icmp X8 hx hby at_278 (pcT := 285) (pcF := 281) (by decide) (by decide) rfl (fun q => absurd q (fun q => (iNe.1 q) (by simp only [Int32.lt_iff_toInt_lt] at q1 q2 q3 q7 q9 s2 s3 s4 s5; unfold own_e6; simp only [Int32.lt_iff_toInt_lt]; (repeat' split) <;> first | rfl | (exfalso; omega)))) (fun q => ?_)
            clear q
            show Go p e below _ _ (mkF m 281 _ [])
            refine Go.on (g' := (mkF m 282 _ [(.int (1 : Int32))])) (fun t_ k_ => XS.iconst X8.here hx rfl (hb hby at_281) k_) ?_
            refine Go.on (g' := (mkF m 286 _ [(.int (1 : Int32))])) (fun t_ k_ => XS.goto X8.here hx rfl (pc0 := 282) (pc' := 286) rfl (hb hby at_282) (by decide) (by decide) k_) ?_
            exact Go.retI X8 hx hlk hret hby at_286 rfl (by simp) (by decide) (by decide) ⟨rfl, N0⟩
    · have q2 := iGt.2 q
      clear q
      show Go p e below _ _ (mkF m 216 _ [])
      refine Go.on (g' := (mkF m 217 _ [(.int (2 : Int32))])) (fun t_ k_ => XS.iconst X0.here hx rfl (hb hby at_216) k_) ?_
      refine Go.on (g' := (mkF m 219 #[.val (.long p0), .second, .val (.long p1), .second, .val (.long p2), .second, .val (.int p3), .val (.int p4), .val (.int (6 : Int32)), .val (.int c0), .val (.int c1), .val (.int c2), .val (.int c3), .val (.int c4), .val (.int c5), .val (.ref a), .val (.int (2 : Int32))] [])) (fun t_ k_ => XS.istore X0.here hx rfl (hb hby at_217) rfl (l' := #[.val (.long p0), .second, .val (.long p1), .second, .val (.long p2), .second, .val (.int p3), .val (.int p4), .val (.int (6 : Int32)), .val (.int c0), .val (.int c1), .val (.int c2), .val (.int c3), .val (.int c4), .val (.int c5), .val (.ref a), .val (.int (2 : Int32))]) rfl k_) ?_
      refine Go.on (g' := (mkF m 221 _ [(.int (6 : Int32))])) (fun t_ k_ => XS.iload X0.here hx rfl (hb hby at_219) rfl k_) ?_
      refine Go.on (g' := (mkF m 222 _ [(.int (3 : Int32)), (.int (6 : Int32))])) (fun t_ k_ => XS.iconst X0.here hx rfl (hb hby at_221) k_) ?_
      refine Go.icmp X0 hx hby at_222 (pcT := 235) (pcF := 225) (by decide) (by decide) rfl (fun q => absurd q (by decide)) (fun q => ?_)
      clear q
      show Go p e below _ _ (mkF m 225 _ [])
      refine Go.on (g' := (mkF m 227 _ [(.int c3)])) (fun t_ k_ => XS.iload X0.here hx rfl (hb hby at_225) rfl k_) ?_
      refine Go.on (g' := (mkF m 229 _ [(.int p3), (.int c3)])) (fun t_ k_ => XS.iload X0.here hx rfl (hb hby at_227) rfl k_) ?_
      refine Go.icmp X0 hx hby at_229 (pcT := 235) (pcF := 232) (by decide) (by decide) rfl (fun q => ?_) (fun q => ?_)
      · have q10 := iGt.1 q
        clear q
        show Go p e below _ _ (mkF m 235 _ [])
        refine Go.on (g' := (mkF m 237 _ [(.int (6 : Int32))])) (fun t_ k_ => XS.iload X0.here hx rfl (hb hby at_235) rfl k_) ?_
        refine Go.on (g' := (mkF m 238 _ [(.int (4 : Int32)), (.int (6 : Int32))])) (fun t_ k_ => XS.iconst X0.here hx rfl (hb hby at_237) k_) ?_
        refine Go.icmp X0 hx hby at_238 (pcT := 251) (pcF := 241) (by decide) (by decide) rfl (fun q => absurd q (by decide)) (fun q => ?_)
        clear q
        show Go p e below _ _ (mkF m 241 _ [])
        refine Go.on (g' := (mkF m 243 _ [(.int c4)])) (fun t_ k_ => XS.iload X0.here hx rfl (hb hby at_241) rfl k_) ?_
        refine Go.on (g' := (mkF m 245 _ [(.int p3), (.int c4)])) (fun t_ k_ => XS.iload X0.here hx rfl (hb hby at_243) rfl k_) ?_
        refine Go.icmp X0 hx hby at_245 (pcT := 251) (pcF := 248) (by decide) (by decide) rfl (fun q => ?_) (fun q => ?_)
        · have q11 := iGt.1 q
          clear q
          show Go p e below _ _ (mkF m 251 _ [])
          refine Go.on (g' := (mkF m 253 _ [(.int (6 : Int32))])) (fun t_ k_ => XS.iload X0.here hx rfl (hb hby at_251) rfl k_) ?_
          refine Go.on (g' := (mkF m 254 _ [(.int (5 : Int32)), (.int (6 : Int32))])) (fun t_ k_ => XS.iconst X0.here hx rfl (hb hby at_253) k_) ?_
          refine Go.icmp X0 hx hby at_254 (pcT := 267) (pcF := 257) (by decide) (by decide) rfl (fun q => absurd q (by decide)) (fun q => ?_)
          clear q
          show Go p e below _ _ (mkF m 257 _ [])
          refine Go.on (g' := (mkF m 259 _ [(.int c5)])) (fun t_ k_ => XS.iload X0.here hx rfl (hb hby at_257) rfl k_) ?_
          refine Go.on (g' := (mkF m 261 _ [(.int p3), (.int c5)])) (fun t_ k_ => XS.iload X0.here hx rfl (hb hby at_259) rfl k_) ?_
          refine Go.icmp X0 hx hby at_261 (pcT := 267) (pcF := 264) (by decide) (by decide) rfl (fun q => ?_) (fun q => ?_)
          · have q12 := iGt.1 q
            clear q
            show Go p e below _ _ (mkF m 267 _ [])
            refine Go.on (g' := (mkF m 269 _ [(.ref a)])) (fun t_ k_ => XS.aload X0.here hx rfl (hb hby at_267) rfl rfl k_) ?_
            refine Go.on (g' := (mkF m 271 _ [(.int (6 : Int32)), (.ref a)])) (fun t_ k_ => XS.iload X0.here hx rfl (hb hby at_269) rfl k_) ?_
            refine Go.on (g' := (mkF m 273 _ [(.int p3), (.int (6 : Int32)), (.ref a)])) (fun t_ k_ => XS.iload X0.here hx rfl (hb hby at_271) rfl k_) ?_
            refine Go.callS X0 hx hZ hby (by rw [hml]; rfl) (y := (⟨"com/example/loomtrace/loomtrace/model/IntSort", "lastAtMost", "([III)I"⟩ : MethodName)) hown (hw _ (List.mem_of_getElem? (i := 7) rfl)) (hw _ (List.mem_of_getElem? (i := 8) rfl)) (hw _ (List.mem_of_getElem? (i := 9) rfl)) (hw _ (List.mem_of_getElem? (i := 10) rfl)) (by decide) (argsL := [(.ref a), (.int (6 : Int32)), (.int p3)]) (rest := []) (rmL6 l Z w0 hw [] a p3 h0 cl A0 hsz c1 hk1 c2 hk2 c3 hk3 c4 hk4 c5 hk5 s2 s3 s4 s5) e0 0 (by decide) (by decide) (by decide) (by decide) rfl pdL rfl (Nat.le_of_eq rfl) at_273 (pcF := 276) rfl ?_
            intro v9 T9 L9 X9 hQ9
            obtain ⟨rfl, rfl, e9⟩ := hQ9
            rw [List.append_nil] at X9
            show Go p e below _ _ (mkF m 276 _ [(.int (own_e6 c1 c2 c3 c4 c5 p3))])
            refine Go.on (g' := (mkF m 278 _ [(.int (2 : Int32)), (.int (own_e6 c1 c2 c3 c4 c5 p3))])) (fun t_ k_ => XS.iload X9.here hx rfl (hb hby at_276) rfl k_) ?_
            refine Go.icmp X9 hx hby at_278 (pcT := 285) (pcF := 281) (by decide) (by decide) rfl (fun q => absurd q (fun q => (iNe.1 q) (by simp only [Int32.lt_iff_toInt_lt] at q1 q2 q10 q11 q12 s2 s3 s4 s5; unfold own_e6; simp only [Int32.lt_iff_toInt_lt]; (repeat' split) <;> first | rfl | (exfalso; omega)))) (fun q => ?_)
            clear q
            show Go p e below _ _ (mkF m 281 _ [])
            refine Go.on (g' := (mkF m 282 _ [(.int (1 : Int32))])) (fun t_ k_ => XS.iconst X9.here hx rfl (hb hby at_281) k_) ?_
            refine Go.on (g' := (mkF m 286 _ [(.int (1 : Int32))])) (fun t_ k_ => XS.goto X9.here hx rfl (pc0 := 282) (pc' := 286) rfl (hb hby at_282) (by decide) (by decide) k_) ?_
            exact Go.retI X9 hx hlk hret hby at_286 rfl (by simp) (by decide) (by decide) ⟨rfl, N0⟩
          · have q12 := iGt.2 q
            clear q
            show Go p e below _ _ (mkF m 264 _ [])
            refine Go.on (g' := (mkF m 265 _ [(.int (5 : Int32))])) (fun t_ k_ => XS.iconst X0.here hx rfl (hb hby at_264) k_) ?_
            refine Go.on (g' := (mkF m 267 #[.val (.long p0), .second, .val (.long p1), .second, .val (.long p2), .second, .val (.int p3), .val (.int p4), .val (.int (6 : Int32)), .val (.int c0), .val (.int c1), .val (.int c2), .val (.int c3), .val (.int c4), .val (.int c5), .val (.ref a), .val (.int (5 : Int32))] [])) (fun t_ k_ => XS.istore X0.here hx rfl (hb hby at_265) rfl (l' := #[.val (.long p0), .second, .val (.long p1), .second, .val (.long p2), .second, .val (.int p3), .val (.int p4), .val (.int (6 : Int32)), .val (.int c0), .val (.int c1), .val (.int c2), .val (.int c3), .val (.int c4), .val (.int c5), .val (.ref a), .val (.int (5 : Int32))]) rfl k_) ?_
            refine Go.on (g' := (mkF m 269 _ [(.ref a)])) (fun t_ k_ => XS.aload X0.here hx rfl (hb hby at_267) rfl rfl k_) ?_
            refine Go.on (g' := (mkF m 271 _ [(.int (6 : Int32)), (.ref a)])) (fun t_ k_ => XS.iload X0.here hx rfl (hb hby at_269) rfl k_) ?_
            refine Go.on (g' := (mkF m 273 _ [(.int p3), (.int (6 : Int32)), (.ref a)])) (fun t_ k_ => XS.iload X0.here hx rfl (hb hby at_271) rfl k_) ?_
            refine Go.callS X0 hx hZ hby (by rw [hml]; rfl) (y := (⟨"com/example/loomtrace/loomtrace/model/IntSort", "lastAtMost", "([III)I"⟩ : MethodName)) hown (hw _ (List.mem_of_getElem? (i := 7) rfl)) (hw _ (List.mem_of_getElem? (i := 8) rfl)) (hw _ (List.mem_of_getElem? (i := 9) rfl)) (hw _ (List.mem_of_getElem? (i := 10) rfl)) (by decide) (argsL := [(.ref a), (.int (6 : Int32)), (.int p3)]) (rest := []) (rmL6 l Z w0 hw [] a p3 h0 cl A0 hsz c1 hk1 c2 hk2 c3 hk3 c4 hk4 c5 hk5 s2 s3 s4 s5) e0 0 (by decide) (by decide) (by decide) (by decide) rfl pdL rfl (Nat.le_of_eq rfl) at_273 (pcF := 276) rfl ?_
            intro v10 T10 L10 X10 hQ10
            obtain ⟨rfl, rfl, e10⟩ := hQ10
            rw [List.append_nil] at X10
            show Go p e below _ _ (mkF m 276 _ [(.int (own_e6 c1 c2 c3 c4 c5 p3))])
            refine Go.on (g' := (mkF m 278 _ [(.int (5 : Int32)), (.int (own_e6 c1 c2 c3 c4 c5 p3))])) (fun t_ k_ => XS.iload X10.here hx rfl (hb hby at_276) rfl k_) ?_
            refine Go.icmp X10 hx hby at_278 (pcT := 285) (pcF := 281) (by decide) (by decide) rfl (fun q => absurd q (fun q => (iNe.1 q) (by simp only [Int32.lt_iff_toInt_lt] at q1 q2 q10 q11 q12 s2 s3 s4 s5; unfold own_e6; simp only [Int32.lt_iff_toInt_lt]; (repeat' split) <;> first | rfl | (exfalso; omega)))) (fun q => ?_)
            clear q
            show Go p e below _ _ (mkF m 281 _ [])
            refine Go.on (g' := (mkF m 282 _ [(.int (1 : Int32))])) (fun t_ k_ => XS.iconst X10.here hx rfl (hb hby at_281) k_) ?_
            refine Go.on (g' := (mkF m 286 _ [(.int (1 : Int32))])) (fun t_ k_ => XS.goto X10.here hx rfl (pc0 := 282) (pc' := 286) rfl (hb hby at_282) (by decide) (by decide) k_) ?_
            exact Go.retI X10 hx hlk hret hby at_286 rfl (by simp) (by decide) (by decide) ⟨rfl, N0⟩
        · have q11 := iGt.2 q
          clear q
          show Go p e below _ _ (mkF m 248 _ [])
          refine Go.on (g' := (mkF m 249 _ [(.int (4 : Int32))])) (fun t_ k_ => XS.iconst X0.here hx rfl (hb hby at_248) k_) ?_
          refine Go.on (g' := (mkF m 251 #[.val (.long p0), .second, .val (.long p1), .second, .val (.long p2), .second, .val (.int p3), .val (.int p4), .val (.int (6 : Int32)), .val (.int c0), .val (.int c1), .val (.int c2), .val (.int c3), .val (.int c4), .val (.int c5), .val (.ref a), .val (.int (4 : Int32))] [])) (fun t_ k_ => XS.istore X0.here hx rfl (hb hby at_249) rfl (l' := #[.val (.long p0), .second, .val (.long p1), .second, .val (.long p2), .second, .val (.int p3), .val (.int p4), .val (.int (6 : Int32)), .val (.int c0), .val (.int c1), .val (.int c2), .val (.int c3), .val (.int c4), .val (.int c5), .val (.ref a), .val (.int (4 : Int32))]) rfl k_) ?_
          refine Go.on (g' := (mkF m 253 _ [(.int (6 : Int32))])) (fun t_ k_ => XS.iload X0.here hx rfl (hb hby at_251) rfl k_) ?_
          refine Go.on (g' := (mkF m 254 _ [(.int (5 : Int32)), (.int (6 : Int32))])) (fun t_ k_ => XS.iconst X0.here hx rfl (hb hby at_253) k_) ?_
          refine Go.icmp X0 hx hby at_254 (pcT := 267) (pcF := 257) (by decide) (by decide) rfl (fun q => absurd q (by decide)) (fun q => ?_)
          clear q
          show Go p e below _ _ (mkF m 257 _ [])
          refine Go.on (g' := (mkF m 259 _ [(.int c5)])) (fun t_ k_ => XS.iload X0.here hx rfl (hb hby at_257) rfl k_) ?_
          refine Go.on (g' := (mkF m 261 _ [(.int p3), (.int c5)])) (fun t_ k_ => XS.iload X0.here hx rfl (hb hby at_259) rfl k_) ?_
          refine Go.icmp X0 hx hby at_261 (pcT := 267) (pcF := 264) (by decide) (by decide) rfl (fun q => ?_) (fun q => ?_)
          · have q13 := iGt.1 q
            clear q
            show Go p e below _ _ (mkF m 267 _ [])
            refine Go.on (g' := (mkF m 269 _ [(.ref a)])) (fun t_ k_ => XS.aload X0.here hx rfl (hb hby at_267) rfl rfl k_) ?_
            refine Go.on (g' := (mkF m 271 _ [(.int (6 : Int32)), (.ref a)])) (fun t_ k_ => XS.iload X0.here hx rfl (hb hby at_269) rfl k_) ?_
            refine Go.on (g' := (mkF m 273 _ [(.int p3), (.int (6 : Int32)), (.ref a)])) (fun t_ k_ => XS.iload X0.here hx rfl (hb hby at_271) rfl k_) ?_
            refine Go.callS X0 hx hZ hby (by rw [hml]; rfl) (y := (⟨"com/example/loomtrace/loomtrace/model/IntSort", "lastAtMost", "([III)I"⟩ : MethodName)) hown (hw _ (List.mem_of_getElem? (i := 7) rfl)) (hw _ (List.mem_of_getElem? (i := 8) rfl)) (hw _ (List.mem_of_getElem? (i := 9) rfl)) (hw _ (List.mem_of_getElem? (i := 10) rfl)) (by decide) (argsL := [(.ref a), (.int (6 : Int32)), (.int p3)]) (rest := []) (rmL6 l Z w0 hw [] a p3 h0 cl A0 hsz c1 hk1 c2 hk2 c3 hk3 c4 hk4 c5 hk5 s2 s3 s4 s5) e0 0 (by decide) (by decide) (by decide) (by decide) rfl pdL rfl (Nat.le_of_eq rfl) at_273 (pcF := 276) rfl ?_
            intro v11 T11 L11 X11 hQ11
            obtain ⟨rfl, rfl, e11⟩ := hQ11
            rw [List.append_nil] at X11
            show Go p e below _ _ (mkF m 276 _ [(.int (own_e6 c1 c2 c3 c4 c5 p3))])
            refine Go.on (g' := (mkF m 278 _ [(.int (4 : Int32)), (.int (own_e6 c1 c2 c3 c4 c5 p3))])) (fun t_ k_ => XS.iload X11.here hx rfl (hb hby at_276) rfl k_) ?_
            refine Go.icmp X11 hx hby at_278 (pcT := 285) (pcF := 281) (by decide) (by decide) rfl (fun q => absurd q (fun q => (iNe.1 q) (by simp only [Int32.lt_iff_toInt_lt] at q1 q2 q10 q11 q13 s2 s3 s4 s5; unfold own_e6; simp only [Int32.lt_iff_toInt_lt]; (repeat' split) <;> first | rfl | (exfalso; omega)))) (fun q => ?_)
            clear q
            show Go p e below _ _ (mkF m 281 _ [])
            refine Go.on (g' := (mkF m 282 _ [(.int (1 : Int32))])) (fun t_ k_ => XS.iconst X11.here hx rfl (hb hby at_281) k_) ?_
            refine Go.on (g' := (mkF m 286 _ [(.int (1 : Int32))])) (fun t_ k_ => XS.goto X11.here hx rfl (pc0 := 282) (pc' := 286) rfl (hb hby at_282) (by decide) (by decide) k_) ?_
            exact Go.retI X11 hx hlk hret hby at_286 rfl (by simp) (by decide) (by decide) ⟨rfl, N0⟩
          · have q13 := iGt.2 q
            clear q
            show Go p e below _ _ (mkF m 264 _ [])
            refine Go.on (g' := (mkF m 265 _ [(.int (5 : Int32))])) (fun t_ k_ => XS.iconst X0.here hx rfl (hb hby at_264) k_) ?_
            refine Go.on (g' := (mkF m 267 #[.val (.long p0), .second, .val (.long p1), .second, .val (.long p2), .second, .val (.int p3), .val (.int p4), .val (.int (6 : Int32)), .val (.int c0), .val (.int c1), .val (.int c2), .val (.int c3), .val (.int c4), .val (.int c5), .val (.ref a), .val (.int (5 : Int32))] [])) (fun t_ k_ => XS.istore X0.here hx rfl (hb hby at_265) rfl (l' := #[.val (.long p0), .second, .val (.long p1), .second, .val (.long p2), .second, .val (.int p3), .val (.int p4), .val (.int (6 : Int32)), .val (.int c0), .val (.int c1), .val (.int c2), .val (.int c3), .val (.int c4), .val (.int c5), .val (.ref a), .val (.int (5 : Int32))]) rfl k_) ?_
            refine Go.on (g' := (mkF m 269 _ [(.ref a)])) (fun t_ k_ => XS.aload X0.here hx rfl (hb hby at_267) rfl rfl k_) ?_
            refine Go.on (g' := (mkF m 271 _ [(.int (6 : Int32)), (.ref a)])) (fun t_ k_ => XS.iload X0.here hx rfl (hb hby at_269) rfl k_) ?_
            refine Go.on (g' := (mkF m 273 _ [(.int p3), (.int (6 : Int32)), (.ref a)])) (fun t_ k_ => XS.iload X0.here hx rfl (hb hby at_271) rfl k_) ?_
            refine Go.callS X0 hx hZ hby (by rw [hml]; rfl) (y := (⟨"com/example/loomtrace/loomtrace/model/IntSort", "lastAtMost", "([III)I"⟩ : MethodName)) hown (hw _ (List.mem_of_getElem? (i := 7) rfl)) (hw _ (List.mem_of_getElem? (i := 8) rfl)) (hw _ (List.mem_of_getElem? (i := 9) rfl)) (hw _ (List.mem_of_getElem? (i := 10) rfl)) (by decide) (argsL := [(.ref a), (.int (6 : Int32)), (.int p3)]) (rest := []) (rmL6 l Z w0 hw [] a p3 h0 cl A0 hsz c1 hk1 c2 hk2 c3 hk3 c4 hk4 c5 hk5 s2 s3 s4 s5) e0 0 (by decide) (by decide) (by decide) (by decide) rfl pdL rfl (Nat.le_of_eq rfl) at_273 (pcF := 276) rfl ?_
            intro v12 T12 L12 X12 hQ12
            obtain ⟨rfl, rfl, e12⟩ := hQ12
            rw [List.append_nil] at X12
            show Go p e below _ _ (mkF m 276 _ [(.int (own_e6 c1 c2 c3 c4 c5 p3))])
            refine Go.on (g' := (mkF m 278 _ [(.int (5 : Int32)), (.int (own_e6 c1 c2 c3 c4 c5 p3))])) (fun t_ k_ => XS.iload X12.here hx rfl (hb hby at_276) rfl k_) ?_
            refine Go.icmp X12 hx hby at_278 (pcT := 285) (pcF := 281) (by decide) (by decide) rfl (fun q => absurd q (fun q => (iNe.1 q) (by simp only [Int32.lt_iff_toInt_lt] at q1 q2 q10 q11 q13 s2 s3 s4 s5; unfold own_e6; simp only [Int32.lt_iff_toInt_lt]; (repeat' split) <;> first | rfl | (exfalso; omega)))) (fun q => ?_)
            clear q
            show Go p e below _ _ (mkF m 281 _ [])
            refine Go.on (g' := (mkF m 282 _ [(.int (1 : Int32))])) (fun t_ k_ => XS.iconst X12.here hx rfl (hb hby at_281) k_) ?_
            refine Go.on (g' := (mkF m 286 _ [(.int (1 : Int32))])) (fun t_ k_ => XS.goto X12.here hx rfl (pc0 := 282) (pc' := 286) rfl (hb hby at_282) (by decide) (by decide) k_) ?_
            exact Go.retI X12 hx hlk hret hby at_286 rfl (by simp) (by decide) (by decide) ⟨rfl, N0⟩
      · have q10 := iGt.2 q
        clear q
        show Go p e below _ _ (mkF m 232 _ [])
        refine Go.on (g' := (mkF m 233 _ [(.int (3 : Int32))])) (fun t_ k_ => XS.iconst X0.here hx rfl (hb hby at_232) k_) ?_
        refine Go.on (g' := (mkF m 235 #[.val (.long p0), .second, .val (.long p1), .second, .val (.long p2), .second, .val (.int p3), .val (.int p4), .val (.int (6 : Int32)), .val (.int c0), .val (.int c1), .val (.int c2), .val (.int c3), .val (.int c4), .val (.int c5), .val (.ref a), .val (.int (3 : Int32))] [])) (fun t_ k_ => XS.istore X0.here hx rfl (hb hby at_233) rfl (l' := #[.val (.long p0), .second, .val (.long p1), .second, .val (.long p2), .second, .val (.int p3), .val (.int p4), .val (.int (6 : Int32)), .val (.int c0), .val (.int c1), .val (.int c2), .val (.int c3), .val (.int c4), .val (.int c5), .val (.ref a), .val (.int (3 : Int32))]) rfl k_) ?_
        refine Go.on (g' := (mkF m 237 _ [(.int (6 : Int32))])) (fun t_ k_ => XS.iload X0.here hx rfl (hb hby at_235) rfl k_) ?_
        refine Go.on (g' := (mkF m 238 _ [(.int (4 : Int32)), (.int (6 : Int32))])) (fun t_ k_ => XS.iconst X0.here hx rfl (hb hby at_237) k_) ?_
        refine Go.icmp X0 hx hby at_238 (pcT := 251) (pcF := 241) (by decide) (by decide) rfl (fun q => absurd q (by decide)) (fun q => ?_)
        clear q
        show Go p e below _ _ (mkF m 241 _ [])
        refine Go.on (g' := (mkF m 243 _ [(.int c4)])) (fun t_ k_ => XS.iload X0.here hx rfl (hb hby at_241) rfl k_) ?_
        refine Go.on (g' := (mkF m 245 _ [(.int p3), (.int c4)])) (fun t_ k_ => XS.iload X0.here hx rfl (hb hby at_243) rfl k_) ?_
        refine Go.icmp X0 hx hby at_245 (pcT := 251) (pcF := 248) (by decide) (by decide) rfl (fun q => ?_) (fun q => ?_)
        · have q14 := iGt.1 q
          clear q
          show Go p e below _ _ (mkF m 251 _ [])
          refine Go.on (g' := (mkF m 253 _ [(.int (6 : Int32))])) (fun t_ k_ => XS.iload X0.here hx rfl (hb hby at_251) rfl k_) ?_
          refine Go.on (g' := (mkF m 254 _ [(.int (5 : Int32)), (.int (6 : Int32))])) (fun t_ k_ => XS.iconst X0.here hx rfl (hb hby at_253) k_) ?_
          refine Go.icmp X0 hx hby at_254 (pcT := 267) (pcF := 257) (by decide) (by decide) rfl (fun q => absurd q (by decide)) (fun q => ?_)
          clear q
          show Go p e below _ _ (mkF m 257 _ [])
          refine Go.on (g' := (mkF m 259 _ [(.int c5)])) (fun t_ k_ => XS.iload X0.here hx rfl (hb hby at_257) rfl k_) ?_
          refine Go.on (g' := (mkF m 261 _ [(.int p3), (.int c5)])) (fun t_ k_ => XS.iload X0.here hx rfl (hb hby at_259) rfl k_) ?_
          refine Go.icmp X0 hx hby at_261 (pcT := 267) (pcF := 264) (by decide) (by decide) rfl (fun q => ?_) (fun q => ?_)
          · have q15 := iGt.1 q
            clear q
            show Go p e below _ _ (mkF m 267 _ [])
            refine Go.on (g' := (mkF m 269 _ [(.ref a)])) (fun t_ k_ => XS.aload X0.here hx rfl (hb hby at_267) rfl rfl k_) ?_
            refine Go.on (g' := (mkF m 271 _ [(.int (6 : Int32)), (.ref a)])) (fun t_ k_ => XS.iload X0.here hx rfl (hb hby at_269) rfl k_) ?_
            refine Go.on (g' := (mkF m 273 _ [(.int p3), (.int (6 : Int32)), (.ref a)])) (fun t_ k_ => XS.iload X0.here hx rfl (hb hby at_271) rfl k_) ?_
            refine Go.callS X0 hx hZ hby (by rw [hml]; rfl) (y := (⟨"com/example/loomtrace/loomtrace/model/IntSort", "lastAtMost", "([III)I"⟩ : MethodName)) hown (hw _ (List.mem_of_getElem? (i := 7) rfl)) (hw _ (List.mem_of_getElem? (i := 8) rfl)) (hw _ (List.mem_of_getElem? (i := 9) rfl)) (hw _ (List.mem_of_getElem? (i := 10) rfl)) (by decide) (argsL := [(.ref a), (.int (6 : Int32)), (.int p3)]) (rest := []) (rmL6 l Z w0 hw [] a p3 h0 cl A0 hsz c1 hk1 c2 hk2 c3 hk3 c4 hk4 c5 hk5 s2 s3 s4 s5) e0 0 (by decide) (by decide) (by decide) (by decide) rfl pdL rfl (Nat.le_of_eq rfl) at_273 (pcF := 276) rfl ?_
            intro v13 T13 L13 X13 hQ13
            obtain ⟨rfl, rfl, e13⟩ := hQ13
            rw [List.append_nil] at X13
            show Go p e below _ _ (mkF m 276 _ [(.int (own_e6 c1 c2 c3 c4 c5 p3))])
            refine Go.on (g' := (mkF m 278 _ [(.int (3 : Int32)), (.int (own_e6 c1 c2 c3 c4 c5 p3))])) (fun t_ k_ => XS.iload X13.here hx rfl (hb hby at_276) rfl k_) ?_
            refine Go.icmp X13 hx hby at_278 (pcT := 285) (pcF := 281) (by decide) (by decide) rfl (fun q => absurd q (fun q => (iNe.1 q) (by simp only [Int32.lt_iff_toInt_lt] at q1 q2 q10 q14 q15 s2 s3 s4 s5; unfold own_e6; simp only [Int32.lt_iff_toInt_lt]; (repeat' split) <;> first | rfl | (exfalso; omega)))) (fun q => ?_)
            clear q
            show Go p e below _ _ (mkF m 281 _ [])
            refine Go.on (g' := (mkF m 282 _ [(.int (1 : Int32))])) (fun t_ k_ => XS.iconst X13.here hx rfl (hb hby at_281) k_) ?_
            refine Go.on (g' := (mkF m 286 _ [(.int (1 : Int32))])) (fun t_ k_ => XS.goto X13.here hx rfl (pc0 := 282) (pc' := 286) rfl (hb hby at_282) (by decide) (by decide) k_) ?_
            exact Go.retI X13 hx hlk hret hby at_286 rfl (by simp) (by decide) (by decide) ⟨rfl, N0⟩
          · have q15 := iGt.2 q
            clear q
            show Go p e below _ _ (mkF m 264 _ [])
            refine Go.on (g' := (mkF m 265 _ [(.int (5 : Int32))])) (fun t_ k_ => XS.iconst X0.here hx rfl (hb hby at_264) k_) ?_
            refine Go.on (g' := (mkF m 267 #[.val (.long p0), .second, .val (.long p1), .second, .val (.long p2), .second, .val (.int p3), .val (.int p4), .val (.int (6 : Int32)), .val (.int c0), .val (.int c1), .val (.int c2), .val (.int c3), .val (.int c4), .val (.int c5), .val (.ref a), .val (.int (5 : Int32))] [])) (fun t_ k_ => XS.istore X0.here hx rfl (hb hby at_265) rfl (l' := #[.val (.long p0), .second, .val (.long p1), .second, .val (.long p2), .second, .val (.int p3), .val (.int p4), .val (.int (6 : Int32)), .val (.int c0), .val (.int c1), .val (.int c2), .val (.int c3), .val (.int c4), .val (.int c5), .val (.ref a), .val (.int (5 : Int32))]) rfl k_) ?_
            refine Go.on (g' := (mkF m 269 _ [(.ref a)])) (fun t_ k_ => XS.aload X0.here hx rfl (hb hby at_267) rfl rfl k_) ?_
            refine Go.on (g' := (mkF m 271 _ [(.int (6 : Int32)), (.ref a)])) (fun t_ k_ => XS.iload X0.here hx rfl (hb hby at_269) rfl k_) ?_
            refine Go.on (g' := (mkF m 273 _ [(.int p3), (.int (6 : Int32)), (.ref a)])) (fun t_ k_ => XS.iload X0.here hx rfl (hb hby at_271) rfl k_) ?_
            refine Go.callS X0 hx hZ hby (by rw [hml]; rfl) (y := (⟨"com/example/loomtrace/loomtrace/model/IntSort", "lastAtMost", "([III)I"⟩ : MethodName)) hown (hw _ (List.mem_of_getElem? (i := 7) rfl)) (hw _ (List.mem_of_getElem? (i := 8) rfl)) (hw _ (List.mem_of_getElem? (i := 9) rfl)) (hw _ (List.mem_of_getElem? (i := 10) rfl)) (by decide) (argsL := [(.ref a), (.int (6 : Int32)), (.int p3)]) (rest := []) (rmL6 l Z w0 hw [] a p3 h0 cl A0 hsz c1 hk1 c2 hk2 c3 hk3 c4 hk4 c5 hk5 s2 s3 s4 s5) e0 0 (by decide) (by decide) (by decide) (by decide) rfl pdL rfl (Nat.le_of_eq rfl) at_273 (pcF := 276) rfl ?_
            intro v14 T14 L14 X14 hQ14
            obtain ⟨rfl, rfl, e14⟩ := hQ14
            rw [List.append_nil] at X14
            show Go p e below _ _ (mkF m 276 _ [(.int (own_e6 c1 c2 c3 c4 c5 p3))])
            refine Go.on (g' := (mkF m 278 _ [(.int (5 : Int32)), (.int (own_e6 c1 c2 c3 c4 c5 p3))])) (fun t_ k_ => XS.iload X14.here hx rfl (hb hby at_276) rfl k_) ?_
            refine Go.icmp X14 hx hby at_278 (pcT := 285) (pcF := 281) (by decide) (by decide) rfl (fun q => absurd q (fun q => (iNe.1 q) (by simp only [Int32.lt_iff_toInt_lt] at q1 q2 q10 q14 q15 s2 s3 s4 s5; unfold own_e6; simp only [Int32.lt_iff_toInt_lt]; (repeat' split) <;> first | rfl | (exfalso; omega)))) (fun q => ?_)
            clear q
            show Go p e below _ _ (mkF m 281 _ [])
            refine Go.on (g' := (mkF m 282 _ [(.int (1 : Int32))])) (fun t_ k_ => XS.iconst X14.here hx rfl (hb hby at_281) k_) ?_
            refine Go.on (g' := (mkF m 286 _ [(.int (1 : Int32))])) (fun t_ k_ => XS.goto X14.here hx rfl (pc0 := 282) (pc' := 286) rfl (hb hby at_282) (by decide) (by decide) k_) ?_
            exact Go.retI X14 hx hlk hret hby at_286 rfl (by simp) (by decide) (by decide) ⟨rfl, N0⟩
        · have q14 := iGt.2 q
          clear q
          show Go p e below _ _ (mkF m 248 _ [])
          refine Go.on (g' := (mkF m 249 _ [(.int (4 : Int32))])) (fun t_ k_ => XS.iconst X0.here hx rfl (hb hby at_248) k_) ?_
          refine Go.on (g' := (mkF m 251 #[.val (.long p0), .second, .val (.long p1), .second, .val (.long p2), .second, .val (.int p3), .val (.int p4), .val (.int (6 : Int32)), .val (.int c0), .val (.int c1), .val (.int c2), .val (.int c3), .val (.int c4), .val (.int c5), .val (.ref a), .val (.int (4 : Int32))] [])) (fun t_ k_ => XS.istore X0.here hx rfl (hb hby at_249) rfl (l' := #[.val (.long p0), .second, .val (.long p1), .second, .val (.long p2), .second, .val (.int p3), .val (.int p4), .val (.int (6 : Int32)), .val (.int c0), .val (.int c1), .val (.int c2), .val (.int c3), .val (.int c4), .val (.int c5), .val (.ref a), .val (.int (4 : Int32))]) rfl k_) ?_
          refine Go.on (g' := (mkF m 253 _ [(.int (6 : Int32))])) (fun t_ k_ => XS.iload X0.here hx rfl (hb hby at_251) rfl k_) ?_
          refine Go.on (g' := (mkF m 254 _ [(.int (5 : Int32)), (.int (6 : Int32))])) (fun t_ k_ => XS.iconst X0.here hx rfl (hb hby at_253) k_) ?_
          refine Go.icmp X0 hx hby at_254 (pcT := 267) (pcF := 257) (by decide) (by decide) rfl (fun q => absurd q (by decide)) (fun q => ?_)
          clear q
          show Go p e below _ _ (mkF m 257 _ [])
          refine Go.on (g' := (mkF m 259 _ [(.int c5)])) (fun t_ k_ => XS.iload X0.here hx rfl (hb hby at_257) rfl k_) ?_
          refine Go.on (g' := (mkF m 261 _ [(.int p3), (.int c5)])) (fun t_ k_ => XS.iload X0.here hx rfl (hb hby at_259) rfl k_) ?_
          refine Go.icmp X0 hx hby at_261 (pcT := 267) (pcF := 264) (by decide) (by decide) rfl (fun q => ?_) (fun q => ?_)
          · have q16 := iGt.1 q
            clear q
            show Go p e below _ _ (mkF m 267 _ [])
            refine Go.on (g' := (mkF m 269 _ [(.ref a)])) (fun t_ k_ => XS.aload X0.here hx rfl (hb hby at_267) rfl rfl k_) ?_
            refine Go.on (g' := (mkF m 271 _ [(.int (6 : Int32)), (.ref a)])) (fun t_ k_ => XS.iload X0.here hx rfl (hb hby at_269) rfl k_) ?_
            refine Go.on (g' := (mkF m 273 _ [(.int p3), (.int (6 : Int32)), (.ref a)])) (fun t_ k_ => XS.iload X0.here hx rfl (hb hby at_271) rfl k_) ?_
            refine Go.callS X0 hx hZ hby (by rw [hml]; rfl) (y := (⟨"com/example/loomtrace/loomtrace/model/IntSort", "lastAtMost", "([III)I"⟩ : MethodName)) hown (hw _ (List.mem_of_getElem? (i := 7) rfl)) (hw _ (List.mem_of_getElem? (i := 8) rfl)) (hw _ (List.mem_of_getElem? (i := 9) rfl)) (hw _ (List.mem_of_getElem? (i := 10) rfl)) (by decide) (argsL := [(.ref a), (.int (6 : Int32)), (.int p3)]) (rest := []) (rmL6 l Z w0 hw [] a p3 h0 cl A0 hsz c1 hk1 c2 hk2 c3 hk3 c4 hk4 c5 hk5 s2 s3 s4 s5) e0 0 (by decide) (by decide) (by decide) (by decide) rfl pdL rfl (Nat.le_of_eq rfl) at_273 (pcF := 276) rfl ?_
            intro v15 T15 L15 X15 hQ15
            obtain ⟨rfl, rfl, e15⟩ := hQ15
            rw [List.append_nil] at X15
            show Go p e below _ _ (mkF m 276 _ [(.int (own_e6 c1 c2 c3 c4 c5 p3))])
            refine Go.on (g' := (mkF m 278 _ [(.int (4 : Int32)), (.int (own_e6 c1 c2 c3 c4 c5 p3))])) (fun t_ k_ => XS.iload X15.here hx rfl (hb hby at_276) rfl k_) ?_
            refine Go.icmp X15 hx hby at_278 (pcT := 285) (pcF := 281) (by decide) (by decide) rfl (fun q => absurd q (fun q => (iNe.1 q) (by simp only [Int32.lt_iff_toInt_lt] at q1 q2 q10 q14 q16 s2 s3 s4 s5; unfold own_e6; simp only [Int32.lt_iff_toInt_lt]; (repeat' split) <;> first | rfl | (exfalso; omega)))) (fun q => ?_)
            clear q
            show Go p e below _ _ (mkF m 281 _ [])
            refine Go.on (g' := (mkF m 282 _ [(.int (1 : Int32))])) (fun t_ k_ => XS.iconst X15.here hx rfl (hb hby at_281) k_) ?_
            refine Go.on (g' := (mkF m 286 _ [(.int (1 : Int32))])) (fun t_ k_ => XS.goto X15.here hx rfl (pc0 := 282) (pc' := 286) rfl (hb hby at_282) (by decide) (by decide) k_) ?_
            exact Go.retI X15 hx hlk hret hby at_286 rfl (by simp) (by decide) (by decide) ⟨rfl, N0⟩
          · have q16 := iGt.2 q
            clear q
            show Go p e below _ _ (mkF m 264 _ [])
            refine Go.on (g' := (mkF m 265 _ [(.int (5 : Int32))])) (fun t_ k_ => XS.iconst X0.here hx rfl (hb hby at_264) k_) ?_
            refine Go.on (g' := (mkF m 267 #[.val (.long p0), .second, .val (.long p1), .second, .val (.long p2), .second, .val (.int p3), .val (.int p4), .val (.int (6 : Int32)), .val (.int c0), .val (.int c1), .val (.int c2), .val (.int c3), .val (.int c4), .val (.int c5), .val (.ref a), .val (.int (5 : Int32))] [])) (fun t_ k_ => XS.istore X0.here hx rfl (hb hby at_265) rfl (l' := #[.val (.long p0), .second, .val (.long p1), .second, .val (.long p2), .second, .val (.int p3), .val (.int p4), .val (.int (6 : Int32)), .val (.int c0), .val (.int c1), .val (.int c2), .val (.int c3), .val (.int c4), .val (.int c5), .val (.ref a), .val (.int (5 : Int32))]) rfl k_) ?_
            refine Go.on (g' := (mkF m 269 _ [(.ref a)])) (fun t_ k_ => XS.aload X0.here hx rfl (hb hby at_267) rfl rfl k_) ?_
            refine Go.on (g' := (mkF m 271 _ [(.int (6 : Int32)), (.ref a)])) (fun t_ k_ => XS.iload X0.here hx rfl (hb hby at_269) rfl k_) ?_
            refine Go.on (g' := (mkF m 273 _ [(.int p3), (.int (6 : Int32)), (.ref a)])) (fun t_ k_ => XS.iload X0.here hx rfl (hb hby at_271) rfl k_) ?_
            refine Go.callS X0 hx hZ hby (by rw [hml]; rfl) (y := (⟨"com/example/loomtrace/loomtrace/model/IntSort", "lastAtMost", "([III)I"⟩ : MethodName)) hown (hw _ (List.mem_of_getElem? (i := 7) rfl)) (hw _ (List.mem_of_getElem? (i := 8) rfl)) (hw _ (List.mem_of_getElem? (i := 9) rfl)) (hw _ (List.mem_of_getElem? (i := 10) rfl)) (by decide) (argsL := [(.ref a), (.int (6 : Int32)), (.int p3)]) (rest := []) (rmL6 l Z w0 hw [] a p3 h0 cl A0 hsz c1 hk1 c2 hk2 c3 hk3 c4 hk4 c5 hk5 s2 s3 s4 s5) e0 0 (by decide) (by decide) (by decide) (by decide) rfl pdL rfl (Nat.le_of_eq rfl) at_273 (pcF := 276) rfl ?_
            intro v16 T16 L16 X16 hQ16
            obtain ⟨rfl, rfl, e16⟩ := hQ16
            rw [List.append_nil] at X16
            show Go p e below _ _ (mkF m 276 _ [(.int (own_e6 c1 c2 c3 c4 c5 p3))])
            refine Go.on (g' := (mkF m 278 _ [(.int (5 : Int32)), (.int (own_e6 c1 c2 c3 c4 c5 p3))])) (fun t_ k_ => XS.iload X16.here hx rfl (hb hby at_276) rfl k_) ?_
            refine Go.icmp X16 hx hby at_278 (pcT := 285) (pcF := 281) (by decide) (by decide) rfl (fun q => absurd q (fun q => (iNe.1 q) (by simp only [Int32.lt_iff_toInt_lt] at q1 q2 q10 q14 q16 s2 s3 s4 s5; unfold own_e6; simp only [Int32.lt_iff_toInt_lt]; (repeat' split) <;> first | rfl | (exfalso; omega)))) (fun q => ?_)
            clear q
            show Go p e below _ _ (mkF m 281 _ [])
            refine Go.on (g' := (mkF m 282 _ [(.int (1 : Int32))])) (fun t_ k_ => XS.iconst X16.here hx rfl (hb hby at_281) k_) ?_
            refine Go.on (g' := (mkF m 286 _ [(.int (1 : Int32))])) (fun t_ k_ => XS.goto X16.here hx rfl (pc0 := 282) (pc' := 286) rfl (hb hby at_282) (by decide) (by decide) k_) ?_
            exact Go.retI X16 hx hlk hret hby at_286 rfl (by simp) (by decide) (by decide) ⟨rfl, N0⟩
  · have q1 := iGt.2 q
    clear q
    show Go p e below _ _ (mkF m 200 _ [])
    refine Go.on (g' := (mkF m 201 _ [(.int (1 : Int32))])) (fun t_ k_ => XS.iconst X0.here hx rfl (hb hby at_200) k_) ?_
    refine Go.on (g' := (mkF m 203 #[.val (.long p0), .second, .val (.long p1), .second, .val (.long p2), .second, .val (.int p3), .val (.int p4), .val (.int (6 : Int32)), .val (.int c0), .val (.int c1), .val (.int c2), .val (.int c3), .val (.int c4), .val (.int c5), .val (.ref a), .val (.int (1 : Int32))] [])) (fun t_ k_ => XS.istore X0.here hx rfl (hb hby at_201) rfl (l' := #[.val (.long p0), .second, .val (.long p1), .second, .val (.long p2), .second, .val (.int p3), .val (.int p4), .val (.int (6 : Int32)), .val (.int c0), .val (.int c1), .val (.int c2), .val (.int c3), .val (.int c4), .val (.int c5), .val (.ref a), .val (.int (1 : Int32))]) rfl k_) ?_
    refine Go.on (g' := (mkF m 205 _ [(.int (6 : Int32))])) (fun t_ k_ => XS.iload X0.here hx rfl (hb hby at_203) rfl k_) ?_
    refine Go.on (g' := (mkF m 206 _ [(.int (2 : Int32)), (.int (6 : Int32))])) (fun t_ k_ => XS.iconst X0.here hx rfl (hb hby at_205) k_) ?_
    refine Go.icmp X0 hx hby at_206 (pcT := 219) (pcF := 209) (by decide) (by decide) rfl (fun q => absurd q (by decide)) (fun q => ?_)
    clear q
    show Go p e below _ _ (mkF m 209 _ [])
    refine Go.on (g' := (mkF m 211 _ [(.int c2)])) (fun t_ k_ => XS.iload X0.here hx rfl (hb hby at_209) rfl k_) ?_
    refine Go.on (g' := (mkF m 213 _ [(.int p3), (.int c2)])) (fun t_ k_ => XS.iload X0.here hx rfl (hb hby at_211) rfl k_) ?_
    refine Go.icmp X0 hx hby at_213 (pcT := 219) (pcF := 216) (by decide) (by decide) rfl (fun q => ?_) (fun q => ?_)
    · have q17 := iGt.1 q
      clear q
      show Go p e below _ _ (mkF m 219 _ [])
      refine Go.on (g' := (mkF m 221 _ [(.int (6 : Int32))])) (fun t_ k_ => XS.iload X0.here hx rfl (hb hby at_219) rfl k_) ?_
      refine Go.on (g' := (mkF m 222 _ [(.int (3 : Int32)), (.int (6 : Int32))])) (fun t_ k_ => XS.iconst X0.here hx rfl (hb hby at_221) k_) ?_
      refine Go.icmp X0 hx hby at_222 (pcT := 235) (pcF := 225) (by decide) (by decide) rfl (fun q => absurd q (by decide)) (fun q => ?_)
      clear q
      show Go p e below _ _ (mkF m 225 _ [])
      refine Go.on (g' := (mkF m 227 _ [(.int c3)])) (fun t_ k_ => XS.iload X0.here hx rfl (hb hby at_225) rfl k_) ?_
      refine Go.on (g' := (mkF m 229 _ [(.int p3), (.int c3)])) (fun t_ k_ => XS.iload X0.here hx rfl (hb hby at_227) rfl k_) ?_
      refine Go.icmp X0 hx hby at_229 (pcT := 235) (pcF := 232) (by decide) (by decide) rfl (fun q => ?_) (fun q => ?_)
      · have q18 := iGt.1 q
        clear q
        show Go p e below _ _ (mkF m 235 _ [])
        refine Go.on (g' := (mkF m 237 _ [(.int (6 : Int32))])) (fun t_ k_ => XS.iload X0.here hx rfl (hb hby at_235) rfl k_) ?_
        refine Go.on (g' := (mkF m 238 _ [(.int (4 : Int32)), (.int (6 : Int32))])) (fun t_ k_ => XS.iconst X0.here hx rfl (hb hby at_237) k_) ?_
        refine Go.icmp X0 hx hby at_238 (pcT := 251) (pcF := 241) (by decide) (by decide) rfl (fun q => absurd q (by decide)) (fun q => ?_)
        clear q
        show Go p e below _ _ (mkF m 241 _ [])
        refine Go.on (g' := (mkF m 243 _ [(.int c4)])) (fun t_ k_ => XS.iload X0.here hx rfl (hb hby at_241) rfl k_) ?_
        refine Go.on (g' := (mkF m 245 _ [(.int p3), (.int c4)])) (fun t_ k_ => XS.iload X0.here hx rfl (hb hby at_243) rfl k_) ?_
        refine Go.icmp X0 hx hby at_245 (pcT := 251) (pcF := 248) (by decide) (by decide) rfl (fun q => ?_) (fun q => ?_)
        · have q19 := iGt.1 q
          clear q
          show Go p e below _ _ (mkF m 251 _ [])
          refine Go.on (g' := (mkF m 253 _ [(.int (6 : Int32))])) (fun t_ k_ => XS.iload X0.here hx rfl (hb hby at_251) rfl k_) ?_
          refine Go.on (g' := (mkF m 254 _ [(.int (5 : Int32)), (.int (6 : Int32))])) (fun t_ k_ => XS.iconst X0.here hx rfl (hb hby at_253) k_) ?_
          refine Go.icmp X0 hx hby at_254 (pcT := 267) (pcF := 257) (by decide) (by decide) rfl (fun q => absurd q (by decide)) (fun q => ?_)
          clear q
          show Go p e below _ _ (mkF m 257 _ [])
          refine Go.on (g' := (mkF m 259 _ [(.int c5)])) (fun t_ k_ => XS.iload X0.here hx rfl (hb hby at_257) rfl k_) ?_
          refine Go.on (g' := (mkF m 261 _ [(.int p3), (.int c5)])) (fun t_ k_ => XS.iload X0.here hx rfl (hb hby at_259) rfl k_) ?_
          refine Go.icmp X0 hx hby at_261 (pcT := 267) (pcF := 264) (by decide) (by decide) rfl (fun q => ?_) (fun q => ?_)
          · have q20 := iGt.1 q
            clear q
            show Go p e below _ _ (mkF m 267 _ [])
            refine Go.on (g' := (mkF m 269 _ [(.ref a)])) (fun t_ k_ => XS.aload X0.here hx rfl (hb hby at_267) rfl rfl k_) ?_
            refine Go.on (g' := (mkF m 271 _ [(.int (6 : Int32)), (.ref a)])) (fun t_ k_ => XS.iload X0.here hx rfl (hb hby at_269) rfl k_) ?_
            refine Go.on (g' := (mkF m 273 _ [(.int p3), (.int (6 : Int32)), (.ref a)])) (fun t_ k_ => XS.iload X0.here hx rfl (hb hby at_271) rfl k_) ?_
            refine Go.callS X0 hx hZ hby (by rw [hml]; rfl) (y := (⟨"com/example/loomtrace/loomtrace/model/IntSort", "lastAtMost", "([III)I"⟩ : MethodName)) hown (hw _ (List.mem_of_getElem? (i := 7) rfl)) (hw _ (List.mem_of_getElem? (i := 8) rfl)) (hw _ (List.mem_of_getElem? (i := 9) rfl)) (hw _ (List.mem_of_getElem? (i := 10) rfl)) (by decide) (argsL := [(.ref a), (.int (6 : Int32)), (.int p3)]) (rest := []) (rmL6 l Z w0 hw [] a p3 h0 cl A0 hsz c1 hk1 c2 hk2 c3 hk3 c4 hk4 c5 hk5 s2 s3 s4 s5) e0 0 (by decide) (by decide) (by decide) (by decide) rfl pdL rfl (Nat.le_of_eq rfl) at_273 (pcF := 276) rfl ?_
            intro v17 T17 L17 X17 hQ17
            obtain ⟨rfl, rfl, e17⟩ := hQ17
            rw [List.append_nil] at X17
            show Go p e below _ _ (mkF m 276 _ [(.int (own_e6 c1 c2 c3 c4 c5 p3))])
            refine Go.on (g' := (mkF m 278 _ [(.int (1 : Int32)), (.int (own_e6 c1 c2 c3 c4 c5 p3))])) (fun t_ k_ => XS.iload X17.here hx rfl (hb hby at_276) rfl k_) ?_
            refine Go.icmp X17 hx hby at_278 (pcT := 285) (pcF := 281) (by decide) (by decide) rfl (fun q => absurd q (fun q => (iNe.1 q) (by simp only [Int32.lt_iff_toInt_lt] at q1 q17 q18 q19 q20 s2 s3 s4 s5; unfold own_e6; simp only [Int32.lt_iff_toInt_lt]; (repeat' split) <;> first | rfl | (exfalso; omega)))) (fun q => ?_)
            clear q
            show Go p e below _ _ (mkF m 281 _ [])
            refine Go.on (g' := (mkF m 282 _ [(.int (1 : Int32))])) (fun t_ k_ => XS.iconst X17.here hx rfl (hb hby at_281) k_) ?_
            refine Go.on (g' := (mkF m 286 _ [(.int (1 : Int32))])) (fun t_ k_ => XS.goto X17.here hx rfl (pc0 := 282) (pc' := 286) rfl (hb hby at_282) (by decide) (by decide) k_) ?_
            exact Go.retI X17 hx hlk hret hby at_286 rfl (by simp) (by decide) (by decide) ⟨rfl, N0⟩
          · have q20 := iGt.2 q
            clear q
            show Go p e below _ _ (mkF m 264 _ [])
            refine Go.on (g' := (mkF m 265 _ [(.int (5 : Int32))])) (fun t_ k_ => XS.iconst X0.here hx rfl (hb hby at_264) k_) ?_
            refine Go.on (g' := (mkF m 267 #[.val (.long p0), .second, .val (.long p1), .second, .val (.long p2), .second, .val (.int p3), .val (.int p4), .val (.int (6 : Int32)), .val (.int c0), .val (.int c1), .val (.int c2), .val (.int c3), .val (.int c4), .val (.int c5), .val (.ref a), .val (.int (5 : Int32))] [])) (fun t_ k_ => XS.istore X0.here hx rfl (hb hby at_265) rfl (l' := #[.val (.long p0), .second, .val (.long p1), .second, .val (.long p2), .second, .val (.int p3), .val (.int p4), .val (.int (6 : Int32)), .val (.int c0), .val (.int c1), .val (.int c2), .val (.int c3), .val (.int c4), .val (.int c5), .val (.ref a), .val (.int (5 : Int32))]) rfl k_) ?_
            refine Go.on (g' := (mkF m 269 _ [(.ref a)])) (fun t_ k_ => XS.aload X0.here hx rfl (hb hby at_267) rfl rfl k_) ?_
            refine Go.on (g' := (mkF m 271 _ [(.int (6 : Int32)), (.ref a)])) (fun t_ k_ => XS.iload X0.here hx rfl (hb hby at_269) rfl k_) ?_
            refine Go.on (g' := (mkF m 273 _ [(.int p3), (.int (6 : Int32)), (.ref a)])) (fun t_ k_ => XS.iload X0.here hx rfl (hb hby at_271) rfl k_) ?_
            refine Go.callS X0 hx hZ hby (by rw [hml]; rfl) (y := (⟨"com/example/loomtrace/loomtrace/model/IntSort", "lastAtMost", "([III)I"⟩ : MethodName)) hown (hw _ (List.mem_of_getElem? (i := 7) rfl)) (hw _ (List.mem_of_getElem? (i := 8) rfl)) (hw _ (List.mem_of_getElem? (i := 9) rfl)) (hw _ (List.mem_of_getElem? (i := 10) rfl)) (by decide) (argsL := [(.ref a), (.int (6 : Int32)), (.int p3)]) (rest := []) (rmL6 l Z w0 hw [] a p3 h0 cl A0 hsz c1 hk1 c2 hk2 c3 hk3 c4 hk4 c5 hk5 s2 s3 s4 s5) e0 0 (by decide) (by decide) (by decide) (by decide) rfl pdL rfl (Nat.le_of_eq rfl) at_273 (pcF := 276) rfl ?_
            intro v18 T18 L18 X18 hQ18
            obtain ⟨rfl, rfl, e18⟩ := hQ18
            rw [List.append_nil] at X18
            show Go p e below _ _ (mkF m 276 _ [(.int (own_e6 c1 c2 c3 c4 c5 p3))])
            refine Go.on (g' := (mkF m 278 _ [(.int (5 : Int32)), (.int (own_e6 c1 c2 c3 c4 c5 p3))])) (fun t_ k_ => XS.iload X18.here hx rfl (hb hby at_276) rfl k_) ?_
            refine Go.icmp X18 hx hby at_278 (pcT := 285) (pcF := 281) (by decide) (by decide) rfl (fun q => absurd q (fun q => (iNe.1 q) (by simp only [Int32.lt_iff_toInt_lt] at q1 q17 q18 q19 q20 s2 s3 s4 s5; unfold own_e6; simp only [Int32.lt_iff_toInt_lt]; (repeat' split) <;> first | rfl | (exfalso; omega)))) (fun q => ?_)
            clear q
            show Go p e below _ _ (mkF m 281 _ [])
            refine Go.on (g' := (mkF m 282 _ [(.int (1 : Int32))])) (fun t_ k_ => XS.iconst X18.here hx rfl (hb hby at_281) k_) ?_
            refine Go.on (g' := (mkF m 286 _ [(.int (1 : Int32))])) (fun t_ k_ => XS.goto X18.here hx rfl (pc0 := 282) (pc' := 286) rfl (hb hby at_282) (by decide) (by decide) k_) ?_
            exact Go.retI X18 hx hlk hret hby at_286 rfl (by simp) (by decide) (by decide) ⟨rfl, N0⟩
        · have q19 := iGt.2 q
          clear q
          show Go p e below _ _ (mkF m 248 _ [])
          refine Go.on (g' := (mkF m 249 _ [(.int (4 : Int32))])) (fun t_ k_ => XS.iconst X0.here hx rfl (hb hby at_248) k_) ?_
          refine Go.on (g' := (mkF m 251 #[.val (.long p0), .second, .val (.long p1), .second, .val (.long p2), .second, .val (.int p3), .val (.int p4), .val (.int (6 : Int32)), .val (.int c0), .val (.int c1), .val (.int c2), .val (.int c3), .val (.int c4), .val (.int c5), .val (.ref a), .val (.int (4 : Int32))] [])) (fun t_ k_ => XS.istore X0.here hx rfl (hb hby at_249) rfl (l' := #[.val (.long p0), .second, .val (.long p1), .second, .val (.long p2), .second, .val (.int p3), .val (.int p4), .val (.int (6 : Int32)), .val (.int c0), .val (.int c1), .val (.int c2), .val (.int c3), .val (.int c4), .val (.int c5), .val (.ref a), .val (.int (4 : Int32))]) rfl k_) ?_
          refine Go.on (g' := (mkF m 253 _ [(.int (6 : Int32))])) (fun t_ k_ => XS.iload X0.here hx rfl (hb hby at_251) rfl k_) ?_
          refine Go.on (g' := (mkF m 254 _ [(.int (5 : Int32)), (.int (6 : Int32))])) (fun t_ k_ => XS.iconst X0.here hx rfl (hb hby at_253) k_) ?_
          refine Go.icmp X0 hx hby at_254 (pcT := 267) (pcF := 257) (by decide) (by decide) rfl (fun q => absurd q (by decide)) (fun q => ?_)
          clear q
          show Go p e below _ _ (mkF m 257 _ [])
          refine Go.on (g' := (mkF m 259 _ [(.int c5)])) (fun t_ k_ => XS.iload X0.here hx rfl (hb hby at_257) rfl k_) ?_
          refine Go.on (g' := (mkF m 261 _ [(.int p3), (.int c5)])) (fun t_ k_ => XS.iload X0.here hx rfl (hb hby at_259) rfl k_) ?_
          refine Go.icmp X0 hx hby at_261 (pcT := 267) (pcF := 264) (by decide) (by decide) rfl (fun q => ?_) (fun q => ?_)
          · have q21 := iGt.1 q
            clear q
            show Go p e below _ _ (mkF m 267 _ [])
            refine Go.on (g' := (mkF m 269 _ [(.ref a)])) (fun t_ k_ => XS.aload X0.here hx rfl (hb hby at_267) rfl rfl k_) ?_
            refine Go.on (g' := (mkF m 271 _ [(.int (6 : Int32)), (.ref a)])) (fun t_ k_ => XS.iload X0.here hx rfl (hb hby at_269) rfl k_) ?_
            refine Go.on (g' := (mkF m 273 _ [(.int p3), (.int (6 : Int32)), (.ref a)])) (fun t_ k_ => XS.iload X0.here hx rfl (hb hby at_271) rfl k_) ?_
            refine Go.callS X0 hx hZ hby (by rw [hml]; rfl) (y := (⟨"com/example/loomtrace/loomtrace/model/IntSort", "lastAtMost", "([III)I"⟩ : MethodName)) hown (hw _ (List.mem_of_getElem? (i := 7) rfl)) (hw _ (List.mem_of_getElem? (i := 8) rfl)) (hw _ (List.mem_of_getElem? (i := 9) rfl)) (hw _ (List.mem_of_getElem? (i := 10) rfl)) (by decide) (argsL := [(.ref a), (.int (6 : Int32)), (.int p3)]) (rest := []) (rmL6 l Z w0 hw [] a p3 h0 cl A0 hsz c1 hk1 c2 hk2 c3 hk3 c4 hk4 c5 hk5 s2 s3 s4 s5) e0 0 (by decide) (by decide) (by decide) (by decide) rfl pdL rfl (Nat.le_of_eq rfl) at_273 (pcF := 276) rfl ?_
            intro v19 T19 L19 X19 hQ19
            obtain ⟨rfl, rfl, e19⟩ := hQ19
            rw [List.append_nil] at X19
            show Go p e below _ _ (mkF m 276 _ [(.int (own_e6 c1 c2 c3 c4 c5 p3))])
            refine Go.on (g' := (mkF m 278 _ [(.int (4 : Int32)), (.int (own_e6 c1 c2 c3 c4 c5 p3))])) (fun t_ k_ => XS.iload X19.here hx rfl (hb hby at_276) rfl k_) ?_
            refine Go.icmp X19 hx hby at_278 (pcT := 285) (pcF := 281) (by decide) (by decide) rfl (fun q => absurd q (fun q => (iNe.1 q) (by simp only [Int32.lt_iff_toInt_lt] at q1 q17 q18 q19 q21 s2 s3 s4 s5; unfold own_e6; simp only [Int32.lt_iff_toInt_lt]; (repeat' split) <;> first | rfl | (exfalso; omega)))) (fun q => ?_)
            clear q
            show Go p e below _ _ (mkF m 281 _ [])
            refine Go.on (g' := (mkF m 282 _ [(.int (1 : Int32))])) (fun t_ k_ => XS.iconst X19.here hx rfl (hb hby at_281) k_) ?_
            refine Go.on (g' := (mkF m 286 _ [(.int (1 : Int32))])) (fun t_ k_ => XS.goto X19.here hx rfl (pc0 := 282) (pc' := 286) rfl (hb hby at_282) (by decide) (by decide) k_) ?_
            exact Go.retI X19 hx hlk hret hby at_286 rfl (by simp) (by decide) (by decide) ⟨rfl, N0⟩
          · have q21 := iGt.2 q
            clear q
            show Go p e below _ _ (mkF m 264 _ [])
            refine Go.on (g' := (mkF m 265 _ [(.int (5 : Int32))])) (fun t_ k_ => XS.iconst X0.here hx rfl (hb hby at_264) k_) ?_
            refine Go.on (g' := (mkF m 267 #[.val (.long p0), .second, .val (.long p1), .second, .val (.long p2), .second, .val (.int p3), .val (.int p4), .val (.int (6 : Int32)), .val (.int c0), .val (.int c1), .val (.int c2), .val (.int c3), .val (.int c4), .val (.int c5), .val (.ref a), .val (.int (5 : Int32))] [])) (fun t_ k_ => XS.istore X0.here hx rfl (hb hby at_265) rfl (l' := #[.val (.long p0), .second, .val (.long p1), .second, .val (.long p2), .second, .val (.int p3), .val (.int p4), .val (.int (6 : Int32)), .val (.int c0), .val (.int c1), .val (.int c2), .val (.int c3), .val (.int c4), .val (.int c5), .val (.ref a), .val (.int (5 : Int32))]) rfl k_) ?_
            refine Go.on (g' := (mkF m 269 _ [(.ref a)])) (fun t_ k_ => XS.aload X0.here hx rfl (hb hby at_267) rfl rfl k_) ?_
            refine Go.on (g' := (mkF m 271 _ [(.int (6 : Int32)), (.ref a)])) (fun t_ k_ => XS.iload X0.here hx rfl (hb hby at_269) rfl k_) ?_
            refine Go.on (g' := (mkF m 273 _ [(.int p3), (.int (6 : Int32)), (.ref a)])) (fun t_ k_ => XS.iload X0.here hx rfl (hb hby at_271) rfl k_) ?_
            refine Go.callS X0 hx hZ hby (by rw [hml]; rfl) (y := (⟨"com/example/loomtrace/loomtrace/model/IntSort", "lastAtMost", "([III)I"⟩ : MethodName)) hown (hw _ (List.mem_of_getElem? (i := 7) rfl)) (hw _ (List.mem_of_getElem? (i := 8) rfl)) (hw _ (List.mem_of_getElem? (i := 9) rfl)) (hw _ (List.mem_of_getElem? (i := 10) rfl)) (by decide) (argsL := [(.ref a), (.int (6 : Int32)), (.int p3)]) (rest := []) (rmL6 l Z w0 hw [] a p3 h0 cl A0 hsz c1 hk1 c2 hk2 c3 hk3 c4 hk4 c5 hk5 s2 s3 s4 s5) e0 0 (by decide) (by decide) (by decide) (by decide) rfl pdL rfl (Nat.le_of_eq rfl) at_273 (pcF := 276) rfl ?_
            intro v20 T20 L20 X20 hQ20
            obtain ⟨rfl, rfl, e20⟩ := hQ20
            rw [List.append_nil] at X20
            show Go p e below _ _ (mkF m 276 _ [(.int (own_e6 c1 c2 c3 c4 c5 p3))])
            refine Go.on (g' := (mkF m 278 _ [(.int (5 : Int32)), (.int (own_e6 c1 c2 c3 c4 c5 p3))])) (fun t_ k_ => XS.iload X20.here hx rfl (hb hby at_276) rfl k_) ?_
            refine Go.icmp X20 hx hby at_278 (pcT := 285) (pcF := 281) (by decide) (by decide) rfl (fun q => absurd q (fun q => (iNe.1 q) (by simp only [Int32.lt_iff_toInt_lt] at q1 q17 q18 q19 q21 s2 s3 s4 s5; unfold own_e6; simp only [Int32.lt_iff_toInt_lt]; (repeat' split) <;> first | rfl | (exfalso; omega)))) (fun q => ?_)
            clear q
            show Go p e below _ _ (mkF m 281 _ [])
            refine Go.on (g' := (mkF m 282 _ [(.int (1 : Int32))])) (fun t_ k_ => XS.iconst X20.here hx rfl (hb hby at_281) k_) ?_
            refine Go.on (g' := (mkF m 286 _ [(.int (1 : Int32))])) (fun t_ k_ => XS.goto X20.here hx rfl (pc0 := 282) (pc' := 286) rfl (hb hby at_282) (by decide) (by decide) k_) ?_
            exact Go.retI X20 hx hlk hret hby at_286 rfl (by simp) (by decide) (by decide) ⟨rfl, N0⟩
      · have q18 := iGt.2 q
        clear q
        show Go p e below _ _ (mkF m 232 _ [])
        refine Go.on (g' := (mkF m 233 _ [(.int (3 : Int32))])) (fun t_ k_ => XS.iconst X0.here hx rfl (hb hby at_232) k_) ?_
        refine Go.on (g' := (mkF m 235 #[.val (.long p0), .second, .val (.long p1), .second, .val (.long p2), .second, .val (.int p3), .val (.int p4), .val (.int (6 : Int32)), .val (.int c0), .val (.int c1), .val (.int c2), .val (.int c3), .val (.int c4), .val (.int c5), .val (.ref a), .val (.int (3 : Int32))] [])) (fun t_ k_ => XS.istore X0.here hx rfl (hb hby at_233) rfl (l' := #[.val (.long p0), .second, .val (.long p1), .second, .val (.long p2), .second, .val (.int p3), .val (.int p4), .val (.int (6 : Int32)), .val (.int c0), .val (.int c1), .val (.int c2), .val (.int c3), .val (.int c4), .val (.int c5), .val (.ref a), .val (.int (3 : Int32))]) rfl k_) ?_
        refine Go.on (g' := (mkF m 237 _ [(.int (6 : Int32))])) (fun t_ k_ => XS.iload X0.here hx rfl (hb hby at_235) rfl k_) ?_
        refine Go.on (g' := (mkF m 238 _ [(.int (4 : Int32)), (.int (6 : Int32))])) (fun t_ k_ => XS.iconst X0.here hx rfl (hb hby at_237) k_) ?_
        refine Go.icmp X0 hx hby at_238 (pcT := 251) (pcF := 241) (by decide) (by decide) rfl (fun q => absurd q (by decide)) (fun q => ?_)
        clear q
        show Go p e below _ _ (mkF m 241 _ [])
        refine Go.on (g' := (mkF m 243 _ [(.int c4)])) (fun t_ k_ => XS.iload X0.here hx rfl (hb hby at_241) rfl k_) ?_
        refine Go.on (g' := (mkF m 245 _ [(.int p3), (.int c4)])) (fun t_ k_ => XS.iload X0.here hx rfl (hb hby at_243) rfl k_) ?_
        refine Go.icmp X0 hx hby at_245 (pcT := 251) (pcF := 248) (by decide) (by decide) rfl (fun q => ?_) (fun q => ?_)
        · have q22 := iGt.1 q
          clear q
          show Go p e below _ _ (mkF m 251 _ [])
          refine Go.on (g' := (mkF m 253 _ [(.int (6 : Int32))])) (fun t_ k_ => XS.iload X0.here hx rfl (hb hby at_251) rfl k_) ?_
          refine Go.on (g' := (mkF m 254 _ [(.int (5 : Int32)), (.int (6 : Int32))])) (fun t_ k_ => XS.iconst X0.here hx rfl (hb hby at_253) k_) ?_
          refine Go.icmp X0 hx hby at_254 (pcT := 267) (pcF := 257) (by decide) (by decide) rfl (fun q => absurd q (by decide)) (fun q => ?_)
          clear q
          show Go p e below _ _ (mkF m 257 _ [])
          refine Go.on (g' := (mkF m 259 _ [(.int c5)])) (fun t_ k_ => XS.iload X0.here hx rfl (hb hby at_257) rfl k_) ?_
          refine Go.on (g' := (mkF m 261 _ [(.int p3), (.int c5)])) (fun t_ k_ => XS.iload X0.here hx rfl (hb hby at_259) rfl k_) ?_
          refine Go.icmp X0 hx hby at_261 (pcT := 267) (pcF := 264) (by decide) (by decide) rfl (fun q => ?_) (fun q => ?_)
          · have q23 := iGt.1 q
            clear q
            show Go p e below _ _ (mkF m 267 _ [])
            refine Go.on (g' := (mkF m 269 _ [(.ref a)])) (fun t_ k_ => XS.aload X0.here hx rfl (hb hby at_267) rfl rfl k_) ?_
            refine Go.on (g' := (mkF m 271 _ [(.int (6 : Int32)), (.ref a)])) (fun t_ k_ => XS.iload X0.here hx rfl (hb hby at_269) rfl k_) ?_
            refine Go.on (g' := (mkF m 273 _ [(.int p3), (.int (6 : Int32)), (.ref a)])) (fun t_ k_ => XS.iload X0.here hx rfl (hb hby at_271) rfl k_) ?_
            refine Go.callS X0 hx hZ hby (by rw [hml]; rfl) (y := (⟨"com/example/loomtrace/loomtrace/model/IntSort", "lastAtMost", "([III)I"⟩ : MethodName)) hown (hw _ (List.mem_of_getElem? (i := 7) rfl)) (hw _ (List.mem_of_getElem? (i := 8) rfl)) (hw _ (List.mem_of_getElem? (i := 9) rfl)) (hw _ (List.mem_of_getElem? (i := 10) rfl)) (by decide) (argsL := [(.ref a), (.int (6 : Int32)), (.int p3)]) (rest := []) (rmL6 l Z w0 hw [] a p3 h0 cl A0 hsz c1 hk1 c2 hk2 c3 hk3 c4 hk4 c5 hk5 s2 s3 s4 s5) e0 0 (by decide) (by decide) (by decide) (by decide) rfl pdL rfl (Nat.le_of_eq rfl) at_273 (pcF := 276) rfl ?_
            intro v21 T21 L21 X21 hQ21
            obtain ⟨rfl, rfl, e21⟩ := hQ21
            rw [List.append_nil] at X21
            show Go p e below _ _ (mkF m 276 _ [(.int (own_e6 c1 c2 c3 c4 c5 p3))])
            refine Go.on (g' := (mkF m 278 _ [(.int (3 : Int32)), (.int (own_e6 c1 c2 c3 c4 c5 p3))])) (fun t_ k_ => XS.iload X21.here hx rfl (hb hby at_276) rfl k_) ?_
            refine Go.icmp X21 hx hby at_278 (pcT := 285) (pcF := 281) (by decide) (by decide) rfl (fun q => absurd q (fun q => (iNe.1 q) (by simp only [Int32.lt_iff_toInt_lt] at q1 q17 q18 q22 q23 s2 s3 s4 s5; unfold own_e6; simp only [Int32.lt_iff_toInt_lt]; (repeat' split) <;> first | rfl | (exfalso; omega)))) (fun q => ?_)
            clear q
            show Go p e below _ _ (mkF m 281 _ [])
            refine Go.on (g' := (mkF m 282 _ [(.int (1 : Int32))])) (fun t_ k_ => XS.iconst X21.here hx rfl (hb hby at_281) k_) ?_
            refine Go.on (g' := (mkF m 286 _ [(.int (1 : Int32))])) (fun t_ k_ => XS.goto X21.here hx rfl (pc0 := 282) (pc' := 286) rfl (hb hby at_282) (by decide) (by decide) k_) ?_
            exact Go.retI X21 hx hlk hret hby at_286 rfl (by simp) (by decide) (by decide) ⟨rfl, N0⟩
          · have q23 := iGt.2 q
            clear q
            show Go p e below _ _ (mkF m 264 _ [])
            refine Go.on (g' := (mkF m 265 _ [(.int (5 : Int32))])) (fun t_ k_ => XS.iconst X0.here hx rfl (hb hby at_264) k_) ?_
            refine Go.on (g' := (mkF m 267 #[.val (.long p0), .second, .val (.long p1), .second, .val (.long p2), .second, .val (.int p3), .val (.int p4), .val (.int (6 : Int32)), .val (.int c0), .val (.int c1), .val (.int c2), .val (.int c3), .val (.int c4), .val (.int c5), .val (.ref a), .val (.int (5 : Int32))] [])) (fun t_ k_ => XS.istore X0.here hx rfl (hb hby at_265) rfl (l' := #[.val (.long p0), .second, .val (.long p1), .second, .val (.long p2), .second, .val (.int p3), .val (.int p4), .val (.int (6 : Int32)), .val (.int c0), .val (.int c1), .val (.int c2), .val (.int c3), .val (.int c4), .val (.int c5), .val (.ref a), .val (.int (5 : Int32))]) rfl k_) ?_
            refine Go.on (g' := (mkF m 269 _ [(.ref a)])) (fun t_ k_ => XS.aload X0.here hx rfl (hb hby at_267) rfl rfl k_) ?_
            refine Go.on (g' := (mkF m 271 _ [(.int (6 : Int32)), (.ref a)])) (fun t_ k_ => XS.iload X0.here hx rfl (hb hby at_269) rfl k_) ?_
            refine Go.on (g' := (mkF m 273 _ [(.int p3), (.int (6 : Int32)), (.ref a)])) (fun t_ k_ => XS.iload X0.here hx rfl (hb hby at_271) rfl k_) ?_
            refine Go.callS X0 hx hZ hby (by rw [hml]; rfl) (y := (⟨"com/example/loomtrace/loomtrace/model/IntSort", "lastAtMost", "([III)I"⟩ : MethodName)) hown (hw _ (List.mem_of_getElem? (i := 7) rfl)) (hw _ (List.mem_of_getElem? (i := 8) rfl)) (hw _ (List.mem_of_getElem? (i := 9) rfl)) (hw _ (List.mem_of_getElem? (i := 10) rfl)) (by decide) (argsL := [(.ref a), (.int (6 : Int32)), (.int p3)]) (rest := []) (rmL6 l Z w0 hw [] a p3 h0 cl A0 hsz c1 hk1 c2 hk2 c3 hk3 c4 hk4 c5 hk5 s2 s3 s4 s5) e0 0 (by decide) (by decide) (by decide) (by decide) rfl pdL rfl (Nat.le_of_eq rfl) at_273 (pcF := 276) rfl ?_
            intro v22 T22 L22 X22 hQ22
            obtain ⟨rfl, rfl, e22⟩ := hQ22
            rw [List.append_nil] at X22
            show Go p e below _ _ (mkF m 276 _ [(.int (own_e6 c1 c2 c3 c4 c5 p3))])
            refine Go.on (g' := (mkF m 278 _ [(.int (5 : Int32)), (.int (own_e6 c1 c2 c3 c4 c5 p3))])) (fun t_ k_ => XS.iload X22.here hx rfl (hb hby at_276) rfl k_) ?_
            refine Go.icmp X22 hx hby at_278 (pcT := 285) (pcF := 281) (by decide) (by decide) rfl (fun q => absurd q (fun q => (iNe.1 q) (by simp only [Int32.lt_iff_toInt_lt] at q1 q17 q18 q22 q23 s2 s3 s4 s5; unfold own_e6; simp only [Int32.lt_iff_toInt_lt]; (repeat' split) <;> first | rfl | (exfalso; omega)))) (fun q => ?_)
            clear q
            show Go p e below _ _ (mkF m 281 _ [])
            refine Go.on (g' := (mkF m 282 _ [(.int (1 : Int32))])) (fun t_ k_ => XS.iconst X22.here hx rfl (hb hby at_281) k_) ?_
            refine Go.on (g' := (mkF m 286 _ [(.int (1 : Int32))])) (fun t_ k_ => XS.goto X22.here hx rfl (pc0 := 282) (pc' := 286) rfl (hb hby at_282) (by decide) (by decide) k_) ?_
            exact Go.retI X22 hx hlk hret hby at_286 rfl (by simp) (by decide) (by decide) ⟨rfl, N0⟩
        · have q22 := iGt.2 q
          clear q
          show Go p e below _ _ (mkF m 248 _ [])
          refine Go.on (g' := (mkF m 249 _ [(.int (4 : Int32))])) (fun t_ k_ => XS.iconst X0.here hx rfl (hb hby at_248) k_) ?_
          refine Go.on (g' := (mkF m 251 #[.val (.long p0), .second, .val (.long p1), .second, .val (.long p2), .second, .val (.int p3), .val (.int p4), .val (.int (6 : Int32)), .val (.int c0), .val (.int c1), .val (.int c2), .val (.int c3), .val (.int c4), .val (.int c5), .val (.ref a), .val (.int (4 : Int32))] [])) (fun t_ k_ => XS.istore X0.here hx rfl (hb hby at_249) rfl (l' := #[.val (.long p0), .second, .val (.long p1), .second, .val (.long p2), .second, .val (.int p3), .val (.int p4), .val (.int (6 : Int32)), .val (.int c0), .val (.int c1), .val (.int c2), .val (.int c3), .val (.int c4), .val (.int c5), .val (.ref a), .val (.int (4 : Int32))]) rfl k_) ?_
          refine Go.on (g' := (mkF m 253 _ [(.int (6 : Int32))])) (fun t_ k_ => XS.iload X0.here hx rfl (hb hby at_251) rfl k_) ?_
          refine Go.on (g' := (mkF m 254 _ [(.int (5 : Int32)), (.int (6 : Int32))])) (fun t_ k_ => XS.iconst X0.here hx rfl (hb hby at_253) k_) ?_
          refine Go.icmp X0 hx hby at_254 (pcT := 267) (pcF := 257) (by decide) (by decide) rfl (fun q => absurd q (by decide)) (fun q => ?_)
          clear q
          show Go p e below _ _ (mkF m 257 _ [])
          refine Go.on (g' := (mkF m 259 _ [(.int c5)])) (fun t_ k_ => XS.iload X0.here hx rfl (hb hby at_257) rfl k_) ?_
          refine Go.on (g' := (mkF m 261 _ [(.int p3), (.int c5)])) (fun t_ k_ => XS.iload X0.here hx rfl (hb hby at_259) rfl k_) ?_
          refine Go.icmp X0 hx hby at_261 (pcT := 267) (pcF := 264) (by decide) (by decide) rfl (fun q => ?_) (fun q => ?_)
          · have q24 := iGt.1 q
            clear q
            show Go p e below _ _ (mkF m 267 _ [])
            refine Go.on (g' := (mkF m 269 _ [(.ref a)])) (fun t_ k_ => XS.aload X0.here hx rfl (hb hby at_267) rfl rfl k_) ?_
            refine Go.on (g' := (mkF m 271 _ [(.int (6 : Int32)), (.ref a)])) (fun t_ k_ => XS.iload X0.here hx rfl (hb hby at_269) rfl k_) ?_
            refine Go.on (g' := (mkF m 273 _ [(.int p3), (.int (6 : Int32)), (.ref a)])) (fun t_ k_ => XS.iload X0.here hx rfl (hb hby at_271) rfl k_) ?_
            refine Go.callS X0 hx hZ hby (by rw [hml]; rfl) (y := (⟨"com/example/loomtrace/loomtrace/model/IntSort", "lastAtMost", "([III)I"⟩ : MethodName)) hown (hw _ (List.mem_of_getElem? (i := 7) rfl)) (hw _ (List.mem_of_getElem? (i := 8) rfl)) (hw _ (List.mem_of_getElem? (i := 9) rfl)) (hw _ (List.mem_of_getElem? (i := 10) rfl)) (by decide) (argsL := [(.ref a), (.int (6 : Int32)), (.int p3)]) (rest := []) (rmL6 l Z w0 hw [] a p3 h0 cl A0 hsz c1 hk1 c2 hk2 c3 hk3 c4 hk4 c5 hk5 s2 s3 s4 s5) e0 0 (by decide) (by decide) (by decide) (by decide) rfl pdL rfl (Nat.le_of_eq rfl) at_273 (pcF := 276) rfl ?_
            intro v23 T23 L23 X23 hQ23
            obtain ⟨rfl, rfl, e23⟩ := hQ23
            rw [List.append_nil] at X23
            show Go p e below _ _ (mkF m 276 _ [(.int (own_e6 c1 c2 c3 c4 c5 p3))])
            refine Go.on (g' := (mkF m 278 _ [(.int (4 : Int32)), (.int (own_e6 c1 c2 c3 c4 c5 p3))])) (fun t_ k_ => XS.iload X23.here hx rfl (hb hby at_276) rfl k_) ?_
            refine Go.icmp X23 hx hby at_278 (pcT := 285) (pcF := 281) (by decide) (by decide) rfl (fun q => absurd q (fun q => (iNe.1 q) (by simp only [Int32.lt_iff_toInt_lt] at q1 q17 q18 q22 q24 s2 s3 s4 s5; unfold own_e6; simp only [Int32.lt_iff_toInt_lt]; (repeat' split) <;> first | rfl | (exfalso; omega)))) (fun q => ?_)
            clear q
            show Go p e below _ _ (mkF m 281 _ [])
            refine Go.on (g' := (mkF m 282 _ [(.int (1 : Int32))])) (fun t_ k_ => XS.iconst X23.here hx rfl (hb hby at_281) k_) ?_
            refine Go.on (g' := (mkF m 286 _ [(.int (1 : Int32))])) (fun t_ k_ => XS.goto X23.here hx rfl (pc0 := 282) (pc' := 286) rfl (hb hby at_282) (by decide) (by decide) k_) ?_
            exact Go.retI X23 hx hlk hret hby at_286 rfl (by simp) (by decide) (by decide) ⟨rfl, N0⟩
          · have q24 := iGt.2 q
            clear q
            show Go p e below _ _ (mkF m 264 _ [])
            refine Go.on (g' := (mkF m 265 _ [(.int (5 : Int32))])) (fun t_ k_ => XS.iconst X0.here hx rfl (hb hby at_264) k_) ?_
            refine Go.on (g' := (mkF m 267 #[.val (.long p0), .second, .val (.long p1), .second, .val (.long p2), .second, .val (.int p3), .val (.int p4), .val (.int (6 : Int32)), .val (.int c0), .val (.int c1), .val (.int c2), .val (.int c3), .val (.int c4), .val (.int c5), .val (.ref a), .val (.int (5 : Int32))] [])) (fun t_ k_ => XS.istore X0.here hx rfl (hb hby at_265) rfl (l' := #[.val (.long p0), .second, .val (.long p1), .second, .val (.long p2), .second, .val (.int p3), .val (.int p4), .val (.int (6 : Int32)), .val (.int c0), .val (.int c1), .val (.int c2), .val (.int c3), .val (.int c4), .val (.int c5), .val (.ref a), .val (.int (5 : Int32))]) rfl k_) ?_
            refine Go.on (g' := (mkF m 269 _ [(.ref a)])) (fun t_ k_ => XS.aload X0.here hx rfl (hb hby at_267) rfl rfl k_) ?_
            refine Go.on (g' := (mkF m 271 _ [(.int (6 : Int32)), (.ref a)])) (fun t_ k_ => XS.iload X0.here hx rfl (hb hby at_269) rfl k_) ?_
            refine Go.on (g' := (mkF m 273 _ [(.int p3), (.int (6 : Int32)), (.ref a)])) (fun t_ k_ => XS.iload X0.here hx rfl (hb hby at_271) rfl k_) ?_
            refine Go.callS X0 hx hZ hby (by rw [hml]; rfl) (y := (⟨"com/example/loomtrace/loomtrace/model/IntSort", "lastAtMost", "([III)I"⟩ : MethodName)) hown (hw _ (List.mem_of_getElem? (i := 7) rfl)) (hw _ (List.mem_of_getElem? (i := 8) rfl)) (hw _ (List.mem_of_getElem? (i := 9) rfl)) (hw _ (List.mem_of_getElem? (i := 10) rfl)) (by decide) (argsL := [(.ref a), (.int (6 : Int32)), (.int p3)]) (rest := []) (rmL6 l Z w0 hw [] a p3 h0 cl A0 hsz c1 hk1 c2 hk2 c3 hk3 c4 hk4 c5 hk5 s2 s3 s4 s5) e0 0 (by decide) (by decide) (by decide) (by decide) rfl pdL rfl (Nat.le_of_eq rfl) at_273 (pcF := 276) rfl ?_
            intro v24 T24 L24 X24 hQ24
            obtain ⟨rfl, rfl, e24⟩ := hQ24
            rw [List.append_nil] at X24
            show Go p e below _ _ (mkF m 276 _ [(.int (own_e6 c1 c2 c3 c4 c5 p3))])
            refine Go.on (g' := (mkF m 278 _ [(.int (5 : Int32)), (.int (own_e6 c1 c2 c3 c4 c5 p3))])) (fun t_ k_ => XS.iload X24.here hx rfl (hb hby at_276) rfl k_) ?_
            refine Go.icmp X24 hx hby at_278 (pcT := 285) (pcF := 281) (by decide) (by decide) rfl (fun q => absurd q (fun q => (iNe.1 q) (by simp only [Int32.lt_iff_toInt_lt] at q1 q17 q18 q22 q24 s2 s3 s4 s5; unfold own_e6; simp only [Int32.lt_iff_toInt_lt]; (repeat' split) <;> first | rfl | (exfalso; omega)))) (fun q => ?_)
            clear q
            show Go p e below _ _ (mkF m 281 _ [])
            refine Go.on (g' := (mkF m 282 _ [(.int (1 : Int32))])) (fun t_ k_ => XS.iconst X24.here hx rfl (hb hby at_281) k_) ?_
            refine Go.on (g' := (mkF m 286 _ [(.int (1 : Int32))])) (fun t_ k_ => XS.goto X24.here hx rfl (pc0 := 282) (pc' := 286) rfl (hb hby at_282) (by decide) (by decide) k_) ?_
            exact Go.retI X24 hx hlk hret hby at_286 rfl (by simp) (by decide) (by decide) ⟨rfl, N0⟩
    · have q17 := iGt.2 q
      clear q
      show Go p e below _ _ (mkF m 216 _ [])
      refine Go.on (g' := (mkF m 217 _ [(.int (2 : Int32))])) (fun t_ k_ => XS.iconst X0.here hx rfl (hb hby at_216) k_) ?_
      refine Go.on (g' := (mkF m 219 #[.val (.long p0), .second, .val (.long p1), .second, .val (.long p2), .second, .val (.int p3), .val (.int p4), .val (.int (6 : Int32)), .val (.int c0), .val (.int c1), .val (.int c2), .val (.int c3), .val (.int c4), .val (.int c5), .val (.ref a), .val (.int (2 : Int32))] [])) (fun t_ k_ => XS.istore X0.here hx rfl (hb hby at_217) rfl (l' := #[.val (.long p0), .second, .val (.long p1), .second, .val (.long p2), .second, .val (.int p3), .val (.int p4), .val (.int (6 : Int32)), .val (.int c0), .val (.int c1), .val (.int c2), .val (.int c3), .val (.int c4), .val (.int c5), .val (.ref a), .val (.int (2 : Int32))]) rfl k_) ?_
      refine Go.on (g' := (mkF m 221 _ [(.int (6 : Int32))])) (fun t_ k_ => XS.iload X0.here hx rfl (hb hby at_219) rfl k_) ?_
      refine Go.on (g' := (mkF m 222 _ [(.int (3 : Int32)), (.int (6 : Int32))])) (fun t_ k_ => XS.iconst X0.here hx rfl (hb hby at_221) k_) ?_
      refine Go.icmp X0 hx hby at_222 (pcT := 235) (pcF := 225) (by decide) (by decide) rfl (fun q => absurd q (by decide)) (fun q => ?_)
      clear q
      show Go p e below _ _ (mkF m 225 _ [])
      refine Go.on (g' := (mkF m 227 _ [(.int c3)])) (fun t_ k_ => XS.iload X0.here hx rfl (hb hby at_225) rfl k_) ?_
      refine Go.on (g' := (mkF m 229 _ [(.int p3), (.int c3)])) (fun t_ k_ => XS.iload X0.here hx rfl (hb hby at_227) rfl k_) ?_
      refine Go.icmp X0 hx hby at_229 (pcT := 235) (pcF := 232) (by decide) (by decide) rfl (fun q => ?_) (fun q => ?_)
      · have q25 := iGt.1 q
        clear q
        show Go p e below _ _ (mkF m 235 _ [])
        refine Go.on (g' := (mkF m 237 _ [(.int (6 : Int32))])) (fun t_ k_ => XS.iload X0.here hx rfl (hb hby at_235) rfl k_) ?_
        refine Go.on (g' := (mkF m 238 _ [(.int (4 : Int32)), (.int (6 : Int32))])) (fun t_ k_ => XS.iconst X0.here hx rfl (hb hby at_237) k_) ?_
        refine Go.icmp X0 hx hby at_238 (pcT := 251) (pcF := 241) (by decide) (by decide) rfl (fun q => absurd q (by decide)) (fun q => ?_)
        clear q
        show Go p e below _ _ (mkF m 241 _ [])
        refine Go.on (g' := (mkF m 243 _ [(.int c4)])) (fun t_ k_ => XS.iload X0.here hx rfl (hb hby at_241) rfl k_) ?_
        refine Go.on (g' := (mkF m 245 _ [(.int p3), (.int c4)])) (fun t_ k_ => XS.iload X0.here hx rfl (hb hby at_243) rfl k_) ?_
        refine Go.icmp X0 hx hby at_245 (pcT := 251) (pcF := 248) (by decide) (by decide) rfl (fun q => ?_) (fun q => ?_)
        · have q26 := iGt.1 q
          clear q
          show Go p e below _ _ (mkF m 251 _ [])
          refine Go.on (g' := (mkF m 253 _ [(.int (6 : Int32))])) (fun t_ k_ => XS.iload X0.here hx rfl (hb hby at_251) rfl k_) ?_
          refine Go.on (g' := (mkF m 254 _ [(.int (5 : Int32)), (.int (6 : Int32))])) (fun t_ k_ => XS.iconst X0.here hx rfl (hb hby at_253) k_) ?_
          refine Go.icmp X0 hx hby at_254 (pcT := 267) (pcF := 257) (by decide) (by decide) rfl (fun q => absurd q (by decide)) (fun q => ?_)
          clear q
          show Go p e below _ _ (mkF m 257 _ [])
          refine Go.on (g' := (mkF m 259 _ [(.int c5)])) (fun t_ k_ => XS.iload X0.here hx rfl (hb hby at_257) rfl k_) ?_
          refine Go.on (g' := (mkF m 261 _ [(.int p3), (.int c5)])) (fun t_ k_ => XS.iload X0.here hx rfl (hb hby at_259) rfl k_) ?_
          refine Go.icmp X0 hx hby at_261 (pcT := 267) (pcF := 264) (by decide) (by decide) rfl (fun q => ?_) (fun q => ?_)
          · have q27 := iGt.1 q
            clear q
            show Go p e below _ _ (mkF m 267 _ [])
            refine Go.on (g' := (mkF m 269 _ [(.ref a)])) (fun t_ k_ => XS.aload X0.here hx rfl (hb hby at_267) rfl rfl k_) ?_
            refine Go.on (g' := (mkF m 271 _ [(.int (6 : Int32)), (.ref a)])) (fun t_ k_ => XS.iload X0.here hx rfl (hb hby at_269) rfl k_) ?_
            refine Go.on (g' := (mkF m 273 _ [(.int p3), (.int (6 : Int32)), (.ref a)])) (fun t_ k_ => XS.iload X0.here hx rfl (hb hby at_271) rfl k_) ?_
            refine Go.callS X0 hx hZ hby (by rw [hml]; rfl) (y := (⟨"com/example/loomtrace/loomtrace/model/IntSort", "lastAtMost", "([III)I"⟩ : MethodName)) hown (hw _ (List.mem_of_getElem? (i := 7) rfl)) (hw _ (List.mem_of_getElem? (i := 8) rfl)) (hw _ (List.mem_of_getElem? (i := 9) rfl)) (hw _ (List.mem_of_getElem? (i := 10) rfl)) (by decide) (argsL := [(.ref a), (.int (6 : Int32)), (.int p3)]) (rest := []) (rmL6 l Z w0 hw [] a p3 h0 cl A0 hsz c1 hk1 c2 hk2 c3 hk3 c4 hk4 c5 hk5 s2 s3 s4 s5) e0 0 (by decide) (by decide) (by decide) (by decide) rfl pdL rfl (Nat.le_of_eq rfl) at_273 (pcF := 276) rfl ?_
            intro v25 T25 L25 X25 hQ25
            obtain ⟨rfl, rfl, e25⟩ := hQ25
            rw [List.append_nil] at X25
            show Go p e below _ _ (mkF m 276 _ [(.int (own_e6 c1 c2 c3 c4 c5 p3))])
            refine Go.on (g' := (mkF m 278 _ [(.int (2 : Int32)), (.int (own_e6 c1 c2 c3 c4 c5 p3))])) (fun t_ k_ => XS.iload X25.here hx rfl (hb hby at_276) rfl k_) ?_
            refine Go.icmp X25 hx hby at_278 (pcT := 285) (pcF := 281) (by decide) (by decide) rfl (fun q => absurd q (fun q => (iNe.1 q) (by simp only [Int32.lt_iff_toInt_lt] at q1 q17 q25 q26 q27 s2 s3 s4 s5; unfold own_e6; simp only [Int32.lt_iff_toInt_lt]; (repeat' split) <;> first | rfl | (exfalso; omega)))) (fun q => ?_)
            clear q
            show Go p e below _ _ (mkF m 281 _ [])
            refine Go.on (g' := (mkF m 282 _ [(.int (1 : Int32))])) (fun t_ k_ => XS.iconst X25.here hx rfl (hb hby at_281) k_) ?_
            refine Go.on (g' := (mkF m 286 _ [(.int (1 : Int32))])) (fun t_ k_ => XS.goto X25.here hx rfl (pc0 := 282) (pc' := 286) rfl (hb hby at_282) (by decide) (by decide) k_) ?_
            exact Go.retI X25 hx hlk hret hby at_286 rfl (by simp) (by decide) (by decide) ⟨rfl, N0⟩
          · have q27 := iGt.2 q
            clear q
            show Go p e below _ _ (mkF m 264 _ [])
            refine Go.on (g' := (mkF m 265 _ [(.int (5 : Int32))])) (fun t_ k_ => XS.iconst X0.here hx rfl (hb hby at_264) k_) ?_
            refine Go.on (g' := (mkF m 267 #[.val (.long p0), .second, .val (.long p1), .second, .val (.long p2), .second, .val (.int p3), .val (.int p4), .val (.int (6 : Int32)), .val (.int c0), .val (.int c1), .val (.int c2), .val (.int c3), .val (.int c4), .val (.int c5), .val (.ref a), .val (.int (5 : Int32))] [])) (fun t_ k_ => XS.istore X0.here hx rfl (hb hby at_265) rfl (l' := #[.val (.long p0), .second, .val (.long p1), .second, .val (.long p2), .second, .val (.int p3), .val (.int p4), .val (.int (6 : Int32)), .val (.int c0), .val (.int c1), .val (.int c2), .val (.int c3), .val (.int c4), .val (.int c5), .val (.ref a), .val (.int (5 : Int32))]) rfl k_) ?_
            refine Go.on (g' := (mkF m 269 _ [(.ref a)])) (fun t_ k_ => XS.aload X0.here hx rfl (hb hby at_267) rfl rfl k_) ?_
            refine Go.on (g' := (mkF m 271 _ [(.int (6 : Int32)), (.ref a)])) (fun t_ k_ => XS.iload X0.here hx rfl (hb hby at_269) rfl k_) ?_
            refine Go.on (g' := (mkF m 273 _ [(.int p3), (.int (6 : Int32)), (.ref a)])) (fun t_ k_ => XS.iload X0.here hx rfl (hb hby at_271) rfl k_) ?_
            refine Go.callS X0 hx hZ hby (by rw [hml]; rfl) (y := (⟨"com/example/loomtrace/loomtrace/model/IntSort", "lastAtMost", "([III)I"⟩ : MethodName)) hown (hw _ (List.mem_of_getElem? (i := 7) rfl)) (hw _ (List.mem_of_getElem? (i := 8) rfl)) (hw _ (List.mem_of_getElem? (i := 9) rfl)) (hw _ (List.mem_of_getElem? (i := 10) rfl)) (by decide) (argsL := [(.ref a), (.int (6 : Int32)), (.int p3)]) (rest := []) (rmL6 l Z w0 hw [] a p3 h0 cl A0 hsz c1 hk1 c2 hk2 c3 hk3 c4 hk4 c5 hk5 s2 s3 s4 s5) e0 0 (by decide) (by decide) (by decide) (by decide) rfl pdL rfl (Nat.le_of_eq rfl) at_273 (pcF := 276) rfl ?_
            intro v26 T26 L26 X26 hQ26
            obtain ⟨rfl, rfl, e26⟩ := hQ26
            rw [List.append_nil] at X26
            show Go p e below _ _ (mkF m 276 _ [(.int (own_e6 c1 c2 c3 c4 c5 p3))])
            refine Go.on (g' := (mkF m 278 _ [(.int (5 : Int32)), (.int (own_e6 c1 c2 c3 c4 c5 p3))])) (fun t_ k_ => XS.iload X26.here hx rfl (hb hby at_276) rfl k_) ?_
            refine Go.icmp X26 hx hby at_278 (pcT := 285) (pcF := 281) (by decide) (by decide) rfl (fun q => absurd q (fun q => (iNe.1 q) (by simp only [Int32.lt_iff_toInt_lt] at q1 q17 q25 q26 q27 s2 s3 s4 s5; unfold own_e6; simp only [Int32.lt_iff_toInt_lt]; (repeat' split) <;> first | rfl | (exfalso; omega)))) (fun q => ?_)
            clear q
            show Go p e below _ _ (mkF m 281 _ [])
            refine Go.on (g' := (mkF m 282 _ [(.int (1 : Int32))])) (fun t_ k_ => XS.iconst X26.here hx rfl (hb hby at_281) k_) ?_
            refine Go.on (g' := (mkF m 286 _ [(.int (1 : Int32))])) (fun t_ k_ => XS.goto X26.here hx rfl (pc0 := 282) (pc' := 286) rfl (hb hby at_282) (by decide) (by decide) k_) ?_
            exact Go.retI X26 hx hlk hret hby at_286 rfl (by simp) (by decide) (by decide) ⟨rfl, N0⟩
        · have q26 := iGt.2 q
          clear q
          show Go p e below _ _ (mkF m 248 _ [])
          refine Go.on (g' := (mkF m 249 _ [(.int (4 : Int32))])) (fun t_ k_ => XS.iconst X0.here hx rfl (hb hby at_248) k_) ?_
          refine Go.on (g' := (mkF m 251 #[.val (.long p0), .second, .val (.long p1), .second, .val (.long p2), .second, .val (.int p3), .val (.int p4), .val (.int (6 : Int32)), .val (.int c0), .val (.int c1), .val (.int c2), .val (.int c3), .val (.int c4), .val (.int c5), .val (.ref a), .val (.int (4 : Int32))] [])) (fun t_ k_ => XS.istore X0.here hx rfl (hb hby at_249) rfl (l' := #[.val (.long p0), .second, .val (.long p1), .second, .val (.long p2), .second, .val (.int p3), .val (.int p4), .val (.int (6 : Int32)), .val (.int c0), .val (.int c1), .val (.int c2), .val (.int c3), .val (.int c4), .val (.int c5), .val (.ref a), .val (.int (4 : Int32))]) rfl k_) ?_
          refine Go.on (g' := (mkF m 253 _ [(.int (6 : Int32))])) (fun t_ k_ => XS.iload X0.here hx rfl (hb hby at_251) rfl k_) ?_
          refine Go.on (g' := (mkF m 254 _ [(.int (5 : Int32)), (.int (6 : Int32))])) (fun t_ k_ => XS.iconst X0.here hx rfl (hb hby at_253) k_) ?_
          refine Go.icmp X0 hx hby at_254 (pcT := 267) (pcF := 257) (by decide) (by decide) rfl (fun q => absurd q (by decide)) (fun q => ?_)
          clear q
          show Go p e below _ _ (mkF m 257 _ [])
          refine Go.on (g' := (mkF m 259 _ [(.int c5)])) (fun t_ k_ => XS.iload X0.here hx rfl (hb hby at_257) rfl k_) ?_
          refine Go.on (g' := (mkF m 261 _ [(.int p3), (.int c5)])) (fun t_ k_ => XS.iload X0.here hx rfl (hb hby at_259) rfl k_) ?_
          refine Go.icmp X0 hx hby at_261 (pcT := 267) (pcF := 264) (by decide) (by decide) rfl (fun q => ?_) (fun q => ?_)
          · have q28 := iGt.1 q
            clear q
            show Go p e below _ _ (mkF m 267 _ [])
            refine Go.on (g' := (mkF m 269 _ [(.ref a)])) (fun t_ k_ => XS.aload X0.here hx rfl (hb hby at_267) rfl rfl k_) ?_
            refine Go.on (g' := (mkF m 271 _ [(.int (6 : Int32)), (.ref a)])) (fun t_ k_ => XS.iload X0.here hx rfl (hb hby at_269) rfl k_) ?_
            refine Go.on (g' := (mkF m 273 _ [(.int p3), (.int (6 : Int32)), (.ref a)])) (fun t_ k_ => XS.iload X0.here hx rfl (hb hby at_271) rfl k_) ?_
            refine Go.callS X0 hx hZ hby (by rw [hml]; rfl) (y := (⟨"com/example/loomtrace/loomtrace/model/IntSort", "lastAtMost", "([III)I"⟩ : MethodName)) hown (hw _ (List.mem_of_getElem? (i := 7) rfl)) (hw _ (List.mem_of_getElem? (i := 8) rfl)) (hw _ (List.mem_of_getElem? (i := 9) rfl)) (hw _ (List.mem_of_getElem? (i := 10) rfl)) (by decide) (argsL := [(.ref a), (.int (6 : Int32)), (.int p3)]) (rest := []) (rmL6 l Z w0 hw [] a p3 h0 cl A0 hsz c1 hk1 c2 hk2 c3 hk3 c4 hk4 c5 hk5 s2 s3 s4 s5) e0 0 (by decide) (by decide) (by decide) (by decide) rfl pdL rfl (Nat.le_of_eq rfl) at_273 (pcF := 276) rfl ?_
            intro v27 T27 L27 X27 hQ27
            obtain ⟨rfl, rfl, e27⟩ := hQ27
            rw [List.append_nil] at X27
            show Go p e below _ _ (mkF m 276 _ [(.int (own_e6 c1 c2 c3 c4 c5 p3))])
            refine Go.on (g' := (mkF m 278 _ [(.int (4 : Int32)), (.int (own_e6 c1 c2 c3 c4 c5 p3))])) (fun t_ k_ => XS.iload X27.here hx rfl (hb hby at_276) rfl k_) ?_
            refine Go.icmp X27 hx hby at_278 (pcT := 285) (pcF := 281) (by decide) (by decide) rfl (fun q => absurd q (fun q => (iNe.1 q) (by simp only [Int32.lt_iff_toInt_lt] at q1 q17 q25 q26 q28 s2 s3 s4 s5; unfold own_e6; simp only [Int32.lt_iff_toInt_lt]; (repeat' split) <;> first | rfl | (exfalso; omega)))) (fun q => ?_)
            clear q
            show Go p e below _ _ (mkF m 281 _ [])
            refine Go.on (g' := (mkF m 282 _ [(.int (1 : Int32))])) (fun t_ k_ => XS.iconst X27.here hx rfl (hb hby at_281) k_) ?_
            refine Go.on (g' := (mkF m 286 _ [(.int (1 : Int32))])) (fun t_ k_ => XS.goto X27.here hx rfl (pc0 := 282) (pc' := 286) rfl (hb hby at_282) (by decide) (by decide) k_) ?_
            exact Go.retI X27 hx hlk hret hby at_286 rfl (by simp) (by decide) (by decide) ⟨rfl, N0⟩
          · have q28 := iGt.2 q
            clear q
            show Go p e below _ _ (mkF m 264 _ [])
            refine Go.on (g' := (mkF m 265 _ [(.int (5 : Int32))])) (fun t_ k_ => XS.iconst X0.here hx rfl (hb hby at_264) k_) ?_
            refine Go.on (g' := (mkF m 267 #[.val (.long p0), .second, .val (.long p1), .second, .val (.long p2), .second, .val (.int p3), .val (.int p4), .val (.int (6 : Int32)), .val (.int c0), .val (.int c1), .val (.int c2), .val (.int c3), .val (.int c4), .val (.int c5), .val (.ref a), .val (.int (5 : Int32))] [])) (fun t_ k_ => XS.istore X0.here hx rfl (hb hby at_265) rfl (l' := #[.val (.long p0), .second, .val (.long p1), .second, .val (.long p2), .second, .val (.int p3), .val (.int p4), .val (.int (6 : Int32)), .val (.int c0), .val (.int c1), .val (.int c2), .val (.int c3), .val (.int c4), .val (.int c5), .val (.ref a), .val (.int (5 : Int32))]) rfl k_) ?_
            refine Go.on (g' := (mkF m 269 _ [(.ref a)])) (fun t_ k_ => XS.aload X0.here hx rfl (hb hby at_267) rfl rfl k_) ?_
            refine Go.on (g' := (mkF m 271 _ [(.int (6 : Int32)), (.ref a)])) (fun t_ k_ => XS.iload X0.here hx rfl (hb hby at_269) rfl k_) ?_
            refine Go.on (g' := (mkF m 273 _ [(.int p3), (.int (6 : Int32)), (.ref a)])) (fun t_ k_ => XS.iload X0.here hx rfl (hb hby at_271) rfl k_) ?_
            refine Go.callS X0 hx hZ hby (by rw [hml]; rfl) (y := (⟨"com/example/loomtrace/loomtrace/model/IntSort", "lastAtMost", "([III)I"⟩ : MethodName)) hown (hw _ (List.mem_of_getElem? (i := 7) rfl)) (hw _ (List.mem_of_getElem? (i := 8) rfl)) (hw _ (List.mem_of_getElem? (i := 9) rfl)) (hw _ (List.mem_of_getElem? (i := 10) rfl)) (by decide) (argsL := [(.ref a), (.int (6 : Int32)), (.int p3)]) (rest := []) (rmL6 l Z w0 hw [] a p3 h0 cl A0 hsz c1 hk1 c2 hk2 c3 hk3 c4 hk4 c5 hk5 s2 s3 s4 s5) e0 0 (by decide) (by decide) (by decide) (by decide) rfl pdL rfl (Nat.le_of_eq rfl) at_273 (pcF := 276) rfl ?_
            intro v28 T28 L28 X28 hQ28
            obtain ⟨rfl, rfl, e28⟩ := hQ28
            rw [List.append_nil] at X28
            show Go p e below _ _ (mkF m 276 _ [(.int (own_e6 c1 c2 c3 c4 c5 p3))])
            refine Go.on (g' := (mkF m 278 _ [(.int (5 : Int32)), (.int (own_e6 c1 c2 c3 c4 c5 p3))])) (fun t_ k_ => XS.iload X28.here hx rfl (hb hby at_276) rfl k_) ?_
            refine Go.icmp X28 hx hby at_278 (pcT := 285) (pcF := 281) (by decide) (by decide) rfl (fun q => absurd q (fun q => (iNe.1 q) (by simp only [Int32.lt_iff_toInt_lt] at q1 q17 q25 q26 q28 s2 s3 s4 s5; unfold own_e6; simp only [Int32.lt_iff_toInt_lt]; (repeat' split) <;> first | rfl | (exfalso; omega)))) (fun q => ?_)
            clear q
            show Go p e below _ _ (mkF m 281 _ [])
            refine Go.on (g' := (mkF m 282 _ [(.int (1 : Int32))])) (fun t_ k_ => XS.iconst X28.here hx rfl (hb hby at_281) k_) ?_
            refine Go.on (g' := (mkF m 286 _ [(.int (1 : Int32))])) (fun t_ k_ => XS.goto X28.here hx rfl (pc0 := 282) (pc' := 286) rfl (hb hby at_282) (by decide) (by decide) k_) ?_
            exact Go.retI X28 hx hlk hret hby at_286 rfl (by simp) (by decide) (by decide) ⟨rfl, N0⟩
      · have q25 := iGt.2 q
        clear q
        show Go p e below _ _ (mkF m 232 _ [])
        refine Go.on (g' := (mkF m 233 _ [(.int (3 : Int32))])) (fun t_ k_ => XS.iconst X0.here hx rfl (hb hby at_232) k_) ?_
        refine Go.on (g' := (mkF m 235 #[.val (.long p0), .second, .val (.long p1), .second, .val (.long p2), .second, .val (.int p3), .val (.int p4), .val (.int (6 : Int32)), .val (.int c0), .val (.int c1), .val (.int c2), .val (.int c3), .val (.int c4), .val (.int c5), .val (.ref a), .val (.int (3 : Int32))] [])) (fun t_ k_ => XS.istore X0.here hx rfl (hb hby at_233) rfl (l' := #[.val (.long p0), .second, .val (.long p1), .second, .val (.long p2), .second, .val (.int p3), .val (.int p4), .val (.int (6 : Int32)), .val (.int c0), .val (.int c1), .val (.int c2), .val (.int c3), .val (.int c4), .val (.int c5), .val (.ref a), .val (.int (3 : Int32))]) rfl k_) ?_
        refine Go.on (g' := (mkF m 237 _ [(.int (6 : Int32))])) (fun t_ k_ => XS.iload X0.here hx rfl (hb hby at_235) rfl k_) ?_
        refine Go.on (g' := (mkF m 238 _ [(.int (4 : Int32)), (.int (6 : Int32))])) (fun t_ k_ => XS.iconst X0.here hx rfl (hb hby at_237) k_) ?_
        refine Go.icmp X0 hx hby at_238 (pcT := 251) (pcF := 241) (by decide) (by decide) rfl (fun q => absurd q (by decide)) (fun q => ?_)
        clear q
        show Go p e below _ _ (mkF m 241 _ [])
        refine Go.on (g' := (mkF m 243 _ [(.int c4)])) (fun t_ k_ => XS.iload X0.here hx rfl (hb hby at_241) rfl k_) ?_
        refine Go.on (g' := (mkF m 245 _ [(.int p3), (.int c4)])) (fun t_ k_ => XS.iload X0.here hx rfl (hb hby at_243) rfl k_) ?_
        refine Go.icmp X0 hx hby at_245 (pcT := 251) (pcF := 248) (by decide) (by decide) rfl (fun q => ?_) (fun q => ?_)
        · have q29 := iGt.1 q
          clear q
          show Go p e below _ _ (mkF m 251 _ [])
          refine Go.on (g' := (mkF m 253 _ [(.int (6 : Int32))])) (fun t_ k_ => XS.iload X0.here hx rfl (hb hby at_251) rfl k_) ?_
          refine Go.on (g' := (mkF m 254 _ [(.int (5 : Int32)), (.int (6 : Int32))])) (fun t_ k_ => XS.iconst X0.here hx rfl (hb hby at_253) k_) ?_
          refine Go.icmp X0 hx hby at_254 (pcT := 267) (pcF := 257) (by decide) (by decide) rfl (fun q => absurd q (by decide)) (fun q => ?_)
          clear q
          show Go p e below _ _ (mkF m 257 _ [])
          refine Go.on (g' := (mkF m 259 _ [(.int c5)])) (fun t_ k_ => XS.iload X0.here hx rfl (hb hby at_257) rfl k_) ?_
          refine Go.on (g' := (mkF m 261 _ [(.int p3), (.int c5)])) (fun t_ k_ => XS.iload X0.here hx rfl (hb hby at_259) rfl k_) ?_
          refine Go.icmp X0 hx hby at_261 (pcT := 267) (pcF := 264) (by decide) (by decide) rfl (fun q => ?_) (fun q => ?_)
          · have q30 := iGt.1 q
            clear q
            show Go p e below _ _ (mkF m 267 _ [])
            refine Go.on (g' := (mkF m 269 _ [(.ref a)])) (fun t_ k_ => XS.aload X0.here hx rfl (hb hby at_267) rfl rfl k_) ?_
            refine Go.on (g' := (mkF m 271 _ [(.int (6 : Int32)), (.ref a)])) (fun t_ k_ => XS.iload X0.here hx rfl (hb hby at_269) rfl k_) ?_
            refine Go.on (g' := (mkF m 273 _ [(.int p3), (.int (6 : Int32)), (.ref a)])) (fun t_ k_ => XS.iload X0.here hx rfl (hb hby at_271) rfl k_) ?_
            refine Go.callS X0 hx hZ hby (by rw [hml]; rfl) (y := (⟨"com/example/loomtrace/loomtrace/model/IntSort", "lastAtMost", "([III)I"⟩ : MethodName)) hown (hw _ (List.mem_of_getElem? (i := 7) rfl)) (hw _ (List.mem_of_getElem? (i := 8) rfl)) (hw _ (List.mem_of_getElem? (i := 9) rfl)) (hw _ (List.mem_of_getElem? (i := 10) rfl)) (by decide) (argsL := [(.ref a), (.int (6 : Int32)), (.int p3)]) (rest := []) (rmL6 l Z w0 hw [] a p3 h0 cl A0 hsz c1 hk1 c2 hk2 c3 hk3 c4 hk4 c5 hk5 s2 s3 s4 s5) e0 0 (by decide) (by decide) (by decide) (by decide) rfl pdL rfl (Nat.le_of_eq rfl) at_273 (pcF := 276) rfl ?_
            intro v29 T29 L29 X29 hQ29
            obtain ⟨rfl, rfl, e29⟩ := hQ29
            rw [List.append_nil] at X29
            show Go p e below _ _ (mkF m 276 _ [(.int (own_e6 c1 c2 c3 c4 c5 p3))])
            refine Go.on (g' := (mkF m 278 _ [(.int (3 : Int32)), (.int (own_e6 c1 c2 c3 c4 c5 p3))])) (fun t_ k_ => XS.iload X29.here hx rfl (hb hby at_276) rfl k_) ?_
            refine Go.icmp X29 hx hby at_278 (pcT := 285) (pcF := 281) (by decide) (by decide) rfl (fun q => absurd q (fun q => (iNe.1 q) (by simp only [Int32.lt_iff_toInt_lt] at q1 q17 q25 q29 q30 s2 s3 s4 s5; unfold own_e6; simp only [Int32.lt_iff_toInt_lt]; (repeat' split) <;> first | rfl | (exfalso; omega)))) (fun q => ?_)
            clear q
            show Go p e below _ _ (mkF m 281 _ [])
            refine Go.on (g' := (mkF m 282 _ [(.int (1 : Int32))])) (fun t_ k_ => XS.iconst X29.here hx rfl (hb hby at_281) k_) ?_
            refine Go.on (g' := (mkF m 286 _ [(.int (1 : Int32))])) (fun t_ k_ => XS.goto X29.here hx rfl (pc0 := 282) (pc' := 286) rfl (hb hby at_282) (by decide) (by decide) k_) ?_
            exact Go.retI X29 hx hlk hret hby at_286 rfl (by simp) (by decide) (by decide) ⟨rfl, N0⟩
          · have q30 := iGt.2 q
            clear q
            show Go p e below _ _ (mkF m 264 _ [])
            refine Go.on (g' := (mkF m 265 _ [(.int (5 : Int32))])) (fun t_ k_ => XS.iconst X0.here hx rfl (hb hby at_264) k_) ?_
            refine Go.on (g' := (mkF m 267 #[.val (.long p0), .second, .val (.long p1), .second, .val (.long p2), .second, .val (.int p3), .val (.int p4), .val (.int (6 : Int32)), .val (.int c0), .val (.int c1), .val (.int c2), .val (.int c3), .val (.int c4), .val (.int c5), .val (.ref a), .val (.int (5 : Int32))] [])) (fun t_ k_ => XS.istore X0.here hx rfl (hb hby at_265) rfl (l' := #[.val (.long p0), .second, .val (.long p1), .second, .val (.long p2), .second, .val (.int p3), .val (.int p4), .val (.int (6 : Int32)), .val (.int c0), .val (.int c1), .val (.int c2), .val (.int c3), .val (.int c4), .val (.int c5), .val (.ref a), .val (.int (5 : Int32))]) rfl k_) ?_
            refine Go.on (g' := (mkF m 269 _ [(.ref a)])) (fun t_ k_ => XS.aload X0.here hx rfl (hb hby at_267) rfl rfl k_) ?_
            refine Go.on (g' := (mkF m 271 _ [(.int (6 : Int32)), (.ref a)])) (fun t_ k_ => XS.iload X0.here hx rfl (hb hby at_269) rfl k_) ?_
            refine Go.on (g' := (mkF m 273 _ [(.int p3), (.int (6 : Int32)), (.ref a)])) (fun t_ k_ => XS.iload X0.here hx rfl (hb hby at_271) rfl k_) ?_
            refine Go.callS X0 hx hZ hby (by rw [hml]; rfl) (y := (⟨"com/example/loomtrace/loomtrace/model/IntSort", "lastAtMost", "([III)I"⟩ : MethodName)) hown (hw _ (List.mem_of_getElem? (i := 7) rfl)) (hw _ (List.mem_of_getElem? (i := 8) rfl)) (hw _ (List.mem_of_getElem? (i := 9) rfl)) (hw _ (List.mem_of_getElem? (i := 10) rfl)) (by decide) (argsL := [(.ref a), (.int (6 : Int32)), (.int p3)]) (rest := []) (rmL6 l Z w0 hw [] a p3 h0 cl A0 hsz c1 hk1 c2 hk2 c3 hk3 c4 hk4 c5 hk5 s2 s3 s4 s5) e0 0 (by decide) (by decide) (by decide) (by decide) rfl pdL rfl (Nat.le_of_eq rfl) at_273 (pcF := 276) rfl ?_
            intro v30 T30 L30 X30 hQ30
            obtain ⟨rfl, rfl, e30⟩ := hQ30
            rw [List.append_nil] at X30
            show Go p e below _ _ (mkF m 276 _ [(.int (own_e6 c1 c2 c3 c4 c5 p3))])
            refine Go.on (g' := (mkF m 278 _ [(.int (5 : Int32)), (.int (own_e6 c1 c2 c3 c4 c5 p3))])) (fun t_ k_ => XS.iload X30.here hx rfl (hb hby at_276) rfl k_) ?_
            refine Go.icmp X30 hx hby at_278 (pcT := 285) (pcF := 281) (by decide) (by decide) rfl (fun q => absurd q (fun q => (iNe.1 q) (by simp only [Int32.lt_iff_toInt_lt] at q1 q17 q25 q29 q30 s2 s3 s4 s5; unfold own_e6; simp only [Int32.lt_iff_toInt_lt]; (repeat' split) <;> first | rfl | (exfalso; omega)))) (fun q => ?_)
            clear q
            show Go p e below _ _ (mkF m 281 _ [])
            refine Go.on (g' := (mkF m 282 _ [(.int (1 : Int32))])) (fun t_ k_ => XS.iconst X30.here hx rfl (hb hby at_281) k_) ?_
            refine Go.on (g' := (mkF m 286 _ [(.int (1 : Int32))])) (fun t_ k_ => XS.goto X30.here hx rfl (pc0 := 282) (pc' := 286) rfl (hb hby at_282) (by decide) (by decide) k_) ?_
            exact Go.retI X30 hx hlk hret hby at_286 rfl (by simp) (by decide) (by decide) ⟨rfl, N0⟩
        · have q29 := iGt.2 q
          clear q
          show Go p e below _ _ (mkF m 248 _ [])
          refine Go.on (g' := (mkF m 249 _ [(.int (4 : Int32))])) (fun t_ k_ => XS.iconst X0.here hx rfl (hb hby at_248) k_) ?_
          refine Go.on (g' := (mkF m 251 #[.val (.long p0), .second, .val (.long p1), .second, .val (.long p2), .second, .val (.int p3), .val (.int p4), .val (.int (6 : Int32)), .val (.int c0), .val (.int c1), .val (.int c2), .val (.int c3), .val (.int c4), .val (.int c5), .val (.ref a), .val (.int (4 : Int32))] [])) (fun t_ k_ => XS.istore X0.here hx rfl (hb hby at_249) rfl (l' := #[.val (.long p0), .second, .val (.long p1), .second, .val (.long p2), .second, .val (.int p3), .val (.int p4), .val (.int (6 : Int32)), .val (.int c0), .val (.int c1), .val (.int c2), .val (.int c3), .val (.int c4), .val (.int c5), .val (.ref a), .val (.int (4 : Int32))]) rfl k_) ?_
          refine Go.on (g' := (mkF m 253 _ [(.int (6 : Int32))])) (fun t_ k_ => XS.iload X0.here hx rfl (hb hby at_251) rfl k_) ?_
          refine Go.on (g' := (mkF m 254 _ [(.int (5 : Int32)), (.int (6 : Int32))])) (fun t_ k_ => XS.iconst X0.here hx rfl (hb hby at_253) k_) ?_
          refine Go.icmp X0 hx hby at_254 (pcT := 267) (pcF := 257) (by decide) (by decide) rfl (fun q => absurd q (by decide)) (fun q => ?_)
          clear q
          show Go p e below _ _ (mkF m 257 _ [])
          refine Go.on (g' := (mkF m 259 _ [(.int c5)])) (fun t_ k_ => XS.iload X0.here hx rfl (hb hby at_257) rfl k_) ?_
          refine Go.on (g' := (mkF m 261 _ [(.int p3), (.int c5)])) (fun t_ k_ => XS.iload X0.here hx rfl (hb hby at_259) rfl k_) ?_
          refine Go.icmp X0 hx hby at_261 (pcT := 267) (pcF := 264) (by decide) (by decide) rfl (fun q => ?_) (fun q => ?_)
          · have q31 := iGt.1 q
            clear q
            show Go p e below _ _ (mkF m 267 _ [])
            refine Go.on (g' := (mkF m 269 _ [(.ref a)])) (fun t_ k_ => XS.aload X0.here hx rfl (hb hby at_267) rfl rfl k_) ?_
            refine Go.on (g' := (mkF m 271 _ [(.int (6 : Int32)), (.ref a)])) (fun t_ k_ => XS.iload X0.here hx rfl (hb hby at_269) rfl k_) ?_
            refine Go.on (g' := (mkF m 273 _ [(.int p3), (.int (6 : Int32)), (.ref a)])) (fun t_ k_ => XS.iload X0.here hx rfl (hb hby at_271) rfl k_) ?_
            refine Go.callS X0 hx hZ hby (by rw [hml]; rfl) (y := (⟨"com/example/loomtrace/loomtrace/model/IntSort", "lastAtMost", "([III)I"⟩ : MethodName)) hown (hw _ (List.mem_of_getElem? (i := 7) rfl)) (hw _ (List.mem_of_getElem? (i := 8) rfl)) (hw _ (List.mem_of_getElem? (i := 9) rfl)) (hw _ (List.mem_of_getElem? (i := 10) rfl)) (by decide) (argsL := [(.ref a), (.int (6 : Int32)), (.int p3)]) (rest := []) (rmL6 l Z w0 hw [] a p3 h0 cl A0 hsz c1 hk1 c2 hk2 c3 hk3 c4 hk4 c5 hk5 s2 s3 s4 s5) e0 0 (by decide) (by decide) (by decide) (by decide) rfl pdL rfl (Nat.le_of_eq rfl) at_273 (pcF := 276) rfl ?_
            intro v31 T31 L31 X31 hQ31
            obtain ⟨rfl, rfl, e31⟩ := hQ31
            rw [List.append_nil] at X31
            show Go p e below _ _ (mkF m 276 _ [(.int (own_e6 c1 c2 c3 c4 c5 p3))])
            refine Go.on (g' := (mkF m 278 _ [(.int (4 : Int32)), (.int (own_e6 c1 c2 c3 c4 c5 p3))])) (fun t_ k_ => XS.iload X31.here hx rfl (hb hby at_276) rfl k_) ?_
            refine Go.icmp X31 hx hby at_278 (pcT := 285) (pcF := 281) (by decide) (by decide) rfl (fun q => absurd q (fun q => (iNe.1 q) (by simp only [Int32.lt_iff_toInt_lt] at q1 q17 q25 q29 q31 s2 s3 s4 s5; unfold own_e6; simp only [Int32.lt_iff_toInt_lt]; (repeat' split) <;> first | rfl | (exfalso; omega)))) (fun q => ?_)
            clear q
            show Go p e below _ _ (mkF m 281 _ [])
            refine Go.on (g' := (mkF m 282 _ [(.int (1 : Int32))])) (fun t_ k_ => XS.iconst X31.here hx rfl (hb hby at_281) k_) ?_
            refine Go.on (g' := (mkF m 286 _ [(.int (1 : Int32))])) (fun t_ k_ => XS.goto X31.here hx rfl (pc0 := 282) (pc' := 286) rfl (hb hby at_282) (by decide) (by decide) k_) ?_
            exact Go.retI X31 hx hlk hret hby at_286 rfl (by simp) (by decide) (by decide) ⟨rfl, N0⟩
          · have q31 := iGt.2 q
            clear q
            show Go p e below _ _ (mkF m 264 _ [])
            refine Go.on (g' := (mkF m 265 _ [(.int (5 : Int32))])) (fun t_ k_ => XS.iconst X0.here hx rfl (hb hby at_264) k_) ?_
            refine Go.on (g' := (mkF m 267 #[.val (.long p0), .second, .val (.long p1), .second, .val (.long p2), .second, .val (.int p3), .val (.int p4), .val (.int (6 : Int32)), .val (.int c0), .val (.int c1), .val (.int c2), .val (.int c3), .val (.int c4), .val (.int c5), .val (.ref a), .val (.int (5 : Int32))] [])) (fun t_ k_ => XS.istore X0.here hx rfl (hb hby at_265) rfl (l' := #[.val (.long p0), .second, .val (.long p1), .second, .val (.long p2), .second, .val (.int p3), .val (.int p4), .val (.int (6 : Int32)), .val (.int c0), .val (.int c1), .val (.int c2), .val (.int c3), .val (.int c4), .val (.int c5), .val (.ref a), .val (.int (5 : Int32))]) rfl k_) ?_
            refine Go.on (g' := (mkF m 269 _ [(.ref a)])) (fun t_ k_ => XS.aload X0.here hx rfl (hb hby at_267) rfl rfl k_) ?_
            refine Go.on (g' := (mkF m 271 _ [(.int (6 : Int32)), (.ref a)])) (fun t_ k_ => XS.iload X0.here hx rfl (hb hby at_269) rfl k_) ?_
            refine Go.on (g' := (mkF m 273 _ [(.int p3), (.int (6 : Int32)), (.ref a)])) (fun t_ k_ => XS.iload X0.here hx rfl (hb hby at_271) rfl k_) ?_
            refine Go.callS X0 hx hZ hby (by rw [hml]; rfl) (y := (⟨"com/example/loomtrace/loomtrace/model/IntSort", "lastAtMost", "([III)I"⟩ : MethodName)) hown (hw _ (List.mem_of_getElem? (i := 7) rfl)) (hw _ (List.mem_of_getElem? (i := 8) rfl)) (hw _ (List.mem_of_getElem? (i := 9) rfl)) (hw _ (List.mem_of_getElem? (i := 10) rfl)) (by decide) (argsL := [(.ref a), (.int (6 : Int32)), (.int p3)]) (rest := []) (rmL6 l Z w0 hw [] a p3 h0 cl A0 hsz c1 hk1 c2 hk2 c3 hk3 c4 hk4 c5 hk5 s2 s3 s4 s5) e0 0 (by decide) (by decide) (by decide) (by decide) rfl pdL rfl (Nat.le_of_eq rfl) at_273 (pcF := 276) rfl ?_
            intro v32 T32 L32 X32 hQ32
            obtain ⟨rfl, rfl, e32⟩ := hQ32
            rw [List.append_nil] at X32
            show Go p e below _ _ (mkF m 276 _ [(.int (own_e6 c1 c2 c3 c4 c5 p3))])
            refine Go.on (g' := (mkF m 278 _ [(.int (5 : Int32)), (.int (own_e6 c1 c2 c3 c4 c5 p3))])) (fun t_ k_ => XS.iload X32.here hx rfl (hb hby at_276) rfl k_) ?_
            refine Go.icmp X32 hx hby at_278 (pcT := 285) (pcF := 281) (by decide) (by decide) rfl (fun q => absurd q (fun q => (iNe.1 q) (by simp only [Int32.lt_iff_toInt_lt] at q1 q17 q25 q29 q31 s2 s3 s4 s5; unfold own_e6; simp only [Int32.lt_iff_toInt_lt]; (repeat' split) <;> first | rfl | (exfalso; omega)))) (fun q => ?_)
            clear q
            show Go p e below _ _ (mkF m 281 _ [])
            refine Go.on (g' := (mkF m 282 _ [(.int (1 : Int32))])) (fun t_ k_ => XS.iconst X32.here hx rfl (hb hby at_281) k_) ?_
            refine Go.on (g' := (mkF m 286 _ [(.int (1 : Int32))])) (fun t_ k_ => XS.goto X32.here hx rfl (pc0 := 282) (pc' := 286) rfl (hb hby at_282) (by decide) (by decide) k_) ?_
            exact Go.retI X32 hx hlk hret hby at_286 rfl (by simp) (by decide) (by decide) ⟨rfl, N0⟩
set_option maxRecDepth 65536 in
set_option maxHeartbeats 40000000 in
theorem rmLaw (l : Launch) (Z : State) (w0 : Array Value) (hw : ∀ d ∈ tables_1, d.before w0 Z = true) (ws : List Jvm.Cond) (p0 p1 p2 : Int64) (p3 p4 : Int32) (h0 : Heap) (n0 : Nat) (Z0 : n0 ≤ h0.size) : Pact l Z x code maxLocals ret ws room_1 #[.long p0, .long p1, .long p2, .int p3, .int p4] h0 (own_Q0 n0) := by
  refine Pact.intro (plainFor_of_name pnLaw) ?_
  intro p e s m below meth c T0 X0 hx hby hml hret hlk hown hnm hZ e0
  refine Go.at (ef0 m p0 p1 p2 p3 p4) ?_
  have hown : s.vm.findClass "com/example/loomtrace/loomtrace/model/IntSortLastAtMostPinLaw" = some m.cls := hown
  have N0 := Fr.nil n0
  refine Go.on (g' := (mkF m 2 _ [(.int p4)])) (fun t_ k_ => XS.iload X0.here hx rfl (hb hby at_0) rfl k_) ?_
  refine Go.on (g' := (mkF m 4 _ [(.int (2147483647 : Int32)), (.int p4)])) (X0.ldcInt hx hown (mvT hZ (hw _ (List.mem_of_getElem? (i := 0) rfl))) (g := (mkF m 2 #[.val (.long p0), .second, .val (.long p1), .second, .val (.long p2), .second, .val (.int p3), .val (.int p4), .unset, .unset, .unset, .unset, .unset, .unset, .unset, .unset, .unset] [(.int p4)])) rfl (hb hby at_2)) ?_
  refine Go.on (g' := (mkF m 5 _ [(.int (p4 &&& (2147483647 : Int32)))])) (fun t_ k_ => XS.iand X0.here hx rfl (hb hby at_4) rfl k_) ?_
  refine Go.on (g' := (mkF m 7 _ [(.int (7 : Int32)), (.int (p4 &&& (2147483647 : Int32)))])) (fun t_ k_ => XS.bipush X0.here hx rfl (hb hby at_5) k_) ?_
  refine Go.on (g' := (mkF m 8 _ [(.int ((p4 &&& (2147483647 : Int32)) % (7 : Int32)))])) (fun t_ k_ => iremM X0 hx rfl (hb hby at_7) rfl (by decide) k_) ?_
  refine Go.on (g' := (mkF m 10 #[.val (.long p0), .second, .val (.long p1), .second, .val (.long p2), .second, .val (.int p3), .val (.int p4), .val (.int ((p4 &&& (2147483647 : Int32)) % (7 : Int32))), .unset, .unset, .unset, .unset, .unset, .unset, .unset, .unset] [])) (fun t_ k_ => XS.istore X0.here hx rfl (hb hby at_8) rfl (l' := #[.val (.long p0), .second, .val (.long p1), .second, .val (.long p2), .second, .val (.int p3), .val (.int p4), .val (.int ((p4 &&& (2147483647 : Int32)) % (7 : Int32))), .unset, .unset, .unset, .unset, .unset, .unset, .unset, .unset]) rfl k_) ?_
  obtain ⟨nn, hnn⟩ : ∃ z_ : Int32, z_ = ((p4 &&& (2147483647 : Int32)) % (7 : Int32)) := ⟨_, rfl⟩
  rw [← hnn]
  have hr := own_range p4
  rw [← hnn] at hr
  clear hnn
  refine Go.on (g' := (mkF m 11 _ [(.long p0)])) (fun t_ k_ => XT.lloadN X0.here hx rfl (hb hby at_10) rfl k_) ?_
  refine Go.on (g' := (mkF m 12 _ [(.int (p0.toInt32))])) (fun t_ k_ => XT.l2i X0.here hx rfl (hb hby at_11) rfl k_) ?_
  refine Go.on (g' := (mkF m 14 #[.val (.long p0), .second, .val (.long p1), .second, .val (.long p2), .second, .val (.int p3), .val (.int p4), .val (.int nn), .val (.int (p0.toInt32)), .unset, .unset, .unset, .unset, .unset, .unset, .unset] [])) (fun t_ k_ => XS.istore X0.here hx rfl (hb hby at_12) rfl (l' := #[.val (.long p0), .second, .val (.long p1), .second, .val (.long p2), .second, .val (.int p3), .val (.int p4), .val (.int nn), .val (.int (p0.toInt32)), .unset, .unset, .unset, .unset, .unset, .unset, .unset]) rfl k_) ?_
  refine Go.on (g' := (mkF m 16 _ [(.int (p0.toInt32))])) (fun t_ k_ => XS.iload X0.here hx rfl (hb hby at_14) rfl k_) ?_
  refine Go.on (g' := (mkF m 17 _ [(.long p0), (.int (p0.toInt32))])) (fun t_ k_ => XT.lloadN X0.here hx rfl (hb hby at_16) rfl k_) ?_
  refine Go.on (g' := (mkF m 19 _ [(.int (32 : Int32)), (.long p0), (.int (p0.toInt32))])) (fun t_ k_ => XS.bipush X0.here hx rfl (hb hby at_17) k_) ?_
  refine Go.on (g' := (mkF m 20 _ [(.long (XT.ushrL p0 (32 : Int32))), (.int (p0.toInt32))])) (fun t_ k_ => XT.lushr X0.here hx rfl (hb hby at_19) rfl k_) ?_
  refine Go.on (g' := (mkF m 21 _ [(.int ((XT.ushrL p0 (32 : Int32)).toInt32)), (.int (p0.toInt32))])) (fun t_ k_ => XT.l2i X0.here hx rfl (hb hby at_20) rfl k_) ?_
  refine Go.callS X0 hx hZ hby (by rw [hml]; rfl) (y := (⟨"java/lang/Math", "max", "(II)I"⟩ : MethodName)) hown (hw _ (List.mem_of_getElem? (i := 1) rfl)) (hw _ (List.mem_of_getElem? (i := 2) rfl)) (hw _ (List.mem_of_getElem? (i := 3) rfl)) (hw _ (List.mem_of_getElem? (i := 4) rfl)) (by decide) (argsL := [(.int (p0.toInt32)), (.int ((XT.ushrL p0 (32 : Int32)).toInt32))]) (rest := []) (rmM l Z w0 hw [] (p0.toInt32) ((XT.ushrL p0 (32 : Int32)).toInt32) h0) e0 0 (by decide) (by decide) (by decide) (by decide) rfl pdM rfl (Nat.le_of_eq rfl) at_21 (pcF := 24) rfl ?_
  intro v1 T1 L1 X1 hQ1
  obtain ⟨rfl, rfl, e1⟩ := hQ1
  rw [List.append_nil] at X1
  show Go p e below _ _ (mkF m 24 _ [(.int (own_max (p0.toInt32) ((XT.ushrL p0 (32 : Int32)).toInt32)))])
  refine Go.on (g' := (mkF m 26 #[.val (.long p0), .second, .val (.long p1), .second, .val (.long p2), .second, .val (.int p3), .val (.int p4), .val (.int nn), .val (.int (p0.toInt32)), .val (.int (own_max (p0.toInt32) ((XT.ushrL p0 (32 : Int32)).toInt32))), .unset, .unset, .unset, .unset, .unset, .unset] [])) (fun t_ k_ => XS.istore X1.here hx rfl (hb hby at_24) rfl (l' := #[.val (.long p0), .second, .val (.long p1), .second, .val (.long p2), .second, .val (.int p3), .val (.int p4), .val (.int nn), .val (.int (p0.toInt32)), .val (.int (own_max (p0.toInt32) ((XT.ushrL p0 (32 : Int32)).toInt32))), .unset, .unset, .unset, .unset, .unset, .unset]) rfl k_) ?_
  refine Go.on (g' := (mkF m 28 _ [(.int (own_max (p0.toInt32) ((XT.ushrL p0 (32 : Int32)).toInt32)))])) (fun t_ k_ => XS.iload X1.here hx rfl (hb hby at_26) rfl k_) ?_
  refine Go.on (g' := (mkF m 29 _ [(.long p1), (.int (own_max (p0.toInt32) ((XT.ushrL p0 (32 : Int32)).toInt32)))])) (fun t_ k_ => XT.lloadN X1.here hx rfl (hb hby at_28) rfl k_) ?_
  refine Go.on (g' := (mkF m 30 _ [(.int (p1.toInt32)), (.int (own_max (p0.toInt32) ((XT.ushrL p0 (32 : Int32)).toInt32)))])) (fun t_ k_ => XT.l2i X1.here hx rfl (hb hby at_29) rfl k_) ?_
  refine Go.callS X1 hx hZ hby (by rw [hml]; rfl) (y := (⟨"java/lang/Math", "max", "(II)I"⟩ : MethodName)) hown (hw _ (List.mem_of_getElem? (i := 1) rfl)) (hw _ (List.mem_of_getElem? (i := 2) rfl)) (hw _ (List.mem_of_getElem? (i := 3) rfl)) (hw _ (List.mem_of_getElem? (i := 4) rfl)) (by decide) (argsL := [(.int (own_max (p0.toInt32) ((XT.ushrL p0 (32 : Int32)).toInt32))), (.int (p1.toInt32))]) (rest := []) (rmM l Z w0 hw [] (own_max (p0.toInt32) ((XT.ushrL p0 (32 : Int32)).toInt32)) (p1.toInt32) h0) e1 0 (by decide) (by decide) (by decide) (by decide) rfl pdM rfl (Nat.le_of_eq rfl) at_30 (pcF := 33) rfl ?_
  intro v2 T2 L2 X2 hQ2
  obtain ⟨rfl, rfl, e2⟩ := hQ2
  rw [List.append_nil] at X2
  show Go p e below _ _ (mkF m 33 _ [(.int (own_max (own_max (p0.toInt32) ((XT.ushrL p0 (32 : Int32)).toInt32)) (p1.toInt32)))])
  refine Go.on (g' := (mkF m 35 #[.val (.long p0), .second, .val (.long p1), .second, .val (.long p2), .second, .val (.int p3), .val (.int p4), .val (.int nn), .val (.int (p0.toInt32)), .val (.int (own_max (p0.toInt32) ((XT.ushrL p0 (32 : Int32)).toInt32))), .val (.int (own_max (own_max (p0.toInt32) ((XT.ushrL p0 (32 : Int32)).toInt32)) (p1.toInt32))), .unset, .unset, .unset, .unset, .unset] [])) (fun t_ k_ => XS.istore X2.here hx rfl (hb hby at_33) rfl (l' := #[.val (.long p0), .second, .val (.long p1), .second, .val (.long p2), .second, .val (.int p3), .val (.int p4), .val (.int nn), .val (.int (p0.toInt32)), .val (.int (own_max (p0.toInt32) ((XT.ushrL p0 (32 : Int32)).toInt32))), .val (.int (own_max (own_max (p0.toInt32) ((XT.ushrL p0 (32 : Int32)).toInt32)) (p1.toInt32))), .unset, .unset, .unset, .unset, .unset]) rfl k_) ?_
  refine Go.on (g' := (mkF m 37 _ [(.int (own_max (own_max (p0.toInt32) ((XT.ushrL p0 (32 : Int32)).toInt32)) (p1.toInt32)))])) (fun t_ k_ => XS.iload X2.here hx rfl (hb hby at_35) rfl k_) ?_
  refine Go.on (g' := (mkF m 38 _ [(.long p1), (.int (own_max (own_max (p0.toInt32) ((XT.ushrL p0 (32 : Int32)).toInt32)) (p1.toInt32)))])) (fun t_ k_ => XT.lloadN X2.here hx rfl (hb hby at_37) rfl k_) ?_
  refine Go.on (g' := (mkF m 40 _ [(.int (32 : Int32)), (.long p1), (.int (own_max (own_max (p0.toInt32) ((XT.ushrL p0 (32 : Int32)).toInt32)) (p1.toInt32)))])) (fun t_ k_ => XS.bipush X2.here hx rfl (hb hby at_38) k_) ?_
  refine Go.on (g' := (mkF m 41 _ [(.long (XT.ushrL p1 (32 : Int32))), (.int (own_max (own_max (p0.toInt32) ((XT.ushrL p0 (32 : Int32)).toInt32)) (p1.toInt32)))])) (fun t_ k_ => XT.lushr X2.here hx rfl (hb hby at_40) rfl k_) ?_
  refine Go.on (g' := (mkF m 42 _ [(.int ((XT.ushrL p1 (32 : Int32)).toInt32)), (.int (own_max (own_max (p0.toInt32) ((XT.ushrL p0 (32 : Int32)).toInt32)) (p1.toInt32)))])) (fun t_ k_ => XT.l2i X2.here hx rfl (hb hby at_41) rfl k_) ?_
  refine Go.callS X2 hx hZ hby (by rw [hml]; rfl) (y := (⟨"java/lang/Math", "max", "(II)I"⟩ : MethodName)) hown (hw _ (List.mem_of_getElem? (i := 1) rfl)) (hw _ (List.mem_of_getElem? (i := 2) rfl)) (hw _ (List.mem_of_getElem? (i := 3) rfl)) (hw _ (List.mem_of_getElem? (i := 4) rfl)) (by decide) (argsL := [(.int (own_max (own_max (p0.toInt32) ((XT.ushrL p0 (32 : Int32)).toInt32)) (p1.toInt32))), (.int ((XT.ushrL p1 (32 : Int32)).toInt32))]) (rest := []) (rmM l Z w0 hw [] (own_max (own_max (p0.toInt32) ((XT.ushrL p0 (32 : Int32)).toInt32)) (p1.toInt32)) ((XT.ushrL p1 (32 : Int32)).toInt32) h0) e2 0 (by decide) (by decide) (by decide) (by decide) rfl pdM rfl (Nat.le_of_eq rfl) at_42 (pcF := 45) rfl ?_
  intro v3 T3 L3 X3 hQ3
  obtain ⟨rfl, rfl, e3⟩ := hQ3
  rw [List.append_nil] at X3
  show Go p e below _ _ (mkF m 45 _ [(.int (own_max (own_max (own_max (p0.toInt32) ((XT.ushrL p0 (32 : Int32)).toInt32)) (p1.toInt32)) ((XT.ushrL p1 (32 : Int32)).toInt32)))])
  refine Go.on (g' := (mkF m 47 #[.val (.long p0), .second, .val (.long p1), .second, .val (.long p2), .second, .val (.int p3), .val (.int p4), .val (.int nn), .val (.int (p0.toInt32)), .val (.int (own_max (p0.toInt32) ((XT.ushrL p0 (32 : Int32)).toInt32))), .val (.int (own_max (own_max (p0.toInt32) ((XT.ushrL p0 (32 : Int32)).toInt32)) (p1.toInt32))), .val (.int (own_max (own_max (own_max (p0.toInt32) ((XT.ushrL p0 (32 : Int32)).toInt32)) (p1.toInt32)) ((XT.ushrL p1 (32 : Int32)).toInt32))), .unset, .unset, .unset, .unset] [])) (fun t_ k_ => XS.istore X3.here hx rfl (hb hby at_45) rfl (l' := #[.val (.long p0), .second, .val (.long p1), .second, .val (.long p2), .second, .val (.int p3), .val (.int p4), .val (.int nn), .val (.int (p0.toInt32)), .val (.int (own_max (p0.toInt32) ((XT.ushrL p0 (32 : Int32)).toInt32))), .val (.int (own_max (own_max (p0.toInt32) ((XT.ushrL p0 (32 : Int32)).toInt32)) (p1.toInt32))), .val (.int (own_max (own_max (own_max (p0.toInt32) ((XT.ushrL p0 (32 : Int32)).toInt32)) (p1.toInt32)) ((XT.ushrL p1 (32 : Int32)).toInt32))), .unset, .unset, .unset, .unset]) rfl k_) ?_
  refine Go.on (g' := (mkF m 49 _ [(.int (own_max (own_max (own_max (p0.toInt32) ((XT.ushrL p0 (32 : Int32)).toInt32)) (p1.toInt32)) ((XT.ushrL p1 (32 : Int32)).toInt32)))])) (fun t_ k_ => XS.iload X3.here hx rfl (hb hby at_47) rfl k_) ?_
  refine Go.on (g' := (mkF m 51 _ [(.long p2), (.int (own_max (own_max (own_max (p0.toInt32) ((XT.ushrL p0 (32 : Int32)).toInt32)) (p1.toInt32)) ((XT.ushrL p1 (32 : Int32)).toInt32)))])) (fun t_ k_ => XT.lload X3.here hx rfl (hb hby at_49) rfl k_) ?_
  refine Go.on (g' := (mkF m 52 _ [(.int (p2.toInt32)), (.int (own_max (own_max (own_max (p0.toInt32) ((XT.ushrL p0 (32 : Int32)).toInt32)) (p1.toInt32)) ((XT.ushrL p1 (32 : Int32)).toInt32)))])) (fun t_ k_ => XT.l2i X3.here hx rfl (hb hby at_51) rfl k_) ?_
  refine Go.callS X3 hx hZ hby (by rw [hml]; rfl) (y := (⟨"java/lang/Math", "max", "(II)I"⟩ : MethodName)) hown (hw _ (List.mem_of_getElem? (i := 1) rfl)) (hw _ (List.mem_of_getElem? (i := 2) rfl)) (hw _ (List.mem_of_getElem? (i := 3) rfl)) (hw _ (List.mem_of_getElem? (i := 4) rfl)) (by decide) (argsL := [(.int (own_max (own_max (own_max (p0.toInt32) ((XT.ushrL p0 (32 : Int32)).toInt32)) (p1.toInt32)) ((XT.ushrL p1 (32 : Int32)).toInt32))), (.int (p2.toInt32))]) (rest := []) (rmM l Z w0 hw [] (own_max (own_max (own_max (p0.toInt32) ((XT.ushrL p0 (32 : Int32)).toInt32)) (p1.toInt32)) ((XT.ushrL p1 (32 : Int32)).toInt32)) (p2.toInt32) h0) e3 0 (by decide) (by decide) (by decide) (by decide) rfl pdM rfl (Nat.le_of_eq rfl) at_52 (pcF := 55) rfl ?_
  intro v4 T4 L4 X4 hQ4
  obtain ⟨rfl, rfl, e4⟩ := hQ4
  rw [List.append_nil] at X4
  show Go p e below _ _ (mkF m 55 _ [(.int (own_max (own_max (own_max (own_max (p0.toInt32) ((XT.ushrL p0 (32 : Int32)).toInt32)) (p1.toInt32)) ((XT.ushrL p1 (32 : Int32)).toInt32)) (p2.toInt32)))])
  refine Go.on (g' := (mkF m 57 #[.val (.long p0), .second, .val (.long p1), .second, .val (.long p2), .second, .val (.int p3), .val (.int p4), .val (.int nn), .val (.int (p0.toInt32)), .val (.int (own_max (p0.toInt32) ((XT.ushrL p0 (32 : Int32)).toInt32))), .val (.int (own_max (own_max (p0.toInt32) ((XT.ushrL p0 (32 : Int32)).toInt32)) (p1.toInt32))), .val (.int (own_max (own_max (own_max (p0.toInt32) ((XT.ushrL p0 (32 : Int32)).toInt32)) (p1.toInt32)) ((XT.ushrL p1 (32 : Int32)).toInt32))), .val (.int (own_max (own_max (own_max (own_max (p0.toInt32) ((XT.ushrL p0 (32 : Int32)).toInt32)) (p1.toInt32)) ((XT.ushrL p1 (32 : Int32)).toInt32)) (p2.toInt32))), .unset, .unset, .unset] [])) (fun t_ k_ => XS.istore X4.here hx rfl (hb hby at_55) rfl (l' := #[.val (.long p0), .second, .val (.long p1), .second, .val (.long p2), .second, .val (.int p3), .val (.int p4), .val (.int nn), .val (.int (p0.toInt32)), .val (.int (own_max (p0.toInt32) ((XT.ushrL p0 (32 : Int32)).toInt32))), .val (.int (own_max (own_max (p0.toInt32) ((XT.ushrL p0 (32 : Int32)).toInt32)) (p1.toInt32))), .val (.int (own_max (own_max (own_max (p0.toInt32) ((XT.ushrL p0 (32 : Int32)).toInt32)) (p1.toInt32)) ((XT.ushrL p1 (32 : Int32)).toInt32))), .val (.int (own_max (own_max (own_max (own_max (p0.toInt32) ((XT.ushrL p0 (32 : Int32)).toInt32)) (p1.toInt32)) ((XT.ushrL p1 (32 : Int32)).toInt32)) (p2.toInt32))), .unset, .unset, .unset]) rfl k_) ?_
  refine Go.on (g' := (mkF m 59 _ [(.int (own_max (own_max (own_max (own_max (p0.toInt32) ((XT.ushrL p0 (32 : Int32)).toInt32)) (p1.toInt32)) ((XT.ushrL p1 (32 : Int32)).toInt32)) (p2.toInt32)))])) (fun t_ k_ => XS.iload X4.here hx rfl (hb hby at_57) rfl k_) ?_
  refine Go.on (g' := (mkF m 61 _ [(.long p2), (.int (own_max (own_max (own_max (own_max (p0.toInt32) ((XT.ushrL p0 (32 : Int32)).toInt32)) (p1.toInt32)) ((XT.ushrL p1 (32 : Int32)).toInt32)) (p2.toInt32)))])) (fun t_ k_ => XT.lload X4.here hx rfl (hb hby at_59) rfl k_) ?_
  refine Go.on (g' := (mkF m 63 _ [(.int (32 : Int32)), (.long p2), (.int (own_max (own_max (own_max (own_max (p0.toInt32) ((XT.ushrL p0 (32 : Int32)).toInt32)) (p1.toInt32)) ((XT.ushrL p1 (32 : Int32)).toInt32)) (p2.toInt32)))])) (fun t_ k_ => XS.bipush X4.here hx rfl (hb hby at_61) k_) ?_
  refine Go.on (g' := (mkF m 64 _ [(.long (XT.ushrL p2 (32 : Int32))), (.int (own_max (own_max (own_max (own_max (p0.toInt32) ((XT.ushrL p0 (32 : Int32)).toInt32)) (p1.toInt32)) ((XT.ushrL p1 (32 : Int32)).toInt32)) (p2.toInt32)))])) (fun t_ k_ => XT.lushr X4.here hx rfl (hb hby at_63) rfl k_) ?_
  refine Go.on (g' := (mkF m 65 _ [(.int ((XT.ushrL p2 (32 : Int32)).toInt32)), (.int (own_max (own_max (own_max (own_max (p0.toInt32) ((XT.ushrL p0 (32 : Int32)).toInt32)) (p1.toInt32)) ((XT.ushrL p1 (32 : Int32)).toInt32)) (p2.toInt32)))])) (fun t_ k_ => XT.l2i X4.here hx rfl (hb hby at_64) rfl k_) ?_
  refine Go.callS X4 hx hZ hby (by rw [hml]; rfl) (y := (⟨"java/lang/Math", "max", "(II)I"⟩ : MethodName)) hown (hw _ (List.mem_of_getElem? (i := 1) rfl)) (hw _ (List.mem_of_getElem? (i := 2) rfl)) (hw _ (List.mem_of_getElem? (i := 3) rfl)) (hw _ (List.mem_of_getElem? (i := 4) rfl)) (by decide) (argsL := [(.int (own_max (own_max (own_max (own_max (p0.toInt32) ((XT.ushrL p0 (32 : Int32)).toInt32)) (p1.toInt32)) ((XT.ushrL p1 (32 : Int32)).toInt32)) (p2.toInt32))), (.int ((XT.ushrL p2 (32 : Int32)).toInt32))]) (rest := []) (rmM l Z w0 hw [] (own_max (own_max (own_max (own_max (p0.toInt32) ((XT.ushrL p0 (32 : Int32)).toInt32)) (p1.toInt32)) ((XT.ushrL p1 (32 : Int32)).toInt32)) (p2.toInt32)) ((XT.ushrL p2 (32 : Int32)).toInt32) h0) e4 0 (by decide) (by decide) (by decide) (by decide) rfl pdM rfl (Nat.le_of_eq rfl) at_65 (pcF := 68) rfl ?_
  intro v5 T5 L5 X5 hQ5
  obtain ⟨rfl, rfl, e5⟩ := hQ5
  rw [List.append_nil] at X5
  show Go p e below _ _ (mkF m 68 _ [(.int (own_max (own_max (own_max (own_max (own_max (p0.toInt32) ((XT.ushrL p0 (32 : Int32)).toInt32)) (p1.toInt32)) ((XT.ushrL p1 (32 : Int32)).toInt32)) (p2.toInt32)) ((XT.ushrL p2 (32 : Int32)).toInt32)))])
  refine Go.on (g' := (mkF m 70 #[.val (.long p0), .second, .val (.long p1), .second, .val (.long p2), .second, .val (.int p3), .val (.int p4), .val (.int nn), .val (.int (p0.toInt32)), .val (.int (own_max (p0.toInt32) ((XT.ushrL p0 (32 : Int32)).toInt32))), .val (.int (own_max (own_max (p0.toInt32) ((XT.ushrL p0 (32 : Int32)).toInt32)) (p1.toInt32))), .val (.int (own_max (own_max (own_max (p0.toInt32) ((XT.ushrL p0 (32 : Int32)).toInt32)) (p1.toInt32)) ((XT.ushrL p1 (32 : Int32)).toInt32))), .val (.int (own_max (own_max (own_max (own_max (p0.toInt32) ((XT.ushrL p0 (32 : Int32)).toInt32)) (p1.toInt32)) ((XT.ushrL p1 (32 : Int32)).toInt32)) (p2.toInt32))), .val (.int (own_max (own_max (own_max (own_max (own_max (p0.toInt32) ((XT.ushrL p0 (32 : Int32)).toInt32)) (p1.toInt32)) ((XT.ushrL p1 (32 : Int32)).toInt32)) (p2.toInt32)) ((XT.ushrL p2 (32 : Int32)).toInt32))), .unset, .unset] [])) (fun t_ k_ => XS.istore X5.here hx rfl (hb hby at_68) rfl (l' := #[.val (.long p0), .second, .val (.long p1), .second, .val (.long p2), .second, .val (.int p3), .val (.int p4), .val (.int nn), .val (.int (p0.toInt32)), .val (.int (own_max (p0.toInt32) ((XT.ushrL p0 (32 : Int32)).toInt32))), .val (.int (own_max (own_max (p0.toInt32) ((XT.ushrL p0 (32 : Int32)).toInt32)) (p1.toInt32))), .val (.int (own_max (own_max (own_max (p0.toInt32) ((XT.ushrL p0 (32 : Int32)).toInt32)) (p1.toInt32)) ((XT.ushrL p1 (32 : Int32)).toInt32))), .val (.int (own_max (own_max (own_max (own_max (p0.toInt32) ((XT.ushrL p0 (32 : Int32)).toInt32)) (p1.toInt32)) ((XT.ushrL p1 (32 : Int32)).toInt32)) (p2.toInt32))), .val (.int (own_max (own_max (own_max (own_max (own_max (p0.toInt32) ((XT.ushrL p0 (32 : Int32)).toInt32)) (p1.toInt32)) ((XT.ushrL p1 (32 : Int32)).toInt32)) (p2.toInt32)) ((XT.ushrL p2 (32 : Int32)).toInt32))), .unset, .unset]) rfl k_) ?_
  obtain ⟨c0, hc0⟩ : ∃ z_ : Int32, z_ = (p0.toInt32) := ⟨_, rfl⟩
  rw [← hc0]
  obtain ⟨c1, hc1⟩ : ∃ z_ : Int32, z_ = (own_max c0 ((XT.ushrL p0 (32 : Int32)).toInt32)) := ⟨_, rfl⟩
  rw [← hc1]
  have s1 : ¬ c1 < c0 := by rw [hc1]; exact own_max_ge _ _
  obtain ⟨c2, hc2⟩ : ∃ z_ : Int32, z_ = (own_max c1 (p1.toInt32)) := ⟨_, rfl⟩
  rw [← hc2]
  have s2 : ¬ c2 < c1 := by rw [hc2]; exact own_max_ge _ _
  obtain ⟨c3, hc3⟩ : ∃ z_ : Int32, z_ = (own_max c2 ((XT.ushrL p1 (32 : Int32)).toInt32)) := ⟨_, rfl⟩
  rw [← hc3]
  have s3 : ¬ c3 < c2 := by rw [hc3]; exact own_max_ge _ _
  obtain ⟨c4, hc4⟩ : ∃ z_ : Int32, z_ = (own_max c3 (p2.toInt32)) := ⟨_, rfl⟩
  rw [← hc4]
  have s4 : ¬ c4 < c3 := by rw [hc4]; exact own_max_ge _ _
  obtain ⟨c5, hc5⟩ : ∃ z_ : Int32, z_ = (own_max c4 ((XT.ushrL p2 (32 : Int32)).toInt32)) := ⟨_, rfl⟩
  rw [← hc5]
  have s5 : ¬ c5 < c4 := by rw [hc5]; exact own_max_ge _ _
  clear hc5
  clear hc4
  clear hc3
  clear hc2
  clear hc1
  clear hc0
  rcases own_cases nn hr with rfl | rfl | rfl | rfl | rfl | rfl | rfl
  · show Go p e below _ _ (mkF m 70 #[.val (.long p0), .second, .val (.long p1), .second, .val (.long p2), .second, .val (.int p3), .val (.int p4), .val (.int (0 : Int32)), .val (.int c0), .val (.int c1), .val (.int c2), .val (.int c3), .val (.int c4), .val (.int c5), .unset, .unset] [])
    refine Go.on (g' := (mkF m 72 _ [(.int (7 : Int32))])) (fun t_ k_ => XS.bipush X5.here hx rfl (hb hby at_70) k_) ?_
    obtain ⟨T6, h6, cA6, X6, e6, E6, A6, st6⟩ := newP X5 hx hZ (hw _ (List.mem_of_getElem? (i := 5) rfl)) e5 (g := (mkF m 72 #[.val (.long p0), .second, .val (.long p1), .second, .val (.long p2), .second, .val (.int p3), .val (.int p4), .val (.int (0 : Int32)), .val (.int c0), .val (.int c1), .val (.int c2), .val (.int c3), .val (.int c4), .val (.int c5), .unset, .unset] [(.int (7 : Int32))])) rfl (hb hby at_72) (n := (7 : Int32)) rfl (by decide) (cap := 7) (by decide) (by decide) (by decide) (by decide)
    obtain ⟨o6, go6⟩ : ∃ z, z = (h0).size := ⟨_, rfl⟩
    rw [← go6] at A6 st6
    have no6 : n0 ≤ o6 := Nat.le_trans Z0 (Nat.le_of_eq go6.symm)
    have Z6 : n0 ≤ h6.size := Nat.le_trans Z0 E6.1
    refine Go.on (g' := (mkF m 74 _ [(.ref o6)])) (st6) ?_
    refine Go.on (g' := (mkF m 76 #[.val (.long p0), .second, .val (.long p1), .second, .val (.long p2), .second, .val (.int p3), .val (.int p4), .val (.int (0 : Int32)), .val (.int c0), .val (.int c1), .val (.int c2), .val (.int c3), .val (.int c4), .val (.int c5), .val (.ref o6), .unset] [])) (fun t_ k_ => XS.astore X6.here hx rfl (hb hby at_74) rfl rfl (l' := #[.val (.long p0), .second, .val (.long p1), .second, .val (.long p2), .second, .val (.int p3), .val (.int p4), .val (.int (0 : Int32)), .val (.int c0), .val (.int c1), .val (.int c2), .val (.int c3), .val (.int c4), .val (.int c5), .val (.ref o6), .unset]) rfl k_) ?_
    refine Go.on (g' := (mkF m 78 _ [(.ref o6)])) (fun t_ k_ => XS.aload X6.here hx rfl (hb hby at_76) rfl rfl k_) ?_
    refine Go.on (g' := (mkF m 79 _ [(.int (0 : Int32)), (.ref o6)])) (fun t_ k_ => XS.iconst X6.here hx rfl (hb hby at_78) k_) ?_
    refine Go.on (g' := (mkF m 81 _ [(.int (0 : Int32)), (.int (0 : Int32)), (.ref o6)])) (fun t_ k_ => XS.iload X6.here hx rfl (hb hby at_79) rfl k_) ?_
    refine Go.ifc X6 hx hby at_81 (pcT := 89) (pcF := 84) (by decide) (by decide) rfl (fun q => ?_) (fun q => absurd q (by decide))
    clear q
    show Go p e below _ _ (mkF m 89 _ [(.int (0 : Int32)), (.ref o6)])
    refine Go.on (g' := (mkF m 91 _ [(.int ((-2147483648) : Int32)), (.int (0 : Int32)), (.ref o6)])) (X6.ldcInt hx hown (mvT hZ (hw _ (List.mem_of_getElem? (i := 6) rfl))) (g := (mkF m 89 #[.val (.long p0), .second, .val (.long p1), .second, .val (.long p2), .second, .val (.int p3), .val (.int p4), .val (.int (0 : Int32)), .val (.int c0), .val (.int c1), .val (.int c2), .val (.int c3), .val (.int c4), .val (.int c5), .val (.ref o6), .unset] [(.int (0 : Int32)), (.ref o6)])) rfl (hb hby at_89)) ?_
    obtain ⟨T7, h7, X7, e7, W7, st7⟩ := stI X6 hx hZ e6 A6 (j := (0 : Int32)) (by simp only [sz_set, sz_new]; decide) (g := (mkF m 91 #[.val (.long p0), .second, .val (.long p1), .second, .val (.long p2), .second, .val (.int p3), .val (.int p4), .val (.int (0 : Int32)), .val (.int c0), .val (.int c1), .val (.int c2), .val (.int c3), .val (.int c4), .val (.int c5), .val (.ref o6), .unset] [(.int ((-2147483648) : Int32)), (.int (0 : Int32)), (.ref o6)])) rfl rfl (hb hby at_91)
    have N7 := Fr.snoc X7 N0 no6
    have Z7 : n0 ≤ h7.size := by rw [W7.size]; exact Z6
    have A7 := A6.same W7
    refine Go.on (g' := (mkF m 92 _ [])) (st7) ?_
    refine Go.on (g' := (mkF m 94 _ [(.ref o6)])) (fun t_ k_ => XS.aload X7.here hx rfl (hb hby at_92) rfl rfl k_) ?_
    refine Go.on (g' := (mkF m 95 _ [(.int (1 : Int32)), (.ref o6)])) (fun t_ k_ => XS.iconst X7.here hx rfl (hb hby at_94) k_) ?_
    refine Go.on (g' := (mkF m 97 _ [(.int (0 : Int32)), (.int (1 : Int32)), (.ref o6)])) (fun t_ k_ => XS.iload X7.here hx rfl (hb hby at_95) rfl k_) ?_
    refine Go.on (g' := (mkF m 98 _ [(.int (1 : Int32)), (.int (0 : Int32)), (.int (1 : Int32)), (.ref o6)])) (fun t_ k_ => XS.iconst X7.here hx rfl (hb hby at_97) k_) ?_
    refine Go.icmp X7 hx hby at_98 (pcT := 106) (pcF := 101) (by decide) (by decide) rfl (fun q => ?_) (fun q => absurd q (by decide))
    clear q
    show Go p e below _ _ (mkF m 106 _ [(.int (1 : Int32)), (.ref o6)])
    refine Go.on (g' := (mkF m 108 _ [(.int ((-2147483648) : Int32)), (.int (1 : Int32)), (.ref o6)])) (X7.ldcInt hx hown (mvT hZ (hw _ (List.mem_of_getElem? (i := 6) rfl))) (g := (mkF m 106 #[.val (.long p0), .second, .val (.long p1), .second, .val (.long p2), .second, .val (.int p3), .val (.int p4), .val (.int (0 : Int32)), .val (.int c0), .val (.int c1), .val (.int c2), .val (.int c3), .val (.int c4), .val (.int c5), .val (.ref o6), .unset] [(.int (1 : Int32)), (.ref o6)])) rfl (hb hby at_106)) ?_
    obtain ⟨T8, h8, X8, e8, W8, st8⟩ := stI X7 hx hZ e7 A7 (j := (1 : Int32)) (by simp only [sz_set, sz_new]; decide) (g := (mkF m 108 #[.val (.long p0), .second, .val (.long p1), .second, .val (.long p2), .second, .val (.int p3), .val (.int p4), .val (.int (0 : Int32)), .val (.int c0), .val (.int c1), .val (.int c2), .val (.int c3), .val (.int c4), .val (.int c5), .val (.ref o6), .unset] [(.int ((-2147483648) : Int32)), (.int (1 : Int32)), (.ref o6)])) rfl rfl (hb hby at_108)
    have N8 := Fr.snoc X8 N7 no6
    have Z8 : n0 ≤ h8.size := by rw [W8.size]; exact Z7
    have A8 := A7.same W8
    refine Go.on (g' := (mkF m 109 _ [])) (st8) ?_
    refine Go.on (g' := (mkF m 111 _ [(.ref o6)])) (fun t_ k_ => XS.aload X8.here hx rfl (hb hby at_109) rfl rfl k_) ?_
    refine Go.on (g' := (mkF m 112 _ [(.int (2 : Int32)), (.ref o6)])) (fun t_ k_ => XS.iconst X8.here hx rfl (hb hby at_111) k_) ?_
    refine Go.on (g' := (mkF m 114 _ [(.int (0 : Int32)), (.int (2 : Int32)), (.ref o6)])) (fun t_ k_ => XS.iload X8.here hx rfl (hb hby at_112) rfl k_) ?_
    refine Go.on (g' := (mkF m 115 _ [(.int (2 : Int32)), (.int (0 : Int32)), (.int (2 : Int32)), (.ref o6)])) (fun t_ k_ => XS.iconst X8.here hx rfl (hb hby at_114) k_) ?_
    refine Go.icmp X8 hx hby at_115 (pcT := 123) (pcF := 118) (by decide) (by decide) rfl (fun q => ?_) (fun q => absurd q (by decide))
    clear q
    show Go p e below _ _ (mkF m 123 _ [(.int (2 : Int32)), (.ref o6)])
    refine Go.on (g' := (mkF m 125 _ [(.int ((-2147483648) : Int32)), (.int (2 : Int32)), (.ref o6)])) (X8.ldcInt hx hown (mvT hZ (hw _ (List.mem_of_getElem? (i := 6) rfl))) (g := (mkF m 123 #[.val (.long p0), .second, .val (.long p1), .second, .val (.long p2), .second, .val (.int p3), .val (.int p4), .val (.int (0 : Int32)), .val (.int c0), .val (.int c1), .val (.int c2), .val (.int c3), .val (.int c4), .val (.int c5), .val (.ref o6), .unset] [(.int (2 : Int32)), (.ref o6)])) rfl (hb hby at_123)) ?_
    obtain ⟨T9, h9, X9, e9, W9, st9⟩ := stI X8 hx hZ e8 A8 (j := (2 : Int32)) (by simp only [sz_set, sz_new]; decide) (g := (mkF m 125 #[.val (.long p0), .second, .val (.long p1), .second, .val (.long p2), .second, .val (.int p3), .val (.int p4), .val (.int (0 : Int32)), .val (.int c0), .val (.int c1), .val (.int c2), .val (.int c3), .val (.int c4), .val (.int c5), .val (.ref o6), .unset] [(.int ((-2147483648) : Int32)), (.int (2 : Int32)), (.ref o6)])) rfl rfl (hb hby at_125)
    have N9 := Fr.snoc X9 N8 no6
    have Z9 : n0 ≤ h9.size := by rw [W9.size]; exact Z8
    have A9 := A8.same W9
    refine Go.on (g' := (mkF m 126 _ [])) (st9) ?_
    refine Go.on (g' := (mkF m 128 _ [(.ref o6)])) (fun t_ k_ => XS.aload X9.here hx rfl (hb hby at_126) rfl rfl k_) ?_
    refine Go.on (g' := (mkF m 129 _ [(.int (3 : Int32)), (.ref o6)])) (fun t_ k_ => XS.iconst X9.here hx rfl (hb hby at_128) k_) ?_
    refine Go.on (g' := (mkF m 131 _ [(.int (0 : Int32)), (.int (3 : Int32)), (.ref o6)])) (fun t_ k_ => XS.iload X9.here hx rfl (hb hby at_129) rfl k_) ?_
    refine Go.on (g' := (mkF m 132 _ [(.int (3 : Int32)), (.int (0 : Int32)), (.int (3 : Int32)), (.ref o6)])) (fun t_ k_ => XS.iconst X9.here hx rfl (hb hby at_131) k_) ?_
    refine Go.icmp X9 hx hby at_132 (pcT := 140) (pcF := 135) (by decide) (by decide) rfl (fun q => ?_) (fun q => absurd q (by decide))
    clear q
    show Go p e below _ _ (mkF m 140 _ [(.int (3 : Int32)), (.ref o6)])
    refine Go.on (g' := (mkF m 142 _ [(.int ((-2147483648) : Int32)), (.int (3 : Int32)), (.ref o6)])) (X9.ldcInt hx hown (mvT hZ (hw _ (List.mem_of_getElem? (i := 6) rfl))) (g := (mkF m 140 #[.val (.long p0), .second, .val (.long p1), .second, .val (.long p2), .second, .val (.int p3), .val (.int p4), .val (.int (0 : Int32)), .val (.int c0), .val (.int c1), .val (.int c2), .val (.int c3), .val (.int c4), .val (.int c5), .val (.ref o6), .unset] [(.int (3 : Int32)), (.ref o6)])) rfl (hb hby at_140)) ?_
    obtain ⟨T10, h10, X10, e10, W10, st10⟩ := stI X9 hx hZ e9 A9 (j := (3 : Int32)) (by simp only [sz_set, sz_new]; decide) (g := (mkF m 142 #[.val (.long p0), .second, .val (.long p1), .second, .val (.long p2), .second, .val (.int p3), .val (.int p4), .val (.int (0 : Int32)), .val (.int c0), .val (.int c1), .val (.int c2), .val (.int c3), .val (.int c4), .val (.int c5), .val (.ref o6), .unset] [(.int ((-2147483648) : Int32)), (.int (3 : Int32)), (.ref o6)])) rfl rfl (hb hby at_142)
    have N10 := Fr.snoc X10 N9 no6
    have Z10 : n0 ≤ h10.size := by rw [W10.size]; exact Z9
    have A10 := A9.same W10
    refine Go.on (g' := (mkF m 143 _ [])) (st10) ?_
    refine Go.on (g' := (mkF m 145 _ [(.ref o6)])) (fun t_ k_ => XS.aload X10.here hx rfl (hb hby at_143) rfl rfl k_) ?_
    refine Go.on (g' := (mkF m 146 _ [(.int (4 : Int32)), (.ref o6)])) (fun t_ k_ => XS.iconst X10.here hx rfl (hb hby at_145) k_) ?_
    refine Go.on (g' := (mkF m 148 _ [(.int (0 : Int32)), (.int (4 : Int32)), (.ref o6)])) (fun t_ k_ => XS.iload X10.here hx rfl (hb hby at_146) rfl k_) ?_
    refine Go.on (g' := (mkF m 149 _ [(.int (4 : Int32)), (.int (0 : Int32)), (.int (4 : Int32)), (.ref o6)])) (fun t_ k_ => XS.iconst X10.here hx rfl (hb hby at_148) k_) ?_
    refine Go.icmp X10 hx hby at_149 (pcT := 157) (pcF := 152) (by decide) (by decide) rfl (fun q => ?_) (fun q => absurd q (by decide))
    clear q
    show Go p e below _ _ (mkF m 157 _ [(.int (4 : Int32)), (.ref o6)])
    refine Go.on (g' := (mkF m 159 _ [(.int ((-2147483648) : Int32)), (.int (4 : Int32)), (.ref o6)])) (X10.ldcInt hx hown (mvT hZ (hw _ (List.mem_of_getElem? (i := 6) rfl))) (g := (mkF m 157 #[.val (.long p0), .second, .val (.long p1), .second, .val (.long p2), .second, .val (.int p3), .val (.int p4), .val (.int (0 : Int32)), .val (.int c0), .val (.int c1), .val (.int c2), .val (.int c3), .val (.int c4), .val (.int c5), .val (.ref o6), .unset] [(.int (4 : Int32)), (.ref o6)])) rfl (hb hby at_157)) ?_
    obtain ⟨T11, h11, X11, e11, W11, st11⟩ := stI X10 hx hZ e10 A10 (j := (4 : Int32)) (by simp only [sz_set, sz_new]; decide) (g := (mkF m 159 #[.val (.long p0), .second, .val (.long p1), .second, .val (.long p2), .second, .val (.int p3), .val (.int p4), .val (.int (0 : Int32)), .val (.int c0), .val (.int c1), .val (.int c2), .val (.int c3), .val (.int c4), .val (.int c5), .val (.ref o6), .unset] [(.int ((-2147483648) : Int32)), (.int (4 : Int32)), (.ref o6)])) rfl rfl (hb hby at_159)
    have N11 := Fr.snoc X11 N10 no6
    have Z11 : n0 ≤ h11.size := by rw [W11.size]; exact Z10
    have A11 := A10.same W11
    refine Go.on (g' := (mkF m 160 _ [])) (st11) ?_
    refine Go.on (g' := (mkF m 162 _ [(.ref o6)])) (fun t_ k_ => XS.aload X11.here hx rfl (hb hby at_160) rfl rfl k_) ?_
    refine Go.on (g' := (mkF m 163 _ [(.int (5 : Int32)), (.ref o6)])) (fun t_ k_ => XS.iconst X11.here hx rfl (hb hby at_162) k_) ?_
    refine Go.on (g' := (mkF m 165 _ [(.int (0 : Int32)), (.int (5 : Int32)), (.ref o6)])) (fun t_ k_ => XS.iload X11.here hx rfl (hb hby at_163) rfl k_) ?_
    refine Go.on (g' := (mkF m 166 _ [(.int (5 : Int32)), (.int (0 : Int32)), (.int (5 : Int32)), (.ref o6)])) (fun t_ k_ => XS.iconst X11.here hx rfl (hb hby at_165) k_) ?_
    refine Go.icmp X11 hx hby at_166 (pcT := 174) (pcF := 169) (by decide) (by decide) rfl (fun q => ?_) (fun q => absurd q (by decide))
    clear q
    show Go p e below _ _ (mkF m 174 _ [(.int (5 : Int32)), (.ref o6)])
    refine Go.on (g' := (mkF m 176 _ [(.int ((-2147483648) : Int32)), (.int (5 : Int32)), (.ref o6)])) (X11.ldcInt hx hown (mvT hZ (hw _ (List.mem_of_getElem? (i := 6) rfl))) (g := (mkF m 174 #[.val (.long p0), .second, .val (.long p1), .second, .val (.long p2), .second, .val (.int p3), .val (.int p4), .val (.int (0 : Int32)), .val (.int c0), .val (.int c1), .val (.int c2), .val (.int c3), .val (.int c4), .val (.int c5), .val (.ref o6), .unset] [(.int (5 : Int32)), (.ref o6)])) rfl (hb hby at_174)) ?_
    obtain ⟨T12, h12, X12, e12, W12, st12⟩ := stI X11 hx hZ e11 A11 (j := (5 : Int32)) (by simp only [sz_set, sz_new]; decide) (g := (mkF m 176 #[.val (.long p0), .second, .val (.long p1), .second, .val (.long p2), .second, .val (.int p3), .val (.int p4), .val (.int (0 : Int32)), .val (.int c0), .val (.int c1), .val (.int c2), .val (.int c3), .val (.int c4), .val (.int c5), .val (.ref o6), .unset] [(.int ((-2147483648) : Int32)), (.int (5 : Int32)), (.ref o6)])) rfl rfl (hb hby at_176)
    have N12 := Fr.snoc X12 N11 no6
    have Z12 : n0 ≤ h12.size := by rw [W12.size]; exact Z11
    have A12 := A11.same W12
    refine Go.on (g' := (mkF m 177 _ [])) (st12) ?_
    refine Go.on (g' := (mkF m 179 _ [(.ref o6)])) (fun t_ k_ => XS.aload X12.here hx rfl (hb hby at_177) rfl rfl k_) ?_
    refine Go.on (g' := (mkF m 181 _ [(.int (6 : Int32)), (.ref o6)])) (fun t_ k_ => XS.bipush X12.here hx rfl (hb hby at_179) k_) ?_
    refine Go.on (g' := (mkF m 183 _ [(.int ((-2147483648) : Int32)), (.int (6 : Int32)), (.ref o6)])) (X12.ldcInt hx hown (mvT hZ (hw _ (List.mem_of_getElem? (i := 6) rfl))) (g := (mkF m 181 #[.val (.long p0), .second, .val (.long p1), .second, .val (.long p2), .second, .val (.int p3), .val (.int p4), .val (.int (0 : Int32)), .val (.int c0), .val (.int c1), .val (.int c2), .val (.int c3), .val (.int c4), .val (.int c5), .val (.ref o6), .unset] [(.int (6 : Int32)), (.ref o6)])) rfl (hb hby at_181)) ?_
    obtain ⟨T13, h13, X13, e13, W13, st13⟩ := stI X12 hx hZ e12 A12 (j := (6 : Int32)) (by simp only [sz_set, sz_new]; decide) (g := (mkF m 183 #[.val (.long p0), .second, .val (.long p1), .second, .val (.long p2), .second, .val (.int p3), .val (.int p4), .val (.int (0 : Int32)), .val (.int c0), .val (.int c1), .val (.int c2), .val (.int c3), .val (.int c4), .val (.int c5), .val (.ref o6), .unset] [(.int ((-2147483648) : Int32)), (.int (6 : Int32)), (.ref o6)])) rfl rfl (hb hby at_183)
    have N13 := Fr.snoc X13 N12 no6
    have Z13 : n0 ≤ h13.size := by rw [W13.size]; exact Z12
    have A13 := A12.same W13
    refine Go.on (g' := (mkF m 184 _ [])) (st13) ?_
    exact tl0 l Z w0 hw [] p0 p1 p2 p3 p4 c0 c1 c2 c3 c4 c5 p e s m below meth c T13 _ X13 hx hby hml hret hlk hown hZ _ e13 n0 N13 o6 _ A13 (by simp only [sz_set, sz_new]; decide)  
  · show Go p e below _ _ (mkF m 70 #[.val (.long p0), .second, .val (.long p1), .second, .val (.long p2), .second, .val (.int p3), .val (.int p4), .val (.int (1 : Int32)), .val (.int c0), .val (.int c1), .val (.int c2), .val (.int c3), .val (.int c4), .val (.int c5), .unset, .unset] [])
    refine Go.on (g' := (mkF m 72 _ [(.int (7 : Int32))])) (fun t_ k_ => XS.bipush X5.here hx rfl (hb hby at_70) k_) ?_
    obtain ⟨T14, h14, cA14, X14, e14, E14, A14, st14⟩ := newP X5 hx hZ (hw _ (List.mem_of_getElem? (i := 5) rfl)) e5 (g := (mkF m 72 #[.val (.long p0), .second, .val (.long p1), .second, .val (.long p2), .second, .val (.int p3), .val (.int p4), .val (.int (1 : Int32)), .val (.int c0), .val (.int c1), .val (.int c2), .val (.int c3), .val (.int c4), .val (.int c5), .unset, .unset] [(.int (7 : Int32))])) rfl (hb hby at_72) (n := (7 : Int32)) rfl (by decide) (cap := 7) (by decide) (by decide) (by decide) (by decide)
    obtain ⟨o14, go14⟩ : ∃ z, z = (h0).size := ⟨_, rfl⟩
    rw [← go14] at A14 st14
    have no14 : n0 ≤ o14 := Nat.le_trans Z0 (Nat.le_of_eq go14.symm)
    have Z14 : n0 ≤ h14.size := Nat.le_trans Z0 E14.1
    refine Go.on (g' := (mkF m 74 _ [(.ref o14)])) (st14) ?_
    refine Go.on (g' := (mkF m 76 #[.val (.long p0), .second, .val (.long p1), .second, .val (.long p2), .second, .val (.int p3), .val (.int p4), .val (.int (1 : Int32)), .val (.int c0), .val (.int c1), .val (.int c2), .val (.int c3), .val (.int c4), .val (.int c5), .val (.ref o14), .unset] [])) (fun t_ k_ => XS.astore X14.here hx rfl (hb hby at_74) rfl rfl (l' := #[.val (.long p0), .second, .val (.long p1), .second, .val (.long p2), .second, .val (.int p3), .val (.int p4), .val (.int (1 : Int32)), .val (.int c0), .val (.int c1), .val (.int c2), .val (.int c3), .val (.int c4), .val (.int c5), .val (.ref o14), .unset]) rfl k_) ?_
    refine Go.on (g' := (mkF m 78 _ [(.ref o14)])) (fun t_ k_ => XS.aload X14.here hx rfl (hb hby at_76) rfl rfl k_) ?_
    refine Go.on (g' := (mkF m 79 _ [(.int (0 : Int32)), (.ref o14)])) (fun t_ k_ => XS.iconst X14.here hx rfl (hb hby at_78) k_) ?_
    refine Go.on (g' := (mkF m 81 _ [(.int (1 : Int32)), (.int (0 : Int32)), (.ref o14)])) (fun t_ k_ => XS.iload X14.here hx rfl (hb hby at_79) rfl k_) ?_
    refine Go.ifc X14 hx hby at_81 (pcT := 89) (pcF := 84) (by decide) (by decide) rfl (fun q => absurd q (by decide)) (fun q => ?_)
    clear q
    show Go p e below _ _ (mkF m 84 _ [(.int (0 : Int32)), (.ref o14)])
    refine Go.on (g' := (mkF m 86 _ [(.int c0), (.int (0 : Int32)), (.ref o14)])) (fun t_ k_ => XS.iload X14.here hx rfl (hb hby at_84) rfl k_) ?_
    refine Go.on (g' := (mkF m 91 _ [(.int c0), (.int (0 : Int32)), (.ref o14)])) (fun t_ k_ => XS.goto X14.here hx rfl (pc0 := 86) (pc' := 91) rfl (hb hby at_86) (by decide) (by decide) k_) ?_
    obtain ⟨T15, h15, X15, e15, W15, st15⟩ := stI X14 hx hZ e14 A14 (j := (0 : Int32)) (by simp only [sz_set, sz_new]; decide) (g := (mkF m 91 #[.val (.long p0), .second, .val (.long p1), .second, .val (.long p2), .second, .val (.int p3), .val (.int p4), .val (.int (1 : Int32)), .val (.int c0), .val (.int c1), .val (.int c2), .val (.int c3), .val (.int c4), .val (.int c5), .val (.ref o14), .unset] [(.int c0), (.int (0 : Int32)), (.ref o14)])) rfl rfl (hb hby at_91)
    have N15 := Fr.snoc X15 N0 no14
    have Z15 : n0 ≤ h15.size := by rw [W15.size]; exact Z14
    have A15 := A14.same W15
    refine Go.on (g' := (mkF m 92 _ [])) (st15) ?_
    refine Go.on (g' := (mkF m 94 _ [(.ref o14)])) (fun t_ k_ => XS.aload X15.here hx rfl (hb hby at_92) rfl rfl k_) ?_
    refine Go.on (g' := (mkF m 95 _ [(.int (1 : Int32)), (.ref o14)])) (fun t_ k_ => XS.iconst X15.here hx rfl (hb hby at_94) k_) ?_
    refine Go.on (g' := (mkF m 97 _ [(.int (1 : Int32)), (.int (1 : Int32)), (.ref o14)])) (fun t_ k_ => XS.iload X15.here hx rfl (hb hby at_95) rfl k_) ?_
    refine Go.on (g' := (mkF m 98 _ [(.int (1 : Int32)), (.int (1 : Int32)), (.int (1 : Int32)), (.ref o14)])) (fun t_ k_ => XS.iconst X15.here hx rfl (hb hby at_97) k_) ?_
    refine Go.icmp X15 hx hby at_98 (pcT := 106) (pcF := 101) (by decide) (by decide) rfl (fun q => ?_) (fun q => absurd q (by decide))
    clear q
    show Go p e below _ _ (mkF m 106 _ [(.int (1 : Int32)), (.ref o14)])
    refine Go.on (g' := (mkF m 108 _ [(.int ((-2147483648) : Int32)), (.int (1 : Int32)), (.ref o14)])) (X15.ldcInt hx hown (mvT hZ (hw _ (List.mem_of_getElem? (i := 6) rfl))) (g := (mkF m 106 #[.val (.long p0), .second, .val (.long p1), .second, .val (.long p2), .second, .val (.int p3), .val (.int p4), .val (.int (1 : Int32)), .val (.int c0), .val (.int c1), .val (.int c2), .val (.int c3), .val (.int c4), .val (.int c5), .val (.ref o14), .unset] [(.int (1 : Int32)), (.ref o14)])) rfl (hb hby at_106)) ?_
    obtain ⟨T16, h16, X16, e16, W16, st16⟩ := stI X15 hx hZ e15 A15 (j := (1 : Int32)) (by simp only [sz_set, sz_new]; decide) (g := (mkF m 108 #[.val (.long p0), .second, .val (.long p1), .second, .val (.long p2), .second, .val (.int p3), .val (.int p4), .val (.int (1 : Int32)), .val (.int c0), .val (.int c1), .val (.int c2), .val (.int c3), .val (.int c4), .val (.int c5), .val (.ref o14), .unset] [(.int ((-2147483648) : Int32)), (.int (1 : Int32)), (.ref o14)])) rfl rfl (hb hby at_108)
    have N16 := Fr.snoc X16 N15 no14
    have Z16 : n0 ≤ h16.size := by rw [W16.size]; exact Z15
    have A16 := A15.same W16
    refine Go.on (g' := (mkF m 109 _ [])) (st16) ?_
    refine Go.on (g' := (mkF m 111 _ [(.ref o14)])) (fun t_ k_ => XS.aload X16.here hx rfl (hb hby at_109) rfl rfl k_) ?_
    refine Go.on (g' := (mkF m 112 _ [(.int (2 : Int32)), (.ref o14)])) (fun t_ k_ => XS.iconst X16.here hx rfl (hb hby at_111) k_) ?_
    refine Go.on (g' := (mkF m 114 _ [(.int (1 : Int32)), (.int (2 : Int32)), (.ref o14)])) (fun t_ k_ => XS.iload X16.here hx rfl (hb hby at_112) rfl k_) ?_
    refine Go.on (g' := (mkF m 115 _ [(.int (2 : Int32)), (.int (1 : Int32)), (.int (2 : Int32)), (.ref o14)])) (fun t_ k_ => XS.iconst X16.here hx rfl (hb hby at_114) k_) ?_
    refine Go.icmp X16 hx hby at_115 (pcT := 123) (pcF := 118) (by decide) (by decide) rfl (fun q => ?_) (fun q => absurd q (by decide))
    clear q
    show Go p e below _ _ (mkF m 123 _ [(.int (2 : Int32)), (.ref o14)])
    refine Go.on (g' := (mkF m 125 _ [(.int ((-2147483648) : Int32)), (.int (2 : Int32)), (.ref o14)])) (X16.ldcInt hx hown (mvT hZ (hw _ (List.mem_of_getElem? (i := 6) rfl))) (g := (mkF m 123 #[.val (.long p0), .second, .val (.long p1), .second, .val (.long p2), .second, .val (.int p3), .val (.int p4), .val (.int (1 : Int32)), .val (.int c0), .val (.int c1), .val (.int c2), .val (.int c3), .val (.int c4), .val (.int c5), .val (.ref o14), .unset] [(.int (2 : Int32)), (.ref o14)])) rfl (hb hby at_123)) ?_
    obtain ⟨T17, h17, X17, e17, W17, st17⟩ := stI X16 hx hZ e16 A16 (j := (2 : Int32)) (by simp only [sz_set, sz_new]; decide) (g := (mkF m 125 #[.val (.long p0), .second, .val (.long p1), .second, .val (.long p2), .second, .val (.int p3), .val (.int p4), .val (.int (1 : Int32)), .val (.int c0), .val (.int c1), .val (.int c2), .val (.int c3), .val (.int c4), .val (.int c5), .val (.ref o14), .unset] [(.int ((-2147483648) : Int32)), (.int (2 : Int32)), (.ref o14)])) rfl rfl (hb hby at_125)
    have N17 := Fr.snoc X17 N16 no14
    have Z17 : n0 ≤ h17.size := by rw [W17.size]; exact Z16
    have A17 := A16.same W17
    refine Go.on (g' := (mkF m 126 _ [])) (st17) ?_
    refine Go.on (g' := (mkF m 128 _ [(.ref o14)])) (fun t_ k_ => XS.aload X17.here hx rfl (hb hby at_126) rfl rfl k_) ?_
    refine Go.on (g' := (mkF m 129 _ [(.int (3 : Int32)), (.ref o14)])) (fun t_ k_ => XS.iconst X17.here hx rfl (hb hby at_128) k_) ?_
    refine Go.on (g' := (mkF m 131 _ [(.int (1 : Int32)), (.int (3 : Int32)), (.ref o14)])) (fun t_ k_ => XS.iload X17.here hx rfl (hb hby at_129) rfl k_) ?_
    refine Go.on (g' := (mkF m 132 _ [(.int (3 : Int32)), (.int (1 : Int32)), (.int (3 : Int32)), (.ref o14)])) (fun t_ k_ => XS.iconst X17.here hx rfl (hb hby at_131) k_) ?_
    refine Go.icmp X17 hx hby at_132 (pcT := 140) (pcF := 135) (by decide) (by decide) rfl (fun q => ?_) (fun q => absurd q (by decide))
    clear q
    show Go p e below _ _ (mkF m 140 _ [(.int (3 : Int32)), (.ref o14)])
    refine Go.on (g' := (mkF m 142 _ [(.int ((-2147483648) : Int32)), (.int (3 : Int32)), (.ref o14)])) (X17.ldcInt hx hown (mvT hZ (hw _ (List.mem_of_getElem? (i := 6) rfl))) (g := (mkF m 140 #[.val (.long p0), .second, .val (.long p1), .second, .val (.long p2), .second, .val (.int p3), .val (.int p4), .val (.int (1 : Int32)), .val (.int c0), .val (.int c1), .val (.int c2), .val (.int c3), .val (.int c4), .val (.int c5), .val (.ref o14), .unset] [(.int (3 : Int32)), (.ref o14)])) rfl (hb hby at_140)) ?_
    obtain ⟨T18, h18, X18, e18, W18, st18⟩ := stI X17 hx hZ e17 A17 (j := (3 : Int32)) (by simp only [sz_set, sz_new]; decide) (g := (mkF m 142 #[.val (.long p0), .second, .val (.long p1), .second, .val (.long p2), .second, .val (.int p3), .val (.int p4), .val (.int (1 : Int32)), .val (.int c0), .val (.int c1), .val (.int c2), .val (.int c3), .val (.int c4), .val (.int c5), .val (.ref o14), .unset] [(.int ((-2147483648) : Int32)), (.int (3 : Int32)), (.ref o14)])) rfl rfl (hb hby at_142)
    have N18 := Fr.snoc X18 N17 no14
    have Z18 : n0 ≤ h18.size := by rw [W18.size]; exact Z17
    have A18 := A17.same W18
    refine Go.on (g' := (mkF m 143 _ [])) (st18) ?_
    refine Go.on (g' := (mkF m 145 _ [(.ref o14)])) (fun t_ k_ => XS.aload X18.here hx rfl (hb hby at_143) rfl rfl k_) ?_
    refine Go.on (g' := (mkF m 146 _ [(.int (4 : Int32)), (.ref o14)])) (fun t_ k_ => XS.iconst X18.here hx rfl (hb hby at_145) k_) ?_
    refine Go.on (g' := (mkF m 148 _ [(.int (1 : Int32)), (.int (4 : Int32)), (.ref o14)])) (fun t_ k_ => XS.iload X18.here hx rfl (hb hby at_146) rfl k_) ?_
    refine Go.on (g' := (mkF m 149 _ [(.int (4 : Int32)), (.int (1 : Int32)), (.int (4 : Int32)), (.ref o14)])) (fun t_ k_ => XS.iconst X18.here hx rfl (hb hby at_148) k_) ?_
    refine Go.icmp X18 hx hby at_149 (pcT := 157) (pcF := 152) (by decide) (by decide) rfl (fun q => ?_) (fun q => absurd q (by decide))
    clear q
    show Go p e below _ _ (mkF m 157 _ [(.int (4 : Int32)), (.ref o14)])
    refine Go.on (g' := (mkF m 159 _ [(.int ((-2147483648) : Int32)), (.int (4 : Int32)), (.ref o14)])) (X18.ldcInt hx hown (mvT hZ (hw _ (List.mem_of_getElem? (i := 6) rfl))) (g := (mkF m 157 #[.val (.long p0), .second, .val (.long p1), .second, .val (.long p2), .second, .val (.int p3), .val (.int p4), .val (.int (1 : Int32)), .val (.int c0), .val (.int c1), .val (.int c2), .val (.int c3), .val (.int c4), .val (.int c5), .val (.ref o14), .unset] [(.int (4 : Int32)), (.ref o14)])) rfl (hb hby at_157)) ?_
    obtain ⟨T19, h19, X19, e19, W19, st19⟩ := stI X18 hx hZ e18 A18 (j := (4 : Int32)) (by simp only [sz_set, sz_new]; decide) (g := (mkF m 159 #[.val (.long p0), .second, .val (.long p1), .second, .val (.long p2), .second, .val (.int p3), .val (.int p4), .val (.int (1 : Int32)), .val (.int c0), .val (.int c1), .val (.int c2), .val (.int c3), .val (.int c4), .val (.int c5), .val (.ref o14), .unset] [(.int ((-2147483648) : Int32)), (.int (4 : Int32)), (.ref o14)])) rfl rfl (hb hby at_159)
    have N19 := Fr.snoc X19 N18 no14
    have Z19 : n0 ≤ h19.size := by rw [W19.size]; exact Z18
    have A19 := A18.same W19
    refine Go.on (g' := (mkF m 160 _ [])) (st19) ?_
    refine Go.on (g' := (mkF m 162 _ [(.ref o14)])) (fun t_ k_ => XS.aload X19.here hx rfl (hb hby at_160) rfl rfl k_) ?_
    refine Go.on (g' := (mkF m 163 _ [(.int (5 : Int32)), (.ref o14)])) (fun t_ k_ => XS.iconst X19.here hx rfl (hb hby at_162) k_) ?_
    refine Go.on (g' := (mkF m 165 _ [(.int (1 : Int32)), (.int (5 : Int32)), (.ref o14)])) (fun t_ k_ => XS.iload X19.here hx rfl (hb hby at_163) rfl k_) ?_
    refine Go.on (g' := (mkF m 166 _ [(.int (5 : Int32)), (.int (1 : Int32)), (.int (5 : Int32)), (.ref o14)])) (fun t_ k_ => XS.iconst X19.here hx rfl (hb hby at_165) k_) ?_
    refine Go.icmp X19 hx hby at_166 (pcT := 174) (pcF := 169) (by decide) (by decide) rfl (fun q => ?_) (fun q => absurd q (by decide))
    clear q
    show Go p e below _ _ (mkF m 174 _ [(.int (5 : Int32)), (.ref o14)])
    refine Go.on (g' := (mkF m 176 _ [(.int ((-2147483648) : Int32)), (.int (5 : Int32)), (.ref o14)])) (X19.ldcInt hx hown (mvT hZ (hw _ (List.mem_of_getElem? (i := 6) rfl))) (g := (mkF m 174 #[.val (.long p0), .second, .val (.long p1), .second, .val (.long p2), .second, .val (.int p3), .val (.int p4), .val (.int (1 : Int32)), .val (.int c0), .val (.int c1), .val (.int c2), .val (.int c3), .val (.int c4), .val (.int c5), .val (.ref o14), .unset] [(.int (5 : Int32)), (.ref o14)])) rfl (hb hby at_174)) ?_
    obtain ⟨T20, h20, X20, e20, W20, st20⟩ := stI X19 hx hZ e19 A19 (j := (5 : Int32)) (by simp only [sz_set, sz_new]; decide) (g := (mkF m 176 #[.val (.long p0), .second, .val (.long p1), .second, .val (.long p2), .second, .val (.int p3), .val (.int p4), .val (.int (1 : Int32)), .val (.int c0), .val (.int c1), .val (.int c2), .val (.int c3), .val (.int c4), .val (.int c5), .val (.ref o14), .unset] [(.int ((-2147483648) : Int32)), (.int (5 : Int32)), (.ref o14)])) rfl rfl (hb hby at_176)
    have N20 := Fr.snoc X20 N19 no14
    have Z20 : n0 ≤ h20.size := by rw [W20.size]; exact Z19
    have A20 := A19.same W20
    refine Go.on (g' := (mkF m 177 _ [])) (st20) ?_
    refine Go.on (g' := (mkF m 179 _ [(.ref o14)])) (fun t_ k_ => XS.aload X20.here hx rfl (hb hby at_177) rfl rfl k_) ?_
    refine Go.on (g' := (mkF m 181 _ [(.int (6 : Int32)), (.ref o14)])) (fun t_ k_ => XS.bipush X20.here hx rfl (hb hby at_179) k_) ?_
    refine Go.on (g' := (mkF m 183 _ [(.int ((-2147483648) : Int32)), (.int (6 : Int32)), (.ref o14)])) (X20.ldcInt hx hown (mvT hZ (hw _ (List.mem_of_getElem? (i := 6) rfl))) (g := (mkF m 181 #[.val (.long p0), .second, .val (.long p1), .second, .val (.long p2), .second, .val (.int p3), .val (.int p4), .val (.int (1 : Int32)), .val (.int c0), .val (.int c1), .val (.int c2), .val (.int c3), .val (.int c4), .val (.int c5), .val (.ref o14), .unset] [(.int (6 : Int32)), (.ref o14)])) rfl (hb hby at_181)) ?_
    obtain ⟨T21, h21, X21, e21, W21, st21⟩ := stI X20 hx hZ e20 A20 (j := (6 : Int32)) (by simp only [sz_set, sz_new]; decide) (g := (mkF m 183 #[.val (.long p0), .second, .val (.long p1), .second, .val (.long p2), .second, .val (.int p3), .val (.int p4), .val (.int (1 : Int32)), .val (.int c0), .val (.int c1), .val (.int c2), .val (.int c3), .val (.int c4), .val (.int c5), .val (.ref o14), .unset] [(.int ((-2147483648) : Int32)), (.int (6 : Int32)), (.ref o14)])) rfl rfl (hb hby at_183)
    have N21 := Fr.snoc X21 N20 no14
    have Z21 : n0 ≤ h21.size := by rw [W21.size]; exact Z20
    have A21 := A20.same W21
    refine Go.on (g' := (mkF m 184 _ [])) (st21) ?_
    exact tl1 l Z w0 hw [] p0 p1 p2 p3 p4 c0 c1 c2 c3 c4 c5 p e s m below meth c T21 _ X21 hx hby hml hret hlk hown hZ _ e21 n0 N21 o14 _ A21 (by simp only [sz_set, sz_new]; decide)  
  · show Go p e below _ _ (mkF m 70 #[.val (.long p0), .second, .val (.long p1), .second, .val (.long p2), .second, .val (.int p3), .val (.int p4), .val (.int (2 : Int32)), .val (.int c0), .val (.int c1), .val (.int c2), .val (.int c3), .val (.int c4), .val (.int c5), .unset, .unset] [])
    refine Go.on (g' := (mkF m 72 _ [(.int (7 : Int32))])) (fun t_ k_ => XS.bipush X5.here hx rfl (hb hby at_70) k_) ?_
    obtain ⟨T22, h22, cA22, X22, e22, E22, A22, st22⟩ := newP X5 hx hZ (hw _ (List.mem_of_getElem? (i := 5) rfl)) e5 (g := (mkF m 72 #[.val (.long p0), .second, .val (.long p1), .second, .val (.long p2), .second, .val (.int p3), .val (.int p4), .val (.int (2 : Int32)), .val (.int c0), .val (.int c1), .val (.int c2), .val (.int c3), .val (.int c4), .val (.int c5), .unset, .unset] [(.int (7 : Int32))])) rfl (hb hby at_72) (n := (7 : Int32)) rfl (by decide) (cap := 7) (by decide) (by decide) (by decide) (by decide)
    obtain ⟨o22, go22⟩ : ∃ z, z = (h0).size := ⟨_, rfl⟩
    rw [← go22] at A22 st22
    have no22 : n0 ≤ o22 := Nat.le_trans Z0 (Nat.le_of_eq go22.symm)
    have Z22 : n0 ≤ h22.size := Nat.le_trans Z0 E22.1
    refine Go.on (g' := (mkF m 74 _ [(.ref o22)])) (st22) ?_
    refine Go.on (g' := (mkF m 76 #[.val (.long p0), .second, .val (.long p1), .second, .val (.long p2), .second, .val (.int p3), .val (.int p4), .val (.int (2 : Int32)), .val (.int c0), .val (.int c1), .val (.int c2), .val (.int c3), .val (.int c4), .val (.int c5), .val (.ref o22), .unset] [])) (fun t_ k_ => XS.astore X22.here hx rfl (hb hby at_74) rfl rfl (l' := #[.val (.long p0), .second, .val (.long p1), .second, .val (.long p2), .second, .val (.int p3), .val (.int p4), .val (.int (2 : Int32)), .val (.int c0), .val (.int c1), .val (.int c2), .val (.int c3), .val (.int c4), .val (.int c5), .val (.ref o22), .unset]) rfl k_) ?_
    refine Go.on (g' := (mkF m 78 _ [(.ref o22)])) (fun t_ k_ => XS.aload X22.here hx rfl (hb hby at_76) rfl rfl k_) ?_
    refine Go.on (g' := (mkF m 79 _ [(.int (0 : Int32)), (.ref o22)])) (fun t_ k_ => XS.iconst X22.here hx rfl (hb hby at_78) k_) ?_
    refine Go.on (g' := (mkF m 81 _ [(.int (2 : Int32)), (.int (0 : Int32)), (.ref o22)])) (fun t_ k_ => XS.iload X22.here hx rfl (hb hby at_79) rfl k_) ?_
    refine Go.ifc X22 hx hby at_81 (pcT := 89) (pcF := 84) (by decide) (by decide) rfl (fun q => absurd q (by decide)) (fun q => ?_)
    clear q
    show Go p e below _ _ (mkF m 84 _ [(.int (0 : Int32)), (.ref o22)])
    refine Go.on (g' := (mkF m 86 _ [(.int c0), (.int (0 : Int32)), (.ref o22)])) (fun t_ k_ => XS.iload X22.here hx rfl (hb hby at_84) rfl k_) ?_
    refine Go.on (g' := (mkF m 91 _ [(.int c0), (.int (0 : Int32)), (.ref o22)])) (fun t_ k_ => XS.goto X22.here hx rfl (pc0 := 86) (pc' := 91) rfl (hb hby at_86) (by decide) (by decide) k_) ?_
    obtain ⟨T23, h23, X23, e23, W23, st23⟩ := stI X22 hx hZ e22 A22 (j := (0 : Int32)) (by simp only [sz_set, sz_new]; decide) (g := (mkF m 91 #[.val (.long p0), .second, .val (.long p1), .second, .val (.long p2), .second, .val (.int p3), .val (.int p4), .val (.int (2 : Int32)), .val (.int c0), .val (.int c1), .val (.int c2), .val (.int c3), .val (.int c4), .val (.int c5), .val (.ref o22), .unset] [(.int c0), (.int (0 : Int32)), (.ref o22)])) rfl rfl (hb hby at_91)
    have N23 := Fr.snoc X23 N0 no22
    have Z23 : n0 ≤ h23.size := by rw [W23.size]; exact Z22
    have A23 := A22.same W23
    refine Go.on (g' := (mkF m 92 _ [])) (st23) ?_
    refine Go.on (g' := (mkF m 94 _ [(.ref o22)])) (fun t_ k_ => XS.aload X23.here hx rfl (hb hby at_92) rfl rfl k_) ?_
    refine Go.on (g' := (mkF m 95 _ [(.int (1 : Int32)), (.ref o22)])) (fun t_ k_ => XS.iconst X23.here hx rfl (hb hby at_94) k_) ?_
    refine Go.on (g' := (mkF m 97 _ [(.int (2 : Int32)), (.int (1 : Int32)), (.ref o22)])) (fun t_ k_ => XS.iload X23.here hx rfl (hb hby at_95) rfl k_) ?_
    refine Go.on (g' := (mkF m 98 _ [(.int (1 : Int32)), (.int (2 : Int32)), (.int (1 : Int32)), (.ref o22)])) (fun t_ k_ => XS.iconst X23.here hx rfl (hb hby at_97) k_) ?_
    refine Go.icmp X23 hx hby at_98 (pcT := 106) (pcF := 101) (by decide) (by decide) rfl (fun q => absurd q (by decide)) (fun q => ?_)
    clear q
    show Go p e below _ _ (mkF m 101 _ [(.int (1 : Int32)), (.ref o22)])
    refine Go.on (g' := (mkF m 103 _ [(.int c1), (.int (1 : Int32)), (.ref o22)])) (fun t_ k_ => XS.iload X23.here hx rfl (hb hby at_101) rfl k_) ?_
    refine Go.on (g' := (mkF m 108 _ [(.int c1), (.int (1 : Int32)), (.ref o22)])) (fun t_ k_ => XS.goto X23.here hx rfl (pc0 := 103) (pc' := 108) rfl (hb hby at_103) (by decide) (by decide) k_) ?_
    obtain ⟨T24, h24, X24, e24, W24, st24⟩ := stI X23 hx hZ e23 A23 (j := (1 : Int32)) (by simp only [sz_set, sz_new]; decide) (g := (mkF m 108 #[.val (.long p0), .second, .val (.long p1), .second, .val (.long p2), .second, .val (.int p3), .val (.int p4), .val (.int (2 : Int32)), .val (.int c0), .val (.int c1), .val (.int c2), .val (.int c3), .val (.int c4), .val (.int c5), .val (.ref o22), .unset] [(.int c1), (.int (1 : Int32)), (.ref o22)])) rfl rfl (hb hby at_108)
    have N24 := Fr.snoc X24 N23 no22
    have Z24 : n0 ≤ h24.size := by rw [W24.size]; exact Z23
    have A24 := A23.same W24
    refine Go.on (g' := (mkF m 109 _ [])) (st24) ?_
    refine Go.on (g' := (mkF m 111 _ [(.ref o22)])) (fun t_ k_ => XS.aload X24.here hx rfl (hb hby at_109) rfl rfl k_) ?_
    refine Go.on (g' := (mkF m 112 _ [(.int (2 : Int32)), (.ref o22)])) (fun t_ k_ => XS.iconst X24.here hx rfl (hb hby at_111) k_) ?_
    refine Go.on (g' := (mkF m 114 _ [(.int (2 : Int32)), (.int (2 : Int32)), (.ref o22)])) (fun t_ k_ => XS.iload X24.here hx rfl (hb hby at_112) rfl k_) ?_
    refine Go.on (g' := (mkF m 115 _ [(.int (2 : Int32)), (.int (2 : Int32)), (.int (2 : Int32)), (.ref o22)])) (fun t_ k_ => XS.iconst X24.here hx rfl (hb hby at_114) k_) ?_
    refine Go.icmp X24 hx hby at_115 (pcT := 123) (pcF := 118) (by decide) (by decide) rfl (fun q => ?_) (fun q => absurd q (by decide))
    clear q
    show Go p e below _ _ (mkF m 123 _ [(.int (2 : Int32)), (.ref o22)])
    refine Go.on (g' := (mkF m 125 _ [(.int ((-2147483648) : Int32)), (.int (2 : Int32)), (.ref o22)])) (X24.ldcInt hx hown (mvT hZ (hw _ (List.mem_of_getElem? (i := 6) rfl))) (g := (mkF m 123 #[.val (.long p0), .second, .val (.long p1), .second, .val (.long p2), .second, .val (.int p3), .val (.int p4), .val (.int (2 : Int32)), .val (.int c0), .val (.int c1), .val (.int c2), .val (.int c3), .val (.int c4), .val (.int c5), .val (.ref o22), .unset] [(.int (2 : Int32)), (.ref o22)])) rfl (hb hby at_123)) ?_
    obtain ⟨T25, h25, X25, e25, W25, st25⟩ := stI X24 hx hZ e24 A24 (j := (2 : Int32)) (by simp only [sz_set, sz_new]; decide) (g := (mkF m 125 #[.val (.long p0), .second, .val (.long p1), .second, .val (.long p2), .second, .val (.int p3), .val (.int p4), .val (.int (2 : Int32)), .val (.int c0), .val (.int c1), .val (.int c2), .val (.int c3), .val (.int c4), .val (.int c5), .val (.ref o22), .unset] [(.int ((-2147483648) : Int32)), (.int (2 : Int32)), (.ref o22)])) rfl rfl (hb hby at_125)
    have N25 := Fr.snoc X25 N24 no22
    have Z25 : n0 ≤ h25.size := by rw [W25.size]; exact Z24
    have A25 := A24.same W25
    refine Go.on (g' := (mkF m 126 _ [])) (st25) ?_
    refine Go.on (g' := (mkF m 128 _ [(.ref o22)])) (fun t_ k_ => XS.aload X25.here hx rfl (hb hby at_126) rfl rfl k_) ?_
    refine Go.on (g' := (mkF m 129 _ [(.int (3 : Int32)), (.ref o22)])) (fun t_ k_ => XS.iconst X25.here hx rfl (hb hby at_128) k_) ?_
    refine Go.on (g' := (mkF m 131 _ [(.int (2 : Int32)), (.int (3 : Int32)), (.ref o22)])) (fun t_ k_ => XS.iload X25.here hx rfl (hb hby at_129) rfl k_) ?_
    refine Go.on (g' := (mkF m 132 _ [(.int (3 : Int32)), (.int (2 : Int32)), (.int (3 : Int32)), (.ref o22)])) (fun t_ k_ => XS.iconst X25.here hx rfl (hb hby at_131) k_) ?_
    refine Go.icmp X25 hx hby at_132 (pcT := 140) (pcF := 135) (by decide) (by decide) rfl (fun q => ?_) (fun q => absurd q (by decide))
    clear q
    show Go p e below _ _ (mkF m 140 _ [(.int (3 : Int32)), (.ref o22)])
    refine Go.on (g' := (mkF m 142 _ [(.int ((-2147483648) : Int32)), (.int (3 : Int32)), (.ref o22)])) (X25.ldcInt hx hown (mvT hZ (hw _ (List.mem_of_getElem? (i := 6) rfl))) (g := (mkF m 140 #[.val (.long p0), .second, .val (.long p1), .second, .val (.long p2), .second, .val (.int p3), .val (.int p4), .val (.int (2 : Int32)), .val (.int c0), .val (.int c1), .val (.int c2), .val (.int c3), .val (.int c4), .val (.int c5), .val (.ref o22), .unset] [(.int (3 : Int32)), (.ref o22)])) rfl (hb hby at_140)) ?_
    obtain ⟨T26, h26, X26, e26, W26, st26⟩ := stI X25 hx hZ e25 A25 (j := (3 : Int32)) (by simp only [sz_set, sz_new]; decide) (g := (mkF m 142 #[.val (.long p0), .second, .val (.long p1), .second, .val (.long p2), .second, .val (.int p3), .val (.int p4), .val (.int (2 : Int32)), .val (.int c0), .val (.int c1), .val (.int c2), .val (.int c3), .val (.int c4), .val (.int c5), .val (.ref o22), .unset] [(.int ((-2147483648) : Int32)), (.int (3 : Int32)), (.ref o22)])) rfl rfl (hb hby at_142)
    have N26 := Fr.snoc X26 N25 no22
    have Z26 : n0 ≤ h26.size := by rw [W26.size]; exact Z25
    have A26 := A25.same W26
    refine Go.on (g' := (mkF m 143 _ [])) (st26) ?_
    refine Go.on (g' := (mkF m 145 _ [(.ref o22)])) (fun t_ k_ => XS.aload X26.here hx rfl (hb hby at_143) rfl rfl k_) ?_
    refine Go.on (g' := (mkF m 146 _ [(.int (4 : Int32)), (.ref o22)])) (fun t_ k_ => XS.iconst X26.here hx rfl (hb hby at_145) k_) ?_
    refine Go.on (g' := (mkF m 148 _ [(.int (2 : Int32)), (.int (4 : Int32)), (.ref o22)])) (fun t_ k_ => XS.iload X26.here hx rfl (hb hby at_146) rfl k_) ?_
    refine Go.on (g' := (mkF m 149 _ [(.int (4 : Int32)), (.int (2 : Int32)), (.int (4 : Int32)), (.ref o22)])) (fun t_ k_ => XS.iconst X26.here hx rfl (hb hby at_148) k_) ?_
    refine Go.icmp X26 hx hby at_149 (pcT := 157) (pcF := 152) (by decide) (by decide) rfl (fun q => ?_) (fun q => absurd q (by decide))
    clear q
    show Go p e below _ _ (mkF m 157 _ [(.int (4 : Int32)), (.ref o22)])
    refine Go.on (g' := (mkF m 159 _ [(.int ((-2147483648) : Int32)), (.int (4 : Int32)), (.ref o22)])) (X26.ldcInt hx hown (mvT hZ (hw _ (List.mem_of_getElem? (i := 6) rfl))) (g := (mkF m 157 #[.val (.long p0), .second, .val (.long p1), .second, .val (.long p2), .second, .val (.int p3), .val (.int p4), .val (.int (2 : Int32)), .val (.int c0), .val (.int c1), .val (.int c2), .val (.int c3), .val (.int c4), .val (.int c5), .val (.ref o22), .unset] [(.int (4 : Int32)), (.ref o22)])) rfl (hb hby at_157)) ?_
    obtain ⟨T27, h27, X27, e27, W27, st27⟩ := stI X26 hx hZ e26 A26 (j := (4 : Int32)) (by simp only [sz_set, sz_new]; decide) (g := (mkF m 159 #[.val (.long p0), .second, .val (.long p1), .second, .val (.long p2), .second, .val (.int p3), .val (.int p4), .val (.int (2 : Int32)), .val (.int c0), .val (.int c1), .val (.int c2), .val (.int c3), .val (.int c4), .val (.int c5), .val (.ref o22), .unset] [(.int ((-2147483648) : Int32)), (.int (4 : Int32)), (.ref o22)])) rfl rfl (hb hby at_159)
    have N27 := Fr.snoc X27 N26 no22
    have Z27 : n0 ≤ h27.size := by rw [W27.size]; exact Z26
    have A27 := A26.same W27
    refine Go.on (g' := (mkF m 160 _ [])) (st27) ?_
    refine Go.on (g' := (mkF m 162 _ [(.ref o22)])) (fun t_ k_ => XS.aload X27.here hx rfl (hb hby at_160) rfl rfl k_) ?_
    refine Go.on (g' := (mkF m 163 _ [(.int (5 : Int32)), (.ref o22)])) (fun t_ k_ => XS.iconst X27.here hx rfl (hb hby at_162) k_) ?_
    refine Go.on (g' := (mkF m 165 _ [(.int (2 : Int32)), (.int (5 : Int32)), (.ref o22)])) (fun t_ k_ => XS.iload X27.here hx rfl (hb hby at_163) rfl k_) ?_
    refine Go.on (g' := (mkF m 166 _ [(.int (5 : Int32)), (.int (2 : Int32)), (.int (5 : Int32)), (.ref o22)])) (fun t_ k_ => XS.iconst X27.here hx rfl (hb hby at_165) k_) ?_
    refine Go.icmp X27 hx hby at_166 (pcT := 174) (pcF := 169) (by decide) (by decide) rfl (fun q => ?_) (fun q => absurd q (by decide))
    clear q
    show Go p e below _ _ (mkF m 174 _ [(.int (5 : Int32)), (.ref o22)])
    refine Go.on (g' := (mkF m 176 _ [(.int ((-2147483648) : Int32)), (.int (5 : Int32)), (.ref o22)])) (X27.ldcInt hx hown (mvT hZ (hw _ (List.mem_of_getElem? (i := 6) rfl))) (g := (mkF m 174 #[.val (.long p0), .second, .val (.long p1), .second, .val (.long p2), .second, .val (.int p3), .val (.int p4), .val (.int (2 : Int32)), .val (.int c0), .val (.int c1), .val (.int c2), .val (.int c3), .val (.int c4), .val (.int c5), .val (.ref o22), .unset] [(.int (5 : Int32)), (.ref o22)])) rfl (hb hby at_174)) ?_
    obtain ⟨T28, h28, X28, e28, W28, st28⟩ := stI X27 hx hZ e27 A27 (j := (5 : Int32)) (by simp only [sz_set, sz_new]; decide) (g := (mkF m 176 #[.val (.long p0), .second, .val (.long p1), .second, .val (.long p2), .second, .val (.int p3), .val (.int p4), .val (.int (2 : Int32)), .val (.int c0), .val (.int c1), .val (.int c2), .val (.int c3), .val (.int c4), .val (.int c5), .val (.ref o22), .unset] [(.int ((-2147483648) : Int32)), (.int (5 : Int32)), (.ref o22)])) rfl rfl (hb hby at_176)
    have N28 := Fr.snoc X28 N27 no22
    have Z28 : n0 ≤ h28.size := by rw [W28.size]; exact Z27
    have A28 := A27.same W28
    refine Go.on (g' := (mkF m 177 _ [])) (st28) ?_
    refine Go.on (g' := (mkF m 179 _ [(.ref o22)])) (fun t_ k_ => XS.aload X28.here hx rfl (hb hby at_177) rfl rfl k_) ?_
    refine Go.on (g' := (mkF m 181 _ [(.int (6 : Int32)), (.ref o22)])) (fun t_ k_ => XS.bipush X28.here hx rfl (hb hby at_179) k_) ?_
    refine Go.on (g' := (mkF m 183 _ [(.int ((-2147483648) : Int32)), (.int (6 : Int32)), (.ref o22)])) (X28.ldcInt hx hown (mvT hZ (hw _ (List.mem_of_getElem? (i := 6) rfl))) (g := (mkF m 181 #[.val (.long p0), .second, .val (.long p1), .second, .val (.long p2), .second, .val (.int p3), .val (.int p4), .val (.int (2 : Int32)), .val (.int c0), .val (.int c1), .val (.int c2), .val (.int c3), .val (.int c4), .val (.int c5), .val (.ref o22), .unset] [(.int (6 : Int32)), (.ref o22)])) rfl (hb hby at_181)) ?_
    obtain ⟨T29, h29, X29, e29, W29, st29⟩ := stI X28 hx hZ e28 A28 (j := (6 : Int32)) (by simp only [sz_set, sz_new]; decide) (g := (mkF m 183 #[.val (.long p0), .second, .val (.long p1), .second, .val (.long p2), .second, .val (.int p3), .val (.int p4), .val (.int (2 : Int32)), .val (.int c0), .val (.int c1), .val (.int c2), .val (.int c3), .val (.int c4), .val (.int c5), .val (.ref o22), .unset] [(.int ((-2147483648) : Int32)), (.int (6 : Int32)), (.ref o22)])) rfl rfl (hb hby at_183)
    have N29 := Fr.snoc X29 N28 no22
    have Z29 : n0 ≤ h29.size := by rw [W29.size]; exact Z28
    have A29 := A28.same W29
    refine Go.on (g' := (mkF m 184 _ [])) (st29) ?_
    exact tl2 l Z w0 hw [] p0 p1 p2 p3 p4 c0 c1 c2 c3 c4 c5 p e s m below meth c T29 _ X29 hx hby hml hret hlk hown hZ _ e29 n0 N29 o22 _ A29 (by simp only [sz_set, sz_new]; decide) ((get_miss (by decide) (by decide) (by decide)).trans ((get_miss (by decide) (by decide) (by decide)).trans ((get_miss (by decide) (by decide) (by decide)).trans ((get_miss (by decide) (by decide) (by decide)).trans ((get_miss (by decide) (by decide) (by decide)).trans (get_hit (by simp only [sz_set, sz_new]; decide) rfl)))))) 
  · show Go p e below _ _ (mkF m 70 #[.val (.long p0), .second, .val (.long p1), .second, .val (.long p2), .second, .val (.int p3), .val (.int p4), .val (.int (3 : Int32)), .val (.int c0), .val (.int c1), .val (.int c2), .val (.int c3), .val (.int c4), .val (.int c5), .unset, .unset] [])
    refine Go.on (g' := (mkF m 72 _ [(.int (7 : Int32))])) (fun t_ k_ => XS.bipush X5.here hx rfl (hb hby at_70) k_) ?_
    obtain ⟨T30, h30, cA30, X30, e30, E30, A30, st30⟩ := newP X5 hx hZ (hw _ (List.mem_of_getElem? (i := 5) rfl)) e5 (g := (mkF m 72 #[.val (.long p0), .second, .val (.long p1), .second, .val (.long p2), .second, .val (.int p3), .val (.int p4), .val (.int (3 : Int32)), .val (.int c0), .val (.int c1), .val (.int c2), .val (.int c3), .val (.int c4), .val (.int c5), .unset, .unset] [(.int (7 : Int32))])) rfl (hb hby at_72) (n := (7 : Int32)) rfl (by decide) (cap := 7) (by decide) (by decide) (by decide) (by decide)
    obtain ⟨o30, go30⟩ : ∃ z, z = (h0).size := ⟨_, rfl⟩
    rw [← go30] at A30 st30
    have no30 : n0 ≤ o30 := Nat.le_trans Z0 (Nat.le_of_eq go30.symm)
    have Z30 : n0 ≤ h30.size := Nat.le_trans Z0 E30.1
    refine Go.on (g' := (mkF m 74 _ [(.ref o30)])) (st30) ?_
    refine Go.on (g' := (mkF m 76 #[.val (.long p0), .second, .val (.long p1), .second, .val (.long p2), .second, .val (.int p3), .val (.int p4), .val (.int (3 : Int32)), .val (.int c0), .val (.int c1), .val (.int c2), .val (.int c3), .val (.int c4), .val (.int c5), .val (.ref o30), .unset] [])) (fun t_ k_ => XS.astore X30.here hx rfl (hb hby at_74) rfl rfl (l' := #[.val (.long p0), .second, .val (.long p1), .second, .val (.long p2), .second, .val (.int p3), .val (.int p4), .val (.int (3 : Int32)), .val (.int c0), .val (.int c1), .val (.int c2), .val (.int c3), .val (.int c4), .val (.int c5), .val (.ref o30), .unset]) rfl k_) ?_
    refine Go.on (g' := (mkF m 78 _ [(.ref o30)])) (fun t_ k_ => XS.aload X30.here hx rfl (hb hby at_76) rfl rfl k_) ?_
    refine Go.on (g' := (mkF m 79 _ [(.int (0 : Int32)), (.ref o30)])) (fun t_ k_ => XS.iconst X30.here hx rfl (hb hby at_78) k_) ?_
    refine Go.on (g' := (mkF m 81 _ [(.int (3 : Int32)), (.int (0 : Int32)), (.ref o30)])) (fun t_ k_ => XS.iload X30.here hx rfl (hb hby at_79) rfl k_) ?_
    refine Go.ifc X30 hx hby at_81 (pcT := 89) (pcF := 84) (by decide) (by decide) rfl (fun q => absurd q (by decide)) (fun q => ?_)
    clear q
    show Go p e below _ _ (mkF m 84 _ [(.int (0 : Int32)), (.ref o30)])
    refine Go.on (g' := (mkF m 86 _ [(.int c0), (.int (0 : Int32)), (.ref o30)])) (fun t_ k_ => XS.iload X30.here hx rfl (hb hby at_84) rfl k_) ?_
    refine Go.on (g' := (mkF m 91 _ [(.int c0), (.int (0 : Int32)), (.ref o30)])) (fun t_ k_ => XS.goto X30.here hx rfl (pc0 := 86) (pc' := 91) rfl (hb hby at_86) (by decide) (by decide) k_) ?_
    obtain ⟨T31, h31, X31, e31, W31, st31⟩ := stI X30 hx hZ e30 A30 (j := (0 : Int32)) (by simp only [sz_set, sz_new]; decide) (g := (mkF m 91 #[.val (.long p0), .second, .val (.long p1), .second, .val (.long p2), .second, .val (.int p3), .val (.int p4), .val (.int (3 : Int32)), .val (.int c0), .val (.int c1), .val (.int c2), .val (.int c3), .val (.int c4), .val (.int c5), .val (.ref o30), .unset] [(.int c0), (.int (0 : Int32)), (.ref o30)])) rfl rfl (hb hby at_91)
    have N31 := Fr.snoc X31 N0 no30
    have Z31 : n0 ≤ h31.size := by rw [W31.size]; exact Z30
    have A31 := A30.same W31
    refine Go.on (g' := (mkF m 92 _ [])) (st31) ?_
    refine Go.on (g' := (mkF m 94 _ [(.ref o30)])) (fun t_ k_ => XS.aload X31.here hx rfl (hb hby at_92) rfl rfl k_) ?_
    refine Go.on (g' := (mkF m 95 _ [(.int (1 : Int32)), (.ref o30)])) (fun t_ k_ => XS.iconst X31.here hx rfl (hb hby at_94) k_) ?_
    refine Go.on (g' := (mkF m 97 _ [(.int (3 : Int32)), (.int (1 : Int32)), (.ref o30)])) (fun t_ k_ => XS.iload X31.here hx rfl (hb hby at_95) rfl k_) ?_
    refine Go.on (g' := (mkF m 98 _ [(.int (1 : Int32)), (.int (3 : Int32)), (.int (1 : Int32)), (.ref o30)])) (fun t_ k_ => XS.iconst X31.here hx rfl (hb hby at_97) k_) ?_
    refine Go.icmp X31 hx hby at_98 (pcT := 106) (pcF := 101) (by decide) (by decide) rfl (fun q => absurd q (by decide)) (fun q => ?_)
    clear q
    show Go p e below _ _ (mkF m 101 _ [(.int (1 : Int32)), (.ref o30)])
    refine Go.on (g' := (mkF m 103 _ [(.int c1), (.int (1 : Int32)), (.ref o30)])) (fun t_ k_ => XS.iload X31.here hx rfl (hb hby at_101) rfl k_) ?_
    refine Go.on (g' := (mkF m 108 _ [(.int c1), (.int (1 : Int32)), (.ref o30)])) (fun t_ k_ => XS.goto X31.here hx rfl (pc0 := 103) (pc' := 108) rfl (hb hby at_103) (by decide) (by decide) k_) ?_
    obtain ⟨T32, h32, X32, e32, W32, st32⟩ := stI X31 hx hZ e31 A31 (j := (1 : Int32)) (by simp only [sz_set, sz_new]; decide) (g := (mkF m 108 #[.val (.long p0), .second, .val (.long p1), .second, .val (.long p2), .second, .val (.int p3), .val (.int p4), .val (.int (3 : Int32)), .val (.int c0), .val (.int c1), .val (.int c2), .val (.int c3), .val (.int c4), .val (.int c5), .val (.ref o30), .unset] [(.int c1), (.int (1 : Int32)), (.ref o30)])) rfl rfl (hb hby at_108)
    have N32 := Fr.snoc X32 N31 no30
    have Z32 : n0 ≤ h32.size := by rw [W32.size]; exact Z31
    have A32 := A31.same W32
    refine Go.on (g' := (mkF m 109 _ [])) (st32) ?_
    refine Go.on (g' := (mkF m 111 _ [(.ref o30)])) (fun t_ k_ => XS.aload X32.here hx rfl (hb hby at_109) rfl rfl k_) ?_
    refine Go.on (g' := (mkF m 112 _ [(.int (2 : Int32)), (.ref o30)])) (fun t_ k_ => XS.iconst X32.here hx rfl (hb hby at_111) k_) ?_
    refine Go.on (g' := (mkF m 114 _ [(.int (3 : Int32)), (.int (2 : Int32)), (.ref o30)])) (fun t_ k_ => XS.iload X32.here hx rfl (hb hby at_112) rfl k_) ?_
    refine Go.on (g' := (mkF m 115 _ [(.int (2 : Int32)), (.int (3 : Int32)), (.int (2 : Int32)), (.ref o30)])) (fun t_ k_ => XS.iconst X32.here hx rfl (hb hby at_114) k_) ?_
    refine Go.icmp X32 hx hby at_115 (pcT := 123) (pcF := 118) (by decide) (by decide) rfl (fun q => absurd q (by decide)) (fun q => ?_)
    clear q
    show Go p e below _ _ (mkF m 118 _ [(.int (2 : Int32)), (.ref o30)])
    refine Go.on (g' := (mkF m 120 _ [(.int c2), (.int (2 : Int32)), (.ref o30)])) (fun t_ k_ => XS.iload X32.here hx rfl (hb hby at_118) rfl k_) ?_
    refine Go.on (g' := (mkF m 125 _ [(.int c2), (.int (2 : Int32)), (.ref o30)])) (fun t_ k_ => XS.goto X32.here hx rfl (pc0 := 120) (pc' := 125) rfl (hb hby at_120) (by decide) (by decide) k_) ?_
    obtain ⟨T33, h33, X33, e33, W33, st33⟩ := stI X32 hx hZ e32 A32 (j := (2 : Int32)) (by simp only [sz_set, sz_new]; decide) (g := (mkF m 125 #[.val (.long p0), .second, .val (.long p1), .second, .val (.long p2), .second, .val (.int p3), .val (.int p4), .val (.int (3 : Int32)), .val (.int c0), .val (.int c1), .val (.int c2), .val (.int c3), .val (.int c4), .val (.int c5), .val (.ref o30), .unset] [(.int c2), (.int (2 : Int32)), (.ref o30)])) rfl rfl (hb hby at_125)
    have N33 := Fr.snoc X33 N32 no30
    have Z33 : n0 ≤ h33.size := by rw [W33.size]; exact Z32
    have A33 := A32.same W33
    refine Go.on (g' := (mkF m 126 _ [])) (st33) ?_
    refine Go.on (g' := (mkF m 128 _ [(.ref o30)])) (fun t_ k_ => XS.aload X33.here hx rfl (hb hby at_126) rfl rfl k_) ?_
    refine Go.on (g' := (mkF m 129 _ [(.int (3 : Int32)), (.ref o30)])) (fun t_ k_ => XS.iconst X33.here hx rfl (hb hby at_128) k_) ?_
    refine Go.on (g' := (mkF m 131 _ [(.int (3 : Int32)), (.int (3 : Int32)), (.ref o30)])) (fun t_ k_ => XS.iload X33.here hx rfl (hb hby at_129) rfl k_) ?_
    refine Go.on (g' := (mkF m 132 _ [(.int (3 : Int32)), (.int (3 : Int32)), (.int (3 : Int32)), (.ref o30)])) (fun t_ k_ => XS.iconst X33.here hx rfl (hb hby at_131) k_) ?_
    refine Go.icmp X33 hx hby at_132 (pcT := 140) (pcF := 135) (by decide) (by decide) rfl (fun q => ?_) (fun q => absurd q (by decide))
    clear q
    show Go p e below _ _ (mkF m 140 _ [(.int (3 : Int32)), (.ref o30)])
    refine Go.on (g' := (mkF m 142 _ [(.int ((-2147483648) : Int32)), (.int (3 : Int32)), (.ref o30)])) (X33.ldcInt hx hown (mvT hZ (hw _ (List.mem_of_getElem? (i := 6) rfl))) (g := (mkF m 140 #[.val (.long p0), .second, .val (.long p1), .second, .val (.long p2), .second, .val (.int p3), .val (.int p4), .val (.int (3 : Int32)), .val (.int c0), .val (.int c1), .val (.int c2), .val (.int c3), .val (.int c4), .val (.int c5), .val (.ref o30), .unset] [(.int (3 : Int32)), (.ref o30)])) rfl (hb hby at_140)) ?_
    obtain ⟨T34, h34, X34, e34, W34, st34⟩ := stI X33 hx hZ e33 A33 (j := (3 : Int32)) (by simp only [sz_set, sz_new]; decide) (g := (mkF m 142 #[.val (.long p0), .second, .val (.long p1), .second, .val (.long p2), .second, .val (.int p3), .val (.int p4), .val (.int (3 : Int32)), .val (.int c0), .val (.int c1), .val (.int c2), .val (.int c3), .val (.int c4), .val (.int c5), .val (.ref o30), .unset] [(.int ((-2147483648) : Int32)), (.int (3 : Int32)), (.ref o30)])) rfl rfl (hb hby at_142)
    have N34 := Fr.snoc X34 N33 no30
    have Z34 : n0 ≤ h34.size := by rw [W34.size]; exact Z33
    have A34 := A33.same W34
    refine Go.on (g' := (mkF m 143 _ [])) (st34) ?_
    refine Go.on (g' := (mkF m 145 _ [(.ref o30)])) (fun t_ k_ => XS.aload X34.here hx rfl (hb hby at_143) rfl rfl k_) ?_
    refine Go.on (g' := (mkF m 146 _ [(.int (4 : Int32)), (.ref o30)])) (fun t_ k_ => XS.iconst X34.here hx rfl (hb hby at_145) k_) ?_
    refine Go.on (g' := (mkF m 148 _ [(.int (3 : Int32)), (.int (4 : Int32)), (.ref o30)])) (fun t_ k_ => XS.iload X34.here hx rfl (hb hby at_146) rfl k_) ?_
    refine Go.on (g' := (mkF m 149 _ [(.int (4 : Int32)), (.int (3 : Int32)), (.int (4 : Int32)), (.ref o30)])) (fun t_ k_ => XS.iconst X34.here hx rfl (hb hby at_148) k_) ?_
    refine Go.icmp X34 hx hby at_149 (pcT := 157) (pcF := 152) (by decide) (by decide) rfl (fun q => ?_) (fun q => absurd q (by decide))
    clear q
    show Go p e below _ _ (mkF m 157 _ [(.int (4 : Int32)), (.ref o30)])
    refine Go.on (g' := (mkF m 159 _ [(.int ((-2147483648) : Int32)), (.int (4 : Int32)), (.ref o30)])) (X34.ldcInt hx hown (mvT hZ (hw _ (List.mem_of_getElem? (i := 6) rfl))) (g := (mkF m 157 #[.val (.long p0), .second, .val (.long p1), .second, .val (.long p2), .second, .val (.int p3), .val (.int p4), .val (.int (3 : Int32)), .val (.int c0), .val (.int c1), .val (.int c2), .val (.int c3), .val (.int c4), .val (.int c5), .val (.ref o30), .unset] [(.int (4 : Int32)), (.ref o30)])) rfl (hb hby at_157)) ?_
    obtain ⟨T35, h35, X35, e35, W35, st35⟩ := stI X34 hx hZ e34 A34 (j := (4 : Int32)) (by simp only [sz_set, sz_new]; decide) (g := (mkF m 159 #[.val (.long p0), .second, .val (.long p1), .second, .val (.long p2), .second, .val (.int p3), .val (.int p4), .val (.int (3 : Int32)), .val (.int c0), .val (.int c1), .val (.int c2), .val (.int c3), .val (.int c4), .val (.int c5), .val (.ref o30), .unset] [(.int ((-2147483648) : Int32)), (.int (4 : Int32)), (.ref o30)])) rfl rfl (hb hby at_159)
    have N35 := Fr.snoc X35 N34 no30
    have Z35 : n0 ≤ h35.size := by rw [W35.size]; exact Z34
    have A35 := A34.same W35
    refine Go.on (g' := (mkF m 160 _ [])) (st35) ?_
    refine Go.on (g' := (mkF m 162 _ [(.ref o30)])) (fun t_ k_ => XS.aload X35.here hx rfl (hb hby at_160) rfl rfl k_) ?_
    refine Go.on (g' := (mkF m 163 _ [(.int (5 : Int32)), (.ref o30)])) (fun t_ k_ => XS.iconst X35.here hx rfl (hb hby at_162) k_) ?_
    refine Go.on (g' := (mkF m 165 _ [(.int (3 : Int32)), (.int (5 : Int32)), (.ref o30)])) (fun t_ k_ => XS.iload X35.here hx rfl (hb hby at_163) rfl k_) ?_
    refine Go.on (g' := (mkF m 166 _ [(.int (5 : Int32)), (.int (3 : Int32)), (.int (5 : Int32)), (.ref o30)])) (fun t_ k_ => XS.iconst X35.here hx rfl (hb hby at_165) k_) ?_
    refine Go.icmp X35 hx hby at_166 (pcT := 174) (pcF := 169) (by decide) (by decide) rfl (fun q => ?_) (fun q => absurd q (by decide))
    clear q
    show Go p e below _ _ (mkF m 174 _ [(.int (5 : Int32)), (.ref o30)])
    refine Go.on (g' := (mkF m 176 _ [(.int ((-2147483648) : Int32)), (.int (5 : Int32)), (.ref o30)])) (X35.ldcInt hx hown (mvT hZ (hw _ (List.mem_of_getElem? (i := 6) rfl))) (g := (mkF m 174 #[.val (.long p0), .second, .val (.long p1), .second, .val (.long p2), .second, .val (.int p3), .val (.int p4), .val (.int (3 : Int32)), .val (.int c0), .val (.int c1), .val (.int c2), .val (.int c3), .val (.int c4), .val (.int c5), .val (.ref o30), .unset] [(.int (5 : Int32)), (.ref o30)])) rfl (hb hby at_174)) ?_
    obtain ⟨T36, h36, X36, e36, W36, st36⟩ := stI X35 hx hZ e35 A35 (j := (5 : Int32)) (by simp only [sz_set, sz_new]; decide) (g := (mkF m 176 #[.val (.long p0), .second, .val (.long p1), .second, .val (.long p2), .second, .val (.int p3), .val (.int p4), .val (.int (3 : Int32)), .val (.int c0), .val (.int c1), .val (.int c2), .val (.int c3), .val (.int c4), .val (.int c5), .val (.ref o30), .unset] [(.int ((-2147483648) : Int32)), (.int (5 : Int32)), (.ref o30)])) rfl rfl (hb hby at_176)
    have N36 := Fr.snoc X36 N35 no30
    have Z36 : n0 ≤ h36.size := by rw [W36.size]; exact Z35
    have A36 := A35.same W36
    refine Go.on (g' := (mkF m 177 _ [])) (st36) ?_
    refine Go.on (g' := (mkF m 179 _ [(.ref o30)])) (fun t_ k_ => XS.aload X36.here hx rfl (hb hby at_177) rfl rfl k_) ?_
    refine Go.on (g' := (mkF m 181 _ [(.int (6 : Int32)), (.ref o30)])) (fun t_ k_ => XS.bipush X36.here hx rfl (hb hby at_179) k_) ?_
    refine Go.on (g' := (mkF m 183 _ [(.int ((-2147483648) : Int32)), (.int (6 : Int32)), (.ref o30)])) (X36.ldcInt hx hown (mvT hZ (hw _ (List.mem_of_getElem? (i := 6) rfl))) (g := (mkF m 181 #[.val (.long p0), .second, .val (.long p1), .second, .val (.long p2), .second, .val (.int p3), .val (.int p4), .val (.int (3 : Int32)), .val (.int c0), .val (.int c1), .val (.int c2), .val (.int c3), .val (.int c4), .val (.int c5), .val (.ref o30), .unset] [(.int (6 : Int32)), (.ref o30)])) rfl (hb hby at_181)) ?_
    obtain ⟨T37, h37, X37, e37, W37, st37⟩ := stI X36 hx hZ e36 A36 (j := (6 : Int32)) (by simp only [sz_set, sz_new]; decide) (g := (mkF m 183 #[.val (.long p0), .second, .val (.long p1), .second, .val (.long p2), .second, .val (.int p3), .val (.int p4), .val (.int (3 : Int32)), .val (.int c0), .val (.int c1), .val (.int c2), .val (.int c3), .val (.int c4), .val (.int c5), .val (.ref o30), .unset] [(.int ((-2147483648) : Int32)), (.int (6 : Int32)), (.ref o30)])) rfl rfl (hb hby at_183)
    have N37 := Fr.snoc X37 N36 no30
    have Z37 : n0 ≤ h37.size := by rw [W37.size]; exact Z36
    have A37 := A36.same W37
    refine Go.on (g' := (mkF m 184 _ [])) (st37) ?_
    exact tl3 l Z w0 hw [] p0 p1 p2 p3 p4 c0 c1 c2 c3 c4 c5 p e s m below meth c T37 _ X37 hx hby hml hret hlk hown hZ _ e37 n0 N37 o30 _ A37 (by simp only [sz_set, sz_new]; decide) ((get_miss (by decide) (by decide) (by decide)).trans ((get_miss (by decide) (by decide) (by decide)).trans ((get_miss (by decide) (by decide) (by decide)).trans ((get_miss (by decide) (by decide) (by decide)).trans ((get_miss (by decide) (by decide) (by decide)).trans (get_hit (by simp only [sz_set, sz_new]; decide) rfl)))))) ((get_miss (by decide) (by decide) (by decide)).trans ((get_miss (by decide) (by decide) (by decide)).trans ((get_miss (by decide) (by decide) (by decide)).trans ((get_miss (by decide) (by decide) (by decide)).trans (get_hit (by simp only [sz_set, sz_new]; decide) rfl))))) s2
  · show Go p e below _ _ (mkF m 70 #[.val (.long p0), .second, .val (.long p1), .second, .val (.long p2), .second, .val (.int p3), .val (.int p4), .val (.int (4 : Int32)), .val (.int c0), .val (.int c1), .val (.int c2), .val (.int c3), .val (.int c4), .val (.int c5), .unset, .unset] [])
    refine Go.on (g' := (mkF m 72 _ [(.int (7 : Int32))])) (fun t_ k_ => XS.bipush X5.here hx rfl (hb hby at_70) k_) ?_
    obtain ⟨T38, h38, cA38, X38, e38, E38, A38, st38⟩ := newP X5 hx hZ (hw _ (List.mem_of_getElem? (i := 5) rfl)) e5 (g := (mkF m 72 #[.val (.long p0), .second, .val (.long p1), .second, .val (.long p2), .second, .val (.int p3), .val (.int p4), .val (.int (4 : Int32)), .val (.int c0), .val (.int c1), .val (.int c2), .val (.int c3), .val (.int c4), .val (.int c5), .unset, .unset] [(.int (7 : Int32))])) rfl (hb hby at_72) (n := (7 : Int32)) rfl (by decide) (cap := 7) (by decide) (by decide) (by decide) (by decide)
    obtain ⟨o38, go38⟩ : ∃ z, z = (h0).size := ⟨_, rfl⟩
    rw [← go38] at A38 st38
    have no38 : n0 ≤ o38 := Nat.le_trans Z0 (Nat.le_of_eq go38.symm)
    have Z38 : n0 ≤ h38.size := Nat.le_trans Z0 E38.1
    refine Go.on (g' := (mkF m 74 _ [(.ref o38)])) (st38) ?_
    refine Go.on (g' := (mkF m 76 #[.val (.long p0), .second, .val (.long p1), .second, .val (.long p2), .second, .val (.int p3), .val (.int p4), .val (.int (4 : Int32)), .val (.int c0), .val (.int c1), .val (.int c2), .val (.int c3), .val (.int c4), .val (.int c5), .val (.ref o38), .unset] [])) (fun t_ k_ => XS.astore X38.here hx rfl (hb hby at_74) rfl rfl (l' := #[.val (.long p0), .second, .val (.long p1), .second, .val (.long p2), .second, .val (.int p3), .val (.int p4), .val (.int (4 : Int32)), .val (.int c0), .val (.int c1), .val (.int c2), .val (.int c3), .val (.int c4), .val (.int c5), .val (.ref o38), .unset]) rfl k_) ?_
    refine Go.on (g' := (mkF m 78 _ [(.ref o38)])) (fun t_ k_ => XS.aload X38.here hx rfl (hb hby at_76) rfl rfl k_) ?_
    refine Go.on (g' := (mkF m 79 _ [(.int (0 : Int32)), (.ref o38)])) (fun t_ k_ => XS.iconst X38.here hx rfl (hb hby at_78) k_) ?_
    refine Go.on (g' := (mkF m 81 _ [(.int (4 : Int32)), (.int (0 : Int32)), (.ref o38)])) (fun t_ k_ => XS.iload X38.here hx rfl (hb hby at_79) rfl k_) ?_
    refine Go.ifc X38 hx hby at_81 (pcT := 89) (pcF := 84) (by decide) (by decide) rfl (fun q => absurd q (by decide)) (fun q => ?_)
    clear q
    show Go p e below _ _ (mkF m 84 _ [(.int (0 : Int32)), (.ref o38)])
    refine Go.on (g' := (mkF m 86 _ [(.int c0), (.int (0 : Int32)), (.ref o38)])) (fun t_ k_ => XS.iload X38.here hx rfl (hb hby at_84) rfl k_) ?_
    refine Go.on (g' := (mkF m 91 _ [(.int c0), (.int (0 : Int32)), (.ref o38)])) (fun t_ k_ => XS.goto X38.here hx rfl (pc0 := 86) (pc' := 91) rfl (hb hby at_86) (by decide) (by decide) k_) ?_
    obtain ⟨T39, h39, X39, e39, W39, st39⟩ := stI X38 hx hZ e38 A38 (j := (0 : Int32)) (by simp only [sz_set, sz_new]; decide) (g := (mkF m 91 #[.val (.long p0), .second, .val (.long p1), .second, .val (.long p2), .second, .val (.int p3), .val (.int p4), .val (.int (4 : Int32)), .val (.int c0), .val (.int c1), .val (.int c2), .val (.int c3), .val (.int c4), .val (.int c5), .val (.ref o38), .unset] [(.int c0), (.int (0 : Int32)), (.ref o38)])) rfl rfl (hb hby at_91)
    have N39 := Fr.snoc X39 N0 no38
    have Z39 : n0 ≤ h39.size := by rw [W39.size]; exact Z38
    have A39 := A38.same W39
    refine Go.on (g' := (mkF m 92 _ [])) (st39) ?_
    refine Go.on (g' := (mkF m 94 _ [(.ref o38)])) (fun t_ k_ => XS.aload X39.here hx rfl (hb hby at_92) rfl rfl k_) ?_
    refine Go.on (g' := (mkF m 95 _ [(.int (1 : Int32)), (.ref o38)])) (fun t_ k_ => XS.iconst X39.here hx rfl (hb hby at_94) k_) ?_
    refine Go.on (g' := (mkF m 97 _ [(.int (4 : Int32)), (.int (1 : Int32)), (.ref o38)])) (fun t_ k_ => XS.iload X39.here hx rfl (hb hby at_95) rfl k_) ?_
    refine Go.on (g' := (mkF m 98 _ [(.int (1 : Int32)), (.int (4 : Int32)), (.int (1 : Int32)), (.ref o38)])) (fun t_ k_ => XS.iconst X39.here hx rfl (hb hby at_97) k_) ?_
    refine Go.icmp X39 hx hby at_98 (pcT := 106) (pcF := 101) (by decide) (by decide) rfl (fun q => absurd q (by decide)) (fun q => ?_)
    clear q
    show Go p e below _ _ (mkF m 101 _ [(.int (1 : Int32)), (.ref o38)])
    refine Go.on (g' := (mkF m 103 _ [(.int c1), (.int (1 : Int32)), (.ref o38)])) (fun t_ k_ => XS.iload X39.here hx rfl (hb hby at_101) rfl k_) ?_
    refine Go.on (g' := (mkF m 108 _ [(.int c1), (.int (1 : Int32)), (.ref o38)])) (fun t_ k_ => XS.goto X39.here hx rfl (pc0 := 103) (pc' := 108) rfl (hb hby at_103) (by decide) (by decide) k_) ?_
    obtain ⟨T40, h40, X40, e40, W40, st40⟩ := stI X39 hx hZ e39 A39 (j := (1 : Int32)) (by simp only [sz_set, sz_new]; decide) (g := (mkF m 108 #[.val (.long p0), .second, .val (.long p1), .second, .val (.long p2), .second, .val (.int p3), .val (.int p4), .val (.int (4 : Int32)), .val (.int c0), .val (.int c1), .val (.int c2), .val (.int c3), .val (.int c4), .val (.int c5), .val (.ref o38), .unset] [(.int c1), (.int (1 : Int32)), (.ref o38)])) rfl rfl (hb hby at_108)
    have N40 := Fr.snoc X40 N39 no38
    have Z40 : n0 ≤ h40.size := by rw [W40.size]; exact Z39
    have A40 := A39.same W40
    refine Go.on (g' := (mkF m 109 _ [])) (st40) ?_
    refine Go.on (g' := (mkF m 111 _ [(.ref o38)])) (fun t_ k_ => XS.aload X40.here hx rfl (hb hby at_109) rfl rfl k_) ?_
    refine Go.on (g' := (mkF m 112 _ [(.int (2 : Int32)), (.ref o38)])) (fun t_ k_ => XS.iconst X40.here hx rfl (hb hby at_111) k_) ?_
    refine Go.on (g' := (mkF m 114 _ [(.int (4 : Int32)), (.int (2 : Int32)), (.ref o38)])) (fun t_ k_ => XS.iload X40.here hx rfl (hb hby at_112) rfl k_) ?_
    refine Go.on (g' := (mkF m 115 _ [(.int (2 : Int32)), (.int (4 : Int32)), (.int (2 : Int32)), (.ref o38)])) (fun t_ k_ => XS.iconst X40.here hx rfl (hb hby at_114) k_) ?_
    refine Go.icmp X40 hx hby at_115 (pcT := 123) (pcF := 118) (by decide) (by decide) rfl (fun q => absurd q (by decide)) (fun q => ?_)
    clear q
    show Go p e below _ _ (mkF m 118 _ [(.int (2 : Int32)), (.ref o38)])
    refine Go.on (g' := (mkF m 120 _ [(.int c2), (.int (2 : Int32)), (.ref o38)])) (fun t_ k_ => XS.iload X40.here hx rfl (hb hby at_118) rfl k_) ?_
    refine Go.on (g' := (mkF m 125 _ [(.int c2), (.int (2 : Int32)), (.ref o38)])) (fun t_ k_ => XS.goto X40.here hx rfl (pc0 := 120) (pc' := 125) rfl (hb hby at_120) (by decide) (by decide) k_) ?_
    obtain ⟨T41, h41, X41, e41, W41, st41⟩ := stI X40 hx hZ e40 A40 (j := (2 : Int32)) (by simp only [sz_set, sz_new]; decide) (g := (mkF m 125 #[.val (.long p0), .second, .val (.long p1), .second, .val (.long p2), .second, .val (.int p3), .val (.int p4), .val (.int (4 : Int32)), .val (.int c0), .val (.int c1), .val (.int c2), .val (.int c3), .val (.int c4), .val (.int c5), .val (.ref o38), .unset] [(.int c2), (.int (2 : Int32)), (.ref o38)])) rfl rfl (hb hby at_125)
    have N41 := Fr.snoc X41 N40 no38
    have Z41 : n0 ≤ h41.size := by rw [W41.size]; exact Z40
    have A41 := A40.same W41
    refine Go.on (g' := (mkF m 126 _ [])) (st41) ?_
    refine Go.on (g' := (mkF m 128 _ [(.ref o38)])) (fun t_ k_ => XS.aload X41.here hx rfl (hb hby at_126) rfl rfl k_) ?_
    refine Go.on (g' := (mkF m 129 _ [(.int (3 : Int32)), (.ref o38)])) (fun t_ k_ => XS.iconst X41.here hx rfl (hb hby at_128) k_) ?_
    refine Go.on (g' := (mkF m 131 _ [(.int (4 : Int32)), (.int (3 : Int32)), (.ref o38)])) (fun t_ k_ => XS.iload X41.here hx rfl (hb hby at_129) rfl k_) ?_
    refine Go.on (g' := (mkF m 132 _ [(.int (3 : Int32)), (.int (4 : Int32)), (.int (3 : Int32)), (.ref o38)])) (fun t_ k_ => XS.iconst X41.here hx rfl (hb hby at_131) k_) ?_
    refine Go.icmp X41 hx hby at_132 (pcT := 140) (pcF := 135) (by decide) (by decide) rfl (fun q => absurd q (by decide)) (fun q => ?_)
    clear q
    show Go p e below _ _ (mkF m 135 _ [(.int (3 : Int32)), (.ref o38)])
    refine Go.on (g' := (mkF m 137 _ [(.int c3), (.int (3 : Int32)), (.ref o38)])) (fun t_ k_ => XS.iload X41.here hx rfl (hb hby at_135) rfl k_) ?_
    refine Go.on (g' := (mkF m 142 _ [(.int c3), (.int (3 : Int32)), (.ref o38)])) (fun t_ k_ => XS.goto X41.here hx rfl (pc0 := 137) (pc' := 142) rfl (hb hby at_137) (by decide) (by decide) k_) ?_
    obtain ⟨T42, h42, X42, e42, W42, st42⟩ := stI X41 hx hZ e41 A41 (j := (3 : Int32)) (by simp only [sz_set, sz_new]; decide) (g := (mkF m 142 #[.val (.long p0), .second, .val (.long p1), .second, .val (.long p2), .second, .val (.int p3), .val (.int p4), .val (.int (4 : Int32)), .val (.int c0), .val (.int c1), .val (.int c2), .val (.int c3), .val (.int c4), .val (.int c5), .val (.ref o38), .unset] [(.int c3), (.int (3 : Int32)), (.ref o38)])) rfl rfl (hb hby at_142)
    have N42 := Fr.snoc X42 N41 no38
    have Z42 : n0 ≤ h42.size := by rw [W42.size]; exact Z41
    have A42 := A41.same W42
    refine Go.on (g' := (mkF m 143 _ [])) (st42) ?_
    refine Go.on (g' := (mkF m 145 _ [(.ref o38)])) (fun t_ k_ => XS.aload X42.here hx rfl (hb hby at_143) rfl rfl k_) ?_
    refine Go.on (g' := (mkF m 146 _ [(.int (4 : Int32)), (.ref o38)])) (fun t_ k_ => XS.iconst X42.here hx rfl (hb hby at_145) k_) ?_
    refine Go.on (g' := (mkF m 148 _ [(.int (4 : Int32)), (.int (4 : Int32)), (.ref o38)])) (fun t_ k_ => XS.iload X42.here hx rfl (hb hby at_146) rfl k_) ?_
    refine Go.on (g' := (mkF m 149 _ [(.int (4 : Int32)), (.int (4 : Int32)), (.int (4 : Int32)), (.ref o38)])) (fun t_ k_ => XS.iconst X42.here hx rfl (hb hby at_148) k_) ?_
    refine Go.icmp X42 hx hby at_149 (pcT := 157) (pcF := 152) (by decide) (by decide) rfl (fun q => ?_) (fun q => absurd q (by decide))
    clear q
    show Go p e below _ _ (mkF m 157 _ [(.int (4 : Int32)), (.ref o38)])
    refine Go.on (g' := (mkF m 159 _ [(.int ((-2147483648) : Int32)), (.int (4 : Int32)), (.ref o38)])) (X42.ldcInt hx hown (mvT hZ (hw _ (List.mem_of_getElem? (i := 6) rfl))) (g := (mkF m 157 #[.val (.long p0), .second, .val (.long p1), .second, .val (.long p2), .second, .val (.int p3), .val (.int p4), .val (.int (4 : Int32)), .val (.int c0), .val (.int c1), .val (.int c2), .val (.int c3), .val (.int c4), .val (.int c5), .val (.ref o38), .unset] [(.int (4 : Int32)), (.ref o38)])) rfl (hb hby at_157)) ?_
    obtain ⟨T43, h43, X43, e43, W43, st43⟩ := stI X42 hx hZ e42 A42 (j := (4 : Int32)) (by simp only [sz_set, sz_new]; decide) (g := (mkF m 159 #[.val (.long p0), .second, .val (.long p1), .second, .val (.long p2), .second, .val (.int p3), .val (.int p4), .val (.int (4 : Int32)), .val (.int c0), .val (.int c1), .val (.int c2), .val (.int c3), .val (.int c4), .val (.int c5), .val (.ref o38), .unset] [(.int ((-2147483648) : Int32)), (.int (4 : Int32)), (.ref o38)])) rfl rfl (hb hby at_159)
    have N43 := Fr.snoc X43 N42 no38
    have Z43 : n0 ≤ h43.size := by rw [W43.size]; exact Z42
    have A43 := A42.same W43
    refine Go.on (g' := (mkF m 160 _ [])) (st43) ?_
    refine Go.on (g' := (mkF m 162 _ [(.ref o38)])) (fun t_ k_ => XS.aload X43.here hx rfl (hb hby at_160) rfl rfl k_) ?_
    refine Go.on (g' := (mkF m 163 _ [(.int (5 : Int32)), (.ref o38)])) (fun t_ k_ => XS.iconst X43.here hx rfl (hb hby at_162) k_) ?_
    refine Go.on (g' := (mkF m 165 _ [(.int (4 : Int32)), (.int (5 : Int32)), (.ref o38)])) (fun t_ k_ => XS.iload X43.here hx rfl (hb hby at_163) rfl k_) ?_
    refine Go.on (g' := (mkF m 166 _ [(.int (5 : Int32)), (.int (4 : Int32)), (.int (5 : Int32)), (.ref o38)])) (fun t_ k_ => XS.iconst X43.here hx rfl (hb hby at_165) k_) ?_
    refine Go.icmp X43 hx hby at_166 (pcT := 174) (pcF := 169) (by decide) (by decide) rfl (fun q => ?_) (fun q => absurd q (by decide))
    clear q
    show Go p e below _ _ (mkF m 174 _ [(.int (5 : Int32)), (.ref o38)])
    refine Go.on (g' := (mkF m 176 _ [(.int ((-2147483648) : Int32)), (.int (5 : Int32)), (.ref o38)])) (X43.ldcInt hx hown (mvT hZ (hw _ (List.mem_of_getElem? (i := 6) rfl))) (g := (mkF m 174 #[.val (.long p0), .second, .val (.long p1), .second, .val (.long p2), .second, .val (.int p3), .val (.int p4), .val (.int (4 : Int32)), .val (.int c0), .val (.int c1), .val (.int c2), .val (.int c3), .val (.int c4), .val (.int c5), .val (.ref o38), .unset] [(.int (5 : Int32)), (.ref o38)])) rfl (hb hby at_174)) ?_
    obtain ⟨T44, h44, X44, e44, W44, st44⟩ := stI X43 hx hZ e43 A43 (j := (5 : Int32)) (by simp only [sz_set, sz_new]; decide) (g := (mkF m 176 #[.val (.long p0), .second, .val (.long p1), .second, .val (.long p2), .second, .val (.int p3), .val (.int p4), .val (.int (4 : Int32)), .val (.int c0), .val (.int c1), .val (.int c2), .val (.int c3), .val (.int c4), .val (.int c5), .val (.ref o38), .unset] [(.int ((-2147483648) : Int32)), (.int (5 : Int32)), (.ref o38)])) rfl rfl (hb hby at_176)
    have N44 := Fr.snoc X44 N43 no38
    have Z44 : n0 ≤ h44.size := by rw [W44.size]; exact Z43
    have A44 := A43.same W44
    refine Go.on (g' := (mkF m 177 _ [])) (st44) ?_
    refine Go.on (g' := (mkF m 179 _ [(.ref o38)])) (fun t_ k_ => XS.aload X44.here hx rfl (hb hby at_177) rfl rfl k_) ?_
    refine Go.on (g' := (mkF m 181 _ [(.int (6 : Int32)), (.ref o38)])) (fun t_ k_ => XS.bipush X44.here hx rfl (hb hby at_179) k_) ?_
    refine Go.on (g' := (mkF m 183 _ [(.int ((-2147483648) : Int32)), (.int (6 : Int32)), (.ref o38)])) (X44.ldcInt hx hown (mvT hZ (hw _ (List.mem_of_getElem? (i := 6) rfl))) (g := (mkF m 181 #[.val (.long p0), .second, .val (.long p1), .second, .val (.long p2), .second, .val (.int p3), .val (.int p4), .val (.int (4 : Int32)), .val (.int c0), .val (.int c1), .val (.int c2), .val (.int c3), .val (.int c4), .val (.int c5), .val (.ref o38), .unset] [(.int (6 : Int32)), (.ref o38)])) rfl (hb hby at_181)) ?_
    obtain ⟨T45, h45, X45, e45, W45, st45⟩ := stI X44 hx hZ e44 A44 (j := (6 : Int32)) (by simp only [sz_set, sz_new]; decide) (g := (mkF m 183 #[.val (.long p0), .second, .val (.long p1), .second, .val (.long p2), .second, .val (.int p3), .val (.int p4), .val (.int (4 : Int32)), .val (.int c0), .val (.int c1), .val (.int c2), .val (.int c3), .val (.int c4), .val (.int c5), .val (.ref o38), .unset] [(.int ((-2147483648) : Int32)), (.int (6 : Int32)), (.ref o38)])) rfl rfl (hb hby at_183)
    have N45 := Fr.snoc X45 N44 no38
    have Z45 : n0 ≤ h45.size := by rw [W45.size]; exact Z44
    have A45 := A44.same W45
    refine Go.on (g' := (mkF m 184 _ [])) (st45) ?_
    exact tl4 l Z w0 hw [] p0 p1 p2 p3 p4 c0 c1 c2 c3 c4 c5 p e s m below meth c T45 _ X45 hx hby hml hret hlk hown hZ _ e45 n0 N45 o38 _ A45 (by simp only [sz_set, sz_new]; decide) ((get_miss (by decide) (by decide) (by decide)).trans ((get_miss (by decide) (by decide) (by decide)).trans ((get_miss (by decide) (by decide) (by decide)).trans ((get_miss (by decide) (by decide) (by decide)).trans ((get_miss (by decide) (by decide) (by decide)).trans (get_hit (by simp only [sz_set, sz_new]; decide) rfl)))))) ((get_miss (by decide) (by decide) (by decide)).trans ((get_miss (by decide) (by decide) (by decide)).trans ((get_miss (by decide) (by decide) (by decide)).trans ((get_miss (by decide) (by decide) (by decide)).trans (get_hit (by simp only [sz_set, sz_new]; decide) rfl))))) ((get_miss (by decide) (by decide) (by decide)).trans ((get_miss (by decide) (by decide) (by decide)).trans ((get_miss (by decide) (by decide) (by decide)).trans (get_hit (by simp only [sz_set, sz_new]; decide) rfl)))) s2 s3
  · show Go p e below _ _ (mkF m 70 #[.val (.long p0), .second, .val (.long p1), .second, .val (.long p2), .second, .val (.int p3), .val (.int p4), .val (.int (5 : Int32)), .val (.int c0), .val (.int c1), .val (.int c2), .val (.int c3), .val (.int c4), .val (.int c5), .unset, .unset] [])
    refine Go.on (g' := (mkF m 72 _ [(.int (7 : Int32))])) (fun t_ k_ => XS.bipush X5.here hx rfl (hb hby at_70) k_) ?_
    obtain ⟨T46, h46, cA46, X46, e46, E46, A46, st46⟩ := newP X5 hx hZ (hw _ (List.mem_of_getElem? (i := 5) rfl)) e5 (g := (mkF m 72 #[.val (.long p0), .second, .val (.long p1), .second, .val (.long p2), .second, .val (.int p3), .val (.int p4), .val (.int (5 : Int32)), .val (.int c0), .val (.int c1), .val (.int c2), .val (.int c3), .val (.int c4), .val (.int c5), .unset, .unset] [(.int (7 : Int32))])) rfl (hb hby at_72) (n := (7 : Int32)) rfl (by decide) (cap := 7) (by decide) (by decide) (by decide) (by decide)
    obtain ⟨o46, go46⟩ : ∃ z, z = (h0).size := ⟨_, rfl⟩
    rw [← go46] at A46 st46
    have no46 : n0 ≤ o46 := Nat.le_trans Z0 (Nat.le_of_eq go46.symm)
    have Z46 : n0 ≤ h46.size := Nat.le_trans Z0 E46.1
    refine Go.on (g' := (mkF m 74 _ [(.ref o46)])) (st46) ?_
    refine Go.on (g' := (mkF m 76 #[.val (.long p0), .second, .val (.long p1), .second, .val (.long p2), .second, .val (.int p3), .val (.int p4), .val (.int (5 : Int32)), .val (.int c0), .val (.int c1), .val (.int c2), .val (.int c3), .val (.int c4), .val (.int c5), .val (.ref o46), .unset] [])) (fun t_ k_ => XS.astore X46.here hx rfl (hb hby at_74) rfl rfl (l' := #[.val (.long p0), .second, .val (.long p1), .second, .val (.long p2), .second, .val (.int p3), .val (.int p4), .val (.int (5 : Int32)), .val (.int c0), .val (.int c1), .val (.int c2), .val (.int c3), .val (.int c4), .val (.int c5), .val (.ref o46), .unset]) rfl k_) ?_
    refine Go.on (g' := (mkF m 78 _ [(.ref o46)])) (fun t_ k_ => XS.aload X46.here hx rfl (hb hby at_76) rfl rfl k_) ?_
    refine Go.on (g' := (mkF m 79 _ [(.int (0 : Int32)), (.ref o46)])) (fun t_ k_ => XS.iconst X46.here hx rfl (hb hby at_78) k_) ?_
    refine Go.on (g' := (mkF m 81 _ [(.int (5 : Int32)), (.int (0 : Int32)), (.ref o46)])) (fun t_ k_ => XS.iload X46.here hx rfl (hb hby at_79) rfl k_) ?_
    refine Go.ifc X46 hx hby at_81 (pcT := 89) (pcF := 84) (by decide) (by decide) rfl (fun q => absurd q (by decide)) (fun q => ?_)
    clear q
    show Go p e below _ _ (mkF m 84 _ [(.int (0 : Int32)), (.ref o46)])
    refine Go.on (g' := (mkF m 86 _ [(.int c0), (.int (0 : Int32)), (.ref o46)])) (fun t_ k_ => XS.iload X46.here hx rfl (hb hby at_84) rfl k_) ?_
    refine Go.on (g' := (mkF m 91 _ [(.int c0), (.int (0 : Int32)), (.ref o46)])) (fun t_ k_ => XS.goto X46.here hx rfl (pc0 := 86) (pc' := 91) rfl (hb hby at_86) (by decide) (by decide) k_) ?_
    obtain ⟨T47, h47, X47, e47, W47, st47⟩ := stI X46 hx hZ e46 A46 (j := (0 : Int32)) (by simp only [sz_set, sz_new]; decide) (g := (mkF m 91 #[.val (.long p0), .second, .val (.long p1), .second, .val (.long p2), .second, .val (.int p3), .val (.int p4), .val (.int (5 : Int32)), .val (.int c0), .val (.int c1), .val (.int c2), .val (.int c3), .val (.int c4), .val (.int c5), .val (.ref o46), .unset] [(.int c0), (.int (0 : Int32)), (.ref o46)])) rfl rfl (hb hby at_91)
    have N47 := Fr.snoc X47 N0 no46
    have Z47 : n0 ≤ h47.size := by rw [W47.size]; exact Z46
    have A47 := A46.same W47
    refine Go.on (g' := (mkF m 92 _ [])) (st47) ?_
    refine Go.on (g' := (mkF m 94 _ [(.ref o46)])) (fun t_ k_ => XS.aload X47.here hx rfl (hb hby at_92) rfl rfl k_) ?_
    refine Go.on (g' := (mkF m 95 _ [(.int (1 : Int32)), (.ref o46)])) (fun t_ k_ => XS.iconst X47.here hx rfl (hb hby at_94) k_) ?_
    refine Go.on (g' := (mkF m 97 _ [(.int (5 : Int32)), (.int (1 : Int32)), (.ref o46)])) (fun t_ k_ => XS.iload X47.here hx rfl (hb hby at_95) rfl k_) ?_
    refine Go.on (g' := (mkF m 98 _ [(.int (1 : Int32)), (.int (5 : Int32)), (.int (1 : Int32)), (.ref o46)])) (fun t_ k_ => XS.iconst X47.here hx rfl (hb hby at_97) k_) ?_
    refine Go.icmp X47 hx hby at_98 (pcT := 106) (pcF := 101) (by decide) (by decide) rfl (fun q => absurd q (by decide)) (fun q => ?_)
    clear q
    show Go p e below _ _ (mkF m 101 _ [(.int (1 : Int32)), (.ref o46)])
    refine Go.on (g' := (mkF m 103 _ [(.int c1), (.int (1 : Int32)), (.ref o46)])) (fun t_ k_ => XS.iload X47.here hx rfl (hb hby at_101) rfl k_) ?_
    refine Go.on (g' := (mkF m 108 _ [(.int c1), (.int (1 : Int32)), (.ref o46)])) (fun t_ k_ => XS.goto X47.here hx rfl (pc0 := 103) (pc' := 108) rfl (hb hby at_103) (by decide) (by decide) k_) ?_
    obtain ⟨T48, h48, X48, e48, W48, st48⟩ := stI X47 hx hZ e47 A47 (j := (1 : Int32)) (by simp only [sz_set, sz_new]; decide) (g := (mkF m 108 #[.val (.long p0), .second, .val (.long p1), .second, .val (.long p2), .second, .val (.int p3), .val (.int p4), .val (.int (5 : Int32)), .val (.int c0), .val (.int c1), .val (.int c2), .val (.int c3), .val (.int c4), .val (.int c5), .val (.ref o46), .unset] [(.int c1), (.int (1 : Int32)), (.ref o46)])) rfl rfl (hb hby at_108)
    have N48 := Fr.snoc X48 N47 no46
    have Z48 : n0 ≤ h48.size := by rw [W48.size]; exact Z47
    have A48 := A47.same W48
    refine Go.on (g' := (mkF m 109 _ [])) (st48) ?_
    refine Go.on (g' := (mkF m 111 _ [(.ref o46)])) (fun t_ k_ => XS.aload X48.here hx rfl (hb hby at_109) rfl rfl k_) ?_
    refine Go.on (g' := (mkF m 112 _ [(.int (2 : Int32)), (.ref o46)])) (fun t_ k_ => XS.iconst X48.here hx rfl (hb hby at_111) k_) ?_
    refine Go.on (g' := (mkF m 114 _ [(.int (5 : Int32)), (.int (2 : Int32)), (.ref o46)])) (fun t_ k_ => XS.iload X48.here hx rfl (hb hby at_112) rfl k_) ?_
    refine Go.on (g' := (mkF m 115 _ [(.int (2 : Int32)), (.int (5 : Int32)), (.int (2 : Int32)), (.ref o46)])) (fun t_ k_ => XS.iconst X48.here hx rfl (hb hby at_114) k_) ?_
    refine Go.icmp X48 hx hby at_115 (pcT := 123) (pcF := 118) (by decide) (by decide) rfl (fun q => absurd q (by decide)) (fun q => ?_)
    clear q
    show Go p e below _ _ (mkF m 118 _ [(.int (2 : Int32)), (.ref o46)])
    refine Go.on (g' := (mkF m 120 _ [(.int c2), (.int (2 : Int32)), (.ref o46)])) (fun t_ k_ => XS.iload X48.here hx rfl (hb hby at_118) rfl k_) ?_
    refine Go.on (g' := (mkF m 125 _ [(.int c2), (.int (2 : Int32)), (.ref o46)])) (fun t_ k_ => XS.goto X48.here hx rfl (pc0 := 120) (pc' := 125) rfl (hb hby at_120) (by decide) (by decide) k_) ?_
    obtain ⟨T49, h49, X49, e49, W49, st49⟩ := stI X48 hx hZ e48 A48 (j := (2 : Int32)) (by simp only [sz_set, sz_new]; decide) (g := (mkF m 125 #[.val (.long p0), .second, .val (.long p1), .second, .val (.long p2), .second, .val (.int p3), .val (.int p4), .val (.int (5 : Int32)), .val (.int c0), .val (.int c1), .val (.int c2), .val (.int c3), .val (.int c4), .val (.int c5), .val (.ref o46), .unset] [(.int c2), (.int (2 : Int32)), (.ref o46)])) rfl rfl (hb hby at_125)
    have N49 := Fr.snoc X49 N48 no46
    have Z49 : n0 ≤ h49.size := by rw [W49.size]; exact Z48
    have A49 := A48.same W49
    refine Go.on (g' := (mkF m 126 _ [])) (st49) ?_
    refine Go.on (g' := (mkF m 128 _ [(.ref o46)])) (fun t_ k_ => XS.aload X49.here hx rfl (hb hby at_126) rfl rfl k_) ?_
    refine Go.on (g' := (mkF m 129 _ [(.int (3 : Int32)), (.ref o46)])) (fun t_ k_ => XS.iconst X49.here hx rfl (hb hby at_128) k_) ?_
    refine Go.on (g' := (mkF m 131 _ [(.int (5 : Int32)), (.int (3 : Int32)), (.ref o46)])) (fun t_ k_ => XS.iload X49.here hx rfl (hb hby at_129) rfl k_) ?_
    refine Go.on (g' := (mkF m 132 _ [(.int (3 : Int32)), (.int (5 : Int32)), (.int (3 : Int32)), (.ref o46)])) (fun t_ k_ => XS.iconst X49.here hx rfl (hb hby at_131) k_) ?_
    refine Go.icmp X49 hx hby at_132 (pcT := 140) (pcF := 135) (by decide) (by decide) rfl (fun q => absurd q (by decide)) (fun q => ?_)
    clear q
    show Go p e below _ _ (mkF m 135 _ [(.int (3 : Int32)), (.ref o46)])
    refine Go.on (g' := (mkF m 137 _ [(.int c3), (.int (3 : Int32)), (.ref o46)])) (fun t_ k_ => XS.iload X49.here hx rfl (hb hby at_135) rfl k_) ?_
    refine Go.on (g' := (mkF m 142 _ [(.int c3), (.int (3 : Int32)), (.ref o46)])) (fun t_ k_ => XS.goto X49.here hx rfl (pc0 := 137) (pc' := 142) rfl (hb hby at_137) (by decide) (by decide) k_) ?_
    obtain ⟨T50, h50, X50, e50, W50, st50⟩ := stI X49 hx hZ e49 A49 (j := (3 : Int32)) (by simp only [sz_set, sz_new]; decide) (g := (mkF m 142 #[.val (.long p0), .second, .val (.long p1), .second, .val (.long p2), .second, .val (.int p3), .val (.int p4), .val (.int (5 : Int32)), .val (.int c0), .val (.int c1), .val (.int c2), .val (.int c3), .val (.int c4), .val (.int c5), .val (.ref o46), .unset] [(.int c3), (.int (3 : Int32)), (.ref o46)])) rfl rfl (hb hby at_142)
    have N50 := Fr.snoc X50 N49 no46
    have Z50 : n0 ≤ h50.size := by rw [W50.size]; exact Z49
    have A50 := A49.same W50
    refine Go.on (g' := (mkF m 143 _ [])) (st50) ?_
    refine Go.on (g' := (mkF m 145 _ [(.ref o46)])) (fun t_ k_ => XS.aload X50.here hx rfl (hb hby at_143) rfl rfl k_) ?_
    refine Go.on (g' := (mkF m 146 _ [(.int (4 : Int32)), (.ref o46)])) (fun t_ k_ => XS.iconst X50.here hx rfl (hb hby at_145) k_) ?_
    refine Go.on (g' := (mkF m 148 _ [(.int (5 : Int32)), (.int (4 : Int32)), (.ref o46)])) (fun t_ k_ => XS.iload X50.here hx rfl (hb hby at_146) rfl k_) ?_
    refine Go.on (g' := (mkF m 149 _ [(.int (4 : Int32)), (.int (5 : Int32)), (.int (4 : Int32)), (.ref o46)])) (fun t_ k_ => XS.iconst X50.here hx rfl (hb hby at_148) k_) ?_
    refine Go.icmp X50 hx hby at_149 (pcT := 157) (pcF := 152) (by decide) (by decide) rfl (fun q => absurd q (by decide)) (fun q => ?_)
    clear q
    show Go p e below _ _ (mkF m 152 _ [(.int (4 : Int32)), (.ref o46)])
    refine Go.on (g' := (mkF m 154 _ [(.int c4), (.int (4 : Int32)), (.ref o46)])) (fun t_ k_ => XS.iload X50.here hx rfl (hb hby at_152) rfl k_) ?_
    refine Go.on (g' := (mkF m 159 _ [(.int c4), (.int (4 : Int32)), (.ref o46)])) (fun t_ k_ => XS.goto X50.here hx rfl (pc0 := 154) (pc' := 159) rfl (hb hby at_154) (by decide) (by decide) k_) ?_
    obtain ⟨T51, h51, X51, e51, W51, st51⟩ := stI X50 hx hZ e50 A50 (j := (4 : Int32)) (by simp only [sz_set, sz_new]; decide) (g := (mkF m 159 #[.val (.long p0), .second, .val (.long p1), .second, .val (.long p2), .second, .val (.int p3), .val (.int p4), .val (.int (5 : Int32)), .val (.int c0), .val (.int c1), .val (.int c2), .val (.int c3), .val (.int c4), .val (.int c5), .val (.ref o46), .unset] [(.int c4), (.int (4 : Int32)), (.ref o46)])) rfl rfl (hb hby at_159)
    have N51 := Fr.snoc X51 N50 no46
    have Z51 : n0 ≤ h51.size := by rw [W51.size]; exact Z50
    have A51 := A50.same W51
    refine Go.on (g' := (mkF m 160 _ [])) (st51) ?_
    refine Go.on (g' := (mkF m 162 _ [(.ref o46)])) (fun t_ k_ => XS.aload X51.here hx rfl (hb hby at_160) rfl rfl k_) ?_
    refine Go.on (g' := (mkF m 163 _ [(.int (5 : Int32)), (.ref o46)])) (fun t_ k_ => XS.iconst X51.here hx rfl (hb hby at_162) k_) ?_
    refine Go.on (g' := (mkF m 165 _ [(.int (5 : Int32)), (.int (5 : Int32)), (.ref o46)])) (fun t_ k_ => XS.iload X51.here hx rfl (hb hby at_163) rfl k_) ?_
    refine Go.on (g' := (mkF m 166 _ [(.int (5 : Int32)), (.int (5 : Int32)), (.int (5 : Int32)), (.ref o46)])) (fun t_ k_ => XS.iconst X51.here hx rfl (hb hby at_165) k_) ?_
    refine Go.icmp X51 hx hby at_166 (pcT := 174) (pcF := 169) (by decide) (by decide) rfl (fun q => ?_) (fun q => absurd q (by decide))
    clear q
    show Go p e below _ _ (mkF m 174 _ [(.int (5 : Int32)), (.ref o46)])
    refine Go.on (g' := (mkF m 176 _ [(.int ((-2147483648) : Int32)), (.int (5 : Int32)), (.ref o46)])) (X51.ldcInt hx hown (mvT hZ (hw _ (List.mem_of_getElem? (i := 6) rfl))) (g := (mkF m 174 #[.val (.long p0), .second, .val (.long p1), .second, .val (.long p2), .second, .val (.int p3), .val (.int p4), .val (.int (5 : Int32)), .val (.int c0), .val (.int c1), .val (.int c2), .val (.int c3), .val (.int c4), .val (.int c5), .val (.ref o46), .unset] [(.int (5 : Int32)), (.ref o46)])) rfl (hb hby at_174)) ?_
    obtain ⟨T52, h52, X52, e52, W52, st52⟩ := stI X51 hx hZ e51 A51 (j := (5 : Int32)) (by simp only [sz_set, sz_new]; decide) (g := (mkF m 176 #[.val (.long p0), .second, .val (.long p1), .second, .val (.long p2), .second, .val (.int p3), .val (.int p4), .val (.int (5 : Int32)), .val (.int c0), .val (.int c1), .val (.int c2), .val (.int c3), .val (.int c4), .val (.int c5), .val (.ref o46), .unset] [(.int ((-2147483648) : Int32)), (.int (5 : Int32)), (.ref o46)])) rfl rfl (hb hby at_176)
    have N52 := Fr.snoc X52 N51 no46
    have Z52 : n0 ≤ h52.size := by rw [W52.size]; exact Z51
    have A52 := A51.same W52
    refine Go.on (g' := (mkF m 177 _ [])) (st52) ?_
    refine Go.on (g' := (mkF m 179 _ [(.ref o46)])) (fun t_ k_ => XS.aload X52.here hx rfl (hb hby at_177) rfl rfl k_) ?_
    refine Go.on (g' := (mkF m 181 _ [(.int (6 : Int32)), (.ref o46)])) (fun t_ k_ => XS.bipush X52.here hx rfl (hb hby at_179) k_) ?_
    refine Go.on (g' := (mkF m 183 _ [(.int ((-2147483648) : Int32)), (.int (6 : Int32)), (.ref o46)])) (X52.ldcInt hx hown (mvT hZ (hw _ (List.mem_of_getElem? (i := 6) rfl))) (g := (mkF m 181 #[.val (.long p0), .second, .val (.long p1), .second, .val (.long p2), .second, .val (.int p3), .val (.int p4), .val (.int (5 : Int32)), .val (.int c0), .val (.int c1), .val (.int c2), .val (.int c3), .val (.int c4), .val (.int c5), .val (.ref o46), .unset] [(.int (6 : Int32)), (.ref o46)])) rfl (hb hby at_181)) ?_
    obtain ⟨T53, h53, X53, e53, W53, st53⟩ := stI X52 hx hZ e52 A52 (j := (6 : Int32)) (by simp only [sz_set, sz_new]; decide) (g := (mkF m 183 #[.val (.long p0), .second, .val (.long p1), .second, .val (.long p2), .second, .val (.int p3), .val (.int p4), .val (.int (5 : Int32)), .val (.int c0), .val (.int c1), .val (.int c2), .val (.int c3), .val (.int c4), .val (.int c5), .val (.ref o46), .unset] [(.int ((-2147483648) : Int32)), (.int (6 : Int32)), (.ref o46)])) rfl rfl (hb hby at_183)
    have N53 := Fr.snoc X53 N52 no46
    have Z53 : n0 ≤ h53.size := by rw [W53.size]; exact Z52
    have A53 := A52.same W53
    refine Go.on (g' := (mkF m 184 _ [])) (st53) ?_
    exact tl5 l Z w0 hw [] p0 p1 p2 p3 p4 c0 c1 c2 c3 c4 c5 p e s m below meth c T53 _ X53 hx hby hml hret hlk hown hZ _ e53 n0 N53 o46 _ A53 (by simp only [sz_set, sz_new]; decide) ((get_miss (by decide) (by decide) (by decide)).trans ((get_miss (by decide) (by decide) (by decide)).trans ((get_miss (by decide) (by decide) (by decide)).trans ((get_miss (by decide) (by decide) (by decide)).trans ((get_miss (by decide) (by decide) (by decide)).trans (get_hit (by simp only [sz_set, sz_new]; decide) rfl)))))) ((get_miss (by decide) (by decide) (by decide)).trans ((get_miss (by decide) (by decide) (by decide)).trans ((get_miss (by decide) (by decide) (by decide)).trans ((get_miss (by decide) (by decide) (by decide)).trans (get_hit (by simp only [sz_set, sz_new]; decide) rfl))))) ((get_miss (by decide) (by decide) (by decide)).trans ((get_miss (by decide) (by decide) (by decide)).trans ((get_miss (by decide) (by decide) (by decide)).trans (get_hit (by simp only [sz_set, sz_new]; decide) rfl)))) ((get_miss (by decide) (by decide) (by decide)).trans ((get_miss (by decide) (by decide) (by decide)).trans (get_hit (by simp only [sz_set, sz_new]; decide) rfl))) s2 s3 s4
  · show Go p e below _ _ (mkF m 70 #[.val (.long p0), .second, .val (.long p1), .second, .val (.long p2), .second, .val (.int p3), .val (.int p4), .val (.int (6 : Int32)), .val (.int c0), .val (.int c1), .val (.int c2), .val (.int c3), .val (.int c4), .val (.int c5), .unset, .unset] [])
    refine Go.on (g' := (mkF m 72 _ [(.int (7 : Int32))])) (fun t_ k_ => XS.bipush X5.here hx rfl (hb hby at_70) k_) ?_
    obtain ⟨T54, h54, cA54, X54, e54, E54, A54, st54⟩ := newP X5 hx hZ (hw _ (List.mem_of_getElem? (i := 5) rfl)) e5 (g := (mkF m 72 #[.val (.long p0), .second, .val (.long p1), .second, .val (.long p2), .second, .val (.int p3), .val (.int p4), .val (.int (6 : Int32)), .val (.int c0), .val (.int c1), .val (.int c2), .val (.int c3), .val (.int c4), .val (.int c5), .unset, .unset] [(.int (7 : Int32))])) rfl (hb hby at_72) (n := (7 : Int32)) rfl (by decide) (cap := 7) (by decide) (by decide) (by decide) (by decide)
    obtain ⟨o54, go54⟩ : ∃ z, z = (h0).size := ⟨_, rfl⟩
    rw [← go54] at A54 st54
    have no54 : n0 ≤ o54 := Nat.le_trans Z0 (Nat.le_of_eq go54.symm)
    have Z54 : n0 ≤ h54.size := Nat.le_trans Z0 E54.1
    refine Go.on (g' := (mkF m 74 _ [(.ref o54)])) (st54) ?_
    refine Go.on (g' := (mkF m 76 #[.val (.long p0), .second, .val (.long p1), .second, .val (.long p2), .second, .val (.int p3), .val (.int p4), .val (.int (6 : Int32)), .val (.int c0), .val (.int c1), .val (.int c2), .val (.int c3), .val (.int c4), .val (.int c5), .val (.ref o54), .unset] [])) (fun t_ k_ => XS.astore X54.here hx rfl (hb hby at_74) rfl rfl (l' := #[.val (.long p0), .second, .val (.long p1), .second, .val (.long p2), .second, .val (.int p3), .val (.int p4), .val (.int (6 : Int32)), .val (.int c0), .val (.int c1), .val (.int c2), .val (.int c3), .val (.int c4), .val (.int c5), .val (.ref o54), .unset]) rfl k_) ?_
    refine Go.on (g' := (mkF m 78 _ [(.ref o54)])) (fun t_ k_ => XS.aload X54.here hx rfl (hb hby at_76) rfl rfl k_) ?_
    refine Go.on (g' := (mkF m 79 _ [(.int (0 : Int32)), (.ref o54)])) (fun t_ k_ => XS.iconst X54.here hx rfl (hb hby at_78) k_) ?_
    refine Go.on (g' := (mkF m 81 _ [(.int (6 : Int32)), (.int (0 : Int32)), (.ref o54)])) (fun t_ k_ => XS.iload X54.here hx rfl (hb hby at_79) rfl k_) ?_
    refine Go.ifc X54 hx hby at_81 (pcT := 89) (pcF := 84) (by decide) (by decide) rfl (fun q => absurd q (by decide)) (fun q => ?_)
    clear q
    show Go p e below _ _ (mkF m 84 _ [(.int (0 : Int32)), (.ref o54)])
    refine Go.on (g' := (mkF m 86 _ [(.int c0), (.int (0 : Int32)), (.ref o54)])) (fun t_ k_ => XS.iload X54.here hx rfl (hb hby at_84) rfl k_) ?_
    refine Go.on (g' := (mkF m 91 _ [(.int c0), (.int (0 : Int32)), (.ref o54)])) (fun t_ k_ => XS.goto X54.here hx rfl (pc0 := 86) (pc' := 91) rfl (hb hby at_86) (by decide) (by decide) k_) ?_
    obtain ⟨T55, h55, X55, e55, W55, st55⟩ := stI X54 hx hZ e54 A54 (j := (0 : Int32)) (by simp only [sz_set, sz_new]; decide) (g := (mkF m 91 #[.val (.long p0), .second, .val (.long p1), .second, .val (.long p2), .second, .val (.int p3), .val (.int p4), .val (.int (6 : Int32)), .val (.int c0), .val (.int c1), .val (.int c2), .val (.int c3), .val (.int c4), .val (.int c5), .val (.ref o54), .unset] [(.int c0), (.int (0 : Int32)), (.ref o54)])) rfl rfl (hb hby at_91)
    have N55 := Fr.snoc X55 N0 no54
    have Z55 : n0 ≤ h55.size := by rw [W55.size]; exact Z54
    have A55 := A54.same W55
    refine Go.on (g' := (mkF m 92 _ [])) (st55) ?_
    refine Go.on (g' := (mkF m 94 _ [(.ref o54)])) (fun t_ k_ => XS.aload X55.here hx rfl (hb hby at_92) rfl rfl k_) ?_
    refine Go.on (g' := (mkF m 95 _ [(.int (1 : Int32)), (.ref o54)])) (fun t_ k_ => XS.iconst X55.here hx rfl (hb hby at_94) k_) ?_
    refine Go.on (g' := (mkF m 97 _ [(.int (6 : Int32)), (.int (1 : Int32)), (.ref o54)])) (fun t_ k_ => XS.iload X55.here hx rfl (hb hby at_95) rfl k_) ?_
    refine Go.on (g' := (mkF m 98 _ [(.int (1 : Int32)), (.int (6 : Int32)), (.int (1 : Int32)), (.ref o54)])) (fun t_ k_ => XS.iconst X55.here hx rfl (hb hby at_97) k_) ?_
    refine Go.icmp X55 hx hby at_98 (pcT := 106) (pcF := 101) (by decide) (by decide) rfl (fun q => absurd q (by decide)) (fun q => ?_)
    clear q
    show Go p e below _ _ (mkF m 101 _ [(.int (1 : Int32)), (.ref o54)])
    refine Go.on (g' := (mkF m 103 _ [(.int c1), (.int (1 : Int32)), (.ref o54)])) (fun t_ k_ => XS.iload X55.here hx rfl (hb hby at_101) rfl k_) ?_
    refine Go.on (g' := (mkF m 108 _ [(.int c1), (.int (1 : Int32)), (.ref o54)])) (fun t_ k_ => XS.goto X55.here hx rfl (pc0 := 103) (pc' := 108) rfl (hb hby at_103) (by decide) (by decide) k_) ?_
    obtain ⟨T56, h56, X56, e56, W56, st56⟩ := stI X55 hx hZ e55 A55 (j := (1 : Int32)) (by simp only [sz_set, sz_new]; decide) (g := (mkF m 108 #[.val (.long p0), .second, .val (.long p1), .second, .val (.long p2), .second, .val (.int p3), .val (.int p4), .val (.int (6 : Int32)), .val (.int c0), .val (.int c1), .val (.int c2), .val (.int c3), .val (.int c4), .val (.int c5), .val (.ref o54), .unset] [(.int c1), (.int (1 : Int32)), (.ref o54)])) rfl rfl (hb hby at_108)
    have N56 := Fr.snoc X56 N55 no54
    have Z56 : n0 ≤ h56.size := by rw [W56.size]; exact Z55
    have A56 := A55.same W56
    refine Go.on (g' := (mkF m 109 _ [])) (st56) ?_
    refine Go.on (g' := (mkF m 111 _ [(.ref o54)])) (fun t_ k_ => XS.aload X56.here hx rfl (hb hby at_109) rfl rfl k_) ?_
    refine Go.on (g' := (mkF m 112 _ [(.int (2 : Int32)), (.ref o54)])) (fun t_ k_ => XS.iconst X56.here hx rfl (hb hby at_111) k_) ?_
    refine Go.on (g' := (mkF m 114 _ [(.int (6 : Int32)), (.int (2 : Int32)), (.ref o54)])) (fun t_ k_ => XS.iload X56.here hx rfl (hb hby at_112) rfl k_) ?_
    refine Go.on (g' := (mkF m 115 _ [(.int (2 : Int32)), (.int (6 : Int32)), (.int (2 : Int32)), (.ref o54)])) (fun t_ k_ => XS.iconst X56.here hx rfl (hb hby at_114) k_) ?_
    refine Go.icmp X56 hx hby at_115 (pcT := 123) (pcF := 118) (by decide) (by decide) rfl (fun q => absurd q (by decide)) (fun q => ?_)
    clear q
    show Go p e below _ _ (mkF m 118 _ [(.int (2 : Int32)), (.ref o54)])
    refine Go.on (g' := (mkF m 120 _ [(.int c2), (.int (2 : Int32)), (.ref o54)])) (fun t_ k_ => XS.iload X56.here hx rfl (hb hby at_118) rfl k_) ?_
    refine Go.on (g' := (mkF m 125 _ [(.int c2), (.int (2 : Int32)), (.ref o54)])) (fun t_ k_ => XS.goto X56.here hx rfl (pc0 := 120) (pc' := 125) rfl (hb hby at_120) (by decide) (by decide) k_) ?_
    obtain ⟨T57, h57, X57, e57, W57, st57⟩ := stI X56 hx hZ e56 A56 (j := (2 : Int32)) (by simp only [sz_set, sz_new]; decide) (g := (mkF m 125 #[.val (.long p0), .second, .val (.long p1), .second, .val (.long p2), .second, .val (.int p3), .val (.int p4), .val (.int (6 : Int32)), .val (.int c0), .val (.int c1), .val (.int c2), .val (.int c3), .val (.int c4), .val (.int c5), .val (.ref o54), .unset] [(.int c2), (.int (2 : Int32)), (.ref o54)])) rfl rfl (hb hby at_125)
    have N57 := Fr.snoc X57 N56 no54
    have Z57 : n0 ≤ h57.size := by rw [W57.size]; exact Z56
    have A57 := A56.same W57
    refine Go.on (g' := (mkF m 126 _ [])) (st57) ?_
    refine Go.on (g' := (mkF m 128 _ [(.ref o54)])) (fun t_ k_ => XS.aload X57.here hx rfl (hb hby at_126) rfl rfl k_) ?_
    refine Go.on (g' := (mkF m 129 _ [(.int (3 : Int32)), (.ref o54)])) (fun t_ k_ => XS.iconst X57.here hx rfl (hb hby at_128) k_) ?_
    refine Go.on (g' := (mkF m 131 _ [(.int (6 : Int32)), (.int (3 : Int32)), (.ref o54)])) (fun t_ k_ => XS.iload X57.here hx rfl (hb hby at_129) rfl k_) ?_
    refine Go.on (g' := (mkF m 132 _ [(.int (3 : Int32)), (.int (6 : Int32)), (.int (3 : Int32)), (.ref o54)])) (fun t_ k_ => XS.iconst X57.here hx rfl (hb hby at_131) k_) ?_
    refine Go.icmp X57 hx hby at_132 (pcT := 140) (pcF := 135) (by decide) (by decide) rfl (fun q => absurd q (by decide)) (fun q => ?_)
    clear q
    show Go p e below _ _ (mkF m 135 _ [(.int (3 : Int32)), (.ref o54)])
    refine Go.on (g' := (mkF m 137 _ [(.int c3), (.int (3 : Int32)), (.ref o54)])) (fun t_ k_ => XS.iload X57.here hx rfl (hb hby at_135) rfl k_) ?_
    refine Go.on (g' := (mkF m 142 _ [(.int c3), (.int (3 : Int32)), (.ref o54)])) (fun t_ k_ => XS.goto X57.here hx rfl (pc0 := 137) (pc' := 142) rfl (hb hby at_137) (by decide) (by decide) k_) ?_
    obtain ⟨T58, h58, X58, e58, W58, st58⟩ := stI X57 hx hZ e57 A57 (j := (3 : Int32)) (by simp only [sz_set, sz_new]; decide) (g := (mkF m 142 #[.val (.long p0), .second, .val (.long p1), .second, .val (.long p2), .second, .val (.int p3), .val (.int p4), .val (.int (6 : Int32)), .val (.int c0), .val (.int c1), .val (.int c2), .val (.int c3), .val (.int c4), .val (.int c5), .val (.ref o54), .unset] [(.int c3), (.int (3 : Int32)), (.ref o54)])) rfl rfl (hb hby at_142)
    have N58 := Fr.snoc X58 N57 no54
    have Z58 : n0 ≤ h58.size := by rw [W58.size]; exact Z57
    have A58 := A57.same W58
    refine Go.on (g' := (mkF m 143 _ [])) (st58) ?_
    refine Go.on (g' := (mkF m 145 _ [(.ref o54)])) (fun t_ k_ => XS.aload X58.here hx rfl (hb hby at_143) rfl rfl k_) ?_
    refine Go.on (g' := (mkF m 146 _ [(.int (4 : Int32)), (.ref o54)])) (fun t_ k_ => XS.iconst X58.here hx rfl (hb hby at_145) k_) ?_
    refine Go.on (g' := (mkF m 148 _ [(.int (6 : Int32)), (.int (4 : Int32)), (.ref o54)])) (fun t_ k_ => XS.iload X58.here hx rfl (hb hby at_146) rfl k_) ?_
    refine Go.on (g' := (mkF m 149 _ [(.int (4 : Int32)), (.int (6 : Int32)), (.int (4 : Int32)), (.ref o54)])) (fun t_ k_ => XS.iconst X58.here hx rfl (hb hby at_148) k_) ?_
    refine Go.icmp X58 hx hby at_149 (pcT := 157) (pcF := 152) (by decide) (by decide) rfl (fun q => absurd q (by decide)) (fun q => ?_)
    clear q
    show Go p e below _ _ (mkF m 152 _ [(.int (4 : Int32)), (.ref o54)])
    refine Go.on (g' := (mkF m 154 _ [(.int c4), (.int (4 : Int32)), (.ref o54)])) (fun t_ k_ => XS.iload X58.here hx rfl (hb hby at_152) rfl k_) ?_
    refine Go.on (g' := (mkF m 159 _ [(.int c4), (.int (4 : Int32)), (.ref o54)])) (fun t_ k_ => XS.goto X58.here hx rfl (pc0 := 154) (pc' := 159) rfl (hb hby at_154) (by decide) (by decide) k_) ?_
    obtain ⟨T59, h59, X59, e59, W59, st59⟩ := stI X58 hx hZ e58 A58 (j := (4 : Int32)) (by simp only [sz_set, sz_new]; decide) (g := (mkF m 159 #[.val (.long p0), .second, .val (.long p1), .second, .val (.long p2), .second, .val (.int p3), .val (.int p4), .val (.int (6 : Int32)), .val (.int c0), .val (.int c1), .val (.int c2), .val (.int c3), .val (.int c4), .val (.int c5), .val (.ref o54), .unset] [(.int c4), (.int (4 : Int32)), (.ref o54)])) rfl rfl (hb hby at_159)
    have N59 := Fr.snoc X59 N58 no54
    have Z59 : n0 ≤ h59.size := by rw [W59.size]; exact Z58
    have A59 := A58.same W59
    refine Go.on (g' := (mkF m 160 _ [])) (st59) ?_
    refine Go.on (g' := (mkF m 162 _ [(.ref o54)])) (fun t_ k_ => XS.aload X59.here hx rfl (hb hby at_160) rfl rfl k_) ?_
    refine Go.on (g' := (mkF m 163 _ [(.int (5 : Int32)), (.ref o54)])) (fun t_ k_ => XS.iconst X59.here hx rfl (hb hby at_162) k_) ?_
    refine Go.on (g' := (mkF m 165 _ [(.int (6 : Int32)), (.int (5 : Int32)), (.ref o54)])) (fun t_ k_ => XS.iload X59.here hx rfl (hb hby at_163) rfl k_) ?_
    refine Go.on (g' := (mkF m 166 _ [(.int (5 : Int32)), (.int (6 : Int32)), (.int (5 : Int32)), (.ref o54)])) (fun t_ k_ => XS.iconst X59.here hx rfl (hb hby at_165) k_) ?_
    refine Go.icmp X59 hx hby at_166 (pcT := 174) (pcF := 169) (by decide) (by decide) rfl (fun q => absurd q (by decide)) (fun q => ?_)
    clear q
    show Go p e below _ _ (mkF m 169 _ [(.int (5 : Int32)), (.ref o54)])
    refine Go.on (g' := (mkF m 171 _ [(.int c5), (.int (5 : Int32)), (.ref o54)])) (fun t_ k_ => XS.iload X59.here hx rfl (hb hby at_169) rfl k_) ?_
    refine Go.on (g' := (mkF m 176 _ [(.int c5), (.int (5 : Int32)), (.ref o54)])) (fun t_ k_ => XS.goto X59.here hx rfl (pc0 := 171) (pc' := 176) rfl (hb hby at_171) (by decide) (by decide) k_) ?_
    obtain ⟨T60, h60, X60, e60, W60, st60⟩ := stI X59 hx hZ e59 A59 (j := (5 : Int32)) (by simp only [sz_set, sz_new]; decide) (g := (mkF m 176 #[.val (.long p0), .second, .val (.long p1), .second, .val (.long p2), .second, .val (.int p3), .val (.int p4), .val (.int (6 : Int32)), .val (.int c0), .val (.int c1), .val (.int c2), .val (.int c3), .val (.int c4), .val (.int c5), .val (.ref o54), .unset] [(.int c5), (.int (5 : Int32)), (.ref o54)])) rfl rfl (hb hby at_176)
    have N60 := Fr.snoc X60 N59 no54
    have Z60 : n0 ≤ h60.size := by rw [W60.size]; exact Z59
    have A60 := A59.same W60
    refine Go.on (g' := (mkF m 177 _ [])) (st60) ?_
    refine Go.on (g' := (mkF m 179 _ [(.ref o54)])) (fun t_ k_ => XS.aload X60.here hx rfl (hb hby at_177) rfl rfl k_) ?_
    refine Go.on (g' := (mkF m 181 _ [(.int (6 : Int32)), (.ref o54)])) (fun t_ k_ => XS.bipush X60.here hx rfl (hb hby at_179) k_) ?_
    refine Go.on (g' := (mkF m 183 _ [(.int ((-2147483648) : Int32)), (.int (6 : Int32)), (.ref o54)])) (X60.ldcInt hx hown (mvT hZ (hw _ (List.mem_of_getElem? (i := 6) rfl))) (g := (mkF m 181 #[.val (.long p0), .second, .val (.long p1), .second, .val (.long p2), .second, .val (.int p3), .val (.int p4), .val (.int (6 : Int32)), .val (.int c0), .val (.int c1), .val (.int c2), .val (.int c3), .val (.int c4), .val (.int c5), .val (.ref o54), .unset] [(.int (6 : Int32)), (.ref o54)])) rfl (hb hby at_181)) ?_
    obtain ⟨T61, h61, X61, e61, W61, st61⟩ := stI X60 hx hZ e60 A60 (j := (6 : Int32)) (by simp only [sz_set, sz_new]; decide) (g := (mkF m 183 #[.val (.long p0), .second, .val (.long p1), .second, .val (.long p2), .second, .val (.int p3), .val (.int p4), .val (.int (6 : Int32)), .val (.int c0), .val (.int c1), .val (.int c2), .val (.int c3), .val (.int c4), .val (.int c5), .val (.ref o54), .unset] [(.int ((-2147483648) : Int32)), (.int (6 : Int32)), (.ref o54)])) rfl rfl (hb hby at_183)
    have N61 := Fr.snoc X61 N60 no54
    have Z61 : n0 ≤ h61.size := by rw [W61.size]; exact Z60
    have A61 := A60.same W61
    refine Go.on (g' := (mkF m 184 _ [])) (st61) ?_
    exact tl6 l Z w0 hw [] p0 p1 p2 p3 p4 c0 c1 c2 c3 c4 c5 p e s m below meth c T61 _ X61 hx hby hml hret hlk hown hZ _ e61 n0 N61 o54 _ A61 (by simp only [sz_set, sz_new]; decide) ((get_miss (by decide) (by decide) (by decide)).trans ((get_miss (by decide) (by decide) (by decide)).trans ((get_miss (by decide) (by decide) (by decide)).trans ((get_miss (by decide) (by decide) (by decide)).trans ((get_miss (by decide) (by decide) (by decide)).trans (get_hit (by simp only [sz_set, sz_new]; decide) rfl)))))) ((get_miss (by decide) (by decide) (by decide)).trans ((get_miss (by decide) (by decide) (by decide)).trans ((get_miss (by decide) (by decide) (by decide)).trans ((get_miss (by decide) (by decide) (by decide)).trans (get_hit (by simp only [sz_set, sz_new]; decide) rfl))))) ((get_miss (by decide) (by decide) (by decide)).trans ((get_miss (by decide) (by decide) (by decide)).trans ((get_miss (by decide) (by decide) (by decide)).trans (get_hit (by simp only [sz_set, sz_new]; decide) rfl)))) ((get_miss (by decide) (by decide) (by decide)).trans ((get_miss (by decide) (by decide) (by decide)).trans (get_hit (by simp only [sz_set, sz_new]; decide) rfl))) ((get_miss (by decide) (by decide) (by decide)).trans (get_hit (by simp only [sz_set, sz_new]; decide) rfl)) s2 s3 s4 s5
set_option maxRecDepth 65536 in
set_option maxHeartbeats 40000000 in
theorem comes_1 {Post : Tables → Env → Array Value → State → Outcome → State → Prop} (hpost : ∀ tb e args s v u, (limb_1_1.after args s (.returned v) u = true ∧ limb_1_2.after args s (.returned v) u = true ∧ True) → FrameEnd s (.returned v) u (Jvm.fieldLocs frame_1_writes args s ++ Jvm.arrayLocs frame_1_arrays args s ++ Jvm.staticLocs frame_1_statics s) 16 128 → Post tb e args s (.returned v) u) :
    ArmFor flags0 classFile x code maxLocals ret World_1 tables_1 room_1 Calls_1 rest_1 Pre_1 Post := by
  intro l hfl _ _ p e ha hc hk s m args below hf hA hF happ hP
  obtain ⟨hcalls, hrest, hpre⟩ := hP
  obtain ⟨-, -, -, hnamed, -, -, -, hat⟩ := (Spec.applies_iff hf).mp happ
  obtain ⟨hg, hn⟩ := and_e (Cond.before_iff.mp (show (Jvm.Cond.and given_1 narrow_1).before args s = true from hpre))
  obtain ⟨hcount, hg⟩ := and_e hg
  obtain ⟨g0, hg⟩ := and_e hg
  obtain ⟨g1, hg⟩ := and_e hg
  obtain ⟨g2, hg⟩ := and_e hg
  obtain ⟨g3, hg⟩ := and_e hg
  have g4 := hg
  obtain ⟨w0, w1, w2, w3, w4, rfl⟩ : ∃ w0 w1 w2 w3 w4 : Value, args = #[w0, w1, w2, w3, w4] := by
    have hs : args.size = 5 := by simpa [Cond.value, given_1] using hcount
    obtain ⟨L⟩ := args
    match L, hs with
    | [w0, w1, w2, w3, w4], _ => exact ⟨w0, w1, w2, w3, w4, rfl⟩
  have hw := fun d (hd : d ∈ tables_1) => atoms_spec (ws := Jvm.Cond.code x code maxLocals ret :: tables_1) hat d (List.mem_cons_of_mem _ hd)
  have hfit : Fit s := fun {y c} hc i hi => by
    obtain ⟨ha, rfl⟩ := Array.getElem?_eq_some_iff.mp hc
    have q := List.all_eq_true.mp ((Array.all_eq_true_iff_forall_mem.mp hF) _ (Array.getElem_mem ha)) i (List.mem_range.mpr hi)
    simpa [Array.getElem?_eq_getElem hi] using q
  obtain ⟨i0, ev0⟩ := isL_v g0
  obtain rfl : w0 = (.long i0) := Option.some.inj ev0
  obtain ⟨i1, ev1⟩ := isL_v g1
  obtain rfl : w1 = (.long i1) := Option.some.inj ev1
  obtain ⟨i2, ev2⟩ := isL_v g2
  obtain rfl : w2 = (.long i2) := Option.some.inj ev2
  obtain ⟨i3, ev3⟩ := is_v g3
  obtain rfl : w3 = (.int i3) := Option.some.inj ev3
  obtain ⟨i4, ev4⟩ := is_v g4
  obtain rfl : w4 = (.int i4) := Option.some.inj ev4
  obtain ⟨n, o, h1, h2, h3, _, L, rfl, ⟨rfl, N⟩, hq⟩ := rmLaw l s _ hw tables_1 i0 i1 i2 i3 i4 s.heap s.heap.size (Nat.le_refl _)  p e ha hc hk s m _ below hf ((Spec.applies_iff_loose hf).mp happ).1 ⟨rfl, State.Warmed39.refl s, rfl⟩ trivial
  refine ⟨n, _, h1, h2, h3, hpost _ _ _ _ _ _ ⟨Cond.after_iff.mpr rfl, Cond.after_iff.mpr (eq_i res_at (Term.int_eval (1)) rfl), trivial⟩ ⟨hq.1, hq.2.1, (hq.2.2.sift fun y hy => Or.inr (N y hy)).mono (by decide) (by decide)⟩⟩
theorem main_1_1 : Claimed_1_1 := comes_1 fun _ _ _ _ _ _ h hF => ⟨h.1, hF⟩
theorem main_1_2 : Claimed_1_2 := comes_1 fun _ _ _ _ _ _ h hF => ⟨h.2.1, hF⟩

end Jvm.Pilot.@@N@@
namespace Jvm.Pilot.@@N@@
open Jvm Jvm.ClassFile Sem Op Lib Jvm.Free Jvm.Stand Jvm.Pilot.@@N@@.Jvm.D
/-! MADE BY PROGRAM (witnessworld.py) out of the Statement's table words and the real class files: 10 classes; the members and pool entries that the words name. The judged class is class 1, her method 1. -/
namespace start1
open Jvm.ClassFile
def u (s : String) : CpInfo := .utf8 (stringToUtf16 s)
/-- a pool by its gaps: so many unusable entries, then the entry; so many at the end -/
def gap : Nat → List CpInfo → List CpInfo
  | 0, r => r
  | n + 1, r => .unusable :: gap n r
def poolList (es : List (Nat × CpInfo)) (last : Nat) : List CpInfo := es.foldr (fun e r => gap e.1 (e.2 :: r)) (gap last [])
def pool (es : List (Nat × CpInfo)) (last : Nat) : Array CpInfo := ⟨poolList es last⟩
def fileOf (pool : Array CpInfo) (this : Nat) (attrs : Array Attribute := #[]) (ms : Array MethodInfo := #[]) (fl : Nat := 33) (sup : Nat := 0) (ifs : Array Nat := #[]) (fds : Array FieldInfo := #[]) : ClassFile where
  minorVersion := 0
  majorVersion := 65
  constantPool := pool
  accessFlags := fl
  thisClass := this
  superClass := sup
  interfaces := ifs
  fields := fds
  methods := ms
  attributes := attrs
def plain (name : String) (sup : Option ClassId) : Class where
  name := name
  kind := .ordinary
  loader := none
  accessFlags := 33
  super := sup
  interfaces := #[]
  cf := none
  fields := #[]
  methods := #[]
  instanceTypes := #[]
  staticTypes := #[]
  resolved := #[]
  callSites := []
  init := .initialized
  statics := none
  mirror := none

def pool0 : Array CpInfo := pool [(5, u "<init>"), (0, u "()V"), (1, .class_ 10), (1, u "java/lang/Object")] 113

def k0m0 : Method := { name := "<init>", desc := "()V", sig := { parameters := [], returnType := none }, accessFlags := 1, code := none }
/-- java/lang/Object -/
def k0 : Class := { plain "java/lang/Object" none with
  accessFlags := 33
  interfaces := #[]
  cf := some (fileOf pool0 8 #[] #[{ accessFlags := 1, nameIndex := 5, descriptorIndex := 6, attributes := #[] }] 33 0 #[] #[])
  fields := #[]
  methods := #[k0m0]
  instanceTypes := #[]
  staticTypes := #[]
  resolved := Array.replicate 124 none
  statics := none }

def pool1 : Array CpInfo := pool [(2, .class_ 4), (1, u "java/lang/Object"), (0, u "<init>"), (0, u "()V"), (0, .integer 2147483647), (0, .methodref 9 10), (0, .class_ 11), (0, .nameAndType 12 13), (0, u "java/lang/Math"), (0, u "max"), (0, u "(II)I"), (2, .integer 2147483648), (0, .methodref 18 19), (0, .class_ 20), (0, .nameAndType 21 22), (0, u "com/example/loomtrace/loomtrace/model/IntSort"), (0, u "lastAtMost"), (0, u "([III)I"), (0, .class_ 24), (0, u "com/example/loomtrace/loomtrace/model/IntSortLastAtMostPinLaw"), (2, u "law"), (0, u "(JJJII)Z")] 5

def k1m0 : Method := { name := "<init>", desc := "()V", sig := { parameters := [], returnType := none }, accessFlags := 2, code := none }
def k1c1 : Code := { maxStack := 4, maxLocals := 17, code := code, exceptionTable := #[], attributes := #[] }
def k1m1 : Method := { name := "law", desc := "(JJJII)Z", sig := { parameters := [.long, .long, .long, .int, .int], returnType := some .boolean }, accessFlags := 9, code := some k1c1 }
/-- com/example/loomtrace/loomtrace/model/IntSortLastAtMostPinLaw -/
def k1 : Class := { plain "com/example/loomtrace/loomtrace/model/IntSortLastAtMostPinLaw" (some 0) with
  accessFlags := 49
  interfaces := #[]
  cf := some (fileOf pool1 23 #[] #[{ accessFlags := 2, nameIndex := 5, descriptorIndex := 6, attributes := #[] }, { accessFlags := 9, nameIndex := 27, descriptorIndex := 28, attributes := #[] }] 49 2 #[] #[])
  fields := #[]
  methods := #[k1m0, k1m1]
  instanceTypes := #[]
  staticTypes := #[]
  resolved := Array.replicate 34 none
  statics := none }

def pool2 : Array CpInfo := pool [(1, .class_ 2), (0, u "java/lang/Math"), (1, .class_ 6), (1, u "java/lang/Object"), (0, u "<init>"), (0, u "()V"), (89, .class_ 100), (1, u "java/lang/Math$RandomNumberGeneratorHolder"), (71, u "negativeZeroFloatBits"), (0, u "J"), (2, u "negativeZeroDoubleBits"), (21, u "max"), (46, u "$assertionsDisabled"), (0, u "Z"), (88, u "(II)I"), (2, u "twoToTheDoubleScaleDown"), (0, u "D"), (4, u "twoToTheDoubleScaleUp"), (9, u "E"), (3, u "PI"), (2, u "TAU"), (2, u "DEGREES_TO_RADIANS"), (0, u "RADIANS_TO_DEGREES")] 94

def k2m0 : Method := { name := "<init>", desc := "()V", sig := { parameters := [], returnType := none }, accessFlags := 2, code := none }
def k2c1 : Code := { maxStack := 2, maxLocals := 2, code := jdk_29_method_65_code, exceptionTable := #[], attributes := #[] }
def k2m1 : Method := { name := "max", desc := "(II)I", sig := { parameters := [.int, .int], returnType := some .int }, accessFlags := 9, code := some k2c1 }
/-- java/lang/Math -/
def k2 : Class := { plain "java/lang/Math" (some 0) with
  accessFlags := 49
  interfaces := #[]
  cf := some (fileOf pool2 1 #[.nestMembers #[98]] #[{ accessFlags := 2, nameIndex := 7, descriptorIndex := 8, attributes := #[] }, { accessFlags := 9, nameIndex := 198, descriptorIndex := 335, attributes := #[] }] 49 4 #[] #[{ accessFlags := 25, nameIndex := 354, descriptorIndex := 339, attributes := #[] }, { accessFlags := 25, nameIndex := 358, descriptorIndex := 339, attributes := #[] }, { accessFlags := 25, nameIndex := 361, descriptorIndex := 339, attributes := #[] }, { accessFlags := 26, nameIndex := 364, descriptorIndex := 339, attributes := #[] }, { accessFlags := 26, nameIndex := 365, descriptorIndex := 339, attributes := #[] }, { accessFlags := 26, nameIndex := 172, descriptorIndex := 173, attributes := #[] }, { accessFlags := 26, nameIndex := 176, descriptorIndex := 173, attributes := #[] }, { accessFlags := 8, nameIndex := 344, descriptorIndex := 339, attributes := #[] }, { accessFlags := 8, nameIndex := 338, descriptorIndex := 339, attributes := #[] }, { accessFlags := 4120, nameIndex := 245, descriptorIndex := 246, attributes := #[] }])
  fields := #[{ name := "E", type := .double, accessFlags := 25, slot := 0, constantValue := 0 }, { name := "PI", type := .double, accessFlags := 25, slot := 1, constantValue := 0 }, { name := "TAU", type := .double, accessFlags := 25, slot := 2, constantValue := 0 }, { name := "DEGREES_TO_RADIANS", type := .double, accessFlags := 26, slot := 3, constantValue := 0 }, { name := "RADIANS_TO_DEGREES", type := .double, accessFlags := 26, slot := 4, constantValue := 0 }, { name := "negativeZeroFloatBits", type := .long, accessFlags := 26, slot := 5, constantValue := 0 }, { name := "negativeZeroDoubleBits", type := .long, accessFlags := 26, slot := 6, constantValue := 0 }, { name := "twoToTheDoubleScaleUp", type := .double, accessFlags := 8, slot := 7, constantValue := 0 }, { name := "twoToTheDoubleScaleDown", type := .double, accessFlags := 8, slot := 8, constantValue := 0 }, { name := "$assertionsDisabled", type := .boolean, accessFlags := 4120, slot := 9, constantValue := 0 }]
  methods := #[k2m0, k2m1]
  instanceTypes := #[]
  staticTypes := #[.double, .double, .double, .double, .double, .long, .long, .double, .double, .boolean]
  resolved := Array.replicate 460 none
  statics := none }

def pool3 : Array CpInfo := pool [(1, .class_ 2), (0, u "com/example/loomtrace/loomtrace/model/IntSort"), (1, .class_ 6), (1, u "java/lang/Object"), (0, u "<init>"), (0, u "()V"), (47, .class_ 58), (1, u "com/example/loomtrace/loomtrace/model/IntSort$Key"), (10, .class_ 71), (1, u "com/example/loomtrace/loomtrace/model/IntSort$Order"), (2, u "RADIX_BITS"), (0, u "I"), (2, u "RADIX_MASK"), (1, u "RADIX_FEWEST"), (1, u "INSERTED"), (1, u "SHORTEST_FIRST_RUN"), (3, u "lastAtMost"), (0, u "([III)I"), (16, .class_ 107), (0, u "com/example/loomtrace/loomtrace/model/IntSort$Room"), (0, .class_ 109), (0, u "com/example/loomtrace/loomtrace/model/IntSort$Heap")] 5

def k3m0 : Method := { name := "<init>", desc := "()V", sig := { parameters := [], returnType := none }, accessFlags := 2, code := none }
def k3c1 : Code := { maxStack := 2, maxLocals := 6, code := prog_213_method_2_code, exceptionTable := #[], attributes := #[] }
def k3m1 : Method := { name := "lastAtMost", desc := "([III)I", sig := { parameters := [(.array .int), .int, .int], returnType := some .int }, accessFlags := 9, code := some k3c1 }
/-- com/example/loomtrace/loomtrace/model/IntSort -/
def k3 : Class := { plain "com/example/loomtrace/loomtrace/model/IntSort" (some 0) with
  accessFlags := 49
  interfaces := #[]
  cf := some (fileOf pool3 1 #[.nestMembers #[106, 108, 56, 69]] #[{ accessFlags := 2, nameIndex := 7, descriptorIndex := 8, attributes := #[] }, { accessFlags := 9, nameIndex := 88, descriptorIndex := 89, attributes := #[] }] 49 4 #[] #[{ accessFlags := 26, nameIndex := 74, descriptorIndex := 75, attributes := #[] }, { accessFlags := 26, nameIndex := 78, descriptorIndex := 75, attributes := #[] }, { accessFlags := 26, nameIndex := 80, descriptorIndex := 75, attributes := #[] }, { accessFlags := 26, nameIndex := 82, descriptorIndex := 75, attributes := #[] }, { accessFlags := 26, nameIndex := 84, descriptorIndex := 75, attributes := #[] }])
  fields := #[{ name := "RADIX_BITS", type := .int, accessFlags := 26, slot := 0, constantValue := 0 }, { name := "RADIX_MASK", type := .int, accessFlags := 26, slot := 1, constantValue := 0 }, { name := "RADIX_FEWEST", type := .int, accessFlags := 26, slot := 2, constantValue := 0 }, { name := "INSERTED", type := .int, accessFlags := 26, slot := 3, constantValue := 0 }, { name := "SHORTEST_FIRST_RUN", type := .int, accessFlags := 26, slot := 4, constantValue := 0 }]
  methods := #[k3m0, k3m1]
  instanceTypes := #[]
  staticTypes := #[.int, .int, .int, .int, .int]
  resolved := Array.replicate 115 none
  statics := none }

def pool4 : Array CpInfo := pool [(1, u "java/lang/Cloneable"), (0, .class_ 1), (0, u "java/lang/Object"), (0, .class_ 3)] 3

/-- java/lang/Cloneable -/
def k4 : Class := { plain "java/lang/Cloneable" (some 0) with
  accessFlags := 1537
  interfaces := #[]
  cf := some (fileOf pool4 2 #[] #[] 1537 4 #[] #[])
  fields := #[]
  methods := #[]
  instanceTypes := #[]
  staticTypes := #[]
  resolved := Array.replicate 8 none
  statics := none }

def pool5 : Array CpInfo := pool [(1, u "java/io/Serializable"), (0, .class_ 1), (0, u "java/lang/Object"), (0, .class_ 3)] 3

/-- java/io/Serializable -/
def k5 : Class := { plain "java/io/Serializable" (some 0) with
  accessFlags := 1537
  interfaces := #[]
  cf := some (fileOf pool5 2 #[] #[] 1537 4 #[] #[])
  fields := #[]
  methods := #[]
  instanceTypes := #[]
  staticTypes := #[]
  resolved := Array.replicate 8 none
  statics := none }

/-- the primitive byte -/
def k6 : Class := { plain "byte" none with kind := .primitive 'B', accessFlags := 0x411 }
/-- [B -/
def k7 : Class := { plain "[B" (some 0) with kind := .array 6 .byte, interfaces := #[4, 5], accessFlags := 1041 }

/-- the primitive int -/
def k8 : Class := { plain "int" none with kind := .primitive 'I', accessFlags := 0x411 }
/-- [I -/
def k9 : Class := { plain "[I" (some 0) with kind := .array 8 .int, interfaces := #[4, 5], accessFlags := 1041 }

def heap : Heap := #[]
def classes : Array Class := #[k0, k1, k2, k3, k4, k5, k6, k7, k8, k9]
def interned : List (Array UInt16 × Addr) := []
def slotsUsed : Nat := 0
def theMethod : MethodId := ⟨1, 1⟩
def args0 : Array Value := #[.long 5, .long 7, .long 9, .int 6, .int 3]
def aboutOver (below : List Frame) : State where
  vm := { classes := classes, interned := interned.toArray }
  heap := heap
  slotsUsed := slotsUsed
  threads := #[{ frames := .invoking theMethod args0 :: below }]
def below0 : List Frame := [.native { method := ⟨0, 0⟩, args := #[] }]
def about1 : State := aboutOver below0
def p0 : Program := .bare "" "" ""
def e0 : Env := launch0.env 0 0 0
theorem w_frames : about1.frames = Frame.invoking theMethod args0 :: below0 := rfl
set_option maxRecDepth 65536 in
theorem w_args : argsFit about1.vm theMethod args0 = true := by decide +kernel
set_option maxRecDepth 65536 in
theorem w_heap : heapFits about1 = true := by decide +kernel
set_option maxRecDepth 65536 in
theorem w_runnable : about1.curStatus? = some .runnable := by decide +kernel
set_option maxRecDepth 65536 in
theorem w_alone : about1.alone = true := by decide +kernel
set_option maxRecDepth 65536 in
theorem w_named : about1.methodNamed? x = some theMethod := by decide +kernel
set_option maxRecDepth 65536 in
theorem w_hears : about1.hears theMethod below0 = true := by decide +kernel
set_option maxRecDepth 65536 in
theorem w_ripe : about1.ripe theMethod args0 below0 = true := by decide +kernel
theorem w_running : about1.status = .running := rfl
set_option maxRecDepth 65536 in
theorem w_room : about1.hasRoom e0.platform room_1 = true :=
  launch0.hasRoom_least _ room_1 (by decide +kernel) (by decide +kernel) (by decide +kernel) (by decide +kernel) (by decide +kernel) (by decide +kernel)
theorem allAtoms_all (ts : List Jvm.Cond) (a : Array Jvm.Value) (st : Jvm.State) : (allAtoms ts).before a st = ts.all (fun c => c.before a st) := by
  induction ts with
  | nil => rfl
  | cons c t ih =>
    show (Jvm.Cond.and c (allAtoms t)).before a st = _
    rw [Jvm.Cond.before_and, ih, List.all_cons]
def words1 : List Jvm.Cond := Jvm.Cond.code x code maxLocals ret :: tables_1
/-- a 'code' word, met by the world's own term for the bytes: nothing is compared byte by byte -/
theorem code_word {y : MethodName} {bytes : ByteArray} {mx : Nat} {rt : Option FieldType} {a : Array Value} {s : State} {m : MethodId} {meth : Method} {c : Code} (h1 : s.methodNamed? y = some m) (h2 : s.vm.method? m = some meth) (h3 : meth.code = some c) (h4 : c.code = bytes)
    (h5 : (c.maxLocals == mx && c.exceptionTable.isEmpty && decide (c.maxStack ≤ mostOperands) && decide (meth.sig.returnType = rt) && !meth.locks && decide (parseMethodDescriptor y.desc = some meth.sig)) = true) : (Jvm.Cond.code y bytes mx rt).before a s = true := by
  simp only [Bool.and_eq_true, beq_iff_eq, Bool.not_eq_true', decide_eq_true_eq] at h5
  obtain ⟨⟨⟨⟨⟨g1, g2⟩, g3⟩, g4⟩, g5⟩, g6⟩ := h5
  simp [Cond.before, Cond.holds, Cond.value, h1, h2, h3, h4, g1, g2, g3, g4, g5, g6]
def isCode : Jvm.Cond → Bool
  | .code _ _ _ _ => true
  | _ => false
theorem all_split {L : List Jvm.Cond} {P : Jvm.Cond → Bool} (h1 : L.all (fun c => isCode c || P c) = true) (h2 : ∀ c ∈ L.filter isCode, P c = true) : L.all P = true := by
  refine List.all_eq_true.mpr fun c hc => ?_
  have h := List.all_eq_true.mp h1 c hc
  rcases Bool.eq_false_or_eq_true (isCode c) with hi | hi
  · exact h2 c (List.mem_filter.mpr ⟨hc, hi⟩)
  · simpa [hi] using h
set_option maxRecDepth 65536 in
theorem w_c0 : (Jvm.Cond.code x code maxLocals ret).before args0 about1 = true := code_word (m := ⟨1, 1⟩) (meth := k1m1) (c := k1c1) (by decide +kernel) rfl rfl rfl (by decide +kernel)
set_option maxRecDepth 65536 in
theorem w_c1 : (Jvm.Cond.code ({ cls := "java/lang/Math", name := "max", desc := "(II)I" } : Jvm.MethodName) jdk_29_method_65_code (2 : Nat) (Option.some Jvm.ClassFile.FieldType.int)).before args0 about1 = true := code_word (m := ⟨2, 1⟩) (meth := k2m1) (c := k2c1) (by decide +kernel) rfl rfl rfl (by decide +kernel)
set_option maxRecDepth 65536 in
theorem w_c2 : (Jvm.Cond.code ({ cls := "com/example/loomtrace/loomtrace/model/IntSort", name := "lastAtMost", desc := "([III)I" } : Jvm.MethodName) prog_213_method_2_code (6 : Nat) (Option.some Jvm.ClassFile.FieldType.int)).before args0 about1 = true := code_word (m := ⟨3, 1⟩) (meth := k3m1) (c := k3c1) (by decide +kernel) rfl rfl rfl (by decide +kernel)
def codes1 : List Jvm.Cond := [Jvm.Cond.code x code maxLocals ret, Jvm.Cond.code ({ cls := "java/lang/Math", name := "max", desc := "(II)I" } : Jvm.MethodName) jdk_29_method_65_code (2 : Nat) (Option.some Jvm.ClassFile.FieldType.int), Jvm.Cond.code ({ cls := "com/example/loomtrace/loomtrace/model/IntSort", name := "lastAtMost", desc := "([III)I" } : Jvm.MethodName) prog_213_method_2_code (6 : Nat) (Option.some Jvm.ClassFile.FieldType.int)]
set_option maxRecDepth 65536 in
theorem codes_eq : words1.filter isCode = codes1 := rfl
theorem w_codes : ∀ c ∈ words1.filter isCode, c.before args0 about1 = true := by
  rw [codes_eq]
  intro c hc
  simp only [codes1, List.mem_cons, List.not_mem_nil, or_false] at hc
  rcases hc with rfl | rfl | rfl
  · exact w_c0
  · exact w_c1
  · exact w_c2
set_option maxRecDepth 65536 in
theorem w_t1 : words1.all (fun c => isCode c || c.before args0 about1) = true := by decide +kernel
theorem w_tables : (allAtoms (Jvm.Cond.code x code maxLocals ret :: tables_1)).before args0 about1 = true := by
  rw [allAtoms_all]
  show words1.all (fun c => c.before args0 about1) = true
  refine all_split ?_ w_codes
  rw [w_t1]
set_option maxRecDepth 65536 in
theorem w_case : (Jvm.Cond.and given_1 narrow_1).before args0 about1 = true := by decide +kernel
theorem w_applies : (headSpec (Jvm.Cond.code x code maxLocals ret :: tables_1) room_1).applies x e0.platform about1 = true :=
  (Spec.applies_iff w_frames).mpr ⟨w_running, w_runnable, w_alone, w_named, w_hears, w_ripe, w_room, w_tables⟩
theorem atStart : AtStart classFile x code maxLocals ret World_1 tables_1 room_1 Calls_1 rest_1 Pre_1 launch0 p0 e0 about1 theMethod args0 below0 :=
  ⟨lists_1, trivial, launch0.admits_env _ _ _, launch0.least_env, fairChoices_fair.cas, fairChoices_fair.clock, w_frames, w_args, w_heap, w_applies, trivial, trivial, w_case⟩
end start1
theorem witness_1 : WitnessClaimed_1 := ⟨start1.p0, start1.e0, start1.about1, start1.theMethod, start1.args0, start1.below0, start1.atStart⟩
end Jvm.Pilot.@@N@@
