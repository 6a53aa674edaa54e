import JvmDerived
import JvmDerived.Pilot.@@N@@Statement
import JvmDerived.Pilot.@@N@@Code
set_option linter.unusedVariables false
set_option linter.unusedSimpArgs false
namespace Jvm.Pilot.@@N@@
open Jvm Jvm.ClassFile Sem Op Lib Jvm.Free Jvm.Stand Jvm.LawKit Jvm.RoadKit Bundle Jvm.Pilot.@@N@@.Jvm.D
/-! own kit: 'from this state the body comes to its end as asked', so that a walk may fork and join -/
def own_Rch (p : Program) (e : Env) (below : List Frame) (F : Outcome → State → Prop) (S : State) : Prop :=
  ∃ s₂ o, Steps p.tables e below S s₂ ∧ s₂.status = .running ∧ Ended s₂ below o ∧ F o s₂
theorem own_go {p : Program} {e : Env} {below : List Frame} {F : Outcome → State → Prop} {S S' : State}
    (h : ∀ t, Steps p.tables e below S' t → Steps p.tables e below S t) (k : own_Rch p e below F S') : own_Rch p e below F S := by
  obtain ⟨a, b, c, d⟩ := k
  exact ⟨a, b, h _ c, d⟩
theorem own_cast {p : Program} {e : Env} {below : List Frame} {F : Outcome → State → Prop} {T : State} {g g' : JFrame} (q : g = g')
    (k : own_Rch p e below F (T.setTop g')) : own_Rch p e below F (T.setTop g) := q ▸ k
theorem own_join {p : Program} {e : Env} {below : List Frame} {F : Outcome → State → Prop} {S S' : State} (h : own_Rch p e below F S' → own_Rch p e below F S) (k : own_Rch p e below F S') : own_Rch p e below F S := h k
theorem own_narR {v : Value} {c : String} (h : v.isRef = true) : narrow (.object c) v = v := by rcases ref_cases h with rfl | ⟨_, rfl⟩ <;> rfl
theorem own_fitR {v : Value} {c : String} (h : v.isRef = true) : fits (.object c) v = true := by rcases ref_cases h with rfl | ⟨_, rfl⟩ <;> rfl
theorem own_staK {Z : State} {h h' : Heap} {C n d : String} {w : Value} (F : Sta Z h C n d w) (K : Keep h h' []) : Sta Z h' C n d w := by
  obtain ⟨cf, i, k, f, st, cell, h1, h2, h3, h4, h5, r⟩ := F
  exact ⟨cf, i, k, f, st, cell, h1, h2, h3, h4, K.2.1 _ _ h5 nin0, r⟩
def own_Fin (s : State) (k n : Nat) (Q : Option Value → Heap → List Loc → Prop) (o : Outcome) (t : State) : Prop :=
  ∃ v L, o = .returned v ∧ Q v t.heap L ∧ FrameEnd s o t L k n
def own_Ctr (l : Launch) (Z : State) (y : MethodName) (bytes : ByteArray) (maxL : Nat) (ret : Option FieldType) (ws : List Jvm.Cond) (rm : Room) (h0 : Heap) (as' : Array Value)
    (Q : Option Value → Heap → List Loc → Prop) : Prop :=
  MetFree l y (head1 (Jvm.Cond.code y bytes maxL ret :: ws) rm) (fun a U => a = as' ∧ Z.Warmed39 U.vm ∧ U.heap = h0) (fun _ _ _ _ _ => True) (fun _ U o U' => ∃ v L, o = .returned v ∧ Q v U'.heap L ∧ FrameEnd U o U' L rm.cells rm.slots)
theorem own_ctr {l : Launch} {Z : State} {y : MethodName} {bytes : ByteArray} {maxL : Nat} {ret : Option FieldType} {ws : List Jvm.Cond} {rm : Room} {h0 : Heap} {as' : Array Value}
    {Q : Option Value → Heap → List Loc → Prop} (hp : plainFor y = true)
    (body : ∀ p e s m below meth c s₁, BodyLoose p l y (head1 (Jvm.Cond.code y bytes maxL ret :: ws) rm) bytes maxL ret e s m as' below meth c s₁ → c.maxLocals = maxL → p.tables.exec = Jvm.exec → c.code = bytes →
      Z.Warmed39 s.vm → s.vm.findClass y.cls = some m.cls → Stand p l e rm s m as' below meth c s₁ [] 0 0 → s₁.heap = h0 →
      own_Rch p e below (own_Fin s rm.cells rm.slots Q) (s₁.setTop (entryFrame m as' maxL))) : own_Ctr l Z y bytes maxL ret ws rm h0 as' Q := by
  refine MetFree.of_bodySF hp hisR ?_
  intro p e s m args below meth c s₁ Bd hml hP hK
  obtain ⟨rfl, hZ, hh⟩ := hP
  exact body p e s m below meth c s₁ Bd hml Bd.exec Bd.bytes hZ (findClass_of_methodNamed Bd.named) (Stand.of_body Bd) (by rw [← hh, Bd.state]; rfl)
section OwnKit
variable {p : Program} {l : Launch} {e : Env} {R : Room} {s : State} {m : MethodId} {args : Array Value} {below : List Frame} {meth : Method} {c : Code} {T : State} {locs : List Loc} {cells slots : Nat} {Z : State} {a0 : Array Value}
theorem own_retI0 (X : Stand p l e R s m args below meth c T locs cells slots) (hx : p.tables.exec = Jvm.exec) {pc : Nat} {Ls : Array Slot} {z : Int32} {rest : List Value} (hret : meth.sig.returnType = some .int) (hd : decode c.code pc = .ok (.ireturn, 1)) {fs : List Frame}
    (hl : ∀ (f : JFrame) (acts : List Action), f.method = m → f.locked = none → f.entered = [] → (doReturn e (T.setTop f) acts (some (.int z))).1 = T.setFrames fs) : Steps p.tables e below (T.setTop (mkF m pc Ls (.int z :: rest))) (T.setFrames fs) :=
  retOut X hx hret rfl (Or.inl ⟨rfl, Or.inl rfl, z, rfl⟩) hd hl
theorem own_retN {K N : Nat} {Q : Option Value → Heap → List Loc → Prop} (X : Stand p l e R s m args below meth c T locs cells slots) (hx : p.tables.exec = Jvm.exec) {pc : Nat} {Ls : Array Slot} {z w : Int32} {t : FieldType} {rest : List Value}
    (hret : meth.sig.returnType = some t) (hlocks : meth.locks = false) (ht : t = .boolean ∨ t = .byte ∨ t = .char ∨ t = .short) (hd : decode c.code pc = .ok (.ireturn, 1)) (hw : nar t z = w) (hK : cells ≤ K) (hN : slots ≤ N)
    (hq : Q (some (.int w)) T.heap locs) : own_Rch p e below (own_Fin s K N Q) (T.setTop (mkF m pc Ls (.int z :: rest))) := by
  subst hw
  obtain ⟨fs, hr, hrun, hended, hW, hsame⟩ := X.leave (v := some (.int (nar t z))) (fun h => by rw [hret] at h; cases h) hlocks
  exact ⟨_, _, retN X hx hret ht hd hr, hrun, hended, _, _, rfl, hq, ⟨_, rfl⟩, hW, hsame.mono hK hN⟩
theorem own_retI {K N : Nat} {Q : Option Value → Heap → List Loc → Prop} (X : Stand p l e R s m args below meth c T locs cells slots) (hx : p.tables.exec = Jvm.exec) {pc : Nat} {Ls : Array Slot} {z : Int32} {rest : List Value}
    (hret : meth.sig.returnType = some .int) (hlocks : meth.locks = false) (hd : decode c.code pc = .ok (.ireturn, 1)) (hK : cells ≤ K) (hN : slots ≤ N)
    (hq : Q (some (.int z)) T.heap locs) : own_Rch p e below (own_Fin s K N Q) (T.setTop (mkF m pc Ls (.int z :: rest))) := by
  obtain ⟨fs, hr, hrun, hended, hW, hsame⟩ := X.leave (v := some (.int z)) (fun h => by rw [hret] at h; cases h) hlocks
  exact ⟨_, _, own_retI0 X hx hret hd hr, hrun, hended, _, _, rfl, hq, ⟨_, rfl⟩, hW, hsame.mono hK hN⟩
theorem own_retJ {K N : Nat} {Q : Option Value → Heap → List Loc → Prop} (X : Stand p l e R s m args below meth c T locs cells slots) (hx : p.tables.exec = Jvm.exec) {pc : Nat} {Ls : Array Slot} {z : Int64} {rest : List Value}
    (hret : meth.sig.returnType = some .long) (hlocks : meth.locks = false) (hd : decode c.code pc = .ok (.lreturn, 1)) (hK : cells ≤ K) (hN : slots ≤ N)
    (hq : Q (some (.long z)) T.heap locs) : own_Rch p e below (own_Fin s K N Q) (T.setTop (mkF m pc Ls (.long z :: rest))) := by
  obtain ⟨fs, hr, hrun, hended, hW, hsame⟩ := X.leave (v := some (.long z)) (fun h => by rw [hret] at h; cases h) hlocks
  exact ⟨_, _, retOut X hx hret rfl (Or.inr (Or.inl ⟨rfl, rfl, z, rfl⟩)) hd hr, hrun, hended, _, _, rfl, hq, ⟨_, rfl⟩, hW, hsame.mono hK hN⟩
theorem own_retA {K N : Nat} {Q : Option Value → Heap → List Loc → Prop} (X : Stand p l e R s m args below meth c T locs cells slots) (hx : p.tables.exec = Jvm.exec) {pc : Nat} {Ls : Array Slot} {w : Value} {t : FieldType} {rest : List Value}
    (hret : meth.sig.returnType = some t) (hlocks : meth.locks = false) (ht : t.isReference = true) (hw : w.isRef = true) (hn : narrow t w = w) (hd : decode c.code pc = .ok (.areturn, 1)) (hK : cells ≤ K) (hN : slots ≤ N)
    (hq : Q (some w) T.heap locs) : own_Rch p e below (own_Fin s K N Q) (T.setTop (mkF m pc Ls (w :: rest))) := by
  obtain ⟨fs, hr, hrun, hended, hW, hsame⟩ := X.leave (v := some w) (fun h => by rw [hret] at h; cases h) hlocks
  exact ⟨_, _, retOut X hx hret hn (Or.inr (Or.inr (Or.inr (Or.inr ⟨rfl, ht, hw⟩)))) hd hr, hrun, hended, _, _, rfl, hq, ⟨_, rfl⟩, hW, hsame.mono hK hN⟩
theorem own_ret0 {K N : Nat} {Q : Option Value → Heap → List Loc → Prop} (X : Stand p l e R s m args below meth c T locs cells slots) (hx : p.tables.exec = Jvm.exec) {pc : Nat} {Ls : Array Slot}
    (hret : meth.sig.returnType = none) (hlocks : meth.locks = false) (hd : decode c.code pc = .ok (.return_, 1)) (hK : cells ≤ K) (hN : slots ≤ N)
    (hq : Q none T.heap locs) : own_Rch p e below (own_Fin s K N Q) (T.setTop (mkF m pc Ls [])) := by
  obtain ⟨fs, hr, hrun, hended, hW, hsame⟩ := X.leave (v := none) (fun _ => rfl) hlocks
  exact ⟨_, _, X.returnOut hx hret hd hr, hrun, hended, _, _, rfl, hq, ⟨_, rfl⟩, hW, hsame.mono hK hN⟩
theorem own_callS (X : Stand p l e R s m args below meth c T locs cells slots) (hx : p.tables.exec = Jvm.exec) (hZ : Z.Warmed39 s.vm) {own : String} {index : Nat} {y : MethodName} {bytes : ByteArray} {maxL : Nat} {ret : Option FieldType}
    (hown : s.vm.findClass own = some m.cls) (w1 : (Jvm.Cond.methodLink own index y).before a0 Z = true) (w2 : (Jvm.Cond.static y).before a0 Z = true) (w3 : (Jvm.Cond.initialized y.cls).before a0 Z = true) (w4 : (Jvm.Cond.code y bytes maxL ret).before a0 Z = true)
    (hy : y.cls ≠ "java/lang/invoke/MethodHandle" ∧ y.cls ≠ "java/lang/invoke/VarHandle") {rm : Room} {h : Heap} {as' : Array Value} {Q : Option Value → Heap → List Loc → Prop} (hM : own_Ctr l Z y bytes maxL ret [] rm h as' Q) (eT : T.heap = h)
    {W : Nat} (hf : rm.frames + 1 ≤ R.frames) (hl : W + (maxL + 11) + rm.locals ≤ R.locals) {g : JFrame} (hg : g.method = m) (hsize : g.locals.size = c.maxLocals) {argsL rest : List Value}
    (hlen : ∀ sig, parseMethodDescriptor y.desc = some sig → argsL.length = sig.parameters.length) (hstack : g.stack = argsL.reverse ++ rest) (has : argsL.toArray = as') (hW : 2 * g.monitorRoom + (rest.map fun v => v.category).sum = W)
    (hdg : decode c.code g.pc = .ok (.invokestatic index, 3)) (hc : cells + rm.cells ≤ R.cells) (hs : slots + rm.slots ≤ R.slots) :
    ∃ v T' L, Stand p l e R s m args below meth c T' (locs ++ L) (cells + rm.cells) (slots + rm.slots) ∧ Q v T'.heap L ∧
      ∀ t, Steps p.tables e below (T'.setTop { g with pc := g.pc + 3, stack := v.toList ++ rest }) t → Steps p.tables e below (T.setTop g) t := by
  obtain ⟨v, _, ⟨T', L', k', n'⟩, -, X', ⟨Lc, hQ, l', y', z'⟩, st⟩ := Jvm.LawKit.callS X hx hown (mvT hZ w1) (mvT hZ w2) (mvT hZ w3) (mvT hZ w4) hy (backOf (Q := Q) (W := W) hM hZ w4 w3 hf hl) hg hsize hlen hstack (Nat.le_of_eq hW) hdg (fun _ _ => ⟨has, eT, hc, hs⟩)
  dsimp only [Pt.U, Pt.locs, Pt.cells, Pt.slots] at X' l' y' z' st hQ
  subst l' y' z'
  exact ⟨v, T', Lc, X', hQ, st⟩
theorem own_callC (X : Stand p l e R s m args below meth c T locs cells slots) (hx : p.tables.exec = Jvm.exec) (hZ : Z.Warmed39 s.vm) {own : String} {index : Nat} {y : MethodName} {bytes : ByteArray} {maxL : Nat} (hy1 : y.name = "<init>")
    (hown : s.vm.findClass own = some m.cls) (w1 : (Jvm.Cond.methodLink own index y).before a0 Z = true) (w2 : (Jvm.Cond.instanceMethod y).before a0 Z = true) (w3 : (Jvm.Cond.initialized y.cls).before a0 Z = true) (w4 : (Jvm.Cond.code y bytes maxL none).before a0 Z = true)
    (hy : y.cls ≠ "java/lang/invoke/MethodHandle" ∧ y.cls ≠ "java/lang/invoke/VarHandle") {rm : Room} {h : Heap} {as' : Array Value} {Q : Option Value → Heap → List Loc → Prop} (hM : own_Ctr l Z y bytes maxL none [] rm h as' Q) (eT : T.heap = h)
    {W : Nat} (hf : rm.frames + 1 ≤ R.frames) (hl : W + (maxL + 11) + rm.locals ≤ R.locals) {g : JFrame} (hg : g.method = m) (hsize : g.locals.size = c.maxLocals) {a : Addr} {argsL rest : List Value}
    (hlen : ∀ sig, parseMethodDescriptor y.desc = some sig → argsL.length = sig.parameters.length) (hstack : g.stack = argsL.reverse ++ .ref a :: rest) (has : (.ref a :: argsL).toArray = as') (hW : 2 * g.monitorRoom + (rest.map fun v => v.category).sum = W)
    (hdg : decode c.code g.pc = .ok (.invokespecial index, 3)) (hc : cells + rm.cells ≤ R.cells) (hs : slots + rm.slots ≤ R.slots) :
    ∃ v T' L, Stand p l e R s m args below meth c T' (locs ++ L) (cells + rm.cells) (slots + rm.slots) ∧ Q v T'.heap L ∧
      ∀ t, Steps p.tables e below (T'.setTop { g with pc := g.pc + 3, stack := v.toList ++ rest }) t → Steps p.tables e below (T.setTop g) t := by
  obtain ⟨v, _, ⟨T', L', k', n'⟩, -, X', ⟨Lc, hQ, l', y', z'⟩, st⟩ := X.specialBack hx hy1 hown (mvT hZ w1) (mvT hZ w2) (mvT hZ w4) hy (backOf (Q := Q) (W := W) hM hZ w4 w3 hf hl) hg hsize (Steps.refl _) hlen hstack (Nat.le_of_eq hW) hdg (fun _ _ => ⟨has, eT, hc, hs⟩)
  dsimp only [Pt.U, Pt.locs, Pt.cells, Pt.slots] at X' l' y' z' st hQ
  subst l' y' z'
  exact ⟨v, T', Lc, X', hQ, fun t k => st.trans k⟩
theorem own_callV (X : Stand p l e R s m args below meth c T locs cells slots) (hx : p.tables.exec = Jvm.exec) (hZ : Z.Warmed39 s.vm) {own C : String} {index : Nat} {y z : MethodName} {bytes : ByteArray} {maxL : Nat} {ret : Option FieldType}
    (hown : s.vm.findClass own = some m.cls) (w1 : (Jvm.Cond.methodLink own index y).before a0 Z = true) (w2 : (Jvm.Cond.declares y).before a0 Z = true) (nf : NotFace s y) (w5 : (Jvm.Cond.selects C y z).before a0 Z = true) (w6 : (Jvm.Cond.instanceMethod z).before a0 Z = true)
    (w3 : (Jvm.Cond.initialized z.cls).before a0 Z = true) (w4 : (Jvm.Cond.code z bytes maxL ret).before a0 Z = true)
    (hy : y.cls ≠ "java/lang/invoke/MethodHandle" ∧ y.cls ≠ "java/lang/invoke/VarHandle") {rm : Room} {h : Heap} {as' : Array Value} {Q : Option Value → Heap → List Loc → Prop} (hM : own_Ctr l Z z bytes maxL ret [] rm h as' Q) (eT : T.heap = h)
    {b : Addr} (E : Exa Z h b C)
    {W : Nat} (hf : rm.frames + 1 ≤ R.frames) (hl : W + (maxL + 11) + rm.locals ≤ R.locals) {g : JFrame} (hg : g.method = m) (hsize : g.locals.size = c.maxLocals) {argsL rest : List Value}
    (hlen : ∀ sig, parseMethodDescriptor y.desc = some sig → argsL.length = sig.parameters.length) (hstack : g.stack = argsL.reverse ++ .ref b :: rest) (has : (.ref b :: argsL).toArray = as') (hW : 2 * g.monitorRoom + (rest.map fun v => v.category).sum = W)
    (hdg : decode c.code g.pc = .ok (.invokevirtual index, 3)) (hc : cells + rm.cells ≤ R.cells) (hs : slots + rm.slots ≤ R.slots) :
    ∃ v T' L, Stand p l e R s m args below meth c T' (locs ++ L) (cells + rm.cells) (slots + rm.slots) ∧ Q v T'.heap L ∧
      ∀ t, Steps p.tables e below (T'.setTop { g with pc := g.pc + 3, stack := v.toList ++ rest }) t → Steps p.tables e below (T.setTop g) t := by
  obtain ⟨cq, kq, qa, qb, qc⟩ := isOf hZ eT E
  obtain ⟨v, _, ⟨T', L', k', n'⟩, -, X', ⟨Lc, hQ, l', y', z'⟩, st⟩ := X.virtualBack hx hown (mvT hZ w1) (mvT hZ w2) nf (mvT hZ w5) (mvT hZ w6) hy (backOf (Q := Q) (W := W) hM hZ w4 w3 hf hl) qa qc hg hsize (Steps.refl _) hlen hstack (Nat.le_of_eq hW) hdg (fun _ _ => ⟨has, eT, hc, hs⟩)
  dsimp only [Pt.U, Pt.locs, Pt.cells, Pt.slots] at X' l' y' z' st hQ
  subst l' y' z'
  exact ⟨v, T', Lc, X', hQ, fun t k => st.trans k⟩
end OwnKit
section OwnArr
variable {p : Program} {l : Launch} {e : Env} {R : Room} {s : State} {m : MethodId} {args : Array Value} {below : List Frame} {meth : Method} {c : Code} {T : State} {locs : List Loc} {cells slots : Nat} {Z : State} {h : Heap} {a : Addr} {k : ClassId} {z j : Int32} {vs : List Value} {dv v : Value}
theorem own_len (X : Stand p l e R s m args below meth c T locs cells slots) (hx : p.tables.exec = Jvm.exec) (hZ : Z.Warmed39 s.vm) (eT : T.heap = h) {ty : FieldType} (V : Arv Z h a k ty z vs dv)
    {g : JFrame} (hg : g.method = m) {rest : List Value} (hs : g.stack = .ref a :: rest) (hd : decode c.code g.pc = .ok (.arraylength, 1)) :
    ∀ t, Steps p.tables e below (T.setTop { g with pc := g.pc + 1, stack := .int z :: rest }) t → Steps p.tables e below (T.setTop g) t := by
  obtain ⟨cl, A, -, S, N, -, -⟩ := V
  intro t k
  refine X.arraylength hx (by rw [eT]; exact A.1) (State.isArrayOf_alike hZ.alike A.2.1) hg hs hd _ ?_
  rw [len_of S N]; exact k
theorem own_bal (X : Stand p l e R s m args below meth c T locs cells slots) (hx : p.tables.exec = Jvm.exec) (hZ : Z.Warmed39 s.vm) (eT : T.heap = h) (V : Arv Z h a k .byte z vs dv) (hj : ¬ j < 0 ∧ j < z) (hv : vs.getD j.toNatClampNeg dv = v)
    {g : JFrame} (hg : g.method = m) {rest : List Value} (hs : g.stack = .int j :: .ref a :: rest) (hd : decode c.code g.pc = .ok (.baload, 1)) :
    ∀ t, Steps p.tables e below (T.setTop { g with pc := g.pc + 1, stack := v :: rest }) t → Steps p.tables e below (T.setTop g) t := by
  obtain ⟨cl, A, -, S, N, H, -⟩ := V
  have hin := inb_of S hj
  intro t k
  exact X.baloadBytes hx (by rw [eT]; exact A.1) (State.isArrayOf_alike hZ.alike A.2.1) A.2.2 hin (Has.at H hin hv) hg hs hd _ k
theorem own_ial (X : Stand p l e R s m args below meth c T locs cells slots) (hx : p.tables.exec = Jvm.exec) (hZ : Z.Warmed39 s.vm) (eT : T.heap = h) (V : Arv Z h a k .int z vs dv) (hj : ¬ j < 0 ∧ j < z) (hv : vs.getD j.toNatClampNeg dv = v)
    {g : JFrame} (hg : g.method = m) {rest : List Value} (hs : g.stack = .int j :: .ref a :: rest) (hd : decode c.code g.pc = .ok (.iaload, 1)) :
    ∀ t, Steps p.tables e below (T.setTop { g with pc := g.pc + 1, stack := v :: rest }) t → Steps p.tables e below (T.setTop g) t := by
  obtain ⟨cl, A, -, S, N, H, -⟩ := V
  have hin := inb_of S hj
  intro t k
  exact X.iaload hx (by rw [eT]; exact A.1) (State.isArrayOf_alike hZ.alike A.2.1) A.2.2 hin (Has.at H hin hv) hg hs hd _ k
theorem own_stB (X : Stand p l e R s m args below meth c T locs cells slots) (hx : p.tables.exec = Jvm.exec) (hZ : Z.Warmed39 s.vm) (eT : T.heap = h) (V : Arv Z h a k .byte z vs dv) (hj : ¬ j < 0 ∧ j < z) {i : Nat} (hi : j.toNatClampNeg = i) (hlt : i < vs.length) {x : Int32}
    {g : JFrame} (hg : g.method = m) {rest : List Value} (hs : g.stack = .int x :: .int j :: .ref a :: rest) (hd : decode c.code g.pc = .ok (.bastore, 1)) :
    ∃ T' h', Stand p l e R s m args below meth c T' (locs ++ [⟨a, j.toNatClampNeg⟩]) cells slots ∧ T'.heap = h' ∧ Wr h h' a j.toNatClampNeg (.int (nar .byte x)) ∧ Arv Z h' a k .byte z (vs.set i (.int (nar .byte x))) dv ∧
      ∀ t, Steps p.tables e below (T'.setTop { g with pc := g.pc + 1, stack := rest }) t → Steps p.tables e below (T.setTop g) t := by
  obtain ⟨cl, A, q, S, N, H, G⟩ := V
  obtain ⟨T', h', X', e', W, st⟩ := stB X hx hZ eT A (inb_of S hj) hg hs hd
  exact ⟨T', h', X', e', W, Arv.set A q S N H G (fits_nar_byte _) W i hi hlt, st⟩
theorem own_stI (X : Stand p l e R s m args below meth c T locs cells slots) (hx : p.tables.exec = Jvm.exec) (hZ : Z.Warmed39 s.vm) (eT : T.heap = h) (V : Arv Z h a k .int z vs dv) (hj : ¬ j < 0 ∧ j < z) {i : Nat} (hi : j.toNatClampNeg = i) (hlt : i < vs.length) {x : Int32}
    {g : JFrame} (hg : g.method = m) {rest : List Value} (hs : g.stack = .int x :: .int j :: .ref a :: rest) (hd : decode c.code g.pc = .ok (.iastore, 1)) :
    ∃ T' h', Stand p l e R s m args below meth c T' (locs ++ [⟨a, j.toNatClampNeg⟩]) cells slots ∧ T'.heap = h' ∧ Wr h h' a j.toNatClampNeg (.int x) ∧ Arv Z h' a k .int z (vs.set i (.int x)) dv ∧
      ∀ t, Steps p.tables e below (T'.setTop { g with pc := g.pc + 1, stack := rest }) t → Steps p.tables e below (T.setTop g) t := by
  obtain ⟨cl, A, q, S, N, H, G⟩ := V
  obtain ⟨T', h', X', e', W, st⟩ := stI X hx hZ eT A (inb_of S hj) hg hs hd
  exact ⟨T', h', X', e', W, Arv.set A q S N H G rfl W i hi hlt, st⟩
end OwnArr
def own_sm (z w0 w1 : Int32) : Int32 := if z < (2 : Int32) then 0 else if (w0 &&& (255 : Int32)) = (31 : Int32) then (if (w1 &&& (255 : Int32)) = (139 : Int32) then 1 else 0) else 0
theorem own_b31 : ∀ z : BitVec 8, ((((Int8.ofBitVec z).toInt32 &&& (255 : Int32)) = (31 : Int32)) ↔ ((Int8.ofBitVec z).toInt32 = (31 : Int32))) ∧ ((((Int8.ofBitVec z).toInt32 &&& (255 : Int32)) = (139 : Int32)) ↔ ((Int8.ofBitVec z).toInt32 = (-117 : Int32))) := by decide +kernel
theorem own_smE (z : Int32) (y0 y1 : Int8) (hz : ¬ z < (2 : Int32)) : own_sm z y0.toInt32 y1.toInt32 = if y0.toInt32 = (31 : Int32) then (if y1.toInt32 = (-117 : Int32) then 1 else 0) else 0 := by
  have h0 := (own_b31 y0.toBitVec).1
  have h1 := (own_b31 y1.toBitVec).2
  rw [own_sm, if_neg hz]
  simp only [show Int8.ofBitVec y0.toBitVec = y0 from rfl] at h0
  simp only [show Int8.ofBitVec y1.toBitVec = y1 from rfl] at h1
  simp only [h0, h1]
theorem own_nb (y : Int8) : nar .byte y.toInt32 = y.toInt32 := by
  show y.toInt32.toInt8.toInt32 = y.toInt32
  simp
theorem own_and3 (x : Int32) : (x &&& (3 : Int32)) = 0 ∨ (x &&& (3 : Int32)) = 1 ∨ (x &&& (3 : Int32)) = 2 ∨ (x &&& (3 : Int32)) = 3 := by
  have h := c_mask x 3 2 (by decide) (by decide)
  simp only [← Int32.toInt_inj]
  have e0 : (0 : Int32).toInt = 0 := by decide
  have e1 : (1 : Int32).toInt = 1 := by decide
  have e2 : (2 : Int32).toInt = 2 := by decide
  have e3 : (3 : Int32).toInt = 3 := by decide
  rw [e0, e1, e2, e3, h]
  omega
theorem own_ge2 {z j : Int32} (h : ¬ z < (2 : Int32)) (hj : j < (2 : Int32)) : j < z := by
  rw [Int32.lt_iff_toInt_lt] at h hj ⊢
  omega
theorem own_d1_0 : decode prog_33_method_2_code 0 = .ok (.aload_n 0, 1) := by decide +kernel
theorem own_d1_1 : decode prog_33_method_2_code 1 = .ok (.arraylength, 1) := by decide +kernel
theorem own_d1_2 : decode prog_33_method_2_code 2 = .ok (.iconst 2, 1) := by decide +kernel
theorem own_d1_3 : decode prog_33_method_2_code 3 = .ok (.if_icmp .lt 32, 3) := by decide +kernel
theorem own_d1_6 : decode prog_33_method_2_code 6 = .ok (.aload_n 0, 1) := by decide +kernel
theorem own_d1_7 : decode prog_33_method_2_code 7 = .ok (.iconst 0, 1) := by decide +kernel
theorem own_d1_8 : decode prog_33_method_2_code 8 = .ok (.baload, 1) := by decide +kernel
theorem own_d1_9 : decode prog_33_method_2_code 9 = .ok (.sipush 255, 3) := by decide +kernel
theorem own_d1_12 : decode prog_33_method_2_code 12 = .ok (.iand, 1) := by decide +kernel
theorem own_d1_13 : decode prog_33_method_2_code 13 = .ok (.bipush 31, 2) := by decide +kernel
theorem own_d1_15 : decode prog_33_method_2_code 15 = .ok (.if_icmp .ne 20, 3) := by decide +kernel
theorem own_d1_18 : decode prog_33_method_2_code 18 = .ok (.aload_n 0, 1) := by decide +kernel
theorem own_d1_19 : decode prog_33_method_2_code 19 = .ok (.iconst 1, 1) := by decide +kernel
theorem own_d1_20 : decode prog_33_method_2_code 20 = .ok (.baload, 1) := by decide +kernel
theorem own_d1_21 : decode prog_33_method_2_code 21 = .ok (.sipush 255, 3) := by decide +kernel
theorem own_d1_24 : decode prog_33_method_2_code 24 = .ok (.iand, 1) := by decide +kernel
theorem own_d1_25 : decode prog_33_method_2_code 25 = .ok (.sipush 139, 3) := by decide +kernel
theorem own_d1_28 : decode prog_33_method_2_code 28 = .ok (.if_icmp .ne 7, 3) := by decide +kernel
theorem own_d1_31 : decode prog_33_method_2_code 31 = .ok (.iconst 1, 1) := by decide +kernel
theorem own_d1_32 : decode prog_33_method_2_code 32 = .ok (.goto 4, 3) := by decide +kernel
theorem own_d1_35 : decode prog_33_method_2_code 35 = .ok (.iconst 0, 1) := by decide +kernel
theorem own_d1_36 : decode prog_33_method_2_code 36 = .ok (.ireturn, 1) := by decide +kernel
theorem own_c1_ef (m : MethodId) (x0 : Addr) : entryFrame m #[(.ref x0)] 1 = mkF m 0 #[.val (.ref x0)] [] := by first | (simp [entryFrame, mkF, argsToLocals, Value.category]; done) | rfl
theorem own_pn0 : plainName "com/example/spillover/spillover/log/GzipMembers" = true := by first | (simp [plainName, overriddenIn]; done) | decide +kernel
set_option maxRecDepth 65536 in
set_option maxHeartbeats 40000000 in
theorem own_c1 (l : Launch) (Z : State) (a0 : Array Value) (hw : ∀ d ∈ tables_1, d.before a0 Z = true) (ws : List Jvm.Cond) (a1 : Addr) (kc : ClassId) (z : Int32) (vs : List Value) (w0 w1 : Int32) (h0 : Heap) (n0 : Nat) (Z0 : n0 ≤ h0.size) (V0 : Arv Z h0 a1 kc .byte z vs (.int 0)) (q0 : ¬ z < (2 : Int32) → vs.getD 0 (.int 0) = .int w0) (q1 : ¬ z < (2 : Int32) → vs.getD 1 (.int 0) = .int w1) :
    own_Ctr l Z (⟨"com/example/spillover/spillover/log/GzipMembers", "startsMember", "([B)Z"⟩ : MethodName) prog_33_method_2_code 1 (some .boolean) ws ({ frames := 0, cells := 0, slots := 0, locals := 0 } : Room) h0 #[(.ref a1)] (fun v h L => v = some (.int (own_sm z w0 w1)) ∧ Fr n0 L ∧ h = h0) := by
  refine own_ctr (plainFor_of_name own_pn0) ?_
  intro p e s m below meth c s₁ Bd hml0 hx hby hZ hown0 X0 e0
  have hml : c.maxLocals = 1 := hml0
  have hown : s.vm.findClass "com/example/spillover/spillover/log/GzipMembers" = some m.cls := hown0
  have hnm := (name_of_methodNamed Bd.named Bd.method).1
  have N0 := Fr.nil n0
  refine own_cast (own_c1_ef m a1) ?_
  refine own_go (S' := (s₁.setTop (mkF m 1 #[.val (.ref a1)] [(.ref a1)]))) (fun t_ k_ => ?_) ?_
  · refine XS.aloadN X0.here hx rfl (hb hby own_d1_0) rfl rfl ?_
    show Steps p.tables e below (s₁.setTop (mkF m 1 #[.val (.ref a1)] [(.ref a1)])) _
    exact k_
  refine own_go (own_len X0 hx hZ e0 V0 (g := (mkF m 1 #[.val (.ref a1)] [(.ref a1)])) rfl rfl (hb hby own_d1_1)) ?_
  show own_Rch p e below _ (s₁.setTop (mkF m 2 #[.val (.ref a1)] [(.int z)]))
  refine own_go (S' := (s₁.setTop (mkF m 3 #[.val (.ref a1)] [(.int (2 : Int32)), (.int z)]))) (fun t_ k_ => ?_) ?_
  · refine XS.iconst X0.here hx rfl (hb hby own_d1_2) ?_
    show Steps p.tables e below (s₁.setTop (mkF m 3 #[.val (.ref a1)] [(.int (2 : Int32)), (.int z)])) _
    exact k_
  by_cases h1 : z < (2 : Int32)
  · skip
    refine own_go (S' := (s₁.setTop (mkF m 36 #[.val (.ref a1)] [(.int (0 : Int32))]))) (fun t_ k_ => ?_) ?_
    · refine XS.icmpYes X0.here hx rfl (pc0 := 3) (pc' := 35) rfl (hb hby own_d1_3) rfl (tlt h1).1 (by decide) (by decide) ?_
      show Steps p.tables e below (s₁.setTop (mkF m 35 #[.val (.ref a1)] [])) _
      refine XS.iconst X0.here hx rfl (hb hby own_d1_35) ?_
      show Steps p.tables e below (s₁.setTop (mkF m 36 #[.val (.ref a1)] [(.int (0 : Int32))])) _
      exact k_
    refine own_retN X0 hx (t := .boolean) Bd.returns Bd.notSynchronized (by simp) (hb hby own_d1_36) rfl (by decide) (by decide) ?_
    try rw [e0]
    exact ⟨by rw [own_sm, if_pos h1] <;> rfl, N0, rfl⟩
  · skip
    refine own_go (S' := (s₁.setTop (mkF m 8 #[.val (.ref a1)] [(.int (0 : Int32)), (.ref a1)]))) (fun t_ k_ => ?_) ?_
    · refine XS.icmpNo X0.here hx rfl (hb hby own_d1_3) rfl (flt h1).1 ?_
      show Steps p.tables e below (s₁.setTop (mkF m 6 #[.val (.ref a1)] [])) _
      refine XS.aloadN X0.here hx rfl (hb hby own_d1_6) rfl rfl ?_
      show Steps p.tables e below (s₁.setTop (mkF m 7 #[.val (.ref a1)] [(.ref a1)])) _
      refine XS.iconst X0.here hx rfl (hb hby own_d1_7) ?_
      show Steps p.tables e below (s₁.setTop (mkF m 8 #[.val (.ref a1)] [(.int (0 : Int32)), (.ref a1)])) _
      exact k_
    have i0 : ¬ (0 : Int32) < 0 ∧ (0 : Int32) < z := ⟨by decide, own_ge2 h1 (by decide)⟩
    have i1 : ¬ (1 : Int32) < 0 ∧ (1 : Int32) < z := ⟨by decide, own_ge2 h1 (by decide)⟩
    refine own_go (own_bal X0 hx hZ e0 V0 i0 (q0 h1) (g := (mkF m 8 #[.val (.ref a1)] [(.int (0 : Int32)), (.ref a1)])) rfl rfl (hb hby own_d1_8)) ?_
    show own_Rch p e below _ (s₁.setTop (mkF m 9 #[.val (.ref a1)] [(.int w0)]))
    refine own_go (S' := (s₁.setTop (mkF m 15 #[.val (.ref a1)] [(.int (31 : Int32)), (.int (w0 &&& (255 : Int32)))]))) (fun t_ k_ => ?_) ?_
    · refine XS.sipush X0.here hx rfl (hb hby own_d1_9) ?_
      show Steps p.tables e below (s₁.setTop (mkF m 12 #[.val (.ref a1)] [(.int (255 : Int32)), (.int w0)])) _
      refine XS.iand X0.here hx rfl (hb hby own_d1_12) rfl ?_
      show Steps p.tables e below (s₁.setTop (mkF m 13 #[.val (.ref a1)] [(.int (w0 &&& (255 : Int32)))])) _
      refine XS.bipush X0.here hx rfl (hb hby own_d1_13) ?_
      show Steps p.tables e below (s₁.setTop (mkF m 15 #[.val (.ref a1)] [(.int (31 : Int32)), (.int (w0 &&& (255 : Int32)))])) _
      exact k_
    by_cases h2 : (w0 &&& (255 : Int32)) = (31 : Int32)
    · skip
      refine own_go (S' := (s₁.setTop (mkF m 20 #[.val (.ref a1)] [(.int (1 : Int32)), (.ref a1)]))) (fun t_ k_ => ?_) ?_
      · refine XS.icmpNo X0.here hx rfl (hb hby own_d1_15) rfl (teq h2).2 ?_
        show Steps p.tables e below (s₁.setTop (mkF m 18 #[.val (.ref a1)] [])) _
        refine XS.aloadN X0.here hx rfl (hb hby own_d1_18) rfl rfl ?_
        show Steps p.tables e below (s₁.setTop (mkF m 19 #[.val (.ref a1)] [(.ref a1)])) _
        refine XS.iconst X0.here hx rfl (hb hby own_d1_19) ?_
        show Steps p.tables e below (s₁.setTop (mkF m 20 #[.val (.ref a1)] [(.int (1 : Int32)), (.ref a1)])) _
        exact k_
      refine own_go (own_bal X0 hx hZ e0 V0 i1 (q1 h1) (g := (mkF m 20 #[.val (.ref a1)] [(.int (1 : Int32)), (.ref a1)])) rfl rfl (hb hby own_d1_20)) ?_
      show own_Rch p e below _ (s₁.setTop (mkF m 21 #[.val (.ref a1)] [(.int w1)]))
      refine own_go (S' := (s₁.setTop (mkF m 28 #[.val (.ref a1)] [(.int (139 : Int32)), (.int (w1 &&& (255 : Int32)))]))) (fun t_ k_ => ?_) ?_
      · refine XS.sipush X0.here hx rfl (hb hby own_d1_21) ?_
        show Steps p.tables e below (s₁.setTop (mkF m 24 #[.val (.ref a1)] [(.int (255 : Int32)), (.int w1)])) _
        refine XS.iand X0.here hx rfl (hb hby own_d1_24) rfl ?_
        show Steps p.tables e below (s₁.setTop (mkF m 25 #[.val (.ref a1)] [(.int (w1 &&& (255 : Int32)))])) _
        refine XS.sipush X0.here hx rfl (hb hby own_d1_25) ?_
        show Steps p.tables e below (s₁.setTop (mkF m 28 #[.val (.ref a1)] [(.int (139 : Int32)), (.int (w1 &&& (255 : Int32)))])) _
        exact k_
      by_cases h3 : (w1 &&& (255 : Int32)) = (139 : Int32)
      · skip
        refine own_go (S' := (s₁.setTop (mkF m 36 #[.val (.ref a1)] [(.int (1 : Int32))]))) (fun t_ k_ => ?_) ?_
        · refine XS.icmpNo X0.here hx rfl (hb hby own_d1_28) rfl (teq h3).2 ?_
          show Steps p.tables e below (s₁.setTop (mkF m 31 #[.val (.ref a1)] [])) _
          refine XS.iconst X0.here hx rfl (hb hby own_d1_31) ?_
          show Steps p.tables e below (s₁.setTop (mkF m 32 #[.val (.ref a1)] [(.int (1 : Int32))])) _
          refine XS.goto X0.here hx rfl (pc0 := 32) (pc' := 36) rfl (hb hby own_d1_32) (by decide) (by decide) ?_
          show Steps p.tables e below (s₁.setTop (mkF m 36 #[.val (.ref a1)] [(.int (1 : Int32))])) _
          exact k_
        refine own_retN X0 hx (t := .boolean) Bd.returns Bd.notSynchronized (by simp) (hb hby own_d1_36) rfl (by decide) (by decide) ?_
        try rw [e0]
        exact ⟨by rw [own_sm, if_neg h1, if_pos h2, if_pos h3] <;> rfl, N0, rfl⟩
      · skip
        refine own_go (S' := (s₁.setTop (mkF m 36 #[.val (.ref a1)] [(.int (0 : Int32))]))) (fun t_ k_ => ?_) ?_
        · refine XS.icmpYes X0.here hx rfl (pc0 := 28) (pc' := 35) rfl (hb hby own_d1_28) rfl (feq h3).2 (by decide) (by decide) ?_
          show Steps p.tables e below (s₁.setTop (mkF m 35 #[.val (.ref a1)] [])) _
          refine XS.iconst X0.here hx rfl (hb hby own_d1_35) ?_
          show Steps p.tables e below (s₁.setTop (mkF m 36 #[.val (.ref a1)] [(.int (0 : Int32))])) _
          exact k_
        refine own_retN X0 hx (t := .boolean) Bd.returns Bd.notSynchronized (by simp) (hb hby own_d1_36) rfl (by decide) (by decide) ?_
        try rw [e0]
        exact ⟨by rw [own_sm, if_neg h1, if_pos h2, if_neg h3] <;> rfl, N0, rfl⟩
    · skip
      refine own_go (S' := (s₁.setTop (mkF m 36 #[.val (.ref a1)] [(.int (0 : Int32))]))) (fun t_ k_ => ?_) ?_
      · refine XS.icmpYes X0.here hx rfl (pc0 := 15) (pc' := 35) rfl (hb hby own_d1_15) rfl (feq h2).2 (by decide) (by decide) ?_
        show Steps p.tables e below (s₁.setTop (mkF m 35 #[.val (.ref a1)] [])) _
        refine XS.iconst X0.here hx rfl (hb hby own_d1_35) ?_
        show Steps p.tables e below (s₁.setTop (mkF m 36 #[.val (.ref a1)] [(.int (0 : Int32))])) _
        exact k_
      refine own_retN X0 hx (t := .boolean) Bd.returns Bd.notSynchronized (by simp) (hb hby own_d1_36) rfl (by decide) (by decide) ?_
      try rw [e0]
      exact ⟨by rw [own_sm, if_neg h1, if_neg h2] <;> rfl, N0, rfl⟩
theorem own_pd0 : parseMethodDescriptor "([B)Z" = some ⟨[(.array .byte)], some .boolean⟩ := by decide +kernel
theorem own_c0_ef (m : MethodId) (x0 : Int32) (x1 : Int32) (x2 : Int32) (x3 : Int32) (x4 : Int32) : entryFrame m #[(.int x0), (.int x1), (.int x2), (.int x3), (.int x4)] maxLocals = mkF m 0 #[.val (.int x0), .val (.int x1), .val (.int x2), .val (.int x3), .val (.int x4), .unset, .unset, .unset, .unset, .unset, .unset, .unset, .unset] [] := by first | (simp [entryFrame, mkF, argsToLocals, Value.category, maxLocals]; done) | rfl
theorem own_pn1 : plainName "com/example/spillover/spillover/log/GzipMembersStartsMemberPinLaw" = true := by first | (simp [plainName, overriddenIn]; done) | decide +kernel
set_option maxRecDepth 65536 in
set_option maxHeartbeats 40000000 in
theorem own_c0 (l : Launch) (Z : State) (a0 : Array Value) (hw : ∀ d ∈ tables_1, d.before a0 Z = true) (ws : List Jvm.Cond) (p1 p2 p3 p4 p5 : Int32) (h0 : Heap) (n0 : Nat) (Z0 : n0 ≤ h0.size) :
    own_Ctr l Z x code maxLocals ret ws room_1 h0 #[(.int p1), (.int p2), (.int p3), (.int p4), (.int p5)] (fun v h L => v = some (.int 1) ∧ Fr n0 L) := by
  refine own_ctr (plainFor_of_name own_pn1) ?_
  intro p e s m below meth c s₁ Bd hml0 hx hby hZ hown0 X0 e0
  have hml : c.maxLocals = 13 := hml0
  have hown : s.vm.findClass "com/example/spillover/spillover/log/GzipMembersStartsMemberPinLaw" = some m.cls := hown0
  have hnm := (name_of_methodNamed Bd.named Bd.method).1
  have N0 := Fr.nil n0
  refine own_cast (own_c0_ef m p1 p2 p3 p4 p5) ?_
  refine own_go (S' := (s₁.setTop (mkF m 8 #[.val (.int p1), .val (.int p2), .val (.int p3), .val (.int p4), .val (.int p5), .val (.int (p1 &&& (3 : Int32))), .unset, .unset, .unset, .unset, .unset, .unset, .unset] [(.int (p2 &&& (1 : Int32)))]))) (fun t_ k_ => ?_) ?_
  · refine XS.iloadN X0.here hx rfl (hb hby at_0) rfl ?_
    show Steps p.tables e below (s₁.setTop (mkF m 1 #[.val (.int p1), .val (.int p2), .val (.int p3), .val (.int p4), .val (.int p5), .unset, .unset, .unset, .unset, .unset, .unset, .unset, .unset] [(.int p1)])) _
    refine XS.iconst X0.here hx rfl (hb hby at_1) ?_
    show Steps p.tables e below (s₁.setTop (mkF m 2 #[.val (.int p1), .val (.int p2), .val (.int p3), .val (.int p4), .val (.int p5), .unset, .unset, .unset, .unset, .unset, .unset, .unset, .unset] [(.int (3 : Int32)), (.int p1)])) _
    refine XS.iand X0.here hx rfl (hb hby at_2) rfl ?_
    show Steps p.tables e below (s₁.setTop (mkF m 3 #[.val (.int p1), .val (.int p2), .val (.int p3), .val (.int p4), .val (.int p5), .unset, .unset, .unset, .unset, .unset, .unset, .unset, .unset] [(.int (p1 &&& (3 : Int32)))])) _
    refine XS.istore X0.here hx rfl (hb hby at_3) rfl (l' := #[.val (.int p1), .val (.int p2), .val (.int p3), .val (.int p4), .val (.int p5), .val (.int (p1 &&& (3 : Int32))), .unset, .unset, .unset, .unset, .unset, .unset, .unset]) rfl ?_
    show Steps p.tables e below (s₁.setTop (mkF m 5 #[.val (.int p1), .val (.int p2), .val (.int p3), .val (.int p4), .val (.int p5), .val (.int (p1 &&& (3 : Int32))), .unset, .unset, .unset, .unset, .unset, .unset, .unset] [])) _
    refine XS.iloadN X0.here hx rfl (hb hby at_5) rfl ?_
    show Steps p.tables e below (s₁.setTop (mkF m 6 #[.val (.int p1), .val (.int p2), .val (.int p3), .val (.int p4), .val (.int p5), .val (.int (p1 &&& (3 : Int32))), .unset, .unset, .unset, .unset, .unset, .unset, .unset] [(.int p2)])) _
    refine XS.iconst X0.here hx rfl (hb hby at_6) ?_
    show Steps p.tables e below (s₁.setTop (mkF m 7 #[.val (.int p1), .val (.int p2), .val (.int p3), .val (.int p4), .val (.int p5), .val (.int (p1 &&& (3 : Int32))), .unset, .unset, .unset, .unset, .unset, .unset, .unset] [(.int (1 : Int32)), (.int p2)])) _
    refine XS.iand X0.here hx rfl (hb hby at_7) rfl ?_
    show Steps p.tables e below (s₁.setTop (mkF m 8 #[.val (.int p1), .val (.int p2), .val (.int p3), .val (.int p4), .val (.int p5), .val (.int (p1 &&& (3 : Int32))), .unset, .unset, .unset, .unset, .unset, .unset, .unset] [(.int (p2 &&& (1 : Int32)))])) _
    exact k_
  obtain ⟨c0, ec0⟩ : ∃ z : Int32, z = if (p2 &&& (1 : Int32)) = (0 : Int32) then (p3.toInt8.toInt32) else (31 : Int32) := ⟨_, rfl⟩
  refine own_join (S' := (s₁.setTop (mkF m 18 #[.val (.int p1), .val (.int p2), .val (.int p3), .val (.int p4), .val (.int p5), .val (.int (p1 &&& (3 : Int32))), .unset, .unset, .unset, .unset, .unset, .unset, .unset] [(.int c0)]))) (fun J1 => ?_) ?_
  · skip
    by_cases h1 : (p2 &&& (1 : Int32)) = (0 : Int32)
    · skip
      refine own_go (S' := (s₁.setTop (mkF m 18 #[.val (.int p1), .val (.int p2), .val (.int p3), .val (.int p4), .val (.int p5), .val (.int (p1 &&& (3 : Int32))), .unset, .unset, .unset, .unset, .unset, .unset, .unset] [(.int (p3.toInt8.toInt32))]))) (fun t_ k_ => ?_) ?_
      · refine XS.ifYes X0.here hx rfl (pc0 := 8) (pc' := 16) rfl (hb hby at_8) rfl ((if0 _ _).trans (teq h1).1) (by decide) (by decide) ?_
        show Steps p.tables e below (s₁.setTop (mkF m 16 #[.val (.int p1), .val (.int p2), .val (.int p3), .val (.int p4), .val (.int p5), .val (.int (p1 &&& (3 : Int32))), .unset, .unset, .unset, .unset, .unset, .unset, .unset] [])) _
        refine XS.iloadN X0.here hx rfl (hb hby at_16) rfl ?_
        show Steps p.tables e below (s₁.setTop (mkF m 17 #[.val (.int p1), .val (.int p2), .val (.int p3), .val (.int p4), .val (.int p5), .val (.int (p1 &&& (3 : Int32))), .unset, .unset, .unset, .unset, .unset, .unset, .unset] [(.int p3)])) _
        refine XS.i2b X0.here hx rfl (hb hby at_17) rfl ?_
        show Steps p.tables e below (s₁.setTop (mkF m 18 #[.val (.int p1), .val (.int p2), .val (.int p3), .val (.int p4), .val (.int p5), .val (.int (p1 &&& (3 : Int32))), .unset, .unset, .unset, .unset, .unset, .unset, .unset] [(.int (p3.toInt8.toInt32))])) _
        exact k_
      rw [if_pos h1] at ec0; subst ec0; exact J1
    · skip
      refine own_go (S' := (s₁.setTop (mkF m 18 #[.val (.int p1), .val (.int p2), .val (.int p3), .val (.int p4), .val (.int p5), .val (.int (p1 &&& (3 : Int32))), .unset, .unset, .unset, .unset, .unset, .unset, .unset] [(.int (31 : Int32))]))) (fun t_ k_ => ?_) ?_
      · refine XS.ifNo X0.here hx rfl (hb hby at_8) rfl ((if0 _ _).trans (feq h1).1) ?_
        show Steps p.tables e below (s₁.setTop (mkF m 11 #[.val (.int p1), .val (.int p2), .val (.int p3), .val (.int p4), .val (.int p5), .val (.int (p1 &&& (3 : Int32))), .unset, .unset, .unset, .unset, .unset, .unset, .unset] [])) _
        refine XS.bipush X0.here hx rfl (hb hby at_11) ?_
        show Steps p.tables e below (s₁.setTop (mkF m 13 #[.val (.int p1), .val (.int p2), .val (.int p3), .val (.int p4), .val (.int p5), .val (.int (p1 &&& (3 : Int32))), .unset, .unset, .unset, .unset, .unset, .unset, .unset] [(.int (31 : Int32))])) _
        refine XS.goto X0.here hx rfl (pc0 := 13) (pc' := 18) rfl (hb hby at_13) (by decide) (by decide) ?_
        show Steps p.tables e below (s₁.setTop (mkF m 18 #[.val (.int p1), .val (.int p2), .val (.int p3), .val (.int p4), .val (.int p5), .val (.int (p1 &&& (3 : Int32))), .unset, .unset, .unset, .unset, .unset, .unset, .unset] [(.int (31 : Int32))])) _
        exact k_
      rw [if_neg h1] at ec0; subst ec0; exact J1
  refine own_go (S' := (s₁.setTop (mkF m 23 #[.val (.int p1), .val (.int p2), .val (.int p3), .val (.int p4), .val (.int p5), .val (.int (p1 &&& (3 : Int32))), .val (.int c0), .unset, .unset, .unset, .unset, .unset, .unset] [(.int (p2 &&& (2 : Int32)))]))) (fun t_ k_ => ?_) ?_
  · refine XS.istore X0.here hx rfl (hb hby at_18) rfl (l' := #[.val (.int p1), .val (.int p2), .val (.int p3), .val (.int p4), .val (.int p5), .val (.int (p1 &&& (3 : Int32))), .val (.int c0), .unset, .unset, .unset, .unset, .unset, .unset]) rfl ?_
    show Steps p.tables e below (s₁.setTop (mkF m 20 #[.val (.int p1), .val (.int p2), .val (.int p3), .val (.int p4), .val (.int p5), .val (.int (p1 &&& (3 : Int32))), .val (.int c0), .unset, .unset, .unset, .unset, .unset, .unset] [])) _
    refine XS.iloadN X0.here hx rfl (hb hby at_20) rfl ?_
    show Steps p.tables e below (s₁.setTop (mkF m 21 #[.val (.int p1), .val (.int p2), .val (.int p3), .val (.int p4), .val (.int p5), .val (.int (p1 &&& (3 : Int32))), .val (.int c0), .unset, .unset, .unset, .unset, .unset, .unset] [(.int p2)])) _
    refine XS.iconst X0.here hx rfl (hb hby at_21) ?_
    show Steps p.tables e below (s₁.setTop (mkF m 22 #[.val (.int p1), .val (.int p2), .val (.int p3), .val (.int p4), .val (.int p5), .val (.int (p1 &&& (3 : Int32))), .val (.int c0), .unset, .unset, .unset, .unset, .unset, .unset] [(.int (2 : Int32)), (.int p2)])) _
    refine XS.iand X0.here hx rfl (hb hby at_22) rfl ?_
    show Steps p.tables e below (s₁.setTop (mkF m 23 #[.val (.int p1), .val (.int p2), .val (.int p3), .val (.int p4), .val (.int p5), .val (.int (p1 &&& (3 : Int32))), .val (.int c0), .unset, .unset, .unset, .unset, .unset, .unset] [(.int (p2 &&& (2 : Int32)))])) _
    exact k_
  obtain ⟨c1, ec1⟩ : ∃ z : Int32, z = if (p2 &&& (2 : Int32)) = (0 : Int32) then (p4.toInt8.toInt32) else (-117 : Int32) := ⟨_, rfl⟩
  refine own_join (S' := (s₁.setTop (mkF m 33 #[.val (.int p1), .val (.int p2), .val (.int p3), .val (.int p4), .val (.int p5), .val (.int (p1 &&& (3 : Int32))), .val (.int c0), .unset, .unset, .unset, .unset, .unset, .unset] [(.int c1)]))) (fun J2 => ?_) ?_
  · skip
    by_cases h2 : (p2 &&& (2 : Int32)) = (0 : Int32)
    · skip
      refine own_go (S' := (s₁.setTop (mkF m 33 #[.val (.int p1), .val (.int p2), .val (.int p3), .val (.int p4), .val (.int p5), .val (.int (p1 &&& (3 : Int32))), .val (.int c0), .unset, .unset, .unset, .unset, .unset, .unset] [(.int (p4.toInt8.toInt32))]))) (fun t_ k_ => ?_) ?_
      · refine XS.ifYes X0.here hx rfl (pc0 := 23) (pc' := 31) rfl (hb hby at_23) rfl ((if0 _ _).trans (teq h2).1) (by decide) (by decide) ?_
        show Steps p.tables e below (s₁.setTop (mkF m 31 #[.val (.int p1), .val (.int p2), .val (.int p3), .val (.int p4), .val (.int p5), .val (.int (p1 &&& (3 : Int32))), .val (.int c0), .unset, .unset, .unset, .unset, .unset, .unset] [])) _
        refine XS.iloadN X0.here hx rfl (hb hby at_31) rfl ?_
        show Steps p.tables e below (s₁.setTop (mkF m 32 #[.val (.int p1), .val (.int p2), .val (.int p3), .val (.int p4), .val (.int p5), .val (.int (p1 &&& (3 : Int32))), .val (.int c0), .unset, .unset, .unset, .unset, .unset, .unset] [(.int p4)])) _
        refine XS.i2b X0.here hx rfl (hb hby at_32) rfl ?_
        show Steps p.tables e below (s₁.setTop (mkF m 33 #[.val (.int p1), .val (.int p2), .val (.int p3), .val (.int p4), .val (.int p5), .val (.int (p1 &&& (3 : Int32))), .val (.int c0), .unset, .unset, .unset, .unset, .unset, .unset] [(.int (p4.toInt8.toInt32))])) _
        exact k_
      rw [if_pos h2] at ec1; subst ec1; exact J2
    · skip
      refine own_go (S' := (s₁.setTop (mkF m 33 #[.val (.int p1), .val (.int p2), .val (.int p3), .val (.int p4), .val (.int p5), .val (.int (p1 &&& (3 : Int32))), .val (.int c0), .unset, .unset, .unset, .unset, .unset, .unset] [(.int (-117 : Int32))]))) (fun t_ k_ => ?_) ?_
      · refine XS.ifNo X0.here hx rfl (hb hby at_23) rfl ((if0 _ _).trans (feq h2).1) ?_
        show Steps p.tables e below (s₁.setTop (mkF m 26 #[.val (.int p1), .val (.int p2), .val (.int p3), .val (.int p4), .val (.int p5), .val (.int (p1 &&& (3 : Int32))), .val (.int c0), .unset, .unset, .unset, .unset, .unset, .unset] [])) _
        refine XS.bipush X0.here hx rfl (hb hby at_26) ?_
        show Steps p.tables e below (s₁.setTop (mkF m 28 #[.val (.int p1), .val (.int p2), .val (.int p3), .val (.int p4), .val (.int p5), .val (.int (p1 &&& (3 : Int32))), .val (.int c0), .unset, .unset, .unset, .unset, .unset, .unset] [(.int (-117 : Int32))])) _
        refine XS.goto X0.here hx rfl (pc0 := 28) (pc' := 33) rfl (hb hby at_28) (by decide) (by decide) ?_
        show Steps p.tables e below (s₁.setTop (mkF m 33 #[.val (.int p1), .val (.int p2), .val (.int p3), .val (.int p4), .val (.int p5), .val (.int (p1 &&& (3 : Int32))), .val (.int c0), .unset, .unset, .unset, .unset, .unset, .unset] [(.int (-117 : Int32))])) _
        exact k_
      rw [if_neg h2] at ec1; subst ec1; exact J2
  refine own_go (S' := (s₁.setTop (mkF m 42 #[.val (.int p1), .val (.int p2), .val (.int p3), .val (.int p4), .val (.int p5), .val (.int (p1 &&& (3 : Int32))), .val (.int c0), .val (.int c1), .val (.int (p5.toInt8.toInt32)), .unset, .unset, .unset, .unset] [(.int (p1 &&& (3 : Int32)))]))) (fun t_ k_ => ?_) ?_
  · refine XS.istore X0.here hx rfl (hb hby at_33) rfl (l' := #[.val (.int p1), .val (.int p2), .val (.int p3), .val (.int p4), .val (.int p5), .val (.int (p1 &&& (3 : Int32))), .val (.int c0), .val (.int c1), .unset, .unset, .unset, .unset, .unset]) rfl ?_
    show Steps p.tables e below (s₁.setTop (mkF m 35 #[.val (.int p1), .val (.int p2), .val (.int p3), .val (.int p4), .val (.int p5), .val (.int (p1 &&& (3 : Int32))), .val (.int c0), .val (.int c1), .unset, .unset, .unset, .unset, .unset] [])) _
    refine XS.iload X0.here hx rfl (hb hby at_35) rfl ?_
    show Steps p.tables e below (s₁.setTop (mkF m 37 #[.val (.int p1), .val (.int p2), .val (.int p3), .val (.int p4), .val (.int p5), .val (.int (p1 &&& (3 : Int32))), .val (.int c0), .val (.int c1), .unset, .unset, .unset, .unset, .unset] [(.int p5)])) _
    refine XS.i2b X0.here hx rfl (hb hby at_37) rfl ?_
    show Steps p.tables e below (s₁.setTop (mkF m 38 #[.val (.int p1), .val (.int p2), .val (.int p3), .val (.int p4), .val (.int p5), .val (.int (p1 &&& (3 : Int32))), .val (.int c0), .val (.int c1), .unset, .unset, .unset, .unset, .unset] [(.int (p5.toInt8.toInt32))])) _
    refine XS.istore X0.here hx rfl (hb hby at_38) rfl (l' := #[.val (.int p1), .val (.int p2), .val (.int p3), .val (.int p4), .val (.int p5), .val (.int (p1 &&& (3 : Int32))), .val (.int c0), .val (.int c1), .val (.int (p5.toInt8.toInt32)), .unset, .unset, .unset, .unset]) rfl ?_
    show Steps p.tables e below (s₁.setTop (mkF m 40 #[.val (.int p1), .val (.int p2), .val (.int p3), .val (.int p4), .val (.int p5), .val (.int (p1 &&& (3 : Int32))), .val (.int c0), .val (.int c1), .val (.int (p5.toInt8.toInt32)), .unset, .unset, .unset, .unset] [])) _
    refine XS.iload X0.here hx rfl (hb hby at_40) rfl ?_
    show Steps p.tables e below (s₁.setTop (mkF m 42 #[.val (.int p1), .val (.int p2), .val (.int p3), .val (.int p4), .val (.int p5), .val (.int (p1 &&& (3 : Int32))), .val (.int c0), .val (.int c1), .val (.int (p5.toInt8.toInt32)), .unset, .unset, .unset, .unset] [(.int (p1 &&& (3 : Int32)))])) _
    exact k_
  obtain ⟨y0, rfl⟩ : ∃ y : Int8, c0 = y.toInt32 := by rw [ec0]; split <;> first | exact ⟨_, rfl⟩ | exact ⟨31, by decide⟩
  obtain ⟨y1, rfl⟩ : ∃ y : Int8, c1 = y.toInt32 := by rw [ec1]; split <;> first | exact ⟨_, rfl⟩ | exact ⟨-117, by decide⟩
  obtain ⟨y2, ey2⟩ : ∃ y : Int8, y = p5.toInt8 := ⟨_, rfl⟩
  rw [← ey2]
  clear ec0 ec1 ey2
  have hn := own_and3 p1
  generalize (p1 &&& (3 : Int32)) = n at hn ⊢
  rcases hn with rfl | rfl | rfl | rfl
  · skip
    show own_Rch p e below _ (s₁.setTop (mkF m 42 #[.val (.int p1), .val (.int p2), .val (.int p3), .val (.int p4), .val (.int p5), .val (.int (0 : Int32)), .val (.int y0.toInt32), .val (.int y1.toInt32), .val (.int y2.toInt32), .unset, .unset, .unset, .unset] [(.int (0 : Int32))]))
    obtain ⟨T3, h3, k3, X3, e3, E3, A3, Ex3, st3⟩ := newPE X0 hx hZ (hw _ (List.mem_of_getElem? (i := 0) rfl)) e0 (g := (mkF m 42 #[.val (.int p1), .val (.int p2), .val (.int p3), .val (.int p4), .val (.int p5), .val (.int (0 : Int32)), .val (.int y0.toInt32), .val (.int y1.toInt32), .val (.int y2.toInt32), .unset, .unset, .unset, .unset] [(.int (0 : Int32))])) rfl (hb hby at_42) rfl (by decide) (cap := 0) (by decide) (by decide) (by decide) (by decide) (ad := "[B") (by decide)
    obtain ⟨b3, g3⟩ : ∃ z, z = h0.size := ⟨_, rfl⟩
    rw [← g3] at A3 Ex3 st3
    have gb3 : n0 ≤ b3 := Nat.le_trans Z0 (Nat.le_of_eq g3.symm)
    have V3 := Arv.new A3 (by decide)
    refine own_go st3 ?_
    show own_Rch p e below _ (T3.setTop (mkF m 44 #[.val (.int p1), .val (.int p2), .val (.int p3), .val (.int p4), .val (.int p5), .val (.int (0 : Int32)), .val (.int y0.toInt32), .val (.int y1.toInt32), .val (.int y2.toInt32), .unset, .unset, .unset, .unset] [(.ref b3)]))
    refine own_go (S' := (T3.setTop (mkF m 48 #[.val (.int p1), .val (.int p2), .val (.int p3), .val (.int p4), .val (.int p5), .val (.int (0 : Int32)), .val (.int y0.toInt32), .val (.int y1.toInt32), .val (.int y2.toInt32), .val (.ref b3), .unset, .unset, .unset] [(.int (0 : Int32))]))) (fun t_ k_ => ?_) ?_
    · refine XS.astore X3.here hx rfl (hb hby at_44) rfl rfl (l' := #[.val (.int p1), .val (.int p2), .val (.int p3), .val (.int p4), .val (.int p5), .val (.int (0 : Int32)), .val (.int y0.toInt32), .val (.int y1.toInt32), .val (.int y2.toInt32), .val (.ref b3), .unset, .unset, .unset]) rfl ?_
      show Steps p.tables e below (T3.setTop (mkF m 46 #[.val (.int p1), .val (.int p2), .val (.int p3), .val (.int p4), .val (.int p5), .val (.int (0 : Int32)), .val (.int y0.toInt32), .val (.int y1.toInt32), .val (.int y2.toInt32), .val (.ref b3), .unset, .unset, .unset] [])) _
      refine XS.iload X3.here hx rfl (hb hby at_46) rfl ?_
      show Steps p.tables e below (T3.setTop (mkF m 48 #[.val (.int p1), .val (.int p2), .val (.int p3), .val (.int p4), .val (.int p5), .val (.int (0 : Int32)), .val (.int y0.toInt32), .val (.int y1.toInt32), .val (.int y2.toInt32), .val (.ref b3), .unset, .unset, .unset] [(.int (0 : Int32))])) _
      exact k_
    have Va : Arv Z h3 b3 k3 .byte (0 : Int32) [] (.int (0 : Int32)) := V3
    have Kp : n0 ≤ h3.size := Nat.le_trans Z0 E3.1
    refine own_go (S' := (T3.setTop (mkF m 60 #[.val (.int p1), .val (.int p2), .val (.int p3), .val (.int p4), .val (.int p5), .val (.int (0 : Int32)), .val (.int y0.toInt32), .val (.int y1.toInt32), .val (.int y2.toInt32), .val (.ref b3), .unset, .unset, .unset] [(.int (1 : Int32)), (.int (0 : Int32))]))) (fun t_ k_ => ?_) ?_
    · refine XS.ifYes X3.here hx rfl (pc0 := 48) (pc' := 57) rfl (hb hby at_48) rfl ((if0 _ _).trans (flt (by decide)).2.2.2) (by decide) (by decide) ?_
      show Steps p.tables e below (T3.setTop (mkF m 57 #[.val (.int p1), .val (.int p2), .val (.int p3), .val (.int p4), .val (.int p5), .val (.int (0 : Int32)), .val (.int y0.toInt32), .val (.int y1.toInt32), .val (.int y2.toInt32), .val (.ref b3), .unset, .unset, .unset] [])) _
      refine XS.iload X3.here hx rfl (hb hby at_57) rfl ?_
      show Steps p.tables e below (T3.setTop (mkF m 59 #[.val (.int p1), .val (.int p2), .val (.int p3), .val (.int p4), .val (.int p5), .val (.int (0 : Int32)), .val (.int y0.toInt32), .val (.int y1.toInt32), .val (.int y2.toInt32), .val (.ref b3), .unset, .unset, .unset] [(.int (0 : Int32))])) _
      refine XS.iconst X3.here hx rfl (hb hby at_59) ?_
      show Steps p.tables e below (T3.setTop (mkF m 60 #[.val (.int p1), .val (.int p2), .val (.int p3), .val (.int p4), .val (.int p5), .val (.int (0 : Int32)), .val (.int y0.toInt32), .val (.int y1.toInt32), .val (.int y2.toInt32), .val (.ref b3), .unset, .unset, .unset] [(.int (1 : Int32)), (.int (0 : Int32))])) _
      exact k_
    refine own_go (S' := (T3.setTop (mkF m 72 #[.val (.int p1), .val (.int p2), .val (.int p3), .val (.int p4), .val (.int p5), .val (.int (0 : Int32)), .val (.int y0.toInt32), .val (.int y1.toInt32), .val (.int y2.toInt32), .val (.ref b3), .unset, .unset, .unset] [(.int (2 : Int32)), (.int (0 : Int32))]))) (fun t_ k_ => ?_) ?_
    · refine XS.icmpYes X3.here hx rfl (pc0 := 60) (pc' := 69) rfl (hb hby at_60) rfl (flt (by decide)).2.2.2 (by decide) (by decide) ?_
      show Steps p.tables e below (T3.setTop (mkF m 69 #[.val (.int p1), .val (.int p2), .val (.int p3), .val (.int p4), .val (.int p5), .val (.int (0 : Int32)), .val (.int y0.toInt32), .val (.int y1.toInt32), .val (.int y2.toInt32), .val (.ref b3), .unset, .unset, .unset] [])) _
      refine XS.iload X3.here hx rfl (hb hby at_69) rfl ?_
      show Steps p.tables e below (T3.setTop (mkF m 71 #[.val (.int p1), .val (.int p2), .val (.int p3), .val (.int p4), .val (.int p5), .val (.int (0 : Int32)), .val (.int y0.toInt32), .val (.int y1.toInt32), .val (.int y2.toInt32), .val (.ref b3), .unset, .unset, .unset] [(.int (0 : Int32))])) _
      refine XS.iconst X3.here hx rfl (hb hby at_71) ?_
      show Steps p.tables e below (T3.setTop (mkF m 72 #[.val (.int p1), .val (.int p2), .val (.int p3), .val (.int p4), .val (.int p5), .val (.int (0 : Int32)), .val (.int y0.toInt32), .val (.int y1.toInt32), .val (.int y2.toInt32), .val (.ref b3), .unset, .unset, .unset] [(.int (2 : Int32)), (.int (0 : Int32))])) _
      exact k_
    refine own_go (S' := (T3.setTop (mkF m 84 #[.val (.int p1), .val (.int p2), .val (.int p3), .val (.int p4), .val (.int p5), .val (.int (0 : Int32)), .val (.int y0.toInt32), .val (.int y1.toInt32), .val (.int y2.toInt32), .val (.ref b3), .unset, .unset, .unset] [(.int (2 : Int32)), (.int (0 : Int32))]))) (fun t_ k_ => ?_) ?_
    · refine XS.icmpYes X3.here hx rfl (pc0 := 72) (pc' := 81) rfl (hb hby at_72) rfl (flt (by decide)).2.2.2 (by decide) (by decide) ?_
      show Steps p.tables e below (T3.setTop (mkF m 81 #[.val (.int p1), .val (.int p2), .val (.int p3), .val (.int p4), .val (.int p5), .val (.int (0 : Int32)), .val (.int y0.toInt32), .val (.int y1.toInt32), .val (.int y2.toInt32), .val (.ref b3), .unset, .unset, .unset] [])) _
      refine XS.iload X3.here hx rfl (hb hby at_81) rfl ?_
      show Steps p.tables e below (T3.setTop (mkF m 83 #[.val (.int p1), .val (.int p2), .val (.int p3), .val (.int p4), .val (.int p5), .val (.int (0 : Int32)), .val (.int y0.toInt32), .val (.int y1.toInt32), .val (.int y2.toInt32), .val (.ref b3), .unset, .unset, .unset] [(.int (0 : Int32))])) _
      refine XS.iconst X3.here hx rfl (hb hby at_83) ?_
      show Steps p.tables e below (T3.setTop (mkF m 84 #[.val (.int p1), .val (.int p2), .val (.int p3), .val (.int p4), .val (.int p5), .val (.int (0 : Int32)), .val (.int y0.toInt32), .val (.int y1.toInt32), .val (.int y2.toInt32), .val (.ref b3), .unset, .unset, .unset] [(.int (2 : Int32)), (.int (0 : Int32))])) _
      exact k_
    refine own_go (S' := (T3.setTop (mkF m 106 #[.val (.int p1), .val (.int p2), .val (.int p3), .val (.int p4), .val (.int p5), .val (.int (0 : Int32)), .val (.int y0.toInt32), .val (.int y1.toInt32), .val (.int y2.toInt32), .val (.ref b3), .unset, .unset, .unset] [(.int (0 : Int32))]))) (fun t_ k_ => ?_) ?_
    · refine XS.icmpYes X3.here hx rfl (pc0 := 84) (pc' := 105) rfl (hb hby at_84) rfl (tlt (by decide)).1 (by decide) (by decide) ?_
      show Steps p.tables e below (T3.setTop (mkF m 105 #[.val (.int p1), .val (.int p2), .val (.int p3), .val (.int p4), .val (.int p5), .val (.int (0 : Int32)), .val (.int y0.toInt32), .val (.int y1.toInt32), .val (.int y2.toInt32), .val (.ref b3), .unset, .unset, .unset] [])) _
      refine XS.iconst X3.here hx rfl (hb hby at_105) ?_
      show Steps p.tables e below (T3.setTop (mkF m 106 #[.val (.int p1), .val (.int p2), .val (.int p3), .val (.int p4), .val (.int p5), .val (.int (0 : Int32)), .val (.int y0.toInt32), .val (.int y1.toInt32), .val (.int y2.toInt32), .val (.ref b3), .unset, .unset, .unset] [(.int (0 : Int32))])) _
      exact k_
    refine own_go (S' := (T3.setTop (mkF m 110 #[.val (.int p1), .val (.int p2), .val (.int p3), .val (.int p4), .val (.int p5), .val (.int (0 : Int32)), .val (.int y0.toInt32), .val (.int y1.toInt32), .val (.int y2.toInt32), .val (.ref b3), .val (.int (0 : Int32)), .unset, .unset] [(.ref b3)]))) (fun t_ k_ => ?_) ?_
    · refine XS.istore X3.here hx rfl (hb hby at_106) rfl (l' := #[.val (.int p1), .val (.int p2), .val (.int p3), .val (.int p4), .val (.int p5), .val (.int (0 : Int32)), .val (.int y0.toInt32), .val (.int y1.toInt32), .val (.int y2.toInt32), .val (.ref b3), .val (.int (0 : Int32)), .unset, .unset]) rfl ?_
      show Steps p.tables e below (T3.setTop (mkF m 108 #[.val (.int p1), .val (.int p2), .val (.int p3), .val (.int p4), .val (.int p5), .val (.int (0 : Int32)), .val (.int y0.toInt32), .val (.int y1.toInt32), .val (.int y2.toInt32), .val (.ref b3), .val (.int (0 : Int32)), .unset, .unset] [])) _
      refine XS.aload X3.here hx rfl (hb hby at_108) rfl rfl ?_
      show Steps p.tables e below (T3.setTop (mkF m 110 #[.val (.int p1), .val (.int p2), .val (.int p3), .val (.int p4), .val (.int p5), .val (.int (0 : Int32)), .val (.int y0.toInt32), .val (.int y1.toInt32), .val (.int y2.toInt32), .val (.ref b3), .val (.int (0 : Int32)), .unset, .unset] [(.ref b3)])) _
      exact k_
    obtain ⟨_, T4, L4, X4, ⟨rfl, N4q, k4⟩, st4⟩ := own_callS X3 hx hZ (y := (⟨"com/example/spillover/spillover/log/GzipMembers", "startsMember", "([B)Z"⟩ : MethodName)) hown (hw _ (List.mem_of_getElem? (i := 1) rfl)) (hw _ (List.mem_of_getElem? (i := 2) rfl)) (hw _ (List.mem_of_getElem? (i := 3) rfl)) (hw _ (List.mem_of_getElem? (i := 4) rfl)) (by decide) (own_c1 l Z a0 hw [] b3 k3 (0 : Int32) [] 0 0 h3 n0 Kp Va (fun _ => rfl) (fun _ => rfl)) e3 (W := 0) (by decide) (by decide) (g := (mkF m 110 #[.val (.int p1), .val (.int p2), .val (.int p3), .val (.int p4), .val (.int p5), .val (.int (0 : Int32)), .val (.int y0.toInt32), .val (.int y1.toInt32), .val (.int y2.toInt32), .val (.ref b3), .val (.int (0 : Int32)), .unset, .unset] [(.ref b3)])) rfl (by rw [hml]; rfl) (argsL := [(.ref b3)]) (rest := []) (lenOf own_pd0 rfl) rfl rfl rfl (hb hby at_110) (by decide) (by decide)
    have N4 := Fr.app N0 N4q
    refine own_go st4 ?_
    show own_Rch p e below _ (T4.setTop (mkF m 113 #[.val (.int p1), .val (.int p2), .val (.int p3), .val (.int p4), .val (.int p5), .val (.int (0 : Int32)), .val (.int y0.toInt32), .val (.int y1.toInt32), .val (.int y2.toInt32), .val (.ref b3), .val (.int (0 : Int32)), .unset, .unset] [(.int (own_sm (0 : Int32) 0 0))]))
    have Vc := Va
    rw [← k4] at Vc
    refine own_go (S' := (T4.setTop (mkF m 117 #[.val (.int p1), .val (.int p2), .val (.int p3), .val (.int p4), .val (.int p5), .val (.int (0 : Int32)), .val (.int y0.toInt32), .val (.int y1.toInt32), .val (.int y2.toInt32), .val (.ref b3), .val (.int (0 : Int32)), .val (.int (own_sm (0 : Int32) 0 0)), .unset] [(.int (0 : Int32))]))) (fun t_ k_ => ?_) ?_
    · refine XS.istore X4.here hx rfl (hb hby at_113) rfl (l' := #[.val (.int p1), .val (.int p2), .val (.int p3), .val (.int p4), .val (.int p5), .val (.int (0 : Int32)), .val (.int y0.toInt32), .val (.int y1.toInt32), .val (.int y2.toInt32), .val (.ref b3), .val (.int (0 : Int32)), .val (.int (own_sm (0 : Int32) 0 0)), .unset]) rfl ?_
      show Steps p.tables e below (T4.setTop (mkF m 115 #[.val (.int p1), .val (.int p2), .val (.int p3), .val (.int p4), .val (.int p5), .val (.int (0 : Int32)), .val (.int y0.toInt32), .val (.int y1.toInt32), .val (.int y2.toInt32), .val (.ref b3), .val (.int (0 : Int32)), .val (.int (own_sm (0 : Int32) 0 0)), .unset] [])) _
      refine XS.iload X4.here hx rfl (hb hby at_115) rfl ?_
      show Steps p.tables e below (T4.setTop (mkF m 117 #[.val (.int p1), .val (.int p2), .val (.int p3), .val (.int p4), .val (.int p5), .val (.int (0 : Int32)), .val (.int y0.toInt32), .val (.int y1.toInt32), .val (.int y2.toInt32), .val (.ref b3), .val (.int (0 : Int32)), .val (.int (own_sm (0 : Int32) 0 0)), .unset] [(.int (0 : Int32))])) _
      exact k_
    refine own_go (S' := (T4.setTop (mkF m 132 #[.val (.int p1), .val (.int p2), .val (.int p3), .val (.int p4), .val (.int p5), .val (.int (0 : Int32)), .val (.int y0.toInt32), .val (.int y1.toInt32), .val (.int y2.toInt32), .val (.ref b3), .val (.int (0 : Int32)), .val (.int (own_sm (0 : Int32) 0 0)), .unset] [(.int (1 : Int32)), (.int (0 : Int32))]))) (fun t_ k_ => ?_) ?_
    · refine XS.ifYes X4.here hx rfl (pc0 := 117) (pc' := 129) rfl (hb hby at_117) rfl ((if0 _ _).trans (flt (by decide)).2.2.2) (by decide) (by decide) ?_
      show Steps p.tables e below (T4.setTop (mkF m 129 #[.val (.int p1), .val (.int p2), .val (.int p3), .val (.int p4), .val (.int p5), .val (.int (0 : Int32)), .val (.int y0.toInt32), .val (.int y1.toInt32), .val (.int y2.toInt32), .val (.ref b3), .val (.int (0 : Int32)), .val (.int (own_sm (0 : Int32) 0 0)), .unset] [])) _
      refine XS.iload X4.here hx rfl (hb hby at_129) rfl ?_
      show Steps p.tables e below (T4.setTop (mkF m 131 #[.val (.int p1), .val (.int p2), .val (.int p3), .val (.int p4), .val (.int p5), .val (.int (0 : Int32)), .val (.int y0.toInt32), .val (.int y1.toInt32), .val (.int y2.toInt32), .val (.ref b3), .val (.int (0 : Int32)), .val (.int (own_sm (0 : Int32) 0 0)), .unset] [(.int (0 : Int32))])) _
      refine XS.iconst X4.here hx rfl (hb hby at_131) ?_
      show Steps p.tables e below (T4.setTop (mkF m 132 #[.val (.int p1), .val (.int p2), .val (.int p3), .val (.int p4), .val (.int p5), .val (.int (0 : Int32)), .val (.int y0.toInt32), .val (.int y1.toInt32), .val (.int y2.toInt32), .val (.ref b3), .val (.int (0 : Int32)), .val (.int (own_sm (0 : Int32) 0 0)), .unset] [(.int (1 : Int32)), (.int (0 : Int32))])) _
      exact k_
    refine own_go (S' := (T4.setTop (mkF m 147 #[.val (.int p1), .val (.int p2), .val (.int p3), .val (.int p4), .val (.int p5), .val (.int (0 : Int32)), .val (.int y0.toInt32), .val (.int y1.toInt32), .val (.int y2.toInt32), .val (.ref b3), .val (.int (0 : Int32)), .val (.int (own_sm (0 : Int32) 0 0)), .unset] [(.int (2 : Int32)), (.int (0 : Int32))]))) (fun t_ k_ => ?_) ?_
    · refine XS.icmpYes X4.here hx rfl (pc0 := 132) (pc' := 144) rfl (hb hby at_132) rfl (flt (by decide)).2.2.2 (by decide) (by decide) ?_
      show Steps p.tables e below (T4.setTop (mkF m 144 #[.val (.int p1), .val (.int p2), .val (.int p3), .val (.int p4), .val (.int p5), .val (.int (0 : Int32)), .val (.int y0.toInt32), .val (.int y1.toInt32), .val (.int y2.toInt32), .val (.ref b3), .val (.int (0 : Int32)), .val (.int (own_sm (0 : Int32) 0 0)), .unset] [])) _
      refine XS.iload X4.here hx rfl (hb hby at_144) rfl ?_
      show Steps p.tables e below (T4.setTop (mkF m 146 #[.val (.int p1), .val (.int p2), .val (.int p3), .val (.int p4), .val (.int p5), .val (.int (0 : Int32)), .val (.int y0.toInt32), .val (.int y1.toInt32), .val (.int y2.toInt32), .val (.ref b3), .val (.int (0 : Int32)), .val (.int (own_sm (0 : Int32) 0 0)), .unset] [(.int (0 : Int32))])) _
      refine XS.iconst X4.here hx rfl (hb hby at_146) ?_
      show Steps p.tables e below (T4.setTop (mkF m 147 #[.val (.int p1), .val (.int p2), .val (.int p3), .val (.int p4), .val (.int p5), .val (.int (0 : Int32)), .val (.int y0.toInt32), .val (.int y1.toInt32), .val (.int y2.toInt32), .val (.ref b3), .val (.int (0 : Int32)), .val (.int (own_sm (0 : Int32) 0 0)), .unset] [(.int (2 : Int32)), (.int (0 : Int32))])) _
      exact k_
    refine own_go (S' := (T4.setTop (mkF m 170 #[.val (.int p1), .val (.int p2), .val (.int p3), .val (.int p4), .val (.int p5), .val (.int (0 : Int32)), .val (.int y0.toInt32), .val (.int y1.toInt32), .val (.int y2.toInt32), .val (.ref b3), .val (.int (0 : Int32)), .val (.int (own_sm (0 : Int32) 0 0)), .val (.int (1 : Int32))] [(.int (0 : Int32)), (.int (own_sm (0 : Int32) 0 0))]))) (fun t_ k_ => ?_) ?_
    · refine XS.icmpYes X4.here hx rfl (pc0 := 147) (pc' := 159) rfl (hb hby at_147) rfl (flt (by decide)).2.2.2 (by decide) (by decide) ?_
      show Steps p.tables e below (T4.setTop (mkF m 159 #[.val (.int p1), .val (.int p2), .val (.int p3), .val (.int p4), .val (.int p5), .val (.int (0 : Int32)), .val (.int y0.toInt32), .val (.int y1.toInt32), .val (.int y2.toInt32), .val (.ref b3), .val (.int (0 : Int32)), .val (.int (own_sm (0 : Int32) 0 0)), .unset] [])) _
      refine XS.iconst X4.here hx rfl (hb hby at_159) ?_
      show Steps p.tables e below (T4.setTop (mkF m 160 #[.val (.int p1), .val (.int p2), .val (.int p3), .val (.int p4), .val (.int p5), .val (.int (0 : Int32)), .val (.int y0.toInt32), .val (.int y1.toInt32), .val (.int y2.toInt32), .val (.ref b3), .val (.int (0 : Int32)), .val (.int (own_sm (0 : Int32) 0 0)), .unset] [(.int (1 : Int32))])) _
      refine XS.goto X4.here hx rfl (pc0 := 160) (pc' := 164) rfl (hb hby at_160) (by decide) (by decide) ?_
      show Steps p.tables e below (T4.setTop (mkF m 164 #[.val (.int p1), .val (.int p2), .val (.int p3), .val (.int p4), .val (.int p5), .val (.int (0 : Int32)), .val (.int y0.toInt32), .val (.int y1.toInt32), .val (.int y2.toInt32), .val (.ref b3), .val (.int (0 : Int32)), .val (.int (own_sm (0 : Int32) 0 0)), .unset] [(.int (1 : Int32))])) _
      refine XS.istore X4.here hx rfl (hb hby at_164) rfl (l' := #[.val (.int p1), .val (.int p2), .val (.int p3), .val (.int p4), .val (.int p5), .val (.int (0 : Int32)), .val (.int y0.toInt32), .val (.int y1.toInt32), .val (.int y2.toInt32), .val (.ref b3), .val (.int (0 : Int32)), .val (.int (own_sm (0 : Int32) 0 0)), .val (.int (1 : Int32))]) rfl ?_
      show Steps p.tables e below (T4.setTop (mkF m 166 #[.val (.int p1), .val (.int p2), .val (.int p3), .val (.int p4), .val (.int p5), .val (.int (0 : Int32)), .val (.int y0.toInt32), .val (.int y1.toInt32), .val (.int y2.toInt32), .val (.ref b3), .val (.int (0 : Int32)), .val (.int (own_sm (0 : Int32) 0 0)), .val (.int (1 : Int32))] [])) _
      refine XS.iload X4.here hx rfl (hb hby at_166) rfl ?_
      show Steps p.tables e below (T4.setTop (mkF m 168 #[.val (.int p1), .val (.int p2), .val (.int p3), .val (.int p4), .val (.int p5), .val (.int (0 : Int32)), .val (.int y0.toInt32), .val (.int y1.toInt32), .val (.int y2.toInt32), .val (.ref b3), .val (.int (0 : Int32)), .val (.int (own_sm (0 : Int32) 0 0)), .val (.int (1 : Int32))] [(.int (own_sm (0 : Int32) 0 0))])) _
      refine XS.iload X4.here hx rfl (hb hby at_168) rfl ?_
      show Steps p.tables e below (T4.setTop (mkF m 170 #[.val (.int p1), .val (.int p2), .val (.int p3), .val (.int p4), .val (.int p5), .val (.int (0 : Int32)), .val (.int y0.toInt32), .val (.int y1.toInt32), .val (.int y2.toInt32), .val (.ref b3), .val (.int (0 : Int32)), .val (.int (own_sm (0 : Int32) 0 0)), .val (.int (1 : Int32))] [(.int (0 : Int32)), (.int (own_sm (0 : Int32) 0 0))])) _
      exact k_
    refine own_go (S' := (T4.setTop (mkF m 175 #[.val (.int p1), .val (.int p2), .val (.int p3), .val (.int p4), .val (.int p5), .val (.int (0 : Int32)), .val (.int y0.toInt32), .val (.int y1.toInt32), .val (.int y2.toInt32), .val (.ref b3), .val (.int (0 : Int32)), .val (.int (own_sm (0 : Int32) 0 0)), .val (.int (1 : Int32))] [(.int (1 : Int32))]))) (fun t_ k_ => ?_) ?_
    · refine XS.icmpNo X4.here hx rfl (hb hby at_170) rfl (teq (by rw [own_sm, if_pos (by decide)])).2 ?_
      show Steps p.tables e below (T4.setTop (mkF m 173 #[.val (.int p1), .val (.int p2), .val (.int p3), .val (.int p4), .val (.int p5), .val (.int (0 : Int32)), .val (.int y0.toInt32), .val (.int y1.toInt32), .val (.int y2.toInt32), .val (.ref b3), .val (.int (0 : Int32)), .val (.int (own_sm (0 : Int32) 0 0)), .val (.int (1 : Int32))] [])) _
      refine XS.iload X4.here hx rfl (hb hby at_173) rfl ?_
      show Steps p.tables e below (T4.setTop (mkF m 175 #[.val (.int p1), .val (.int p2), .val (.int p3), .val (.int p4), .val (.int p5), .val (.int (0 : Int32)), .val (.int y0.toInt32), .val (.int y1.toInt32), .val (.int y2.toInt32), .val (.ref b3), .val (.int (0 : Int32)), .val (.int (own_sm (0 : Int32) 0 0)), .val (.int (1 : Int32))] [(.int (1 : Int32))])) _
      exact k_
    refine own_go (S' := (T4.setTop (mkF m 183 #[.val (.int p1), .val (.int p2), .val (.int p3), .val (.int p4), .val (.int p5), .val (.int (0 : Int32)), .val (.int y0.toInt32), .val (.int y1.toInt32), .val (.int y2.toInt32), .val (.ref b3), .val (.int (0 : Int32)), .val (.int (own_sm (0 : Int32) 0 0)), .val (.int (1 : Int32))] [(.int (1 : Int32))]))) (fun t_ k_ => ?_) ?_
    · refine XS.ifNo X4.here hx rfl (hb hby at_175) rfl ((if0 _ _).trans (feq (by decide)).1) ?_
      show Steps p.tables e below (T4.setTop (mkF m 178 #[.val (.int p1), .val (.int p2), .val (.int p3), .val (.int p4), .val (.int p5), .val (.int (0 : Int32)), .val (.int y0.toInt32), .val (.int y1.toInt32), .val (.int y2.toInt32), .val (.ref b3), .val (.int (0 : Int32)), .val (.int (own_sm (0 : Int32) 0 0)), .val (.int (1 : Int32))] [])) _
      refine XS.iconst X4.here hx rfl (hb hby at_178) ?_
      show Steps p.tables e below (T4.setTop (mkF m 179 #[.val (.int p1), .val (.int p2), .val (.int p3), .val (.int p4), .val (.int p5), .val (.int (0 : Int32)), .val (.int y0.toInt32), .val (.int y1.toInt32), .val (.int y2.toInt32), .val (.ref b3), .val (.int (0 : Int32)), .val (.int (own_sm (0 : Int32) 0 0)), .val (.int (1 : Int32))] [(.int (1 : Int32))])) _
      refine XS.goto X4.here hx rfl (pc0 := 179) (pc' := 183) rfl (hb hby at_179) (by decide) (by decide) ?_
      show Steps p.tables e below (T4.setTop (mkF m 183 #[.val (.int p1), .val (.int p2), .val (.int p3), .val (.int p4), .val (.int p5), .val (.int (0 : Int32)), .val (.int y0.toInt32), .val (.int y1.toInt32), .val (.int y2.toInt32), .val (.ref b3), .val (.int (0 : Int32)), .val (.int (own_sm (0 : Int32) 0 0)), .val (.int (1 : Int32))] [(.int (1 : Int32))])) _
      exact k_
    refine own_retN X4 hx (t := .boolean) Bd.returns Bd.notSynchronized (by simp) (hb hby at_183) rfl (by decide) (by decide) ?_
    exact ⟨rfl, N4⟩
  · skip
    show own_Rch p e below _ (s₁.setTop (mkF m 42 #[.val (.int p1), .val (.int p2), .val (.int p3), .val (.int p4), .val (.int p5), .val (.int (1 : Int32)), .val (.int y0.toInt32), .val (.int y1.toInt32), .val (.int y2.toInt32), .unset, .unset, .unset, .unset] [(.int (1 : Int32))]))
    obtain ⟨T5, h5, k5, X5, e5, E5, A5, Ex5, st5⟩ := newPE X0 hx hZ (hw _ (List.mem_of_getElem? (i := 0) rfl)) e0 (g := (mkF m 42 #[.val (.int p1), .val (.int p2), .val (.int p3), .val (.int p4), .val (.int p5), .val (.int (1 : Int32)), .val (.int y0.toInt32), .val (.int y1.toInt32), .val (.int y2.toInt32), .unset, .unset, .unset, .unset] [(.int (1 : Int32))])) rfl (hb hby at_42) rfl (by decide) (cap := 1) (by decide) (by decide) (by decide) (by decide) (ad := "[B") (by decide)
    obtain ⟨b5, g5⟩ : ∃ z, z = h0.size := ⟨_, rfl⟩
    rw [← g5] at A5 Ex5 st5
    have gb5 : n0 ≤ b5 := Nat.le_trans Z0 (Nat.le_of_eq g5.symm)
    have V5 := Arv.new A5 (by decide)
    refine own_go st5 ?_
    show own_Rch p e below _ (T5.setTop (mkF m 44 #[.val (.int p1), .val (.int p2), .val (.int p3), .val (.int p4), .val (.int p5), .val (.int (1 : Int32)), .val (.int y0.toInt32), .val (.int y1.toInt32), .val (.int y2.toInt32), .unset, .unset, .unset, .unset] [(.ref b5)]))
    refine own_go (S' := (T5.setTop (mkF m 48 #[.val (.int p1), .val (.int p2), .val (.int p3), .val (.int p4), .val (.int p5), .val (.int (1 : Int32)), .val (.int y0.toInt32), .val (.int y1.toInt32), .val (.int y2.toInt32), .val (.ref b5), .unset, .unset, .unset] [(.int (1 : Int32))]))) (fun t_ k_ => ?_) ?_
    · refine XS.astore X5.here hx rfl (hb hby at_44) rfl rfl (l' := #[.val (.int p1), .val (.int p2), .val (.int p3), .val (.int p4), .val (.int p5), .val (.int (1 : Int32)), .val (.int y0.toInt32), .val (.int y1.toInt32), .val (.int y2.toInt32), .val (.ref b5), .unset, .unset, .unset]) rfl ?_
      show Steps p.tables e below (T5.setTop (mkF m 46 #[.val (.int p1), .val (.int p2), .val (.int p3), .val (.int p4), .val (.int p5), .val (.int (1 : Int32)), .val (.int y0.toInt32), .val (.int y1.toInt32), .val (.int y2.toInt32), .val (.ref b5), .unset, .unset, .unset] [])) _
      refine XS.iload X5.here hx rfl (hb hby at_46) rfl ?_
      show Steps p.tables e below (T5.setTop (mkF m 48 #[.val (.int p1), .val (.int p2), .val (.int p3), .val (.int p4), .val (.int p5), .val (.int (1 : Int32)), .val (.int y0.toInt32), .val (.int y1.toInt32), .val (.int y2.toInt32), .val (.ref b5), .unset, .unset, .unset] [(.int (1 : Int32))])) _
      exact k_
    have Va : Arv Z h5 b5 k5 .byte (1 : Int32) [(.int (0 : Int32))] (.int (0 : Int32)) := V5.pad (pad_rep [] (.int (0 : Int32)) 1)
    have Kp : n0 ≤ h5.size := Nat.le_trans Z0 E5.1
    refine own_go (S' := (T5.setTop (mkF m 56 #[.val (.int p1), .val (.int p2), .val (.int p3), .val (.int p4), .val (.int p5), .val (.int (1 : Int32)), .val (.int y0.toInt32), .val (.int y1.toInt32), .val (.int y2.toInt32), .val (.ref b5), .unset, .unset, .unset] [(.int y0.toInt32), (.int (0 : Int32)), (.ref b5)]))) (fun t_ k_ => ?_) ?_
    · refine XS.ifNo X5.here hx rfl (hb hby at_48) rfl ((if0 _ _).trans (tlt (by decide)).2.2.2) ?_
      show Steps p.tables e below (T5.setTop (mkF m 51 #[.val (.int p1), .val (.int p2), .val (.int p3), .val (.int p4), .val (.int p5), .val (.int (1 : Int32)), .val (.int y0.toInt32), .val (.int y1.toInt32), .val (.int y2.toInt32), .val (.ref b5), .unset, .unset, .unset] [])) _
      refine XS.aload X5.here hx rfl (hb hby at_51) rfl rfl ?_
      show Steps p.tables e below (T5.setTop (mkF m 53 #[.val (.int p1), .val (.int p2), .val (.int p3), .val (.int p4), .val (.int p5), .val (.int (1 : Int32)), .val (.int y0.toInt32), .val (.int y1.toInt32), .val (.int y2.toInt32), .val (.ref b5), .unset, .unset, .unset] [(.ref b5)])) _
      refine XS.iconst X5.here hx rfl (hb hby at_53) ?_
      show Steps p.tables e below (T5.setTop (mkF m 54 #[.val (.int p1), .val (.int p2), .val (.int p3), .val (.int p4), .val (.int p5), .val (.int (1 : Int32)), .val (.int y0.toInt32), .val (.int y1.toInt32), .val (.int y2.toInt32), .val (.ref b5), .unset, .unset, .unset] [(.int (0 : Int32)), (.ref b5)])) _
      refine XS.iload X5.here hx rfl (hb hby at_54) rfl ?_
      show Steps p.tables e below (T5.setTop (mkF m 56 #[.val (.int p1), .val (.int p2), .val (.int p3), .val (.int p4), .val (.int p5), .val (.int (1 : Int32)), .val (.int y0.toInt32), .val (.int y1.toInt32), .val (.int y2.toInt32), .val (.ref b5), .unset, .unset, .unset] [(.int y0.toInt32), (.int (0 : Int32)), (.ref b5)])) _
      exact k_
    obtain ⟨T6, h6, X6, e6, W6, V6, st6⟩ := own_stB X5 hx hZ e5 Va (by decide) (i := 0) (by decide) (by simp) (g := (mkF m 56 #[.val (.int p1), .val (.int p2), .val (.int p3), .val (.int p4), .val (.int p5), .val (.int (1 : Int32)), .val (.int y0.toInt32), .val (.int y1.toInt32), .val (.int y2.toInt32), .val (.ref b5), .unset, .unset, .unset] [(.int y0.toInt32), (.int (0 : Int32)), (.ref b5)])) rfl rfl (hb hby at_56)
    refine own_go st6 ?_
    have N6 := Fr.snoc X6 N0 gb5
    show own_Rch p e below _ (T6.setTop (mkF m 57 #[.val (.int p1), .val (.int p2), .val (.int p3), .val (.int p4), .val (.int p5), .val (.int (1 : Int32)), .val (.int y0.toInt32), .val (.int y1.toInt32), .val (.int y2.toInt32), .val (.ref b5), .unset, .unset, .unset] []))
    have Vb0 : Arv Z h6 b5 k5 .byte (1 : Int32) [(.int y0.toInt32)] (.int (0 : Int32)) := by have q := V6; rw [own_nb] at q; exact q
    have Zb0 : n0 ≤ h6.size := Nat.le_trans Kp (Keep.of_wr W6).1
    refine own_go (S' := (T6.setTop (mkF m 60 #[.val (.int p1), .val (.int p2), .val (.int p3), .val (.int p4), .val (.int p5), .val (.int (1 : Int32)), .val (.int y0.toInt32), .val (.int y1.toInt32), .val (.int y2.toInt32), .val (.ref b5), .unset, .unset, .unset] [(.int (1 : Int32)), (.int (1 : Int32))]))) (fun t_ k_ => ?_) ?_
    · refine XS.iload X6.here hx rfl (hb hby at_57) rfl ?_
      show Steps p.tables e below (T6.setTop (mkF m 59 #[.val (.int p1), .val (.int p2), .val (.int p3), .val (.int p4), .val (.int p5), .val (.int (1 : Int32)), .val (.int y0.toInt32), .val (.int y1.toInt32), .val (.int y2.toInt32), .val (.ref b5), .unset, .unset, .unset] [(.int (1 : Int32))])) _
      refine XS.iconst X6.here hx rfl (hb hby at_59) ?_
      show Steps p.tables e below (T6.setTop (mkF m 60 #[.val (.int p1), .val (.int p2), .val (.int p3), .val (.int p4), .val (.int p5), .val (.int (1 : Int32)), .val (.int y0.toInt32), .val (.int y1.toInt32), .val (.int y2.toInt32), .val (.ref b5), .unset, .unset, .unset] [(.int (1 : Int32)), (.int (1 : Int32))])) _
      exact k_
    refine own_go (S' := (T6.setTop (mkF m 72 #[.val (.int p1), .val (.int p2), .val (.int p3), .val (.int p4), .val (.int p5), .val (.int (1 : Int32)), .val (.int y0.toInt32), .val (.int y1.toInt32), .val (.int y2.toInt32), .val (.ref b5), .unset, .unset, .unset] [(.int (2 : Int32)), (.int (1 : Int32))]))) (fun t_ k_ => ?_) ?_
    · refine XS.icmpYes X6.here hx rfl (pc0 := 60) (pc' := 69) rfl (hb hby at_60) rfl (flt (by decide)).2.2.2 (by decide) (by decide) ?_
      show Steps p.tables e below (T6.setTop (mkF m 69 #[.val (.int p1), .val (.int p2), .val (.int p3), .val (.int p4), .val (.int p5), .val (.int (1 : Int32)), .val (.int y0.toInt32), .val (.int y1.toInt32), .val (.int y2.toInt32), .val (.ref b5), .unset, .unset, .unset] [])) _
      refine XS.iload X6.here hx rfl (hb hby at_69) rfl ?_
      show Steps p.tables e below (T6.setTop (mkF m 71 #[.val (.int p1), .val (.int p2), .val (.int p3), .val (.int p4), .val (.int p5), .val (.int (1 : Int32)), .val (.int y0.toInt32), .val (.int y1.toInt32), .val (.int y2.toInt32), .val (.ref b5), .unset, .unset, .unset] [(.int (1 : Int32))])) _
      refine XS.iconst X6.here hx rfl (hb hby at_71) ?_
      show Steps p.tables e below (T6.setTop (mkF m 72 #[.val (.int p1), .val (.int p2), .val (.int p3), .val (.int p4), .val (.int p5), .val (.int (1 : Int32)), .val (.int y0.toInt32), .val (.int y1.toInt32), .val (.int y2.toInt32), .val (.ref b5), .unset, .unset, .unset] [(.int (2 : Int32)), (.int (1 : Int32))])) _
      exact k_
    refine own_go (S' := (T6.setTop (mkF m 84 #[.val (.int p1), .val (.int p2), .val (.int p3), .val (.int p4), .val (.int p5), .val (.int (1 : Int32)), .val (.int y0.toInt32), .val (.int y1.toInt32), .val (.int y2.toInt32), .val (.ref b5), .unset, .unset, .unset] [(.int (2 : Int32)), (.int (1 : Int32))]))) (fun t_ k_ => ?_) ?_
    · refine XS.icmpYes X6.here hx rfl (pc0 := 72) (pc' := 81) rfl (hb hby at_72) rfl (flt (by decide)).2.2.2 (by decide) (by decide) ?_
      show Steps p.tables e below (T6.setTop (mkF m 81 #[.val (.int p1), .val (.int p2), .val (.int p3), .val (.int p4), .val (.int p5), .val (.int (1 : Int32)), .val (.int y0.toInt32), .val (.int y1.toInt32), .val (.int y2.toInt32), .val (.ref b5), .unset, .unset, .unset] [])) _
      refine XS.iload X6.here hx rfl (hb hby at_81) rfl ?_
      show Steps p.tables e below (T6.setTop (mkF m 83 #[.val (.int p1), .val (.int p2), .val (.int p3), .val (.int p4), .val (.int p5), .val (.int (1 : Int32)), .val (.int y0.toInt32), .val (.int y1.toInt32), .val (.int y2.toInt32), .val (.ref b5), .unset, .unset, .unset] [(.int (1 : Int32))])) _
      refine XS.iconst X6.here hx rfl (hb hby at_83) ?_
      show Steps p.tables e below (T6.setTop (mkF m 84 #[.val (.int p1), .val (.int p2), .val (.int p3), .val (.int p4), .val (.int p5), .val (.int (1 : Int32)), .val (.int y0.toInt32), .val (.int y1.toInt32), .val (.int y2.toInt32), .val (.ref b5), .unset, .unset, .unset] [(.int (2 : Int32)), (.int (1 : Int32))])) _
      exact k_
    refine own_go (S' := (T6.setTop (mkF m 106 #[.val (.int p1), .val (.int p2), .val (.int p3), .val (.int p4), .val (.int p5), .val (.int (1 : Int32)), .val (.int y0.toInt32), .val (.int y1.toInt32), .val (.int y2.toInt32), .val (.ref b5), .unset, .unset, .unset] [(.int (0 : Int32))]))) (fun t_ k_ => ?_) ?_
    · refine XS.icmpYes X6.here hx rfl (pc0 := 84) (pc' := 105) rfl (hb hby at_84) rfl (tlt (by decide)).1 (by decide) (by decide) ?_
      show Steps p.tables e below (T6.setTop (mkF m 105 #[.val (.int p1), .val (.int p2), .val (.int p3), .val (.int p4), .val (.int p5), .val (.int (1 : Int32)), .val (.int y0.toInt32), .val (.int y1.toInt32), .val (.int y2.toInt32), .val (.ref b5), .unset, .unset, .unset] [])) _
      refine XS.iconst X6.here hx rfl (hb hby at_105) ?_
      show Steps p.tables e below (T6.setTop (mkF m 106 #[.val (.int p1), .val (.int p2), .val (.int p3), .val (.int p4), .val (.int p5), .val (.int (1 : Int32)), .val (.int y0.toInt32), .val (.int y1.toInt32), .val (.int y2.toInt32), .val (.ref b5), .unset, .unset, .unset] [(.int (0 : Int32))])) _
      exact k_
    refine own_go (S' := (T6.setTop (mkF m 110 #[.val (.int p1), .val (.int p2), .val (.int p3), .val (.int p4), .val (.int p5), .val (.int (1 : Int32)), .val (.int y0.toInt32), .val (.int y1.toInt32), .val (.int y2.toInt32), .val (.ref b5), .val (.int (0 : Int32)), .unset, .unset] [(.ref b5)]))) (fun t_ k_ => ?_) ?_
    · refine XS.istore X6.here hx rfl (hb hby at_106) rfl (l' := #[.val (.int p1), .val (.int p2), .val (.int p3), .val (.int p4), .val (.int p5), .val (.int (1 : Int32)), .val (.int y0.toInt32), .val (.int y1.toInt32), .val (.int y2.toInt32), .val (.ref b5), .val (.int (0 : Int32)), .unset, .unset]) rfl ?_
      show Steps p.tables e below (T6.setTop (mkF m 108 #[.val (.int p1), .val (.int p2), .val (.int p3), .val (.int p4), .val (.int p5), .val (.int (1 : Int32)), .val (.int y0.toInt32), .val (.int y1.toInt32), .val (.int y2.toInt32), .val (.ref b5), .val (.int (0 : Int32)), .unset, .unset] [])) _
      refine XS.aload X6.here hx rfl (hb hby at_108) rfl rfl ?_
      show Steps p.tables e below (T6.setTop (mkF m 110 #[.val (.int p1), .val (.int p2), .val (.int p3), .val (.int p4), .val (.int p5), .val (.int (1 : Int32)), .val (.int y0.toInt32), .val (.int y1.toInt32), .val (.int y2.toInt32), .val (.ref b5), .val (.int (0 : Int32)), .unset, .unset] [(.ref b5)])) _
      exact k_
    obtain ⟨_, T7, L7, X7, ⟨rfl, N7q, k7⟩, st7⟩ := own_callS X6 hx hZ (y := (⟨"com/example/spillover/spillover/log/GzipMembers", "startsMember", "([B)Z"⟩ : MethodName)) hown (hw _ (List.mem_of_getElem? (i := 1) rfl)) (hw _ (List.mem_of_getElem? (i := 2) rfl)) (hw _ (List.mem_of_getElem? (i := 3) rfl)) (hw _ (List.mem_of_getElem? (i := 4) rfl)) (by decide) (own_c1 l Z a0 hw [] b5 k5 (1 : Int32) [(.int y0.toInt32)] y0.toInt32 0 h6 n0 Zb0 Vb0 (fun _ => rfl) (fun _ => rfl)) e6 (W := 0) (by decide) (by decide) (g := (mkF m 110 #[.val (.int p1), .val (.int p2), .val (.int p3), .val (.int p4), .val (.int p5), .val (.int (1 : Int32)), .val (.int y0.toInt32), .val (.int y1.toInt32), .val (.int y2.toInt32), .val (.ref b5), .val (.int (0 : Int32)), .unset, .unset] [(.ref b5)])) rfl (by rw [hml]; rfl) (argsL := [(.ref b5)]) (rest := []) (lenOf own_pd0 rfl) rfl rfl rfl (hb hby at_110) (by decide) (by decide)
    have N7 := Fr.app N6 N7q
    refine own_go st7 ?_
    show own_Rch p e below _ (T7.setTop (mkF m 113 #[.val (.int p1), .val (.int p2), .val (.int p3), .val (.int p4), .val (.int p5), .val (.int (1 : Int32)), .val (.int y0.toInt32), .val (.int y1.toInt32), .val (.int y2.toInt32), .val (.ref b5), .val (.int (0 : Int32)), .unset, .unset] [(.int (own_sm (1 : Int32) y0.toInt32 0))]))
    have Vc := Vb0
    rw [← k7] at Vc
    refine own_go (S' := (T7.setTop (mkF m 117 #[.val (.int p1), .val (.int p2), .val (.int p3), .val (.int p4), .val (.int p5), .val (.int (1 : Int32)), .val (.int y0.toInt32), .val (.int y1.toInt32), .val (.int y2.toInt32), .val (.ref b5), .val (.int (0 : Int32)), .val (.int (own_sm (1 : Int32) y0.toInt32 0)), .unset] [(.int (1 : Int32))]))) (fun t_ k_ => ?_) ?_
    · refine XS.istore X7.here hx rfl (hb hby at_113) rfl (l' := #[.val (.int p1), .val (.int p2), .val (.int p3), .val (.int p4), .val (.int p5), .val (.int (1 : Int32)), .val (.int y0.toInt32), .val (.int y1.toInt32), .val (.int y2.toInt32), .val (.ref b5), .val (.int (0 : Int32)), .val (.int (own_sm (1 : Int32) y0.toInt32 0)), .unset]) rfl ?_
      show Steps p.tables e below (T7.setTop (mkF m 115 #[.val (.int p1), .val (.int p2), .val (.int p3), .val (.int p4), .val (.int p5), .val (.int (1 : Int32)), .val (.int y0.toInt32), .val (.int y1.toInt32), .val (.int y2.toInt32), .val (.ref b5), .val (.int (0 : Int32)), .val (.int (own_sm (1 : Int32) y0.toInt32 0)), .unset] [])) _
      refine XS.iload X7.here hx rfl (hb hby at_115) rfl ?_
      show Steps p.tables e below (T7.setTop (mkF m 117 #[.val (.int p1), .val (.int p2), .val (.int p3), .val (.int p4), .val (.int p5), .val (.int (1 : Int32)), .val (.int y0.toInt32), .val (.int y1.toInt32), .val (.int y2.toInt32), .val (.ref b5), .val (.int (0 : Int32)), .val (.int (own_sm (1 : Int32) y0.toInt32 0)), .unset] [(.int (1 : Int32))])) _
      exact k_
    refine own_go (S' := (T7.setTop (mkF m 123 #[.val (.int p1), .val (.int p2), .val (.int p3), .val (.int p4), .val (.int p5), .val (.int (1 : Int32)), .val (.int y0.toInt32), .val (.int y1.toInt32), .val (.int y2.toInt32), .val (.ref b5), .val (.int (0 : Int32)), .val (.int (own_sm (1 : Int32) y0.toInt32 0)), .unset] [(.int (0 : Int32)), (.ref b5)]))) (fun t_ k_ => ?_) ?_
    · refine XS.ifNo X7.here hx rfl (hb hby at_117) rfl ((if0 _ _).trans (tlt (by decide)).2.2.2) ?_
      show Steps p.tables e below (T7.setTop (mkF m 120 #[.val (.int p1), .val (.int p2), .val (.int p3), .val (.int p4), .val (.int p5), .val (.int (1 : Int32)), .val (.int y0.toInt32), .val (.int y1.toInt32), .val (.int y2.toInt32), .val (.ref b5), .val (.int (0 : Int32)), .val (.int (own_sm (1 : Int32) y0.toInt32 0)), .unset] [])) _
      refine XS.aload X7.here hx rfl (hb hby at_120) rfl rfl ?_
      show Steps p.tables e below (T7.setTop (mkF m 122 #[.val (.int p1), .val (.int p2), .val (.int p3), .val (.int p4), .val (.int p5), .val (.int (1 : Int32)), .val (.int y0.toInt32), .val (.int y1.toInt32), .val (.int y2.toInt32), .val (.ref b5), .val (.int (0 : Int32)), .val (.int (own_sm (1 : Int32) y0.toInt32 0)), .unset] [(.ref b5)])) _
      refine XS.iconst X7.here hx rfl (hb hby at_122) ?_
      show Steps p.tables e below (T7.setTop (mkF m 123 #[.val (.int p1), .val (.int p2), .val (.int p3), .val (.int p4), .val (.int p5), .val (.int (1 : Int32)), .val (.int y0.toInt32), .val (.int y1.toInt32), .val (.int y2.toInt32), .val (.ref b5), .val (.int (0 : Int32)), .val (.int (own_sm (1 : Int32) y0.toInt32 0)), .unset] [(.int (0 : Int32)), (.ref b5)])) _
      exact k_
    refine own_go (own_bal X7 hx hZ rfl Vc (by decide) rfl (g := (mkF m 123 #[.val (.int p1), .val (.int p2), .val (.int p3), .val (.int p4), .val (.int p5), .val (.int (1 : Int32)), .val (.int y0.toInt32), .val (.int y1.toInt32), .val (.int y2.toInt32), .val (.ref b5), .val (.int (0 : Int32)), .val (.int (own_sm (1 : Int32) y0.toInt32 0)), .unset] [(.int (0 : Int32)), (.ref b5)])) rfl rfl (hb hby at_123)) ?_
    show own_Rch p e below _ (T7.setTop (mkF m 124 #[.val (.int p1), .val (.int p2), .val (.int p3), .val (.int p4), .val (.int p5), .val (.int (1 : Int32)), .val (.int y0.toInt32), .val (.int y1.toInt32), .val (.int y2.toInt32), .val (.ref b5), .val (.int (0 : Int32)), .val (.int (own_sm (1 : Int32) y0.toInt32 0)), .unset] [(.int y0.toInt32)]))
    refine own_go (S' := (T7.setTop (mkF m 126 #[.val (.int p1), .val (.int p2), .val (.int p3), .val (.int p4), .val (.int p5), .val (.int (1 : Int32)), .val (.int y0.toInt32), .val (.int y1.toInt32), .val (.int y2.toInt32), .val (.ref b5), .val (.int (0 : Int32)), .val (.int (own_sm (1 : Int32) y0.toInt32 0)), .unset] [(.int y0.toInt32), (.int y0.toInt32)]))) (fun t_ k_ => ?_) ?_
    · refine XS.iload X7.here hx rfl (hb hby at_124) rfl ?_
      show Steps p.tables e below (T7.setTop (mkF m 126 #[.val (.int p1), .val (.int p2), .val (.int p3), .val (.int p4), .val (.int p5), .val (.int (1 : Int32)), .val (.int y0.toInt32), .val (.int y1.toInt32), .val (.int y2.toInt32), .val (.ref b5), .val (.int (0 : Int32)), .val (.int (own_sm (1 : Int32) y0.toInt32 0)), .unset] [(.int y0.toInt32), (.int y0.toInt32)])) _
      exact k_
    refine own_go (S' := (T7.setTop (mkF m 132 #[.val (.int p1), .val (.int p2), .val (.int p3), .val (.int p4), .val (.int p5), .val (.int (1 : Int32)), .val (.int y0.toInt32), .val (.int y1.toInt32), .val (.int y2.toInt32), .val (.ref b5), .val (.int (0 : Int32)), .val (.int (own_sm (1 : Int32) y0.toInt32 0)), .unset] [(.int (1 : Int32)), (.int (1 : Int32))]))) (fun t_ k_ => ?_) ?_
    · refine XS.icmpNo X7.here hx rfl (hb hby at_126) rfl (teq rfl).2 ?_
      show Steps p.tables e below (T7.setTop (mkF m 129 #[.val (.int p1), .val (.int p2), .val (.int p3), .val (.int p4), .val (.int p5), .val (.int (1 : Int32)), .val (.int y0.toInt32), .val (.int y1.toInt32), .val (.int y2.toInt32), .val (.ref b5), .val (.int (0 : Int32)), .val (.int (own_sm (1 : Int32) y0.toInt32 0)), .unset] [])) _
      refine XS.iload X7.here hx rfl (hb hby at_129) rfl ?_
      show Steps p.tables e below (T7.setTop (mkF m 131 #[.val (.int p1), .val (.int p2), .val (.int p3), .val (.int p4), .val (.int p5), .val (.int (1 : Int32)), .val (.int y0.toInt32), .val (.int y1.toInt32), .val (.int y2.toInt32), .val (.ref b5), .val (.int (0 : Int32)), .val (.int (own_sm (1 : Int32) y0.toInt32 0)), .unset] [(.int (1 : Int32))])) _
      refine XS.iconst X7.here hx rfl (hb hby at_131) ?_
      show Steps p.tables e below (T7.setTop (mkF m 132 #[.val (.int p1), .val (.int p2), .val (.int p3), .val (.int p4), .val (.int p5), .val (.int (1 : Int32)), .val (.int y0.toInt32), .val (.int y1.toInt32), .val (.int y2.toInt32), .val (.ref b5), .val (.int (0 : Int32)), .val (.int (own_sm (1 : Int32) y0.toInt32 0)), .unset] [(.int (1 : Int32)), (.int (1 : Int32))])) _
      exact k_
    refine own_go (S' := (T7.setTop (mkF m 147 #[.val (.int p1), .val (.int p2), .val (.int p3), .val (.int p4), .val (.int p5), .val (.int (1 : Int32)), .val (.int y0.toInt32), .val (.int y1.toInt32), .val (.int y2.toInt32), .val (.ref b5), .val (.int (0 : Int32)), .val (.int (own_sm (1 : Int32) y0.toInt32 0)), .unset] [(.int (2 : Int32)), (.int (1 : Int32))]))) (fun t_ k_ => ?_) ?_
    · refine XS.icmpYes X7.here hx rfl (pc0 := 132) (pc' := 144) rfl (hb hby at_132) rfl (flt (by decide)).2.2.2 (by decide) (by decide) ?_
      show Steps p.tables e below (T7.setTop (mkF m 144 #[.val (.int p1), .val (.int p2), .val (.int p3), .val (.int p4), .val (.int p5), .val (.int (1 : Int32)), .val (.int y0.toInt32), .val (.int y1.toInt32), .val (.int y2.toInt32), .val (.ref b5), .val (.int (0 : Int32)), .val (.int (own_sm (1 : Int32) y0.toInt32 0)), .unset] [])) _
      refine XS.iload X7.here hx rfl (hb hby at_144) rfl ?_
      show Steps p.tables e below (T7.setTop (mkF m 146 #[.val (.int p1), .val (.int p2), .val (.int p3), .val (.int p4), .val (.int p5), .val (.int (1 : Int32)), .val (.int y0.toInt32), .val (.int y1.toInt32), .val (.int y2.toInt32), .val (.ref b5), .val (.int (0 : Int32)), .val (.int (own_sm (1 : Int32) y0.toInt32 0)), .unset] [(.int (1 : Int32))])) _
      refine XS.iconst X7.here hx rfl (hb hby at_146) ?_
      show Steps p.tables e below (T7.setTop (mkF m 147 #[.val (.int p1), .val (.int p2), .val (.int p3), .val (.int p4), .val (.int p5), .val (.int (1 : Int32)), .val (.int y0.toInt32), .val (.int y1.toInt32), .val (.int y2.toInt32), .val (.ref b5), .val (.int (0 : Int32)), .val (.int (own_sm (1 : Int32) y0.toInt32 0)), .unset] [(.int (2 : Int32)), (.int (1 : Int32))])) _
      exact k_
    refine own_go (S' := (T7.setTop (mkF m 170 #[.val (.int p1), .val (.int p2), .val (.int p3), .val (.int p4), .val (.int p5), .val (.int (1 : Int32)), .val (.int y0.toInt32), .val (.int y1.toInt32), .val (.int y2.toInt32), .val (.ref b5), .val (.int (0 : Int32)), .val (.int (own_sm (1 : Int32) y0.toInt32 0)), .val (.int (1 : Int32))] [(.int (0 : Int32)), (.int (own_sm (1 : Int32) y0.toInt32 0))]))) (fun t_ k_ => ?_) ?_
    · refine XS.icmpYes X7.here hx rfl (pc0 := 147) (pc' := 159) rfl (hb hby at_147) rfl (flt (by decide)).2.2.2 (by decide) (by decide) ?_
      show Steps p.tables e below (T7.setTop (mkF m 159 #[.val (.int p1), .val (.int p2), .val (.int p3), .val (.int p4), .val (.int p5), .val (.int (1 : Int32)), .val (.int y0.toInt32), .val (.int y1.toInt32), .val (.int y2.toInt32), .val (.ref b5), .val (.int (0 : Int32)), .val (.int (own_sm (1 : Int32) y0.toInt32 0)), .unset] [])) _
      refine XS.iconst X7.here hx rfl (hb hby at_159) ?_
      show Steps p.tables e below (T7.setTop (mkF m 160 #[.val (.int p1), .val (.int p2), .val (.int p3), .val (.int p4), .val (.int p5), .val (.int (1 : Int32)), .val (.int y0.toInt32), .val (.int y1.toInt32), .val (.int y2.toInt32), .val (.ref b5), .val (.int (0 : Int32)), .val (.int (own_sm (1 : Int32) y0.toInt32 0)), .unset] [(.int (1 : Int32))])) _
      refine XS.goto X7.here hx rfl (pc0 := 160) (pc' := 164) rfl (hb hby at_160) (by decide) (by decide) ?_
      show Steps p.tables e below (T7.setTop (mkF m 164 #[.val (.int p1), .val (.int p2), .val (.int p3), .val (.int p4), .val (.int p5), .val (.int (1 : Int32)), .val (.int y0.toInt32), .val (.int y1.toInt32), .val (.int y2.toInt32), .val (.ref b5), .val (.int (0 : Int32)), .val (.int (own_sm (1 : Int32) y0.toInt32 0)), .unset] [(.int (1 : Int32))])) _
      refine XS.istore X7.here hx rfl (hb hby at_164) rfl (l' := #[.val (.int p1), .val (.int p2), .val (.int p3), .val (.int p4), .val (.int p5), .val (.int (1 : Int32)), .val (.int y0.toInt32), .val (.int y1.toInt32), .val (.int y2.toInt32), .val (.ref b5), .val (.int (0 : Int32)), .val (.int (own_sm (1 : Int32) y0.toInt32 0)), .val (.int (1 : Int32))]) rfl ?_
      show Steps p.tables e below (T7.setTop (mkF m 166 #[.val (.int p1), .val (.int p2), .val (.int p3), .val (.int p4), .val (.int p5), .val (.int (1 : Int32)), .val (.int y0.toInt32), .val (.int y1.toInt32), .val (.int y2.toInt32), .val (.ref b5), .val (.int (0 : Int32)), .val (.int (own_sm (1 : Int32) y0.toInt32 0)), .val (.int (1 : Int32))] [])) _
      refine XS.iload X7.here hx rfl (hb hby at_166) rfl ?_
      show Steps p.tables e below (T7.setTop (mkF m 168 #[.val (.int p1), .val (.int p2), .val (.int p3), .val (.int p4), .val (.int p5), .val (.int (1 : Int32)), .val (.int y0.toInt32), .val (.int y1.toInt32), .val (.int y2.toInt32), .val (.ref b5), .val (.int (0 : Int32)), .val (.int (own_sm (1 : Int32) y0.toInt32 0)), .val (.int (1 : Int32))] [(.int (own_sm (1 : Int32) y0.toInt32 0))])) _
      refine XS.iload X7.here hx rfl (hb hby at_168) rfl ?_
      show Steps p.tables e below (T7.setTop (mkF m 170 #[.val (.int p1), .val (.int p2), .val (.int p3), .val (.int p4), .val (.int p5), .val (.int (1 : Int32)), .val (.int y0.toInt32), .val (.int y1.toInt32), .val (.int y2.toInt32), .val (.ref b5), .val (.int (0 : Int32)), .val (.int (own_sm (1 : Int32) y0.toInt32 0)), .val (.int (1 : Int32))] [(.int (0 : Int32)), (.int (own_sm (1 : Int32) y0.toInt32 0))])) _
      exact k_
    refine own_go (S' := (T7.setTop (mkF m 175 #[.val (.int p1), .val (.int p2), .val (.int p3), .val (.int p4), .val (.int p5), .val (.int (1 : Int32)), .val (.int y0.toInt32), .val (.int y1.toInt32), .val (.int y2.toInt32), .val (.ref b5), .val (.int (0 : Int32)), .val (.int (own_sm (1 : Int32) y0.toInt32 0)), .val (.int (1 : Int32))] [(.int (1 : Int32))]))) (fun t_ k_ => ?_) ?_
    · refine XS.icmpNo X7.here hx rfl (hb hby at_170) rfl (teq (by rw [own_sm, if_pos (by decide)])).2 ?_
      show Steps p.tables e below (T7.setTop (mkF m 173 #[.val (.int p1), .val (.int p2), .val (.int p3), .val (.int p4), .val (.int p5), .val (.int (1 : Int32)), .val (.int y0.toInt32), .val (.int y1.toInt32), .val (.int y2.toInt32), .val (.ref b5), .val (.int (0 : Int32)), .val (.int (own_sm (1 : Int32) y0.toInt32 0)), .val (.int (1 : Int32))] [])) _
      refine XS.iload X7.here hx rfl (hb hby at_173) rfl ?_
      show Steps p.tables e below (T7.setTop (mkF m 175 #[.val (.int p1), .val (.int p2), .val (.int p3), .val (.int p4), .val (.int p5), .val (.int (1 : Int32)), .val (.int y0.toInt32), .val (.int y1.toInt32), .val (.int y2.toInt32), .val (.ref b5), .val (.int (0 : Int32)), .val (.int (own_sm (1 : Int32) y0.toInt32 0)), .val (.int (1 : Int32))] [(.int (1 : Int32))])) _
      exact k_
    refine own_go (S' := (T7.setTop (mkF m 183 #[.val (.int p1), .val (.int p2), .val (.int p3), .val (.int p4), .val (.int p5), .val (.int (1 : Int32)), .val (.int y0.toInt32), .val (.int y1.toInt32), .val (.int y2.toInt32), .val (.ref b5), .val (.int (0 : Int32)), .val (.int (own_sm (1 : Int32) y0.toInt32 0)), .val (.int (1 : Int32))] [(.int (1 : Int32))]))) (fun t_ k_ => ?_) ?_
    · refine XS.ifNo X7.here hx rfl (hb hby at_175) rfl ((if0 _ _).trans (feq (by decide)).1) ?_
      show Steps p.tables e below (T7.setTop (mkF m 178 #[.val (.int p1), .val (.int p2), .val (.int p3), .val (.int p4), .val (.int p5), .val (.int (1 : Int32)), .val (.int y0.toInt32), .val (.int y1.toInt32), .val (.int y2.toInt32), .val (.ref b5), .val (.int (0 : Int32)), .val (.int (own_sm (1 : Int32) y0.toInt32 0)), .val (.int (1 : Int32))] [])) _
      refine XS.iconst X7.here hx rfl (hb hby at_178) ?_
      show Steps p.tables e below (T7.setTop (mkF m 179 #[.val (.int p1), .val (.int p2), .val (.int p3), .val (.int p4), .val (.int p5), .val (.int (1 : Int32)), .val (.int y0.toInt32), .val (.int y1.toInt32), .val (.int y2.toInt32), .val (.ref b5), .val (.int (0 : Int32)), .val (.int (own_sm (1 : Int32) y0.toInt32 0)), .val (.int (1 : Int32))] [(.int (1 : Int32))])) _
      refine XS.goto X7.here hx rfl (pc0 := 179) (pc' := 183) rfl (hb hby at_179) (by decide) (by decide) ?_
      show Steps p.tables e below (T7.setTop (mkF m 183 #[.val (.int p1), .val (.int p2), .val (.int p3), .val (.int p4), .val (.int p5), .val (.int (1 : Int32)), .val (.int y0.toInt32), .val (.int y1.toInt32), .val (.int y2.toInt32), .val (.ref b5), .val (.int (0 : Int32)), .val (.int (own_sm (1 : Int32) y0.toInt32 0)), .val (.int (1 : Int32))] [(.int (1 : Int32))])) _
      exact k_
    refine own_retN X7 hx (t := .boolean) Bd.returns Bd.notSynchronized (by simp) (hb hby at_183) rfl (by decide) (by decide) ?_
    exact ⟨rfl, N7⟩
  · skip
    show own_Rch p e below _ (s₁.setTop (mkF m 42 #[.val (.int p1), .val (.int p2), .val (.int p3), .val (.int p4), .val (.int p5), .val (.int (2 : Int32)), .val (.int y0.toInt32), .val (.int y1.toInt32), .val (.int y2.toInt32), .unset, .unset, .unset, .unset] [(.int (2 : Int32))]))
    obtain ⟨T8, h8, k8, X8, e8, E8, A8, Ex8, st8⟩ := newPE X0 hx hZ (hw _ (List.mem_of_getElem? (i := 0) rfl)) e0 (g := (mkF m 42 #[.val (.int p1), .val (.int p2), .val (.int p3), .val (.int p4), .val (.int p5), .val (.int (2 : Int32)), .val (.int y0.toInt32), .val (.int y1.toInt32), .val (.int y2.toInt32), .unset, .unset, .unset, .unset] [(.int (2 : Int32))])) rfl (hb hby at_42) rfl (by decide) (cap := 2) (by decide) (by decide) (by decide) (by decide) (ad := "[B") (by decide)
    obtain ⟨b8, g8⟩ : ∃ z, z = h0.size := ⟨_, rfl⟩
    rw [← g8] at A8 Ex8 st8
    have gb8 : n0 ≤ b8 := Nat.le_trans Z0 (Nat.le_of_eq g8.symm)
    have V8 := Arv.new A8 (by decide)
    refine own_go st8 ?_
    show own_Rch p e below _ (T8.setTop (mkF m 44 #[.val (.int p1), .val (.int p2), .val (.int p3), .val (.int p4), .val (.int p5), .val (.int (2 : Int32)), .val (.int y0.toInt32), .val (.int y1.toInt32), .val (.int y2.toInt32), .unset, .unset, .unset, .unset] [(.ref b8)]))
    refine own_go (S' := (T8.setTop (mkF m 48 #[.val (.int p1), .val (.int p2), .val (.int p3), .val (.int p4), .val (.int p5), .val (.int (2 : Int32)), .val (.int y0.toInt32), .val (.int y1.toInt32), .val (.int y2.toInt32), .val (.ref b8), .unset, .unset, .unset] [(.int (2 : Int32))]))) (fun t_ k_ => ?_) ?_
    · refine XS.astore X8.here hx rfl (hb hby at_44) rfl rfl (l' := #[.val (.int p1), .val (.int p2), .val (.int p3), .val (.int p4), .val (.int p5), .val (.int (2 : Int32)), .val (.int y0.toInt32), .val (.int y1.toInt32), .val (.int y2.toInt32), .val (.ref b8), .unset, .unset, .unset]) rfl ?_
      show Steps p.tables e below (T8.setTop (mkF m 46 #[.val (.int p1), .val (.int p2), .val (.int p3), .val (.int p4), .val (.int p5), .val (.int (2 : Int32)), .val (.int y0.toInt32), .val (.int y1.toInt32), .val (.int y2.toInt32), .val (.ref b8), .unset, .unset, .unset] [])) _
      refine XS.iload X8.here hx rfl (hb hby at_46) rfl ?_
      show Steps p.tables e below (T8.setTop (mkF m 48 #[.val (.int p1), .val (.int p2), .val (.int p3), .val (.int p4), .val (.int p5), .val (.int (2 : Int32)), .val (.int y0.toInt32), .val (.int y1.toInt32), .val (.int y2.toInt32), .val (.ref b8), .unset, .unset, .unset] [(.int (2 : Int32))])) _
      exact k_
    have Va : Arv Z h8 b8 k8 .byte (2 : Int32) [(.int (0 : Int32)), (.int (0 : Int32))] (.int (0 : Int32)) := V8.pad (pad_rep [] (.int (0 : Int32)) 2)
    have Kp : n0 ≤ h8.size := Nat.le_trans Z0 E8.1
    refine own_go (S' := (T8.setTop (mkF m 56 #[.val (.int p1), .val (.int p2), .val (.int p3), .val (.int p4), .val (.int p5), .val (.int (2 : Int32)), .val (.int y0.toInt32), .val (.int y1.toInt32), .val (.int y2.toInt32), .val (.ref b8), .unset, .unset, .unset] [(.int y0.toInt32), (.int (0 : Int32)), (.ref b8)]))) (fun t_ k_ => ?_) ?_
    · refine XS.ifNo X8.here hx rfl (hb hby at_48) rfl ((if0 _ _).trans (tlt (by decide)).2.2.2) ?_
      show Steps p.tables e below (T8.setTop (mkF m 51 #[.val (.int p1), .val (.int p2), .val (.int p3), .val (.int p4), .val (.int p5), .val (.int (2 : Int32)), .val (.int y0.toInt32), .val (.int y1.toInt32), .val (.int y2.toInt32), .val (.ref b8), .unset, .unset, .unset] [])) _
      refine XS.aload X8.here hx rfl (hb hby at_51) rfl rfl ?_
      show Steps p.tables e below (T8.setTop (mkF m 53 #[.val (.int p1), .val (.int p2), .val (.int p3), .val (.int p4), .val (.int p5), .val (.int (2 : Int32)), .val (.int y0.toInt32), .val (.int y1.toInt32), .val (.int y2.toInt32), .val (.ref b8), .unset, .unset, .unset] [(.ref b8)])) _
      refine XS.iconst X8.here hx rfl (hb hby at_53) ?_
      show Steps p.tables e below (T8.setTop (mkF m 54 #[.val (.int p1), .val (.int p2), .val (.int p3), .val (.int p4), .val (.int p5), .val (.int (2 : Int32)), .val (.int y0.toInt32), .val (.int y1.toInt32), .val (.int y2.toInt32), .val (.ref b8), .unset, .unset, .unset] [(.int (0 : Int32)), (.ref b8)])) _
      refine XS.iload X8.here hx rfl (hb hby at_54) rfl ?_
      show Steps p.tables e below (T8.setTop (mkF m 56 #[.val (.int p1), .val (.int p2), .val (.int p3), .val (.int p4), .val (.int p5), .val (.int (2 : Int32)), .val (.int y0.toInt32), .val (.int y1.toInt32), .val (.int y2.toInt32), .val (.ref b8), .unset, .unset, .unset] [(.int y0.toInt32), (.int (0 : Int32)), (.ref b8)])) _
      exact k_
    obtain ⟨T9, h9, X9, e9, W9, V9, st9⟩ := own_stB X8 hx hZ e8 Va (by decide) (i := 0) (by decide) (by simp) (g := (mkF m 56 #[.val (.int p1), .val (.int p2), .val (.int p3), .val (.int p4), .val (.int p5), .val (.int (2 : Int32)), .val (.int y0.toInt32), .val (.int y1.toInt32), .val (.int y2.toInt32), .val (.ref b8), .unset, .unset, .unset] [(.int y0.toInt32), (.int (0 : Int32)), (.ref b8)])) rfl rfl (hb hby at_56)
    refine own_go st9 ?_
    have N9 := Fr.snoc X9 N0 gb8
    show own_Rch p e below _ (T9.setTop (mkF m 57 #[.val (.int p1), .val (.int p2), .val (.int p3), .val (.int p4), .val (.int p5), .val (.int (2 : Int32)), .val (.int y0.toInt32), .val (.int y1.toInt32), .val (.int y2.toInt32), .val (.ref b8), .unset, .unset, .unset] []))
    have Vb0 : Arv Z h9 b8 k8 .byte (2 : Int32) [(.int y0.toInt32), (.int (0 : Int32))] (.int (0 : Int32)) := by have q := V9; rw [own_nb] at q; exact q
    have Zb0 : n0 ≤ h9.size := Nat.le_trans Kp (Keep.of_wr W9).1
    refine own_go (S' := (T9.setTop (mkF m 60 #[.val (.int p1), .val (.int p2), .val (.int p3), .val (.int p4), .val (.int p5), .val (.int (2 : Int32)), .val (.int y0.toInt32), .val (.int y1.toInt32), .val (.int y2.toInt32), .val (.ref b8), .unset, .unset, .unset] [(.int (1 : Int32)), (.int (2 : Int32))]))) (fun t_ k_ => ?_) ?_
    · refine XS.iload X9.here hx rfl (hb hby at_57) rfl ?_
      show Steps p.tables e below (T9.setTop (mkF m 59 #[.val (.int p1), .val (.int p2), .val (.int p3), .val (.int p4), .val (.int p5), .val (.int (2 : Int32)), .val (.int y0.toInt32), .val (.int y1.toInt32), .val (.int y2.toInt32), .val (.ref b8), .unset, .unset, .unset] [(.int (2 : Int32))])) _
      refine XS.iconst X9.here hx rfl (hb hby at_59) ?_
      show Steps p.tables e below (T9.setTop (mkF m 60 #[.val (.int p1), .val (.int p2), .val (.int p3), .val (.int p4), .val (.int p5), .val (.int (2 : Int32)), .val (.int y0.toInt32), .val (.int y1.toInt32), .val (.int y2.toInt32), .val (.ref b8), .unset, .unset, .unset] [(.int (1 : Int32)), (.int (2 : Int32))])) _
      exact k_
    refine own_go (S' := (T9.setTop (mkF m 68 #[.val (.int p1), .val (.int p2), .val (.int p3), .val (.int p4), .val (.int p5), .val (.int (2 : Int32)), .val (.int y0.toInt32), .val (.int y1.toInt32), .val (.int y2.toInt32), .val (.ref b8), .unset, .unset, .unset] [(.int y1.toInt32), (.int (1 : Int32)), (.ref b8)]))) (fun t_ k_ => ?_) ?_
    · refine XS.icmpNo X9.here hx rfl (hb hby at_60) rfl (tlt (by decide)).2.2.2 ?_
      show Steps p.tables e below (T9.setTop (mkF m 63 #[.val (.int p1), .val (.int p2), .val (.int p3), .val (.int p4), .val (.int p5), .val (.int (2 : Int32)), .val (.int y0.toInt32), .val (.int y1.toInt32), .val (.int y2.toInt32), .val (.ref b8), .unset, .unset, .unset] [])) _
      refine XS.aload X9.here hx rfl (hb hby at_63) rfl rfl ?_
      show Steps p.tables e below (T9.setTop (mkF m 65 #[.val (.int p1), .val (.int p2), .val (.int p3), .val (.int p4), .val (.int p5), .val (.int (2 : Int32)), .val (.int y0.toInt32), .val (.int y1.toInt32), .val (.int y2.toInt32), .val (.ref b8), .unset, .unset, .unset] [(.ref b8)])) _
      refine XS.iconst X9.here hx rfl (hb hby at_65) ?_
      show Steps p.tables e below (T9.setTop (mkF m 66 #[.val (.int p1), .val (.int p2), .val (.int p3), .val (.int p4), .val (.int p5), .val (.int (2 : Int32)), .val (.int y0.toInt32), .val (.int y1.toInt32), .val (.int y2.toInt32), .val (.ref b8), .unset, .unset, .unset] [(.int (1 : Int32)), (.ref b8)])) _
      refine XS.iload X9.here hx rfl (hb hby at_66) rfl ?_
      show Steps p.tables e below (T9.setTop (mkF m 68 #[.val (.int p1), .val (.int p2), .val (.int p3), .val (.int p4), .val (.int p5), .val (.int (2 : Int32)), .val (.int y0.toInt32), .val (.int y1.toInt32), .val (.int y2.toInt32), .val (.ref b8), .unset, .unset, .unset] [(.int y1.toInt32), (.int (1 : Int32)), (.ref b8)])) _
      exact k_
    obtain ⟨T10, h10, X10, e10, W10, V10, st10⟩ := own_stB X9 hx hZ e9 Vb0 (by decide) (i := 1) (by decide) (by simp) (g := (mkF m 68 #[.val (.int p1), .val (.int p2), .val (.int p3), .val (.int p4), .val (.int p5), .val (.int (2 : Int32)), .val (.int y0.toInt32), .val (.int y1.toInt32), .val (.int y2.toInt32), .val (.ref b8), .unset, .unset, .unset] [(.int y1.toInt32), (.int (1 : Int32)), (.ref b8)])) rfl rfl (hb hby at_68)
    refine own_go st10 ?_
    have N10 := Fr.snoc X10 N9 gb8
    show own_Rch p e below _ (T10.setTop (mkF m 69 #[.val (.int p1), .val (.int p2), .val (.int p3), .val (.int p4), .val (.int p5), .val (.int (2 : Int32)), .val (.int y0.toInt32), .val (.int y1.toInt32), .val (.int y2.toInt32), .val (.ref b8), .unset, .unset, .unset] []))
    have Vb1 : Arv Z h10 b8 k8 .byte (2 : Int32) [(.int y0.toInt32), (.int y1.toInt32)] (.int (0 : Int32)) := by have q := V10; rw [own_nb] at q; exact q
    have Zb1 : n0 ≤ h10.size := Nat.le_trans Zb0 (Keep.of_wr W10).1
    refine own_go (S' := (T10.setTop (mkF m 72 #[.val (.int p1), .val (.int p2), .val (.int p3), .val (.int p4), .val (.int p5), .val (.int (2 : Int32)), .val (.int y0.toInt32), .val (.int y1.toInt32), .val (.int y2.toInt32), .val (.ref b8), .unset, .unset, .unset] [(.int (2 : Int32)), (.int (2 : Int32))]))) (fun t_ k_ => ?_) ?_
    · refine XS.iload X10.here hx rfl (hb hby at_69) rfl ?_
      show Steps p.tables e below (T10.setTop (mkF m 71 #[.val (.int p1), .val (.int p2), .val (.int p3), .val (.int p4), .val (.int p5), .val (.int (2 : Int32)), .val (.int y0.toInt32), .val (.int y1.toInt32), .val (.int y2.toInt32), .val (.ref b8), .unset, .unset, .unset] [(.int (2 : Int32))])) _
      refine XS.iconst X10.here hx rfl (hb hby at_71) ?_
      show Steps p.tables e below (T10.setTop (mkF m 72 #[.val (.int p1), .val (.int p2), .val (.int p3), .val (.int p4), .val (.int p5), .val (.int (2 : Int32)), .val (.int y0.toInt32), .val (.int y1.toInt32), .val (.int y2.toInt32), .val (.ref b8), .unset, .unset, .unset] [(.int (2 : Int32)), (.int (2 : Int32))])) _
      exact k_
    refine own_go (S' := (T10.setTop (mkF m 84 #[.val (.int p1), .val (.int p2), .val (.int p3), .val (.int p4), .val (.int p5), .val (.int (2 : Int32)), .val (.int y0.toInt32), .val (.int y1.toInt32), .val (.int y2.toInt32), .val (.ref b8), .unset, .unset, .unset] [(.int (2 : Int32)), (.int (2 : Int32))]))) (fun t_ k_ => ?_) ?_
    · refine XS.icmpYes X10.here hx rfl (pc0 := 72) (pc' := 81) rfl (hb hby at_72) rfl (flt (by decide)).2.2.2 (by decide) (by decide) ?_
      show Steps p.tables e below (T10.setTop (mkF m 81 #[.val (.int p1), .val (.int p2), .val (.int p3), .val (.int p4), .val (.int p5), .val (.int (2 : Int32)), .val (.int y0.toInt32), .val (.int y1.toInt32), .val (.int y2.toInt32), .val (.ref b8), .unset, .unset, .unset] [])) _
      refine XS.iload X10.here hx rfl (hb hby at_81) rfl ?_
      show Steps p.tables e below (T10.setTop (mkF m 83 #[.val (.int p1), .val (.int p2), .val (.int p3), .val (.int p4), .val (.int p5), .val (.int (2 : Int32)), .val (.int y0.toInt32), .val (.int y1.toInt32), .val (.int y2.toInt32), .val (.ref b8), .unset, .unset, .unset] [(.int (2 : Int32))])) _
      refine XS.iconst X10.here hx rfl (hb hby at_83) ?_
      show Steps p.tables e below (T10.setTop (mkF m 84 #[.val (.int p1), .val (.int p2), .val (.int p3), .val (.int p4), .val (.int p5), .val (.int (2 : Int32)), .val (.int y0.toInt32), .val (.int y1.toInt32), .val (.int y2.toInt32), .val (.ref b8), .unset, .unset, .unset] [(.int (2 : Int32)), (.int (2 : Int32))])) _
      exact k_
    refine own_go (S' := (T10.setTop (mkF m 91 #[.val (.int p1), .val (.int p2), .val (.int p3), .val (.int p4), .val (.int p5), .val (.int (2 : Int32)), .val (.int y0.toInt32), .val (.int y1.toInt32), .val (.int y2.toInt32), .val (.ref b8), .unset, .unset, .unset] [(.int (31 : Int32)), (.int y0.toInt32)]))) (fun t_ k_ => ?_) ?_
    · refine XS.icmpNo X10.here hx rfl (hb hby at_84) rfl (flt (by decide)).1 ?_
      show Steps p.tables e below (T10.setTop (mkF m 87 #[.val (.int p1), .val (.int p2), .val (.int p3), .val (.int p4), .val (.int p5), .val (.int (2 : Int32)), .val (.int y0.toInt32), .val (.int y1.toInt32), .val (.int y2.toInt32), .val (.ref b8), .unset, .unset, .unset] [])) _
      refine XS.iload X10.here hx rfl (hb hby at_87) rfl ?_
      show Steps p.tables e below (T10.setTop (mkF m 89 #[.val (.int p1), .val (.int p2), .val (.int p3), .val (.int p4), .val (.int p5), .val (.int (2 : Int32)), .val (.int y0.toInt32), .val (.int y1.toInt32), .val (.int y2.toInt32), .val (.ref b8), .unset, .unset, .unset] [(.int y0.toInt32)])) _
      refine XS.bipush X10.here hx rfl (hb hby at_89) ?_
      show Steps p.tables e below (T10.setTop (mkF m 91 #[.val (.int p1), .val (.int p2), .val (.int p3), .val (.int p4), .val (.int p5), .val (.int (2 : Int32)), .val (.int y0.toInt32), .val (.int y1.toInt32), .val (.int y2.toInt32), .val (.ref b8), .unset, .unset, .unset] [(.int (31 : Int32)), (.int y0.toInt32)])) _
      exact k_
    obtain ⟨ex, eex⟩ : ∃ z : Int32, z = if y0.toInt32 = (31 : Int32) then (if y1.toInt32 = (-117 : Int32) then 1 else 0) else 0 := ⟨_, rfl⟩
    refine own_join (S' := (T10.setTop (mkF m 106 #[.val (.int p1), .val (.int p2), .val (.int p3), .val (.int p4), .val (.int p5), .val (.int (2 : Int32)), .val (.int y0.toInt32), .val (.int y1.toInt32), .val (.int y2.toInt32), .val (.ref b8), .unset, .unset, .unset] [(.int ex)]))) (fun J11 => ?_) ?_
    · skip
      by_cases g1 : y0.toInt32 = (31 : Int32)
      · skip
        refine own_go (S' := (T10.setTop (mkF m 98 #[.val (.int p1), .val (.int p2), .val (.int p3), .val (.int p4), .val (.int p5), .val (.int (2 : Int32)), .val (.int y0.toInt32), .val (.int y1.toInt32), .val (.int y2.toInt32), .val (.ref b8), .unset, .unset, .unset] [(.int (-117 : Int32)), (.int y1.toInt32)]))) (fun t_ k_ => ?_) ?_
        · refine XS.icmpNo X10.here hx rfl (hb hby at_91) rfl (teq g1).2 ?_
          show Steps p.tables e below (T10.setTop (mkF m 94 #[.val (.int p1), .val (.int p2), .val (.int p3), .val (.int p4), .val (.int p5), .val (.int (2 : Int32)), .val (.int y0.toInt32), .val (.int y1.toInt32), .val (.int y2.toInt32), .val (.ref b8), .unset, .unset, .unset] [])) _
          refine XS.iload X10.here hx rfl (hb hby at_94) rfl ?_
          show Steps p.tables e below (T10.setTop (mkF m 96 #[.val (.int p1), .val (.int p2), .val (.int p3), .val (.int p4), .val (.int p5), .val (.int (2 : Int32)), .val (.int y0.toInt32), .val (.int y1.toInt32), .val (.int y2.toInt32), .val (.ref b8), .unset, .unset, .unset] [(.int y1.toInt32)])) _
          refine XS.bipush X10.here hx rfl (hb hby at_96) ?_
          show Steps p.tables e below (T10.setTop (mkF m 98 #[.val (.int p1), .val (.int p2), .val (.int p3), .val (.int p4), .val (.int p5), .val (.int (2 : Int32)), .val (.int y0.toInt32), .val (.int y1.toInt32), .val (.int y2.toInt32), .val (.ref b8), .unset, .unset, .unset] [(.int (-117 : Int32)), (.int y1.toInt32)])) _
          exact k_
        by_cases g2 : y1.toInt32 = (-117 : Int32)
        · skip
          refine own_go (S' := (T10.setTop (mkF m 106 #[.val (.int p1), .val (.int p2), .val (.int p3), .val (.int p4), .val (.int p5), .val (.int (2 : Int32)), .val (.int y0.toInt32), .val (.int y1.toInt32), .val (.int y2.toInt32), .val (.ref b8), .unset, .unset, .unset] [(.int (1 : Int32))]))) (fun t_ k_ => ?_) ?_
          · refine XS.icmpNo X10.here hx rfl (hb hby at_98) rfl (teq g2).2 ?_
            show Steps p.tables e below (T10.setTop (mkF m 101 #[.val (.int p1), .val (.int p2), .val (.int p3), .val (.int p4), .val (.int p5), .val (.int (2 : Int32)), .val (.int y0.toInt32), .val (.int y1.toInt32), .val (.int y2.toInt32), .val (.ref b8), .unset, .unset, .unset] [])) _
            refine XS.iconst X10.here hx rfl (hb hby at_101) ?_
            show Steps p.tables e below (T10.setTop (mkF m 102 #[.val (.int p1), .val (.int p2), .val (.int p3), .val (.int p4), .val (.int p5), .val (.int (2 : Int32)), .val (.int y0.toInt32), .val (.int y1.toInt32), .val (.int y2.toInt32), .val (.ref b8), .unset, .unset, .unset] [(.int (1 : Int32))])) _
            refine XS.goto X10.here hx rfl (pc0 := 102) (pc' := 106) rfl (hb hby at_102) (by decide) (by decide) ?_
            show Steps p.tables e below (T10.setTop (mkF m 106 #[.val (.int p1), .val (.int p2), .val (.int p3), .val (.int p4), .val (.int p5), .val (.int (2 : Int32)), .val (.int y0.toInt32), .val (.int y1.toInt32), .val (.int y2.toInt32), .val (.ref b8), .unset, .unset, .unset] [(.int (1 : Int32))])) _
            exact k_
          rw [if_pos g1, if_pos g2] at eex; subst eex; exact J11
        · skip
          refine own_go (S' := (T10.setTop (mkF m 106 #[.val (.int p1), .val (.int p2), .val (.int p3), .val (.int p4), .val (.int p5), .val (.int (2 : Int32)), .val (.int y0.toInt32), .val (.int y1.toInt32), .val (.int y2.toInt32), .val (.ref b8), .unset, .unset, .unset] [(.int (0 : Int32))]))) (fun t_ k_ => ?_) ?_
          · refine XS.icmpYes X10.here hx rfl (pc0 := 98) (pc' := 105) rfl (hb hby at_98) rfl (feq g2).2 (by decide) (by decide) ?_
            show Steps p.tables e below (T10.setTop (mkF m 105 #[.val (.int p1), .val (.int p2), .val (.int p3), .val (.int p4), .val (.int p5), .val (.int (2 : Int32)), .val (.int y0.toInt32), .val (.int y1.toInt32), .val (.int y2.toInt32), .val (.ref b8), .unset, .unset, .unset] [])) _
            refine XS.iconst X10.here hx rfl (hb hby at_105) ?_
            show Steps p.tables e below (T10.setTop (mkF m 106 #[.val (.int p1), .val (.int p2), .val (.int p3), .val (.int p4), .val (.int p5), .val (.int (2 : Int32)), .val (.int y0.toInt32), .val (.int y1.toInt32), .val (.int y2.toInt32), .val (.ref b8), .unset, .unset, .unset] [(.int (0 : Int32))])) _
            exact k_
          rw [if_pos g1, if_neg g2] at eex; subst eex; exact J11
      · skip
        refine own_go (S' := (T10.setTop (mkF m 106 #[.val (.int p1), .val (.int p2), .val (.int p3), .val (.int p4), .val (.int p5), .val (.int (2 : Int32)), .val (.int y0.toInt32), .val (.int y1.toInt32), .val (.int y2.toInt32), .val (.ref b8), .unset, .unset, .unset] [(.int (0 : Int32))]))) (fun t_ k_ => ?_) ?_
        · refine XS.icmpYes X10.here hx rfl (pc0 := 91) (pc' := 105) rfl (hb hby at_91) rfl (feq g1).2 (by decide) (by decide) ?_
          show Steps p.tables e below (T10.setTop (mkF m 105 #[.val (.int p1), .val (.int p2), .val (.int p3), .val (.int p4), .val (.int p5), .val (.int (2 : Int32)), .val (.int y0.toInt32), .val (.int y1.toInt32), .val (.int y2.toInt32), .val (.ref b8), .unset, .unset, .unset] [])) _
          refine XS.iconst X10.here hx rfl (hb hby at_105) ?_
          show Steps p.tables e below (T10.setTop (mkF m 106 #[.val (.int p1), .val (.int p2), .val (.int p3), .val (.int p4), .val (.int p5), .val (.int (2 : Int32)), .val (.int y0.toInt32), .val (.int y1.toInt32), .val (.int y2.toInt32), .val (.ref b8), .unset, .unset, .unset] [(.int (0 : Int32))])) _
          exact k_
        rw [if_neg g1] at eex; subst eex; exact J11
    refine own_go (S' := (T10.setTop (mkF m 110 #[.val (.int p1), .val (.int p2), .val (.int p3), .val (.int p4), .val (.int p5), .val (.int (2 : Int32)), .val (.int y0.toInt32), .val (.int y1.toInt32), .val (.int y2.toInt32), .val (.ref b8), .val (.int ex), .unset, .unset] [(.ref b8)]))) (fun t_ k_ => ?_) ?_
    · refine XS.istore X10.here hx rfl (hb hby at_106) rfl (l' := #[.val (.int p1), .val (.int p2), .val (.int p3), .val (.int p4), .val (.int p5), .val (.int (2 : Int32)), .val (.int y0.toInt32), .val (.int y1.toInt32), .val (.int y2.toInt32), .val (.ref b8), .val (.int ex), .unset, .unset]) rfl ?_
      show Steps p.tables e below (T10.setTop (mkF m 108 #[.val (.int p1), .val (.int p2), .val (.int p3), .val (.int p4), .val (.int p5), .val (.int (2 : Int32)), .val (.int y0.toInt32), .val (.int y1.toInt32), .val (.int y2.toInt32), .val (.ref b8), .val (.int ex), .unset, .unset] [])) _
      refine XS.aload X10.here hx rfl (hb hby at_108) rfl rfl ?_
      show Steps p.tables e below (T10.setTop (mkF m 110 #[.val (.int p1), .val (.int p2), .val (.int p3), .val (.int p4), .val (.int p5), .val (.int (2 : Int32)), .val (.int y0.toInt32), .val (.int y1.toInt32), .val (.int y2.toInt32), .val (.ref b8), .val (.int ex), .unset, .unset] [(.ref b8)])) _
      exact k_
    obtain ⟨_, T12, L12, X12, ⟨rfl, N12q, k12⟩, st12⟩ := own_callS X10 hx hZ (y := (⟨"com/example/spillover/spillover/log/GzipMembers", "startsMember", "([B)Z"⟩ : MethodName)) hown (hw _ (List.mem_of_getElem? (i := 1) rfl)) (hw _ (List.mem_of_getElem? (i := 2) rfl)) (hw _ (List.mem_of_getElem? (i := 3) rfl)) (hw _ (List.mem_of_getElem? (i := 4) rfl)) (by decide) (own_c1 l Z a0 hw [] b8 k8 (2 : Int32) [(.int y0.toInt32), (.int y1.toInt32)] y0.toInt32 y1.toInt32 h10 n0 Zb1 Vb1 (fun _ => rfl) (fun _ => rfl)) e10 (W := 0) (by decide) (by decide) (g := (mkF m 110 #[.val (.int p1), .val (.int p2), .val (.int p3), .val (.int p4), .val (.int p5), .val (.int (2 : Int32)), .val (.int y0.toInt32), .val (.int y1.toInt32), .val (.int y2.toInt32), .val (.ref b8), .val (.int ex), .unset, .unset] [(.ref b8)])) rfl (by rw [hml]; rfl) (argsL := [(.ref b8)]) (rest := []) (lenOf own_pd0 rfl) rfl rfl rfl (hb hby at_110) (by decide) (by decide)
    have N12 := Fr.app N10 N12q
    refine own_go st12 ?_
    show own_Rch p e below _ (T12.setTop (mkF m 113 #[.val (.int p1), .val (.int p2), .val (.int p3), .val (.int p4), .val (.int p5), .val (.int (2 : Int32)), .val (.int y0.toInt32), .val (.int y1.toInt32), .val (.int y2.toInt32), .val (.ref b8), .val (.int ex), .unset, .unset] [(.int (own_sm (2 : Int32) y0.toInt32 y1.toInt32))]))
    have Vc := Vb1
    rw [← k12] at Vc
    refine own_go (S' := (T12.setTop (mkF m 117 #[.val (.int p1), .val (.int p2), .val (.int p3), .val (.int p4), .val (.int p5), .val (.int (2 : Int32)), .val (.int y0.toInt32), .val (.int y1.toInt32), .val (.int y2.toInt32), .val (.ref b8), .val (.int ex), .val (.int (own_sm (2 : Int32) y0.toInt32 y1.toInt32)), .unset] [(.int (2 : Int32))]))) (fun t_ k_ => ?_) ?_
    · refine XS.istore X12.here hx rfl (hb hby at_113) rfl (l' := #[.val (.int p1), .val (.int p2), .val (.int p3), .val (.int p4), .val (.int p5), .val (.int (2 : Int32)), .val (.int y0.toInt32), .val (.int y1.toInt32), .val (.int y2.toInt32), .val (.ref b8), .val (.int ex), .val (.int (own_sm (2 : Int32) y0.toInt32 y1.toInt32)), .unset]) rfl ?_
      show Steps p.tables e below (T12.setTop (mkF m 115 #[.val (.int p1), .val (.int p2), .val (.int p3), .val (.int p4), .val (.int p5), .val (.int (2 : Int32)), .val (.int y0.toInt32), .val (.int y1.toInt32), .val (.int y2.toInt32), .val (.ref b8), .val (.int ex), .val (.int (own_sm (2 : Int32) y0.toInt32 y1.toInt32)), .unset] [])) _
      refine XS.iload X12.here hx rfl (hb hby at_115) rfl ?_
      show Steps p.tables e below (T12.setTop (mkF m 117 #[.val (.int p1), .val (.int p2), .val (.int p3), .val (.int p4), .val (.int p5), .val (.int (2 : Int32)), .val (.int y0.toInt32), .val (.int y1.toInt32), .val (.int y2.toInt32), .val (.ref b8), .val (.int ex), .val (.int (own_sm (2 : Int32) y0.toInt32 y1.toInt32)), .unset] [(.int (2 : Int32))])) _
      exact k_
    refine own_go (S' := (T12.setTop (mkF m 123 #[.val (.int p1), .val (.int p2), .val (.int p3), .val (.int p4), .val (.int p5), .val (.int (2 : Int32)), .val (.int y0.toInt32), .val (.int y1.toInt32), .val (.int y2.toInt32), .val (.ref b8), .val (.int ex), .val (.int (own_sm (2 : Int32) y0.toInt32 y1.toInt32)), .unset] [(.int (0 : Int32)), (.ref b8)]))) (fun t_ k_ => ?_) ?_
    · refine XS.ifNo X12.here hx rfl (hb hby at_117) rfl ((if0 _ _).trans (tlt (by decide)).2.2.2) ?_
      show Steps p.tables e below (T12.setTop (mkF m 120 #[.val (.int p1), .val (.int p2), .val (.int p3), .val (.int p4), .val (.int p5), .val (.int (2 : Int32)), .val (.int y0.toInt32), .val (.int y1.toInt32), .val (.int y2.toInt32), .val (.ref b8), .val (.int ex), .val (.int (own_sm (2 : Int32) y0.toInt32 y1.toInt32)), .unset] [])) _
      refine XS.aload X12.here hx rfl (hb hby at_120) rfl rfl ?_
      show Steps p.tables e below (T12.setTop (mkF m 122 #[.val (.int p1), .val (.int p2), .val (.int p3), .val (.int p4), .val (.int p5), .val (.int (2 : Int32)), .val (.int y0.toInt32), .val (.int y1.toInt32), .val (.int y2.toInt32), .val (.ref b8), .val (.int ex), .val (.int (own_sm (2 : Int32) y0.toInt32 y1.toInt32)), .unset] [(.ref b8)])) _
      refine XS.iconst X12.here hx rfl (hb hby at_122) ?_
      show Steps p.tables e below (T12.setTop (mkF m 123 #[.val (.int p1), .val (.int p2), .val (.int p3), .val (.int p4), .val (.int p5), .val (.int (2 : Int32)), .val (.int y0.toInt32), .val (.int y1.toInt32), .val (.int y2.toInt32), .val (.ref b8), .val (.int ex), .val (.int (own_sm (2 : Int32) y0.toInt32 y1.toInt32)), .unset] [(.int (0 : Int32)), (.ref b8)])) _
      exact k_
    refine own_go (own_bal X12 hx hZ rfl Vc (by decide) rfl (g := (mkF m 123 #[.val (.int p1), .val (.int p2), .val (.int p3), .val (.int p4), .val (.int p5), .val (.int (2 : Int32)), .val (.int y0.toInt32), .val (.int y1.toInt32), .val (.int y2.toInt32), .val (.ref b8), .val (.int ex), .val (.int (own_sm (2 : Int32) y0.toInt32 y1.toInt32)), .unset] [(.int (0 : Int32)), (.ref b8)])) rfl rfl (hb hby at_123)) ?_
    show own_Rch p e below _ (T12.setTop (mkF m 124 #[.val (.int p1), .val (.int p2), .val (.int p3), .val (.int p4), .val (.int p5), .val (.int (2 : Int32)), .val (.int y0.toInt32), .val (.int y1.toInt32), .val (.int y2.toInt32), .val (.ref b8), .val (.int ex), .val (.int (own_sm (2 : Int32) y0.toInt32 y1.toInt32)), .unset] [(.int y0.toInt32)]))
    refine own_go (S' := (T12.setTop (mkF m 126 #[.val (.int p1), .val (.int p2), .val (.int p3), .val (.int p4), .val (.int p5), .val (.int (2 : Int32)), .val (.int y0.toInt32), .val (.int y1.toInt32), .val (.int y2.toInt32), .val (.ref b8), .val (.int ex), .val (.int (own_sm (2 : Int32) y0.toInt32 y1.toInt32)), .unset] [(.int y0.toInt32), (.int y0.toInt32)]))) (fun t_ k_ => ?_) ?_
    · refine XS.iload X12.here hx rfl (hb hby at_124) rfl ?_
      show Steps p.tables e below (T12.setTop (mkF m 126 #[.val (.int p1), .val (.int p2), .val (.int p3), .val (.int p4), .val (.int p5), .val (.int (2 : Int32)), .val (.int y0.toInt32), .val (.int y1.toInt32), .val (.int y2.toInt32), .val (.ref b8), .val (.int ex), .val (.int (own_sm (2 : Int32) y0.toInt32 y1.toInt32)), .unset] [(.int y0.toInt32), (.int y0.toInt32)])) _
      exact k_
    refine own_go (S' := (T12.setTop (mkF m 132 #[.val (.int p1), .val (.int p2), .val (.int p3), .val (.int p4), .val (.int p5), .val (.int (2 : Int32)), .val (.int y0.toInt32), .val (.int y1.toInt32), .val (.int y2.toInt32), .val (.ref b8), .val (.int ex), .val (.int (own_sm (2 : Int32) y0.toInt32 y1.toInt32)), .unset] [(.int (1 : Int32)), (.int (2 : Int32))]))) (fun t_ k_ => ?_) ?_
    · refine XS.icmpNo X12.here hx rfl (hb hby at_126) rfl (teq rfl).2 ?_
      show Steps p.tables e below (T12.setTop (mkF m 129 #[.val (.int p1), .val (.int p2), .val (.int p3), .val (.int p4), .val (.int p5), .val (.int (2 : Int32)), .val (.int y0.toInt32), .val (.int y1.toInt32), .val (.int y2.toInt32), .val (.ref b8), .val (.int ex), .val (.int (own_sm (2 : Int32) y0.toInt32 y1.toInt32)), .unset] [])) _
      refine XS.iload X12.here hx rfl (hb hby at_129) rfl ?_
      show Steps p.tables e below (T12.setTop (mkF m 131 #[.val (.int p1), .val (.int p2), .val (.int p3), .val (.int p4), .val (.int p5), .val (.int (2 : Int32)), .val (.int y0.toInt32), .val (.int y1.toInt32), .val (.int y2.toInt32), .val (.ref b8), .val (.int ex), .val (.int (own_sm (2 : Int32) y0.toInt32 y1.toInt32)), .unset] [(.int (2 : Int32))])) _
      refine XS.iconst X12.here hx rfl (hb hby at_131) ?_
      show Steps p.tables e below (T12.setTop (mkF m 132 #[.val (.int p1), .val (.int p2), .val (.int p3), .val (.int p4), .val (.int p5), .val (.int (2 : Int32)), .val (.int y0.toInt32), .val (.int y1.toInt32), .val (.int y2.toInt32), .val (.ref b8), .val (.int ex), .val (.int (own_sm (2 : Int32) y0.toInt32 y1.toInt32)), .unset] [(.int (1 : Int32)), (.int (2 : Int32))])) _
      exact k_
    refine own_go (S' := (T12.setTop (mkF m 138 #[.val (.int p1), .val (.int p2), .val (.int p3), .val (.int p4), .val (.int p5), .val (.int (2 : Int32)), .val (.int y0.toInt32), .val (.int y1.toInt32), .val (.int y2.toInt32), .val (.ref b8), .val (.int ex), .val (.int (own_sm (2 : Int32) y0.toInt32 y1.toInt32)), .unset] [(.int (1 : Int32)), (.ref b8)]))) (fun t_ k_ => ?_) ?_
    · refine XS.icmpNo X12.here hx rfl (hb hby at_132) rfl (tlt (by decide)).2.2.2 ?_
      show Steps p.tables e below (T12.setTop (mkF m 135 #[.val (.int p1), .val (.int p2), .val (.int p3), .val (.int p4), .val (.int p5), .val (.int (2 : Int32)), .val (.int y0.toInt32), .val (.int y1.toInt32), .val (.int y2.toInt32), .val (.ref b8), .val (.int ex), .val (.int (own_sm (2 : Int32) y0.toInt32 y1.toInt32)), .unset] [])) _
      refine XS.aload X12.here hx rfl (hb hby at_135) rfl rfl ?_
      show Steps p.tables e below (T12.setTop (mkF m 137 #[.val (.int p1), .val (.int p2), .val (.int p3), .val (.int p4), .val (.int p5), .val (.int (2 : Int32)), .val (.int y0.toInt32), .val (.int y1.toInt32), .val (.int y2.toInt32), .val (.ref b8), .val (.int ex), .val (.int (own_sm (2 : Int32) y0.toInt32 y1.toInt32)), .unset] [(.ref b8)])) _
      refine XS.iconst X12.here hx rfl (hb hby at_137) ?_
      show Steps p.tables e below (T12.setTop (mkF m 138 #[.val (.int p1), .val (.int p2), .val (.int p3), .val (.int p4), .val (.int p5), .val (.int (2 : Int32)), .val (.int y0.toInt32), .val (.int y1.toInt32), .val (.int y2.toInt32), .val (.ref b8), .val (.int ex), .val (.int (own_sm (2 : Int32) y0.toInt32 y1.toInt32)), .unset] [(.int (1 : Int32)), (.ref b8)])) _
      exact k_
    refine own_go (own_bal X12 hx hZ rfl Vc (by decide) rfl (g := (mkF m 138 #[.val (.int p1), .val (.int p2), .val (.int p3), .val (.int p4), .val (.int p5), .val (.int (2 : Int32)), .val (.int y0.toInt32), .val (.int y1.toInt32), .val (.int y2.toInt32), .val (.ref b8), .val (.int ex), .val (.int (own_sm (2 : Int32) y0.toInt32 y1.toInt32)), .unset] [(.int (1 : Int32)), (.ref b8)])) rfl rfl (hb hby at_138)) ?_
    show own_Rch p e below _ (T12.setTop (mkF m 139 #[.val (.int p1), .val (.int p2), .val (.int p3), .val (.int p4), .val (.int p5), .val (.int (2 : Int32)), .val (.int y0.toInt32), .val (.int y1.toInt32), .val (.int y2.toInt32), .val (.ref b8), .val (.int ex), .val (.int (own_sm (2 : Int32) y0.toInt32 y1.toInt32)), .unset] [(.int y1.toInt32)]))
    refine own_go (S' := (T12.setTop (mkF m 141 #[.val (.int p1), .val (.int p2), .val (.int p3), .val (.int p4), .val (.int p5), .val (.int (2 : Int32)), .val (.int y0.toInt32), .val (.int y1.toInt32), .val (.int y2.toInt32), .val (.ref b8), .val (.int ex), .val (.int (own_sm (2 : Int32) y0.toInt32 y1.toInt32)), .unset] [(.int y1.toInt32), (.int y1.toInt32)]))) (fun t_ k_ => ?_) ?_
    · refine XS.iload X12.here hx rfl (hb hby at_139) rfl ?_
      show Steps p.tables e below (T12.setTop (mkF m 141 #[.val (.int p1), .val (.int p2), .val (.int p3), .val (.int p4), .val (.int p5), .val (.int (2 : Int32)), .val (.int y0.toInt32), .val (.int y1.toInt32), .val (.int y2.toInt32), .val (.ref b8), .val (.int ex), .val (.int (own_sm (2 : Int32) y0.toInt32 y1.toInt32)), .unset] [(.int y1.toInt32), (.int y1.toInt32)])) _
      exact k_
    refine own_go (S' := (T12.setTop (mkF m 147 #[.val (.int p1), .val (.int p2), .val (.int p3), .val (.int p4), .val (.int p5), .val (.int (2 : Int32)), .val (.int y0.toInt32), .val (.int y1.toInt32), .val (.int y2.toInt32), .val (.ref b8), .val (.int ex), .val (.int (own_sm (2 : Int32) y0.toInt32 y1.toInt32)), .unset] [(.int (2 : Int32)), (.int (2 : Int32))]))) (fun t_ k_ => ?_) ?_
    · refine XS.icmpNo X12.here hx rfl (hb hby at_141) rfl (teq rfl).2 ?_
      show Steps p.tables e below (T12.setTop (mkF m 144 #[.val (.int p1), .val (.int p2), .val (.int p3), .val (.int p4), .val (.int p5), .val (.int (2 : Int32)), .val (.int y0.toInt32), .val (.int y1.toInt32), .val (.int y2.toInt32), .val (.ref b8), .val (.int ex), .val (.int (own_sm (2 : Int32) y0.toInt32 y1.toInt32)), .unset] [])) _
      refine XS.iload X12.here hx rfl (hb hby at_144) rfl ?_
      show Steps p.tables e below (T12.setTop (mkF m 146 #[.val (.int p1), .val (.int p2), .val (.int p3), .val (.int p4), .val (.int p5), .val (.int (2 : Int32)), .val (.int y0.toInt32), .val (.int y1.toInt32), .val (.int y2.toInt32), .val (.ref b8), .val (.int ex), .val (.int (own_sm (2 : Int32) y0.toInt32 y1.toInt32)), .unset] [(.int (2 : Int32))])) _
      refine XS.iconst X12.here hx rfl (hb hby at_146) ?_
      show Steps p.tables e below (T12.setTop (mkF m 147 #[.val (.int p1), .val (.int p2), .val (.int p3), .val (.int p4), .val (.int p5), .val (.int (2 : Int32)), .val (.int y0.toInt32), .val (.int y1.toInt32), .val (.int y2.toInt32), .val (.ref b8), .val (.int ex), .val (.int (own_sm (2 : Int32) y0.toInt32 y1.toInt32)), .unset] [(.int (2 : Int32)), (.int (2 : Int32))])) _
      exact k_
    refine own_go (S' := (T12.setTop (mkF m 170 #[.val (.int p1), .val (.int p2), .val (.int p3), .val (.int p4), .val (.int p5), .val (.int (2 : Int32)), .val (.int y0.toInt32), .val (.int y1.toInt32), .val (.int y2.toInt32), .val (.ref b8), .val (.int ex), .val (.int (own_sm (2 : Int32) y0.toInt32 y1.toInt32)), .val (.int (1 : Int32))] [(.int ex), (.int (own_sm (2 : Int32) y0.toInt32 y1.toInt32))]))) (fun t_ k_ => ?_) ?_
    · refine XS.icmpYes X12.here hx rfl (pc0 := 147) (pc' := 159) rfl (hb hby at_147) rfl (flt (by decide)).2.2.2 (by decide) (by decide) ?_
      show Steps p.tables e below (T12.setTop (mkF m 159 #[.val (.int p1), .val (.int p2), .val (.int p3), .val (.int p4), .val (.int p5), .val (.int (2 : Int32)), .val (.int y0.toInt32), .val (.int y1.toInt32), .val (.int y2.toInt32), .val (.ref b8), .val (.int ex), .val (.int (own_sm (2 : Int32) y0.toInt32 y1.toInt32)), .unset] [])) _
      refine XS.iconst X12.here hx rfl (hb hby at_159) ?_
      show Steps p.tables e below (T12.setTop (mkF m 160 #[.val (.int p1), .val (.int p2), .val (.int p3), .val (.int p4), .val (.int p5), .val (.int (2 : Int32)), .val (.int y0.toInt32), .val (.int y1.toInt32), .val (.int y2.toInt32), .val (.ref b8), .val (.int ex), .val (.int (own_sm (2 : Int32) y0.toInt32 y1.toInt32)), .unset] [(.int (1 : Int32))])) _
      refine XS.goto X12.here hx rfl (pc0 := 160) (pc' := 164) rfl (hb hby at_160) (by decide) (by decide) ?_
      show Steps p.tables e below (T12.setTop (mkF m 164 #[.val (.int p1), .val (.int p2), .val (.int p3), .val (.int p4), .val (.int p5), .val (.int (2 : Int32)), .val (.int y0.toInt32), .val (.int y1.toInt32), .val (.int y2.toInt32), .val (.ref b8), .val (.int ex), .val (.int (own_sm (2 : Int32) y0.toInt32 y1.toInt32)), .unset] [(.int (1 : Int32))])) _
      refine XS.istore X12.here hx rfl (hb hby at_164) rfl (l' := #[.val (.int p1), .val (.int p2), .val (.int p3), .val (.int p4), .val (.int p5), .val (.int (2 : Int32)), .val (.int y0.toInt32), .val (.int y1.toInt32), .val (.int y2.toInt32), .val (.ref b8), .val (.int ex), .val (.int (own_sm (2 : Int32) y0.toInt32 y1.toInt32)), .val (.int (1 : Int32))]) rfl ?_
      show Steps p.tables e below (T12.setTop (mkF m 166 #[.val (.int p1), .val (.int p2), .val (.int p3), .val (.int p4), .val (.int p5), .val (.int (2 : Int32)), .val (.int y0.toInt32), .val (.int y1.toInt32), .val (.int y2.toInt32), .val (.ref b8), .val (.int ex), .val (.int (own_sm (2 : Int32) y0.toInt32 y1.toInt32)), .val (.int (1 : Int32))] [])) _
      refine XS.iload X12.here hx rfl (hb hby at_166) rfl ?_
      show Steps p.tables e below (T12.setTop (mkF m 168 #[.val (.int p1), .val (.int p2), .val (.int p3), .val (.int p4), .val (.int p5), .val (.int (2 : Int32)), .val (.int y0.toInt32), .val (.int y1.toInt32), .val (.int y2.toInt32), .val (.ref b8), .val (.int ex), .val (.int (own_sm (2 : Int32) y0.toInt32 y1.toInt32)), .val (.int (1 : Int32))] [(.int (own_sm (2 : Int32) y0.toInt32 y1.toInt32))])) _
      refine XS.iload X12.here hx rfl (hb hby at_168) rfl ?_
      show Steps p.tables e below (T12.setTop (mkF m 170 #[.val (.int p1), .val (.int p2), .val (.int p3), .val (.int p4), .val (.int p5), .val (.int (2 : Int32)), .val (.int y0.toInt32), .val (.int y1.toInt32), .val (.int y2.toInt32), .val (.ref b8), .val (.int ex), .val (.int (own_sm (2 : Int32) y0.toInt32 y1.toInt32)), .val (.int (1 : Int32))] [(.int ex), (.int (own_sm (2 : Int32) y0.toInt32 y1.toInt32))])) _
      exact k_
    refine own_go (S' := (T12.setTop (mkF m 175 #[.val (.int p1), .val (.int p2), .val (.int p3), .val (.int p4), .val (.int p5), .val (.int (2 : Int32)), .val (.int y0.toInt32), .val (.int y1.toInt32), .val (.int y2.toInt32), .val (.ref b8), .val (.int ex), .val (.int (own_sm (2 : Int32) y0.toInt32 y1.toInt32)), .val (.int (1 : Int32))] [(.int (1 : Int32))]))) (fun t_ k_ => ?_) ?_
    · refine XS.icmpNo X12.here hx rfl (hb hby at_170) rfl (teq ((own_smE (2 : Int32) y0 y1 (by decide)).trans eex.symm)).2 ?_
      show Steps p.tables e below (T12.setTop (mkF m 173 #[.val (.int p1), .val (.int p2), .val (.int p3), .val (.int p4), .val (.int p5), .val (.int (2 : Int32)), .val (.int y0.toInt32), .val (.int y1.toInt32), .val (.int y2.toInt32), .val (.ref b8), .val (.int ex), .val (.int (own_sm (2 : Int32) y0.toInt32 y1.toInt32)), .val (.int (1 : Int32))] [])) _
      refine XS.iload X12.here hx rfl (hb hby at_173) rfl ?_
      show Steps p.tables e below (T12.setTop (mkF m 175 #[.val (.int p1), .val (.int p2), .val (.int p3), .val (.int p4), .val (.int p5), .val (.int (2 : Int32)), .val (.int y0.toInt32), .val (.int y1.toInt32), .val (.int y2.toInt32), .val (.ref b8), .val (.int ex), .val (.int (own_sm (2 : Int32) y0.toInt32 y1.toInt32)), .val (.int (1 : Int32))] [(.int (1 : Int32))])) _
      exact k_
    refine own_go (S' := (T12.setTop (mkF m 183 #[.val (.int p1), .val (.int p2), .val (.int p3), .val (.int p4), .val (.int p5), .val (.int (2 : Int32)), .val (.int y0.toInt32), .val (.int y1.toInt32), .val (.int y2.toInt32), .val (.ref b8), .val (.int ex), .val (.int (own_sm (2 : Int32) y0.toInt32 y1.toInt32)), .val (.int (1 : Int32))] [(.int (1 : Int32))]))) (fun t_ k_ => ?_) ?_
    · refine XS.ifNo X12.here hx rfl (hb hby at_175) rfl ((if0 _ _).trans (feq (by decide)).1) ?_
      show Steps p.tables e below (T12.setTop (mkF m 178 #[.val (.int p1), .val (.int p2), .val (.int p3), .val (.int p4), .val (.int p5), .val (.int (2 : Int32)), .val (.int y0.toInt32), .val (.int y1.toInt32), .val (.int y2.toInt32), .val (.ref b8), .val (.int ex), .val (.int (own_sm (2 : Int32) y0.toInt32 y1.toInt32)), .val (.int (1 : Int32))] [])) _
      refine XS.iconst X12.here hx rfl (hb hby at_178) ?_
      show Steps p.tables e below (T12.setTop (mkF m 179 #[.val (.int p1), .val (.int p2), .val (.int p3), .val (.int p4), .val (.int p5), .val (.int (2 : Int32)), .val (.int y0.toInt32), .val (.int y1.toInt32), .val (.int y2.toInt32), .val (.ref b8), .val (.int ex), .val (.int (own_sm (2 : Int32) y0.toInt32 y1.toInt32)), .val (.int (1 : Int32))] [(.int (1 : Int32))])) _
      refine XS.goto X12.here hx rfl (pc0 := 179) (pc' := 183) rfl (hb hby at_179) (by decide) (by decide) ?_
      show Steps p.tables e below (T12.setTop (mkF m 183 #[.val (.int p1), .val (.int p2), .val (.int p3), .val (.int p4), .val (.int p5), .val (.int (2 : Int32)), .val (.int y0.toInt32), .val (.int y1.toInt32), .val (.int y2.toInt32), .val (.ref b8), .val (.int ex), .val (.int (own_sm (2 : Int32) y0.toInt32 y1.toInt32)), .val (.int (1 : Int32))] [(.int (1 : Int32))])) _
      exact k_
    refine own_retN X12 hx (t := .boolean) Bd.returns Bd.notSynchronized (by simp) (hb hby at_183) rfl (by decide) (by decide) ?_
    exact ⟨rfl, N12⟩
  · skip
    show own_Rch p e below _ (s₁.setTop (mkF m 42 #[.val (.int p1), .val (.int p2), .val (.int p3), .val (.int p4), .val (.int p5), .val (.int (3 : Int32)), .val (.int y0.toInt32), .val (.int y1.toInt32), .val (.int y2.toInt32), .unset, .unset, .unset, .unset] [(.int (3 : Int32))]))
    obtain ⟨T13, h13, k13, X13, e13, E13, A13, Ex13, st13⟩ := newPE X0 hx hZ (hw _ (List.mem_of_getElem? (i := 0) rfl)) e0 (g := (mkF m 42 #[.val (.int p1), .val (.int p2), .val (.int p3), .val (.int p4), .val (.int p5), .val (.int (3 : Int32)), .val (.int y0.toInt32), .val (.int y1.toInt32), .val (.int y2.toInt32), .unset, .unset, .unset, .unset] [(.int (3 : Int32))])) rfl (hb hby at_42) rfl (by decide) (cap := 3) (by decide) (by decide) (by decide) (by decide) (ad := "[B") (by decide)
    obtain ⟨b13, g13⟩ : ∃ z, z = h0.size := ⟨_, rfl⟩
    rw [← g13] at A13 Ex13 st13
    have gb13 : n0 ≤ b13 := Nat.le_trans Z0 (Nat.le_of_eq g13.symm)
    have V13 := Arv.new A13 (by decide)
    refine own_go st13 ?_
    show own_Rch p e below _ (T13.setTop (mkF m 44 #[.val (.int p1), .val (.int p2), .val (.int p3), .val (.int p4), .val (.int p5), .val (.int (3 : Int32)), .val (.int y0.toInt32), .val (.int y1.toInt32), .val (.int y2.toInt32), .unset, .unset, .unset, .unset] [(.ref b13)]))
    refine own_go (S' := (T13.setTop (mkF m 48 #[.val (.int p1), .val (.int p2), .val (.int p3), .val (.int p4), .val (.int p5), .val (.int (3 : Int32)), .val (.int y0.toInt32), .val (.int y1.toInt32), .val (.int y2.toInt32), .val (.ref b13), .unset, .unset, .unset] [(.int (3 : Int32))]))) (fun t_ k_ => ?_) ?_
    · refine XS.astore X13.here hx rfl (hb hby at_44) rfl rfl (l' := #[.val (.int p1), .val (.int p2), .val (.int p3), .val (.int p4), .val (.int p5), .val (.int (3 : Int32)), .val (.int y0.toInt32), .val (.int y1.toInt32), .val (.int y2.toInt32), .val (.ref b13), .unset, .unset, .unset]) rfl ?_
      show Steps p.tables e below (T13.setTop (mkF m 46 #[.val (.int p1), .val (.int p2), .val (.int p3), .val (.int p4), .val (.int p5), .val (.int (3 : Int32)), .val (.int y0.toInt32), .val (.int y1.toInt32), .val (.int y2.toInt32), .val (.ref b13), .unset, .unset, .unset] [])) _
      refine XS.iload X13.here hx rfl (hb hby at_46) rfl ?_
      show Steps p.tables e below (T13.setTop (mkF m 48 #[.val (.int p1), .val (.int p2), .val (.int p3), .val (.int p4), .val (.int p5), .val (.int (3 : Int32)), .val (.int y0.toInt32), .val (.int y1.toInt32), .val (.int y2.toInt32), .val (.ref b13), .unset, .unset, .unset] [(.int (3 : Int32))])) _
      exact k_
    have Va : Arv Z h13 b13 k13 .byte (3 : Int32) [(.int (0 : Int32)), (.int (0 : Int32)), (.int (0 : Int32))] (.int (0 : Int32)) := V13.pad (pad_rep [] (.int (0 : Int32)) 3)
    have Kp : n0 ≤ h13.size := Nat.le_trans Z0 E13.1
    refine own_go (S' := (T13.setTop (mkF m 56 #[.val (.int p1), .val (.int p2), .val (.int p3), .val (.int p4), .val (.int p5), .val (.int (3 : Int32)), .val (.int y0.toInt32), .val (.int y1.toInt32), .val (.int y2.toInt32), .val (.ref b13), .unset, .unset, .unset] [(.int y0.toInt32), (.int (0 : Int32)), (.ref b13)]))) (fun t_ k_ => ?_) ?_
    · refine XS.ifNo X13.here hx rfl (hb hby at_48) rfl ((if0 _ _).trans (tlt (by decide)).2.2.2) ?_
      show Steps p.tables e below (T13.setTop (mkF m 51 #[.val (.int p1), .val (.int p2), .val (.int p3), .val (.int p4), .val (.int p5), .val (.int (3 : Int32)), .val (.int y0.toInt32), .val (.int y1.toInt32), .val (.int y2.toInt32), .val (.ref b13), .unset, .unset, .unset] [])) _
      refine XS.aload X13.here hx rfl (hb hby at_51) rfl rfl ?_
      show Steps p.tables e below (T13.setTop (mkF m 53 #[.val (.int p1), .val (.int p2), .val (.int p3), .val (.int p4), .val (.int p5), .val (.int (3 : Int32)), .val (.int y0.toInt32), .val (.int y1.toInt32), .val (.int y2.toInt32), .val (.ref b13), .unset, .unset, .unset] [(.ref b13)])) _
      refine XS.iconst X13.here hx rfl (hb hby at_53) ?_
      show Steps p.tables e below (T13.setTop (mkF m 54 #[.val (.int p1), .val (.int p2), .val (.int p3), .val (.int p4), .val (.int p5), .val (.int (3 : Int32)), .val (.int y0.toInt32), .val (.int y1.toInt32), .val (.int y2.toInt32), .val (.ref b13), .unset, .unset, .unset] [(.int (0 : Int32)), (.ref b13)])) _
      refine XS.iload X13.here hx rfl (hb hby at_54) rfl ?_
      show Steps p.tables e below (T13.setTop (mkF m 56 #[.val (.int p1), .val (.int p2), .val (.int p3), .val (.int p4), .val (.int p5), .val (.int (3 : Int32)), .val (.int y0.toInt32), .val (.int y1.toInt32), .val (.int y2.toInt32), .val (.ref b13), .unset, .unset, .unset] [(.int y0.toInt32), (.int (0 : Int32)), (.ref b13)])) _
      exact k_
    obtain ⟨T14, h14, X14, e14, W14, V14, st14⟩ := own_stB X13 hx hZ e13 Va (by decide) (i := 0) (by decide) (by simp) (g := (mkF m 56 #[.val (.int p1), .val (.int p2), .val (.int p3), .val (.int p4), .val (.int p5), .val (.int (3 : Int32)), .val (.int y0.toInt32), .val (.int y1.toInt32), .val (.int y2.toInt32), .val (.ref b13), .unset, .unset, .unset] [(.int y0.toInt32), (.int (0 : Int32)), (.ref b13)])) rfl rfl (hb hby at_56)
    refine own_go st14 ?_
    have N14 := Fr.snoc X14 N0 gb13
    show own_Rch p e below _ (T14.setTop (mkF m 57 #[.val (.int p1), .val (.int p2), .val (.int p3), .val (.int p4), .val (.int p5), .val (.int (3 : Int32)), .val (.int y0.toInt32), .val (.int y1.toInt32), .val (.int y2.toInt32), .val (.ref b13), .unset, .unset, .unset] []))
    have Vb0 : Arv Z h14 b13 k13 .byte (3 : Int32) [(.int y0.toInt32), (.int (0 : Int32)), (.int (0 : Int32))] (.int (0 : Int32)) := by have q := V14; rw [own_nb] at q; exact q
    have Zb0 : n0 ≤ h14.size := Nat.le_trans Kp (Keep.of_wr W14).1
    refine own_go (S' := (T14.setTop (mkF m 60 #[.val (.int p1), .val (.int p2), .val (.int p3), .val (.int p4), .val (.int p5), .val (.int (3 : Int32)), .val (.int y0.toInt32), .val (.int y1.toInt32), .val (.int y2.toInt32), .val (.ref b13), .unset, .unset, .unset] [(.int (1 : Int32)), (.int (3 : Int32))]))) (fun t_ k_ => ?_) ?_
    · refine XS.iload X14.here hx rfl (hb hby at_57) rfl ?_
      show Steps p.tables e below (T14.setTop (mkF m 59 #[.val (.int p1), .val (.int p2), .val (.int p3), .val (.int p4), .val (.int p5), .val (.int (3 : Int32)), .val (.int y0.toInt32), .val (.int y1.toInt32), .val (.int y2.toInt32), .val (.ref b13), .unset, .unset, .unset] [(.int (3 : Int32))])) _
      refine XS.iconst X14.here hx rfl (hb hby at_59) ?_
      show Steps p.tables e below (T14.setTop (mkF m 60 #[.val (.int p1), .val (.int p2), .val (.int p3), .val (.int p4), .val (.int p5), .val (.int (3 : Int32)), .val (.int y0.toInt32), .val (.int y1.toInt32), .val (.int y2.toInt32), .val (.ref b13), .unset, .unset, .unset] [(.int (1 : Int32)), (.int (3 : Int32))])) _
      exact k_
    refine own_go (S' := (T14.setTop (mkF m 68 #[.val (.int p1), .val (.int p2), .val (.int p3), .val (.int p4), .val (.int p5), .val (.int (3 : Int32)), .val (.int y0.toInt32), .val (.int y1.toInt32), .val (.int y2.toInt32), .val (.ref b13), .unset, .unset, .unset] [(.int y1.toInt32), (.int (1 : Int32)), (.ref b13)]))) (fun t_ k_ => ?_) ?_
    · refine XS.icmpNo X14.here hx rfl (hb hby at_60) rfl (tlt (by decide)).2.2.2 ?_
      show Steps p.tables e below (T14.setTop (mkF m 63 #[.val (.int p1), .val (.int p2), .val (.int p3), .val (.int p4), .val (.int p5), .val (.int (3 : Int32)), .val (.int y0.toInt32), .val (.int y1.toInt32), .val (.int y2.toInt32), .val (.ref b13), .unset, .unset, .unset] [])) _
      refine XS.aload X14.here hx rfl (hb hby at_63) rfl rfl ?_
      show Steps p.tables e below (T14.setTop (mkF m 65 #[.val (.int p1), .val (.int p2), .val (.int p3), .val (.int p4), .val (.int p5), .val (.int (3 : Int32)), .val (.int y0.toInt32), .val (.int y1.toInt32), .val (.int y2.toInt32), .val (.ref b13), .unset, .unset, .unset] [(.ref b13)])) _
      refine XS.iconst X14.here hx rfl (hb hby at_65) ?_
      show Steps p.tables e below (T14.setTop (mkF m 66 #[.val (.int p1), .val (.int p2), .val (.int p3), .val (.int p4), .val (.int p5), .val (.int (3 : Int32)), .val (.int y0.toInt32), .val (.int y1.toInt32), .val (.int y2.toInt32), .val (.ref b13), .unset, .unset, .unset] [(.int (1 : Int32)), (.ref b13)])) _
      refine XS.iload X14.here hx rfl (hb hby at_66) rfl ?_
      show Steps p.tables e below (T14.setTop (mkF m 68 #[.val (.int p1), .val (.int p2), .val (.int p3), .val (.int p4), .val (.int p5), .val (.int (3 : Int32)), .val (.int y0.toInt32), .val (.int y1.toInt32), .val (.int y2.toInt32), .val (.ref b13), .unset, .unset, .unset] [(.int y1.toInt32), (.int (1 : Int32)), (.ref b13)])) _
      exact k_
    obtain ⟨T15, h15, X15, e15, W15, V15, st15⟩ := own_stB X14 hx hZ e14 Vb0 (by decide) (i := 1) (by decide) (by simp) (g := (mkF m 68 #[.val (.int p1), .val (.int p2), .val (.int p3), .val (.int p4), .val (.int p5), .val (.int (3 : Int32)), .val (.int y0.toInt32), .val (.int y1.toInt32), .val (.int y2.toInt32), .val (.ref b13), .unset, .unset, .unset] [(.int y1.toInt32), (.int (1 : Int32)), (.ref b13)])) rfl rfl (hb hby at_68)
    refine own_go st15 ?_
    have N15 := Fr.snoc X15 N14 gb13
    show own_Rch p e below _ (T15.setTop (mkF m 69 #[.val (.int p1), .val (.int p2), .val (.int p3), .val (.int p4), .val (.int p5), .val (.int (3 : Int32)), .val (.int y0.toInt32), .val (.int y1.toInt32), .val (.int y2.toInt32), .val (.ref b13), .unset, .unset, .unset] []))
    have Vb1 : Arv Z h15 b13 k13 .byte (3 : Int32) [(.int y0.toInt32), (.int y1.toInt32), (.int (0 : Int32))] (.int (0 : Int32)) := by have q := V15; rw [own_nb] at q; exact q
    have Zb1 : n0 ≤ h15.size := Nat.le_trans Zb0 (Keep.of_wr W15).1
    refine own_go (S' := (T15.setTop (mkF m 72 #[.val (.int p1), .val (.int p2), .val (.int p3), .val (.int p4), .val (.int p5), .val (.int (3 : Int32)), .val (.int y0.toInt32), .val (.int y1.toInt32), .val (.int y2.toInt32), .val (.ref b13), .unset, .unset, .unset] [(.int (2 : Int32)), (.int (3 : Int32))]))) (fun t_ k_ => ?_) ?_
    · refine XS.iload X15.here hx rfl (hb hby at_69) rfl ?_
      show Steps p.tables e below (T15.setTop (mkF m 71 #[.val (.int p1), .val (.int p2), .val (.int p3), .val (.int p4), .val (.int p5), .val (.int (3 : Int32)), .val (.int y0.toInt32), .val (.int y1.toInt32), .val (.int y2.toInt32), .val (.ref b13), .unset, .unset, .unset] [(.int (3 : Int32))])) _
      refine XS.iconst X15.here hx rfl (hb hby at_71) ?_
      show Steps p.tables e below (T15.setTop (mkF m 72 #[.val (.int p1), .val (.int p2), .val (.int p3), .val (.int p4), .val (.int p5), .val (.int (3 : Int32)), .val (.int y0.toInt32), .val (.int y1.toInt32), .val (.int y2.toInt32), .val (.ref b13), .unset, .unset, .unset] [(.int (2 : Int32)), (.int (3 : Int32))])) _
      exact k_
    refine own_go (S' := (T15.setTop (mkF m 80 #[.val (.int p1), .val (.int p2), .val (.int p3), .val (.int p4), .val (.int p5), .val (.int (3 : Int32)), .val (.int y0.toInt32), .val (.int y1.toInt32), .val (.int y2.toInt32), .val (.ref b13), .unset, .unset, .unset] [(.int y2.toInt32), (.int (2 : Int32)), (.ref b13)]))) (fun t_ k_ => ?_) ?_
    · refine XS.icmpNo X15.here hx rfl (hb hby at_72) rfl (tlt (by decide)).2.2.2 ?_
      show Steps p.tables e below (T15.setTop (mkF m 75 #[.val (.int p1), .val (.int p2), .val (.int p3), .val (.int p4), .val (.int p5), .val (.int (3 : Int32)), .val (.int y0.toInt32), .val (.int y1.toInt32), .val (.int y2.toInt32), .val (.ref b13), .unset, .unset, .unset] [])) _
      refine XS.aload X15.here hx rfl (hb hby at_75) rfl rfl ?_
      show Steps p.tables e below (T15.setTop (mkF m 77 #[.val (.int p1), .val (.int p2), .val (.int p3), .val (.int p4), .val (.int p5), .val (.int (3 : Int32)), .val (.int y0.toInt32), .val (.int y1.toInt32), .val (.int y2.toInt32), .val (.ref b13), .unset, .unset, .unset] [(.ref b13)])) _
      refine XS.iconst X15.here hx rfl (hb hby at_77) ?_
      show Steps p.tables e below (T15.setTop (mkF m 78 #[.val (.int p1), .val (.int p2), .val (.int p3), .val (.int p4), .val (.int p5), .val (.int (3 : Int32)), .val (.int y0.toInt32), .val (.int y1.toInt32), .val (.int y2.toInt32), .val (.ref b13), .unset, .unset, .unset] [(.int (2 : Int32)), (.ref b13)])) _
      refine XS.iload X15.here hx rfl (hb hby at_78) rfl ?_
      show Steps p.tables e below (T15.setTop (mkF m 80 #[.val (.int p1), .val (.int p2), .val (.int p3), .val (.int p4), .val (.int p5), .val (.int (3 : Int32)), .val (.int y0.toInt32), .val (.int y1.toInt32), .val (.int y2.toInt32), .val (.ref b13), .unset, .unset, .unset] [(.int y2.toInt32), (.int (2 : Int32)), (.ref b13)])) _
      exact k_
    obtain ⟨T16, h16, X16, e16, W16, V16, st16⟩ := own_stB X15 hx hZ e15 Vb1 (by decide) (i := 2) (by decide) (by simp) (g := (mkF m 80 #[.val (.int p1), .val (.int p2), .val (.int p3), .val (.int p4), .val (.int p5), .val (.int (3 : Int32)), .val (.int y0.toInt32), .val (.int y1.toInt32), .val (.int y2.toInt32), .val (.ref b13), .unset, .unset, .unset] [(.int y2.toInt32), (.int (2 : Int32)), (.ref b13)])) rfl rfl (hb hby at_80)
    refine own_go st16 ?_
    have N16 := Fr.snoc X16 N15 gb13
    show own_Rch p e below _ (T16.setTop (mkF m 81 #[.val (.int p1), .val (.int p2), .val (.int p3), .val (.int p4), .val (.int p5), .val (.int (3 : Int32)), .val (.int y0.toInt32), .val (.int y1.toInt32), .val (.int y2.toInt32), .val (.ref b13), .unset, .unset, .unset] []))
    have Vb2 : Arv Z h16 b13 k13 .byte (3 : Int32) [(.int y0.toInt32), (.int y1.toInt32), (.int y2.toInt32)] (.int (0 : Int32)) := by have q := V16; rw [own_nb] at q; exact q
    have Zb2 : n0 ≤ h16.size := Nat.le_trans Zb1 (Keep.of_wr W16).1
    refine own_go (S' := (T16.setTop (mkF m 84 #[.val (.int p1), .val (.int p2), .val (.int p3), .val (.int p4), .val (.int p5), .val (.int (3 : Int32)), .val (.int y0.toInt32), .val (.int y1.toInt32), .val (.int y2.toInt32), .val (.ref b13), .unset, .unset, .unset] [(.int (2 : Int32)), (.int (3 : Int32))]))) (fun t_ k_ => ?_) ?_
    · refine XS.iload X16.here hx rfl (hb hby at_81) rfl ?_
      show Steps p.tables e below (T16.setTop (mkF m 83 #[.val (.int p1), .val (.int p2), .val (.int p3), .val (.int p4), .val (.int p5), .val (.int (3 : Int32)), .val (.int y0.toInt32), .val (.int y1.toInt32), .val (.int y2.toInt32), .val (.ref b13), .unset, .unset, .unset] [(.int (3 : Int32))])) _
      refine XS.iconst X16.here hx rfl (hb hby at_83) ?_
      show Steps p.tables e below (T16.setTop (mkF m 84 #[.val (.int p1), .val (.int p2), .val (.int p3), .val (.int p4), .val (.int p5), .val (.int (3 : Int32)), .val (.int y0.toInt32), .val (.int y1.toInt32), .val (.int y2.toInt32), .val (.ref b13), .unset, .unset, .unset] [(.int (2 : Int32)), (.int (3 : Int32))])) _
      exact k_
    refine own_go (S' := (T16.setTop (mkF m 91 #[.val (.int p1), .val (.int p2), .val (.int p3), .val (.int p4), .val (.int p5), .val (.int (3 : Int32)), .val (.int y0.toInt32), .val (.int y1.toInt32), .val (.int y2.toInt32), .val (.ref b13), .unset, .unset, .unset] [(.int (31 : Int32)), (.int y0.toInt32)]))) (fun t_ k_ => ?_) ?_
    · refine XS.icmpNo X16.here hx rfl (hb hby at_84) rfl (flt (by decide)).1 ?_
      show Steps p.tables e below (T16.setTop (mkF m 87 #[.val (.int p1), .val (.int p2), .val (.int p3), .val (.int p4), .val (.int p5), .val (.int (3 : Int32)), .val (.int y0.toInt32), .val (.int y1.toInt32), .val (.int y2.toInt32), .val (.ref b13), .unset, .unset, .unset] [])) _
      refine XS.iload X16.here hx rfl (hb hby at_87) rfl ?_
      show Steps p.tables e below (T16.setTop (mkF m 89 #[.val (.int p1), .val (.int p2), .val (.int p3), .val (.int p4), .val (.int p5), .val (.int (3 : Int32)), .val (.int y0.toInt32), .val (.int y1.toInt32), .val (.int y2.toInt32), .val (.ref b13), .unset, .unset, .unset] [(.int y0.toInt32)])) _
      refine XS.bipush X16.here hx rfl (hb hby at_89) ?_
      show Steps p.tables e below (T16.setTop (mkF m 91 #[.val (.int p1), .val (.int p2), .val (.int p3), .val (.int p4), .val (.int p5), .val (.int (3 : Int32)), .val (.int y0.toInt32), .val (.int y1.toInt32), .val (.int y2.toInt32), .val (.ref b13), .unset, .unset, .unset] [(.int (31 : Int32)), (.int y0.toInt32)])) _
      exact k_
    obtain ⟨ex, eex⟩ : ∃ z : Int32, z = if y0.toInt32 = (31 : Int32) then (if y1.toInt32 = (-117 : Int32) then 1 else 0) else 0 := ⟨_, rfl⟩
    refine own_join (S' := (T16.setTop (mkF m 106 #[.val (.int p1), .val (.int p2), .val (.int p3), .val (.int p4), .val (.int p5), .val (.int (3 : Int32)), .val (.int y0.toInt32), .val (.int y1.toInt32), .val (.int y2.toInt32), .val (.ref b13), .unset, .unset, .unset] [(.int ex)]))) (fun J17 => ?_) ?_
    · skip
      by_cases g1 : y0.toInt32 = (31 : Int32)
      · skip
        refine own_go (S' := (T16.setTop (mkF m 98 #[.val (.int p1), .val (.int p2), .val (.int p3), .val (.int p4), .val (.int p5), .val (.int (3 : Int32)), .val (.int y0.toInt32), .val (.int y1.toInt32), .val (.int y2.toInt32), .val (.ref b13), .unset, .unset, .unset] [(.int (-117 : Int32)), (.int y1.toInt32)]))) (fun t_ k_ => ?_) ?_
        · refine XS.icmpNo X16.here hx rfl (hb hby at_91) rfl (teq g1).2 ?_
          show Steps p.tables e below (T16.setTop (mkF m 94 #[.val (.int p1), .val (.int p2), .val (.int p3), .val (.int p4), .val (.int p5), .val (.int (3 : Int32)), .val (.int y0.toInt32), .val (.int y1.toInt32), .val (.int y2.toInt32), .val (.ref b13), .unset, .unset, .unset] [])) _
          refine XS.iload X16.here hx rfl (hb hby at_94) rfl ?_
          show Steps p.tables e below (T16.setTop (mkF m 96 #[.val (.int p1), .val (.int p2), .val (.int p3), .val (.int p4), .val (.int p5), .val (.int (3 : Int32)), .val (.int y0.toInt32), .val (.int y1.toInt32), .val (.int y2.toInt32), .val (.ref b13), .unset, .unset, .unset] [(.int y1.toInt32)])) _
          refine XS.bipush X16.here hx rfl (hb hby at_96) ?_
          show Steps p.tables e below (T16.setTop (mkF m 98 #[.val (.int p1), .val (.int p2), .val (.int p3), .val (.int p4), .val (.int p5), .val (.int (3 : Int32)), .val (.int y0.toInt32), .val (.int y1.toInt32), .val (.int y2.toInt32), .val (.ref b13), .unset, .unset, .unset] [(.int (-117 : Int32)), (.int y1.toInt32)])) _
          exact k_
        by_cases g2 : y1.toInt32 = (-117 : Int32)
        · skip
          refine own_go (S' := (T16.setTop (mkF m 106 #[.val (.int p1), .val (.int p2), .val (.int p3), .val (.int p4), .val (.int p5), .val (.int (3 : Int32)), .val (.int y0.toInt32), .val (.int y1.toInt32), .val (.int y2.toInt32), .val (.ref b13), .unset, .unset, .unset] [(.int (1 : Int32))]))) (fun t_ k_ => ?_) ?_
          · refine XS.icmpNo X16.here hx rfl (hb hby at_98) rfl (teq g2).2 ?_
            show Steps p.tables e below (T16.setTop (mkF m 101 #[.val (.int p1), .val (.int p2), .val (.int p3), .val (.int p4), .val (.int p5), .val (.int (3 : Int32)), .val (.int y0.toInt32), .val (.int y1.toInt32), .val (.int y2.toInt32), .val (.ref b13), .unset, .unset, .unset] [])) _
            refine XS.iconst X16.here hx rfl (hb hby at_101) ?_
            show Steps p.tables e below (T16.setTop (mkF m 102 #[.val (.int p1), .val (.int p2), .val (.int p3), .val (.int p4), .val (.int p5), .val (.int (3 : Int32)), .val (.int y0.toInt32), .val (.int y1.toInt32), .val (.int y2.toInt32), .val (.ref b13), .unset, .unset, .unset] [(.int (1 : Int32))])) _
            refine XS.goto X16.here hx rfl (pc0 := 102) (pc' := 106) rfl (hb hby at_102) (by decide) (by decide) ?_
            show Steps p.tables e below (T16.setTop (mkF m 106 #[.val (.int p1), .val (.int p2), .val (.int p3), .val (.int p4), .val (.int p5), .val (.int (3 : Int32)), .val (.int y0.toInt32), .val (.int y1.toInt32), .val (.int y2.toInt32), .val (.ref b13), .unset, .unset, .unset] [(.int (1 : Int32))])) _
            exact k_
          rw [if_pos g1, if_pos g2] at eex; subst eex; exact J17
        · skip
          refine own_go (S' := (T16.setTop (mkF m 106 #[.val (.int p1), .val (.int p2), .val (.int p3), .val (.int p4), .val (.int p5), .val (.int (3 : Int32)), .val (.int y0.toInt32), .val (.int y1.toInt32), .val (.int y2.toInt32), .val (.ref b13), .unset, .unset, .unset] [(.int (0 : Int32))]))) (fun t_ k_ => ?_) ?_
          · refine XS.icmpYes X16.here hx rfl (pc0 := 98) (pc' := 105) rfl (hb hby at_98) rfl (feq g2).2 (by decide) (by decide) ?_
            show Steps p.tables e below (T16.setTop (mkF m 105 #[.val (.int p1), .val (.int p2), .val (.int p3), .val (.int p4), .val (.int p5), .val (.int (3 : Int32)), .val (.int y0.toInt32), .val (.int y1.toInt32), .val (.int y2.toInt32), .val (.ref b13), .unset, .unset, .unset] [])) _
            refine XS.iconst X16.here hx rfl (hb hby at_105) ?_
            show Steps p.tables e below (T16.setTop (mkF m 106 #[.val (.int p1), .val (.int p2), .val (.int p3), .val (.int p4), .val (.int p5), .val (.int (3 : Int32)), .val (.int y0.toInt32), .val (.int y1.toInt32), .val (.int y2.toInt32), .val (.ref b13), .unset, .unset, .unset] [(.int (0 : Int32))])) _
            exact k_
          rw [if_pos g1, if_neg g2] at eex; subst eex; exact J17
      · skip
        refine own_go (S' := (T16.setTop (mkF m 106 #[.val (.int p1), .val (.int p2), .val (.int p3), .val (.int p4), .val (.int p5), .val (.int (3 : Int32)), .val (.int y0.toInt32), .val (.int y1.toInt32), .val (.int y2.toInt32), .val (.ref b13), .unset, .unset, .unset] [(.int (0 : Int32))]))) (fun t_ k_ => ?_) ?_
        · refine XS.icmpYes X16.here hx rfl (pc0 := 91) (pc' := 105) rfl (hb hby at_91) rfl (feq g1).2 (by decide) (by decide) ?_
          show Steps p.tables e below (T16.setTop (mkF m 105 #[.val (.int p1), .val (.int p2), .val (.int p3), .val (.int p4), .val (.int p5), .val (.int (3 : Int32)), .val (.int y0.toInt32), .val (.int y1.toInt32), .val (.int y2.toInt32), .val (.ref b13), .unset, .unset, .unset] [])) _
          refine XS.iconst X16.here hx rfl (hb hby at_105) ?_
          show Steps p.tables e below (T16.setTop (mkF m 106 #[.val (.int p1), .val (.int p2), .val (.int p3), .val (.int p4), .val (.int p5), .val (.int (3 : Int32)), .val (.int y0.toInt32), .val (.int y1.toInt32), .val (.int y2.toInt32), .val (.ref b13), .unset, .unset, .unset] [(.int (0 : Int32))])) _
          exact k_
        rw [if_neg g1] at eex; subst eex; exact J17
    refine own_go (S' := (T16.setTop (mkF m 110 #[.val (.int p1), .val (.int p2), .val (.int p3), .val (.int p4), .val (.int p5), .val (.int (3 : Int32)), .val (.int y0.toInt32), .val (.int y1.toInt32), .val (.int y2.toInt32), .val (.ref b13), .val (.int ex), .unset, .unset] [(.ref b13)]))) (fun t_ k_ => ?_) ?_
    · refine XS.istore X16.here hx rfl (hb hby at_106) rfl (l' := #[.val (.int p1), .val (.int p2), .val (.int p3), .val (.int p4), .val (.int p5), .val (.int (3 : Int32)), .val (.int y0.toInt32), .val (.int y1.toInt32), .val (.int y2.toInt32), .val (.ref b13), .val (.int ex), .unset, .unset]) rfl ?_
      show Steps p.tables e below (T16.setTop (mkF m 108 #[.val (.int p1), .val (.int p2), .val (.int p3), .val (.int p4), .val (.int p5), .val (.int (3 : Int32)), .val (.int y0.toInt32), .val (.int y1.toInt32), .val (.int y2.toInt32), .val (.ref b13), .val (.int ex), .unset, .unset] [])) _
      refine XS.aload X16.here hx rfl (hb hby at_108) rfl rfl ?_
      show Steps p.tables e below (T16.setTop (mkF m 110 #[.val (.int p1), .val (.int p2), .val (.int p3), .val (.int p4), .val (.int p5), .val (.int (3 : Int32)), .val (.int y0.toInt32), .val (.int y1.toInt32), .val (.int y2.toInt32), .val (.ref b13), .val (.int ex), .unset, .unset] [(.ref b13)])) _
      exact k_
    obtain ⟨_, T18, L18, X18, ⟨rfl, N18q, k18⟩, st18⟩ := own_callS X16 hx hZ (y := (⟨"com/example/spillover/spillover/log/GzipMembers", "startsMember", "([B)Z"⟩ : MethodName)) hown (hw _ (List.mem_of_getElem? (i := 1) rfl)) (hw _ (List.mem_of_getElem? (i := 2) rfl)) (hw _ (List.mem_of_getElem? (i := 3) rfl)) (hw _ (List.mem_of_getElem? (i := 4) rfl)) (by decide) (own_c1 l Z a0 hw [] b13 k13 (3 : Int32) [(.int y0.toInt32), (.int y1.toInt32), (.int y2.toInt32)] y0.toInt32 y1.toInt32 h16 n0 Zb2 Vb2 (fun _ => rfl) (fun _ => rfl)) e16 (W := 0) (by decide) (by decide) (g := (mkF m 110 #[.val (.int p1), .val (.int p2), .val (.int p3), .val (.int p4), .val (.int p5), .val (.int (3 : Int32)), .val (.int y0.toInt32), .val (.int y1.toInt32), .val (.int y2.toInt32), .val (.ref b13), .val (.int ex), .unset, .unset] [(.ref b13)])) rfl (by rw [hml]; rfl) (argsL := [(.ref b13)]) (rest := []) (lenOf own_pd0 rfl) rfl rfl rfl (hb hby at_110) (by decide) (by decide)
    have N18 := Fr.app N16 N18q
    refine own_go st18 ?_
    show own_Rch p e below _ (T18.setTop (mkF m 113 #[.val (.int p1), .val (.int p2), .val (.int p3), .val (.int p4), .val (.int p5), .val (.int (3 : Int32)), .val (.int y0.toInt32), .val (.int y1.toInt32), .val (.int y2.toInt32), .val (.ref b13), .val (.int ex), .unset, .unset] [(.int (own_sm (3 : Int32) y0.toInt32 y1.toInt32))]))
    have Vc := Vb2
    rw [← k18] at Vc
    refine own_go (S' := (T18.setTop (mkF m 117 #[.val (.int p1), .val (.int p2), .val (.int p3), .val (.int p4), .val (.int p5), .val (.int (3 : Int32)), .val (.int y0.toInt32), .val (.int y1.toInt32), .val (.int y2.toInt32), .val (.ref b13), .val (.int ex), .val (.int (own_sm (3 : Int32) y0.toInt32 y1.toInt32)), .unset] [(.int (3 : Int32))]))) (fun t_ k_ => ?_) ?_
    · refine XS.istore X18.here hx rfl (hb hby at_113) rfl (l' := #[.val (.int p1), .val (.int p2), .val (.int p3), .val (.int p4), .val (.int p5), .val (.int (3 : Int32)), .val (.int y0.toInt32), .val (.int y1.toInt32), .val (.int y2.toInt32), .val (.ref b13), .val (.int ex), .val (.int (own_sm (3 : Int32) y0.toInt32 y1.toInt32)), .unset]) rfl ?_
      show Steps p.tables e below (T18.setTop (mkF m 115 #[.val (.int p1), .val (.int p2), .val (.int p3), .val (.int p4), .val (.int p5), .val (.int (3 : Int32)), .val (.int y0.toInt32), .val (.int y1.toInt32), .val (.int y2.toInt32), .val (.ref b13), .val (.int ex), .val (.int (own_sm (3 : Int32) y0.toInt32 y1.toInt32)), .unset] [])) _
      refine XS.iload X18.here hx rfl (hb hby at_115) rfl ?_
      show Steps p.tables e below (T18.setTop (mkF m 117 #[.val (.int p1), .val (.int p2), .val (.int p3), .val (.int p4), .val (.int p5), .val (.int (3 : Int32)), .val (.int y0.toInt32), .val (.int y1.toInt32), .val (.int y2.toInt32), .val (.ref b13), .val (.int ex), .val (.int (own_sm (3 : Int32) y0.toInt32 y1.toInt32)), .unset] [(.int (3 : Int32))])) _
      exact k_
    refine own_go (S' := (T18.setTop (mkF m 123 #[.val (.int p1), .val (.int p2), .val (.int p3), .val (.int p4), .val (.int p5), .val (.int (3 : Int32)), .val (.int y0.toInt32), .val (.int y1.toInt32), .val (.int y2.toInt32), .val (.ref b13), .val (.int ex), .val (.int (own_sm (3 : Int32) y0.toInt32 y1.toInt32)), .unset] [(.int (0 : Int32)), (.ref b13)]))) (fun t_ k_ => ?_) ?_
    · refine XS.ifNo X18.here hx rfl (hb hby at_117) rfl ((if0 _ _).trans (tlt (by decide)).2.2.2) ?_
      show Steps p.tables e below (T18.setTop (mkF m 120 #[.val (.int p1), .val (.int p2), .val (.int p3), .val (.int p4), .val (.int p5), .val (.int (3 : Int32)), .val (.int y0.toInt32), .val (.int y1.toInt32), .val (.int y2.toInt32), .val (.ref b13), .val (.int ex), .val (.int (own_sm (3 : Int32) y0.toInt32 y1.toInt32)), .unset] [])) _
      refine XS.aload X18.here hx rfl (hb hby at_120) rfl rfl ?_
      show Steps p.tables e below (T18.setTop (mkF m 122 #[.val (.int p1), .val (.int p2), .val (.int p3), .val (.int p4), .val (.int p5), .val (.int (3 : Int32)), .val (.int y0.toInt32), .val (.int y1.toInt32), .val (.int y2.toInt32), .val (.ref b13), .val (.int ex), .val (.int (own_sm (3 : Int32) y0.toInt32 y1.toInt32)), .unset] [(.ref b13)])) _
      refine XS.iconst X18.here hx rfl (hb hby at_122) ?_
      show Steps p.tables e below (T18.setTop (mkF m 123 #[.val (.int p1), .val (.int p2), .val (.int p3), .val (.int p4), .val (.int p5), .val (.int (3 : Int32)), .val (.int y0.toInt32), .val (.int y1.toInt32), .val (.int y2.toInt32), .val (.ref b13), .val (.int ex), .val (.int (own_sm (3 : Int32) y0.toInt32 y1.toInt32)), .unset] [(.int (0 : Int32)), (.ref b13)])) _
      exact k_
    refine own_go (own_bal X18 hx hZ rfl Vc (by decide) rfl (g := (mkF m 123 #[.val (.int p1), .val (.int p2), .val (.int p3), .val (.int p4), .val (.int p5), .val (.int (3 : Int32)), .val (.int y0.toInt32), .val (.int y1.toInt32), .val (.int y2.toInt32), .val (.ref b13), .val (.int ex), .val (.int (own_sm (3 : Int32) y0.toInt32 y1.toInt32)), .unset] [(.int (0 : Int32)), (.ref b13)])) rfl rfl (hb hby at_123)) ?_
    show own_Rch p e below _ (T18.setTop (mkF m 124 #[.val (.int p1), .val (.int p2), .val (.int p3), .val (.int p4), .val (.int p5), .val (.int (3 : Int32)), .val (.int y0.toInt32), .val (.int y1.toInt32), .val (.int y2.toInt32), .val (.ref b13), .val (.int ex), .val (.int (own_sm (3 : Int32) y0.toInt32 y1.toInt32)), .unset] [(.int y0.toInt32)]))
    refine own_go (S' := (T18.setTop (mkF m 126 #[.val (.int p1), .val (.int p2), .val (.int p3), .val (.int p4), .val (.int p5), .val (.int (3 : Int32)), .val (.int y0.toInt32), .val (.int y1.toInt32), .val (.int y2.toInt32), .val (.ref b13), .val (.int ex), .val (.int (own_sm (3 : Int32) y0.toInt32 y1.toInt32)), .unset] [(.int y0.toInt32), (.int y0.toInt32)]))) (fun t_ k_ => ?_) ?_
    · refine XS.iload X18.here hx rfl (hb hby at_124) rfl ?_
      show Steps p.tables e below (T18.setTop (mkF m 126 #[.val (.int p1), .val (.int p2), .val (.int p3), .val (.int p4), .val (.int p5), .val (.int (3 : Int32)), .val (.int y0.toInt32), .val (.int y1.toInt32), .val (.int y2.toInt32), .val (.ref b13), .val (.int ex), .val (.int (own_sm (3 : Int32) y0.toInt32 y1.toInt32)), .unset] [(.int y0.toInt32), (.int y0.toInt32)])) _
      exact k_
    refine own_go (S' := (T18.setTop (mkF m 132 #[.val (.int p1), .val (.int p2), .val (.int p3), .val (.int p4), .val (.int p5), .val (.int (3 : Int32)), .val (.int y0.toInt32), .val (.int y1.toInt32), .val (.int y2.toInt32), .val (.ref b13), .val (.int ex), .val (.int (own_sm (3 : Int32) y0.toInt32 y1.toInt32)), .unset] [(.int (1 : Int32)), (.int (3 : Int32))]))) (fun t_ k_ => ?_) ?_
    · refine XS.icmpNo X18.here hx rfl (hb hby at_126) rfl (teq rfl).2 ?_
      show Steps p.tables e below (T18.setTop (mkF m 129 #[.val (.int p1), .val (.int p2), .val (.int p3), .val (.int p4), .val (.int p5), .val (.int (3 : Int32)), .val (.int y0.toInt32), .val (.int y1.toInt32), .val (.int y2.toInt32), .val (.ref b13), .val (.int ex), .val (.int (own_sm (3 : Int32) y0.toInt32 y1.toInt32)), .unset] [])) _
      refine XS.iload X18.here hx rfl (hb hby at_129) rfl ?_
      show Steps p.tables e below (T18.setTop (mkF m 131 #[.val (.int p1), .val (.int p2), .val (.int p3), .val (.int p4), .val (.int p5), .val (.int (3 : Int32)), .val (.int y0.toInt32), .val (.int y1.toInt32), .val (.int y2.toInt32), .val (.ref b13), .val (.int ex), .val (.int (own_sm (3 : Int32) y0.toInt32 y1.toInt32)), .unset] [(.int (3 : Int32))])) _
      refine XS.iconst X18.here hx rfl (hb hby at_131) ?_
      show Steps p.tables e below (T18.setTop (mkF m 132 #[.val (.int p1), .val (.int p2), .val (.int p3), .val (.int p4), .val (.int p5), .val (.int (3 : Int32)), .val (.int y0.toInt32), .val (.int y1.toInt32), .val (.int y2.toInt32), .val (.ref b13), .val (.int ex), .val (.int (own_sm (3 : Int32) y0.toInt32 y1.toInt32)), .unset] [(.int (1 : Int32)), (.int (3 : Int32))])) _
      exact k_
    refine own_go (S' := (T18.setTop (mkF m 138 #[.val (.int p1), .val (.int p2), .val (.int p3), .val (.int p4), .val (.int p5), .val (.int (3 : Int32)), .val (.int y0.toInt32), .val (.int y1.toInt32), .val (.int y2.toInt32), .val (.ref b13), .val (.int ex), .val (.int (own_sm (3 : Int32) y0.toInt32 y1.toInt32)), .unset] [(.int (1 : Int32)), (.ref b13)]))) (fun t_ k_ => ?_) ?_
    · refine XS.icmpNo X18.here hx rfl (hb hby at_132) rfl (tlt (by decide)).2.2.2 ?_
      show Steps p.tables e below (T18.setTop (mkF m 135 #[.val (.int p1), .val (.int p2), .val (.int p3), .val (.int p4), .val (.int p5), .val (.int (3 : Int32)), .val (.int y0.toInt32), .val (.int y1.toInt32), .val (.int y2.toInt32), .val (.ref b13), .val (.int ex), .val (.int (own_sm (3 : Int32) y0.toInt32 y1.toInt32)), .unset] [])) _
      refine XS.aload X18.here hx rfl (hb hby at_135) rfl rfl ?_
      show Steps p.tables e below (T18.setTop (mkF m 137 #[.val (.int p1), .val (.int p2), .val (.int p3), .val (.int p4), .val (.int p5), .val (.int (3 : Int32)), .val (.int y0.toInt32), .val (.int y1.toInt32), .val (.int y2.toInt32), .val (.ref b13), .val (.int ex), .val (.int (own_sm (3 : Int32) y0.toInt32 y1.toInt32)), .unset] [(.ref b13)])) _
      refine XS.iconst X18.here hx rfl (hb hby at_137) ?_
      show Steps p.tables e below (T18.setTop (mkF m 138 #[.val (.int p1), .val (.int p2), .val (.int p3), .val (.int p4), .val (.int p5), .val (.int (3 : Int32)), .val (.int y0.toInt32), .val (.int y1.toInt32), .val (.int y2.toInt32), .val (.ref b13), .val (.int ex), .val (.int (own_sm (3 : Int32) y0.toInt32 y1.toInt32)), .unset] [(.int (1 : Int32)), (.ref b13)])) _
      exact k_
    refine own_go (own_bal X18 hx hZ rfl Vc (by decide) rfl (g := (mkF m 138 #[.val (.int p1), .val (.int p2), .val (.int p3), .val (.int p4), .val (.int p5), .val (.int (3 : Int32)), .val (.int y0.toInt32), .val (.int y1.toInt32), .val (.int y2.toInt32), .val (.ref b13), .val (.int ex), .val (.int (own_sm (3 : Int32) y0.toInt32 y1.toInt32)), .unset] [(.int (1 : Int32)), (.ref b13)])) rfl rfl (hb hby at_138)) ?_
    show own_Rch p e below _ (T18.setTop (mkF m 139 #[.val (.int p1), .val (.int p2), .val (.int p3), .val (.int p4), .val (.int p5), .val (.int (3 : Int32)), .val (.int y0.toInt32), .val (.int y1.toInt32), .val (.int y2.toInt32), .val (.ref b13), .val (.int ex), .val (.int (own_sm (3 : Int32) y0.toInt32 y1.toInt32)), .unset] [(.int y1.toInt32)]))
    refine own_go (S' := (T18.setTop (mkF m 141 #[.val (.int p1), .val (.int p2), .val (.int p3), .val (.int p4), .val (.int p5), .val (.int (3 : Int32)), .val (.int y0.toInt32), .val (.int y1.toInt32), .val (.int y2.toInt32), .val (.ref b13), .val (.int ex), .val (.int (own_sm (3 : Int32) y0.toInt32 y1.toInt32)), .unset] [(.int y1.toInt32), (.int y1.toInt32)]))) (fun t_ k_ => ?_) ?_
    · refine XS.iload X18.here hx rfl (hb hby at_139) rfl ?_
      show Steps p.tables e below (T18.setTop (mkF m 141 #[.val (.int p1), .val (.int p2), .val (.int p3), .val (.int p4), .val (.int p5), .val (.int (3 : Int32)), .val (.int y0.toInt32), .val (.int y1.toInt32), .val (.int y2.toInt32), .val (.ref b13), .val (.int ex), .val (.int (own_sm (3 : Int32) y0.toInt32 y1.toInt32)), .unset] [(.int y1.toInt32), (.int y1.toInt32)])) _
      exact k_
    refine own_go (S' := (T18.setTop (mkF m 147 #[.val (.int p1), .val (.int p2), .val (.int p3), .val (.int p4), .val (.int p5), .val (.int (3 : Int32)), .val (.int y0.toInt32), .val (.int y1.toInt32), .val (.int y2.toInt32), .val (.ref b13), .val (.int ex), .val (.int (own_sm (3 : Int32) y0.toInt32 y1.toInt32)), .unset] [(.int (2 : Int32)), (.int (3 : Int32))]))) (fun t_ k_ => ?_) ?_
    · refine XS.icmpNo X18.here hx rfl (hb hby at_141) rfl (teq rfl).2 ?_
      show Steps p.tables e below (T18.setTop (mkF m 144 #[.val (.int p1), .val (.int p2), .val (.int p3), .val (.int p4), .val (.int p5), .val (.int (3 : Int32)), .val (.int y0.toInt32), .val (.int y1.toInt32), .val (.int y2.toInt32), .val (.ref b13), .val (.int ex), .val (.int (own_sm (3 : Int32) y0.toInt32 y1.toInt32)), .unset] [])) _
      refine XS.iload X18.here hx rfl (hb hby at_144) rfl ?_
      show Steps p.tables e below (T18.setTop (mkF m 146 #[.val (.int p1), .val (.int p2), .val (.int p3), .val (.int p4), .val (.int p5), .val (.int (3 : Int32)), .val (.int y0.toInt32), .val (.int y1.toInt32), .val (.int y2.toInt32), .val (.ref b13), .val (.int ex), .val (.int (own_sm (3 : Int32) y0.toInt32 y1.toInt32)), .unset] [(.int (3 : Int32))])) _
      refine XS.iconst X18.here hx rfl (hb hby at_146) ?_
      show Steps p.tables e below (T18.setTop (mkF m 147 #[.val (.int p1), .val (.int p2), .val (.int p3), .val (.int p4), .val (.int p5), .val (.int (3 : Int32)), .val (.int y0.toInt32), .val (.int y1.toInt32), .val (.int y2.toInt32), .val (.ref b13), .val (.int ex), .val (.int (own_sm (3 : Int32) y0.toInt32 y1.toInt32)), .unset] [(.int (2 : Int32)), (.int (3 : Int32))])) _
      exact k_
    refine own_go (S' := (T18.setTop (mkF m 153 #[.val (.int p1), .val (.int p2), .val (.int p3), .val (.int p4), .val (.int p5), .val (.int (3 : Int32)), .val (.int y0.toInt32), .val (.int y1.toInt32), .val (.int y2.toInt32), .val (.ref b13), .val (.int ex), .val (.int (own_sm (3 : Int32) y0.toInt32 y1.toInt32)), .unset] [(.int (2 : Int32)), (.ref b13)]))) (fun t_ k_ => ?_) ?_
    · refine XS.icmpNo X18.here hx rfl (hb hby at_147) rfl (tlt (by decide)).2.2.2 ?_
      show Steps p.tables e below (T18.setTop (mkF m 150 #[.val (.int p1), .val (.int p2), .val (.int p3), .val (.int p4), .val (.int p5), .val (.int (3 : Int32)), .val (.int y0.toInt32), .val (.int y1.toInt32), .val (.int y2.toInt32), .val (.ref b13), .val (.int ex), .val (.int (own_sm (3 : Int32) y0.toInt32 y1.toInt32)), .unset] [])) _
      refine XS.aload X18.here hx rfl (hb hby at_150) rfl rfl ?_
      show Steps p.tables e below (T18.setTop (mkF m 152 #[.val (.int p1), .val (.int p2), .val (.int p3), .val (.int p4), .val (.int p5), .val (.int (3 : Int32)), .val (.int y0.toInt32), .val (.int y1.toInt32), .val (.int y2.toInt32), .val (.ref b13), .val (.int ex), .val (.int (own_sm (3 : Int32) y0.toInt32 y1.toInt32)), .unset] [(.ref b13)])) _
      refine XS.iconst X18.here hx rfl (hb hby at_152) ?_
      show Steps p.tables e below (T18.setTop (mkF m 153 #[.val (.int p1), .val (.int p2), .val (.int p3), .val (.int p4), .val (.int p5), .val (.int (3 : Int32)), .val (.int y0.toInt32), .val (.int y1.toInt32), .val (.int y2.toInt32), .val (.ref b13), .val (.int ex), .val (.int (own_sm (3 : Int32) y0.toInt32 y1.toInt32)), .unset] [(.int (2 : Int32)), (.ref b13)])) _
      exact k_
    refine own_go (own_bal X18 hx hZ rfl Vc (by decide) rfl (g := (mkF m 153 #[.val (.int p1), .val (.int p2), .val (.int p3), .val (.int p4), .val (.int p5), .val (.int (3 : Int32)), .val (.int y0.toInt32), .val (.int y1.toInt32), .val (.int y2.toInt32), .val (.ref b13), .val (.int ex), .val (.int (own_sm (3 : Int32) y0.toInt32 y1.toInt32)), .unset] [(.int (2 : Int32)), (.ref b13)])) rfl rfl (hb hby at_153)) ?_
    show own_Rch p e below _ (T18.setTop (mkF m 154 #[.val (.int p1), .val (.int p2), .val (.int p3), .val (.int p4), .val (.int p5), .val (.int (3 : Int32)), .val (.int y0.toInt32), .val (.int y1.toInt32), .val (.int y2.toInt32), .val (.ref b13), .val (.int ex), .val (.int (own_sm (3 : Int32) y0.toInt32 y1.toInt32)), .unset] [(.int y2.toInt32)]))
    refine own_go (S' := (T18.setTop (mkF m 156 #[.val (.int p1), .val (.int p2), .val (.int p3), .val (.int p4), .val (.int p5), .val (.int (3 : Int32)), .val (.int y0.toInt32), .val (.int y1.toInt32), .val (.int y2.toInt32), .val (.ref b13), .val (.int ex), .val (.int (own_sm (3 : Int32) y0.toInt32 y1.toInt32)), .unset] [(.int y2.toInt32), (.int y2.toInt32)]))) (fun t_ k_ => ?_) ?_
    · refine XS.iload X18.here hx rfl (hb hby at_154) rfl ?_
      show Steps p.tables e below (T18.setTop (mkF m 156 #[.val (.int p1), .val (.int p2), .val (.int p3), .val (.int p4), .val (.int p5), .val (.int (3 : Int32)), .val (.int y0.toInt32), .val (.int y1.toInt32), .val (.int y2.toInt32), .val (.ref b13), .val (.int ex), .val (.int (own_sm (3 : Int32) y0.toInt32 y1.toInt32)), .unset] [(.int y2.toInt32), (.int y2.toInt32)])) _
      exact k_
    refine own_go (S' := (T18.setTop (mkF m 170 #[.val (.int p1), .val (.int p2), .val (.int p3), .val (.int p4), .val (.int p5), .val (.int (3 : Int32)), .val (.int y0.toInt32), .val (.int y1.toInt32), .val (.int y2.toInt32), .val (.ref b13), .val (.int ex), .val (.int (own_sm (3 : Int32) y0.toInt32 y1.toInt32)), .val (.int (1 : Int32))] [(.int ex), (.int (own_sm (3 : Int32) y0.toInt32 y1.toInt32))]))) (fun t_ k_ => ?_) ?_
    · refine XS.icmpNo X18.here hx rfl (hb hby at_156) rfl (teq rfl).2 ?_
      show Steps p.tables e below (T18.setTop (mkF m 159 #[.val (.int p1), .val (.int p2), .val (.int p3), .val (.int p4), .val (.int p5), .val (.int (3 : Int32)), .val (.int y0.toInt32), .val (.int y1.toInt32), .val (.int y2.toInt32), .val (.ref b13), .val (.int ex), .val (.int (own_sm (3 : Int32) y0.toInt32 y1.toInt32)), .unset] [])) _
      refine XS.iconst X18.here hx rfl (hb hby at_159) ?_
      show Steps p.tables e below (T18.setTop (mkF m 160 #[.val (.int p1), .val (.int p2), .val (.int p3), .val (.int p4), .val (.int p5), .val (.int (3 : Int32)), .val (.int y0.toInt32), .val (.int y1.toInt32), .val (.int y2.toInt32), .val (.ref b13), .val (.int ex), .val (.int (own_sm (3 : Int32) y0.toInt32 y1.toInt32)), .unset] [(.int (1 : Int32))])) _
      refine XS.goto X18.here hx rfl (pc0 := 160) (pc' := 164) rfl (hb hby at_160) (by decide) (by decide) ?_
      show Steps p.tables e below (T18.setTop (mkF m 164 #[.val (.int p1), .val (.int p2), .val (.int p3), .val (.int p4), .val (.int p5), .val (.int (3 : Int32)), .val (.int y0.toInt32), .val (.int y1.toInt32), .val (.int y2.toInt32), .val (.ref b13), .val (.int ex), .val (.int (own_sm (3 : Int32) y0.toInt32 y1.toInt32)), .unset] [(.int (1 : Int32))])) _
      refine XS.istore X18.here hx rfl (hb hby at_164) rfl (l' := #[.val (.int p1), .val (.int p2), .val (.int p3), .val (.int p4), .val (.int p5), .val (.int (3 : Int32)), .val (.int y0.toInt32), .val (.int y1.toInt32), .val (.int y2.toInt32), .val (.ref b13), .val (.int ex), .val (.int (own_sm (3 : Int32) y0.toInt32 y1.toInt32)), .val (.int (1 : Int32))]) rfl ?_
      show Steps p.tables e below (T18.setTop (mkF m 166 #[.val (.int p1), .val (.int p2), .val (.int p3), .val (.int p4), .val (.int p5), .val (.int (3 : Int32)), .val (.int y0.toInt32), .val (.int y1.toInt32), .val (.int y2.toInt32), .val (.ref b13), .val (.int ex), .val (.int (own_sm (3 : Int32) y0.toInt32 y1.toInt32)), .val (.int (1 : Int32))] [])) _
      refine XS.iload X18.here hx rfl (hb hby at_166) rfl ?_
      show Steps p.tables e below (T18.setTop (mkF m 168 #[.val (.int p1), .val (.int p2), .val (.int p3), .val (.int p4), .val (.int p5), .val (.int (3 : Int32)), .val (.int y0.toInt32), .val (.int y1.toInt32), .val (.int y2.toInt32), .val (.ref b13), .val (.int ex), .val (.int (own_sm (3 : Int32) y0.toInt32 y1.toInt32)), .val (.int (1 : Int32))] [(.int (own_sm (3 : Int32) y0.toInt32 y1.toInt32))])) _
      refine XS.iload X18.here hx rfl (hb hby at_168) rfl ?_
      show Steps p.tables e below (T18.setTop (mkF m 170 #[.val (.int p1), .val (.int p2), .val (.int p3), .val (.int p4), .val (.int p5), .val (.int (3 : Int32)), .val (.int y0.toInt32), .val (.int y1.toInt32), .val (.int y2.toInt32), .val (.ref b13), .val (.int ex), .val (.int (own_sm (3 : Int32) y0.toInt32 y1.toInt32)), .val (.int (1 : Int32))] [(.int ex), (.int (own_sm (3 : Int32) y0.toInt32 y1.toInt32))])) _
      exact k_
    refine own_go (S' := (T18.setTop (mkF m 175 #[.val (.int p1), .val (.int p2), .val (.int p3), .val (.int p4), .val (.int p5), .val (.int (3 : Int32)), .val (.int y0.toInt32), .val (.int y1.toInt32), .val (.int y2.toInt32), .val (.ref b13), .val (.int ex), .val (.int (own_sm (3 : Int32) y0.toInt32 y1.toInt32)), .val (.int (1 : Int32))] [(.int (1 : Int32))]))) (fun t_ k_ => ?_) ?_
    · refine XS.icmpNo X18.here hx rfl (hb hby at_170) rfl (teq ((own_smE (3 : Int32) y0 y1 (by decide)).trans eex.symm)).2 ?_
      show Steps p.tables e below (T18.setTop (mkF m 173 #[.val (.int p1), .val (.int p2), .val (.int p3), .val (.int p4), .val (.int p5), .val (.int (3 : Int32)), .val (.int y0.toInt32), .val (.int y1.toInt32), .val (.int y2.toInt32), .val (.ref b13), .val (.int ex), .val (.int (own_sm (3 : Int32) y0.toInt32 y1.toInt32)), .val (.int (1 : Int32))] [])) _
      refine XS.iload X18.here hx rfl (hb hby at_173) rfl ?_
      show Steps p.tables e below (T18.setTop (mkF m 175 #[.val (.int p1), .val (.int p2), .val (.int p3), .val (.int p4), .val (.int p5), .val (.int (3 : Int32)), .val (.int y0.toInt32), .val (.int y1.toInt32), .val (.int y2.toInt32), .val (.ref b13), .val (.int ex), .val (.int (own_sm (3 : Int32) y0.toInt32 y1.toInt32)), .val (.int (1 : Int32))] [(.int (1 : Int32))])) _
      exact k_
    refine own_go (S' := (T18.setTop (mkF m 183 #[.val (.int p1), .val (.int p2), .val (.int p3), .val (.int p4), .val (.int p5), .val (.int (3 : Int32)), .val (.int y0.toInt32), .val (.int y1.toInt32), .val (.int y2.toInt32), .val (.ref b13), .val (.int ex), .val (.int (own_sm (3 : Int32) y0.toInt32 y1.toInt32)), .val (.int (1 : Int32))] [(.int (1 : Int32))]))) (fun t_ k_ => ?_) ?_
    · refine XS.ifNo X18.here hx rfl (hb hby at_175) rfl ((if0 _ _).trans (feq (by decide)).1) ?_
      show Steps p.tables e below (T18.setTop (mkF m 178 #[.val (.int p1), .val (.int p2), .val (.int p3), .val (.int p4), .val (.int p5), .val (.int (3 : Int32)), .val (.int y0.toInt32), .val (.int y1.toInt32), .val (.int y2.toInt32), .val (.ref b13), .val (.int ex), .val (.int (own_sm (3 : Int32) y0.toInt32 y1.toInt32)), .val (.int (1 : Int32))] [])) _
      refine XS.iconst X18.here hx rfl (hb hby at_178) ?_
      show Steps p.tables e below (T18.setTop (mkF m 179 #[.val (.int p1), .val (.int p2), .val (.int p3), .val (.int p4), .val (.int p5), .val (.int (3 : Int32)), .val (.int y0.toInt32), .val (.int y1.toInt32), .val (.int y2.toInt32), .val (.ref b13), .val (.int ex), .val (.int (own_sm (3 : Int32) y0.toInt32 y1.toInt32)), .val (.int (1 : Int32))] [(.int (1 : Int32))])) _
      refine XS.goto X18.here hx rfl (pc0 := 179) (pc' := 183) rfl (hb hby at_179) (by decide) (by decide) ?_
      show Steps p.tables e below (T18.setTop (mkF m 183 #[.val (.int p1), .val (.int p2), .val (.int p3), .val (.int p4), .val (.int p5), .val (.int (3 : Int32)), .val (.int y0.toInt32), .val (.int y1.toInt32), .val (.int y2.toInt32), .val (.ref b13), .val (.int ex), .val (.int (own_sm (3 : Int32) y0.toInt32 y1.toInt32)), .val (.int (1 : Int32))] [(.int (1 : Int32))])) _
      exact k_
    refine own_retN X18 hx (t := .boolean) Bd.returns Bd.notSynchronized (by simp) (hb hby at_183) rfl (by decide) (by decide) ?_
    exact ⟨rfl, N18⟩
set_option maxRecDepth 65536 in
set_option maxHeartbeats 40000000 in
theorem comes_1 {Post : Tables → Env → Array Value → State → Outcome → State → Prop} (hpost : ∀ tb e args s v u, (limb_1_1.after args s (.returned v) u = true ∧ limb_1_2.after args s (.returned v) u = true ∧ True) → FrameEnd s (.returned v) u (Jvm.fieldLocs frame_1_writes args s ++ Jvm.arrayLocs frame_1_arrays args s ++ Jvm.staticLocs frame_1_statics s) 16 128 → Post tb e args s (.returned v) u) :
    ArmFor flags0 classFile x code maxLocals ret World_1 tables_1 room_1 Calls_1 rest_1 Pre_1 Post := by
  intro l hfl _ _ p e ha hc hk s m args below hf hA hF happ hP
  obtain ⟨hcalls, hrest, hpre⟩ := hP
  obtain ⟨-, -, -, hnamed, -, -, -, hat⟩ := (Spec.applies_iff hf).mp happ
  obtain ⟨hg, hn⟩ := and_e (Cond.before_iff.mp (show (Jvm.Cond.and given_1 narrow_1).before args s = true from hpre))
  obtain ⟨gc, g0⟩ := and_e hg
  obtain ⟨ga0, g1⟩ := and_e g0
  obtain ⟨ga1, g2⟩ := and_e g1
  obtain ⟨ga2, g3⟩ := and_e g2
  obtain ⟨ga3, g4⟩ := and_e g3
  obtain ⟨w0, w1, w2, w3, w4, rfl⟩ : ∃ w0 w1 w2 w3 w4 : Value, args = #[w0, w1, w2, w3, w4] := by
    have hs : args.size = 5 := by simpa [Cond.value, given_1] using gc
    obtain ⟨L⟩ := args
    match L, hs with
    | [w0, w1, w2, w3, w4], _ => exact ⟨w0, w1, w2, w3, w4, rfl⟩
  obtain ⟨i0, ei0⟩ := is_v ga0
  obtain rfl : w0 = (.int i0) := Option.some.inj ei0
  obtain ⟨i1, ei1⟩ := is_v ga1
  obtain rfl : w1 = (.int i1) := Option.some.inj ei1
  obtain ⟨i2, ei2⟩ := is_v ga2
  obtain rfl : w2 = (.int i2) := Option.some.inj ei2
  obtain ⟨i3, ei3⟩ := is_v ga3
  obtain rfl : w3 = (.int i3) := Option.some.inj ei3
  obtain ⟨i4, ei4⟩ := is_v g4
  obtain rfl : w4 = (.int i4) := Option.some.inj ei4
  have hw := fun d (hd : d ∈ tables_1) => atoms_spec (ws := Jvm.Cond.code x code maxLocals ret :: tables_1) hat d (List.mem_cons_of_mem _ hd)
  have hfit : Fit s := fun {y c} hc i hi => by
    obtain ⟨ha, rfl⟩ := Array.getElem?_eq_some_iff.mp hc
    have q := List.all_eq_true.mp ((Array.all_eq_true_iff_forall_mem.mp hF) _ (Array.getElem_mem ha)) i (List.mem_range.mpr hi)
    simpa [Array.getElem?_eq_getElem hi] using q
  obtain ⟨n, o, h1, h2, h3, _, L, rfl, ⟨rfl, N⟩, hq⟩ := own_c0 l s _ hw tables_1 i0 i1 i2 i3 i4 s.heap s.heap.size (Nat.le_refl _) p e ha hc hk s m _ below hf ((Spec.applies_iff_loose hf).mp happ).1 ⟨rfl, State.Warmed39.refl s, rfl⟩ trivial
  refine ⟨n, _, h1, h2, h3, hpost _ _ _ _ _ _ ⟨Cond.after_iff.mpr rfl, Cond.after_iff.mpr (eq_i res_at (Term.int_eval (1)) rfl), trivial⟩ ⟨hq.1, hq.2.1, (hq.2.2.sift fun y hy => Or.inr (N y hy)).mono (by decide) (by decide)⟩⟩
theorem main_1_1 : Claimed_1_1 := comes_1 fun _ _ _ _ _ _ h hF => ⟨h.1, hF⟩
theorem main_1_2 : Claimed_1_2 := comes_1 fun _ _ _ _ _ _ h hF => ⟨h.2.1, hF⟩
end Jvm.Pilot.@@N@@
namespace Jvm.Pilot.@@N@@
open Jvm Jvm.ClassFile Sem Op Lib Jvm.Free Jvm.Stand Jvm.Pilot.@@N@@.Jvm.D
/-! MADE BY PROGRAM (witnessworld.py) out of the Statement's table words and the real class files: 12 classes; the members and pool entries that the words name. The judged class is class 1, her method 1. -/
namespace start1
open Jvm.ClassFile
def u (s : String) : CpInfo := .utf8 (stringToUtf16 s)
/-- a pool by its gaps: so many unusable entries, then the entry; so many at the end -/
def gap : Nat → List CpInfo → List CpInfo
  | 0, r => r
  | n + 1, r => .unusable :: gap n r
def poolList (es : List (Nat × CpInfo)) (last : Nat) : List CpInfo := es.foldr (fun e r => gap e.1 (e.2 :: r)) (gap last [])
def pool (es : List (Nat × CpInfo)) (last : Nat) : Array CpInfo := ⟨poolList es last⟩
def fileOf (pool : Array CpInfo) (this : Nat) (attrs : Array Attribute := #[]) (ms : Array MethodInfo := #[]) (fl : Nat := 33) (sup : Nat := 0) (ifs : Array Nat := #[]) (fds : Array FieldInfo := #[]) : ClassFile where
  minorVersion := 0
  majorVersion := 65
  constantPool := pool
  accessFlags := fl
  thisClass := this
  superClass := sup
  interfaces := ifs
  fields := fds
  methods := ms
  attributes := attrs
def plain (name : String) (sup : Option ClassId) : Class where
  name := name
  kind := .ordinary
  loader := none
  accessFlags := 33
  super := sup
  interfaces := #[]
  cf := none
  fields := #[]
  methods := #[]
  instanceTypes := #[]
  staticTypes := #[]
  resolved := #[]
  callSites := []
  init := .initialized
  statics := none
  mirror := none

def pool0 : Array CpInfo := pool [(5, u "<init>"), (0, u "()V"), (1, .class_ 10), (1, u "java/lang/Object")] 113

def k0m0 : Method := { name := "<init>", desc := "()V", sig := { parameters := [], returnType := none }, accessFlags := 1, code := none }
/-- java/lang/Object -/
def k0 : Class := { plain "java/lang/Object" none with
  accessFlags := 33
  interfaces := #[]
  cf := some (fileOf pool0 8 #[] #[{ accessFlags := 1, nameIndex := 5, descriptorIndex := 6, attributes := #[] }] 33 0 #[] #[])
  fields := #[]
  methods := #[k0m0]
  instanceTypes := #[]
  staticTypes := #[]
  resolved := Array.replicate 124 none
  statics := none }

def pool1 : Array CpInfo := pool [(2, .class_ 4), (1, u "java/lang/Object"), (0, u "<init>"), (0, u "()V"), (0, .methodref 8 9), (0, .class_ 10), (0, .nameAndType 11 12), (0, u "com/example/spillover/spillover/log/GzipMembers"), (0, u "startsMember"), (0, u "([B)Z"), (0, .class_ 14), (0, u "com/example/spillover/spillover/log/GzipMembersStartsMemberPinLaw"), (2, u "law"), (0, u "(IIIII)Z")] 5

def k1m0 : Method := { name := "<init>", desc := "()V", sig := { parameters := [], returnType := none }, accessFlags := 2, code := none }
def k1c1 : Code := { maxStack := 3, maxLocals := 13, code := code, exceptionTable := #[], attributes := #[] }
def k1m1 : Method := { name := "law", desc := "(IIIII)Z", sig := { parameters := [.int, .int, .int, .int, .int], returnType := some .boolean }, accessFlags := 9, code := some k1c1 }
/-- com/example/spillover/spillover/log/GzipMembersStartsMemberPinLaw -/
def k1 : Class := { plain "com/example/spillover/spillover/log/GzipMembersStartsMemberPinLaw" (some 0) with
  accessFlags := 49
  interfaces := #[]
  cf := some (fileOf pool1 13 #[] #[{ accessFlags := 2, nameIndex := 5, descriptorIndex := 6, attributes := #[] }, { accessFlags := 9, nameIndex := 17, descriptorIndex := 18, attributes := #[] }] 49 2 #[] #[])
  fields := #[]
  methods := #[k1m0, k1m1]
  instanceTypes := #[]
  staticTypes := #[]
  resolved := Array.replicate 24 none
  statics := none }

def pool2 : Array CpInfo := pool [(1, .class_ 2), (0, u "java/lang/AutoCloseable"), (0, .class_ 4), (0, u "java/lang/Object")] 7

/-- java/lang/AutoCloseable -/
def k2 : Class := { plain "java/lang/AutoCloseable" (some 0) with
  accessFlags := 1537
  interfaces := #[]
  cf := some (fileOf pool2 1 #[] #[] 1537 3 #[] #[])
  fields := #[]
  methods := #[]
  instanceTypes := #[]
  staticTypes := #[]
  resolved := Array.replicate 12 none
  statics := none }

def pool3 : Array CpInfo := pool [(1, .class_ 2), (0, u "java/io/Closeable"), (0, .class_ 4), (0, u "java/lang/Object"), (0, .class_ 6), (0, u "java/lang/AutoCloseable")] 7

/-- java/io/Closeable -/
def k3 : Class := { plain "java/io/Closeable" (some 0) with
  accessFlags := 1537
  interfaces := #[2]
  cf := some (fileOf pool3 1 #[] #[] 1537 3 #[5] #[])
  fields := #[]
  methods := #[]
  instanceTypes := #[]
  staticTypes := #[]
  resolved := Array.replicate 14 none
  statics := none }

def pool4 : Array CpInfo := pool [(4, .class_ 6), (1, u "java/lang/Object"), (0, u "<init>"), (0, u "()V"), (0, .class_ 10), (0, u "java/io/InputStream$1"), (2, .class_ 15), (1, u "java/io/InputStream"), (116, .class_ 133), (0, u "java/io/Closeable"), (0, u "MAX_SKIP_BUFFER_SIZE"), (0, u "I"), (2, u "DEFAULT_BUFFER_SIZE"), (1, u "MAX_BUFFER_SIZE")] 54

def k4m0 : Method := { name := "<init>", desc := "()V", sig := { parameters := [], returnType := none }, accessFlags := 1, code := none }
/-- java/io/InputStream -/
def k4 : Class := { plain "java/io/InputStream" (some 0) with
  accessFlags := 1057
  interfaces := #[3]
  cf := some (fileOf pool4 13 #[.nestMembers #[9]] #[{ accessFlags := 1, nameIndex := 7, descriptorIndex := 8, attributes := #[] }] 1057 4 #[132] #[{ accessFlags := 26, nameIndex := 134, descriptorIndex := 135, attributes := #[] }, { accessFlags := 26, nameIndex := 138, descriptorIndex := 135, attributes := #[] }, { accessFlags := 26, nameIndex := 140, descriptorIndex := 135, attributes := #[] }])
  fields := #[{ name := "MAX_SKIP_BUFFER_SIZE", type := .int, accessFlags := 26, slot := 0, constantValue := 0 }, { name := "DEFAULT_BUFFER_SIZE", type := .int, accessFlags := 26, slot := 1, constantValue := 0 }, { name := "MAX_BUFFER_SIZE", type := .int, accessFlags := 26, slot := 2, constantValue := 0 }]
  methods := #[k4m0]
  instanceTypes := #[]
  staticTypes := #[.int, .int, .int]
  resolved := Array.replicate 195 none
  statics := none }

def pool5 : Array CpInfo := pool [(2, .class_ 4), (1, u "java/io/InputStream"), (4, .class_ 11), (1, u "com/example/spillover/spillover/log/GzipMembers"), (0, u "buffer"), (0, u "[B"), (7, u "inflater"), (0, u "Ljava/util/zip/Inflater;"), (5, u "dataCheck"), (0, u "Ljava/util/zip/CRC32;"), (2, u "headerCheck"), (2, u "single"), (2, u "in"), (0, u "Ljava/io/InputStream;"), (12, u "ended"), (0, u "Z"), (2, u "inData"), (13, u "length"), (0, u "J"), (14, u "member"), (0, u "I"), (10, u "end"), (44, u "start"), (38, u "ID1"), (2, u "ID2"), (1, u "DEFLATE"), (1, u "FHCRC"), (1, u "FEXTRA"), (1, u "FNAME"), (0, u "FCOMMENT"), (1, u "RESERVED"), (1, u "SKIPPED"), (4, u "startsMember"), (0, u "([B)Z")] 40

def k5c0 : Code := { maxStack := 2, maxLocals := 1, code := prog_33_method_2_code, exceptionTable := #[], attributes := #[] }
def k5m0 : Method := { name := "startsMember", desc := "([B)Z", sig := { parameters := [(.array .byte)], returnType := some .boolean }, accessFlags := 8, code := some k5c0 }
/-- com/example/spillover/spillover/log/GzipMembers -/
def k5 : Class := { plain "com/example/spillover/spillover/log/GzipMembers" (some 4) with
  accessFlags := 48
  interfaces := #[]
  cf := some (fileOf pool5 9 #[] #[{ accessFlags := 8, nameIndex := 203, descriptorIndex := 204, attributes := #[] }] 48 2 #[] #[{ accessFlags := 26, nameIndex := 182, descriptorIndex := 87, attributes := #[] }, { accessFlags := 26, nameIndex := 185, descriptorIndex := 87, attributes := #[] }, { accessFlags := 26, nameIndex := 187, descriptorIndex := 87, attributes := #[] }, { accessFlags := 26, nameIndex := 189, descriptorIndex := 87, attributes := #[] }, { accessFlags := 26, nameIndex := 191, descriptorIndex := 87, attributes := #[] }, { accessFlags := 26, nameIndex := 193, descriptorIndex := 87, attributes := #[] }, { accessFlags := 26, nameIndex := 194, descriptorIndex := 87, attributes := #[] }, { accessFlags := 26, nameIndex := 196, descriptorIndex := 87, attributes := #[] }, { accessFlags := 26, nameIndex := 198, descriptorIndex := 87, attributes := #[] }, { accessFlags := 18, nameIndex := 38, descriptorIndex := 39, attributes := #[] }, { accessFlags := 18, nameIndex := 12, descriptorIndex := 13, attributes := #[] }, { accessFlags := 2, nameIndex := 143, descriptorIndex := 87, attributes := #[] }, { accessFlags := 2, nameIndex := 98, descriptorIndex := 87, attributes := #[] }, { accessFlags := 18, nameIndex := 21, descriptorIndex := 22, attributes := #[] }, { accessFlags := 18, nameIndex := 28, descriptorIndex := 29, attributes := #[] }, { accessFlags := 18, nameIndex := 32, descriptorIndex := 29, attributes := #[] }, { accessFlags := 2, nameIndex := 70, descriptorIndex := 71, attributes := #[] }, { accessFlags := 2, nameIndex := 86, descriptorIndex := 87, attributes := #[] }, { accessFlags := 2, nameIndex := 56, descriptorIndex := 53, attributes := #[] }, { accessFlags := 2, nameIndex := 52, descriptorIndex := 53, attributes := #[] }, { accessFlags := 18, nameIndex := 35, descriptorIndex := 13, attributes := #[] }])
  fields := #[{ name := "ID1", type := .int, accessFlags := 26, slot := 0, constantValue := 0 }, { name := "ID2", type := .int, accessFlags := 26, slot := 1, constantValue := 0 }, { name := "DEFLATE", type := .int, accessFlags := 26, slot := 2, constantValue := 0 }, { name := "FHCRC", type := .int, accessFlags := 26, slot := 3, constantValue := 0 }, { name := "FEXTRA", type := .int, accessFlags := 26, slot := 4, constantValue := 0 }, { name := "FNAME", type := .int, accessFlags := 26, slot := 5, constantValue := 0 }, { name := "FCOMMENT", type := .int, accessFlags := 26, slot := 6, constantValue := 0 }, { name := "RESERVED", type := .int, accessFlags := 26, slot := 7, constantValue := 0 }, { name := "SKIPPED", type := .int, accessFlags := 26, slot := 8, constantValue := 0 }, { name := "in", type := (.object "java/io/InputStream"), accessFlags := 18, slot := 0, constantValue := 0 }, { name := "buffer", type := (.array .byte), accessFlags := 18, slot := 1, constantValue := 0 }, { name := "start", type := .int, accessFlags := 2, slot := 2, constantValue := 0 }, { name := "end", type := .int, accessFlags := 2, slot := 3, constantValue := 0 }, { name := "inflater", type := (.object "java/util/zip/Inflater"), accessFlags := 18, slot := 4, constantValue := 0 }, { name := "dataCheck", type := (.object "java/util/zip/CRC32"), accessFlags := 18, slot := 5, constantValue := 0 }, { name := "headerCheck", type := (.object "java/util/zip/CRC32"), accessFlags := 18, slot := 6, constantValue := 0 }, { name := "length", type := .long, accessFlags := 2, slot := 7, constantValue := 0 }, { name := "member", type := .int, accessFlags := 2, slot := 8, constantValue := 0 }, { name := "inData", type := .boolean, accessFlags := 2, slot := 9, constantValue := 0 }, { name := "ended", type := .boolean, accessFlags := 2, slot := 10, constantValue := 0 }, { name := "single", type := (.array .byte), accessFlags := 18, slot := 11, constantValue := 0 }]
  methods := #[k5m0]
  instanceTypes := #[(.object "java/io/InputStream"), (.array .byte), .int, .int, (.object "java/util/zip/Inflater"), (.object "java/util/zip/CRC32"), (.object "java/util/zip/CRC32"), .long, .int, .boolean, .boolean, (.array .byte)]
  staticTypes := #[.int, .int, .int, .int, .int, .int, .int, .int, .int]
  resolved := Array.replicate 245 none
  statics := none }

def pool6 : Array CpInfo := pool [(1, u "java/lang/Cloneable"), (0, .class_ 1), (0, u "java/lang/Object"), (0, .class_ 3)] 3

/-- java/lang/Cloneable -/
def k6 : Class := { plain "java/lang/Cloneable" (some 0) with
  accessFlags := 1537
  interfaces := #[]
  cf := some (fileOf pool6 2 #[] #[] 1537 4 #[] #[])
  fields := #[]
  methods := #[]
  instanceTypes := #[]
  staticTypes := #[]
  resolved := Array.replicate 8 none
  statics := none }

def pool7 : Array CpInfo := pool [(1, u "java/io/Serializable"), (0, .class_ 1), (0, u "java/lang/Object"), (0, .class_ 3)] 3

/-- java/io/Serializable -/
def k7 : Class := { plain "java/io/Serializable" (some 0) with
  accessFlags := 1537
  interfaces := #[]
  cf := some (fileOf pool7 2 #[] #[] 1537 4 #[] #[])
  fields := #[]
  methods := #[]
  instanceTypes := #[]
  staticTypes := #[]
  resolved := Array.replicate 8 none
  statics := none }

/-- the primitive byte -/
def k8 : Class := { plain "byte" none with kind := .primitive 'B', accessFlags := 0x411 }
/-- [B -/
def k9 : Class := { plain "[B" (some 0) with kind := .array 8 .byte, interfaces := #[6, 7], accessFlags := 1041 }

/-- the primitive int -/
def k10 : Class := { plain "int" none with kind := .primitive 'I', accessFlags := 0x411 }
/-- [I -/
def k11 : Class := { plain "[I" (some 0) with kind := .array 10 .int, interfaces := #[6, 7], accessFlags := 1041 }

def heap : Heap := #[]
def classes : Array Class := #[k0, k1, k2, k3, k4, k5, k6, k7, k8, k9, k10, k11]
def interned : List (Array UInt16 × Addr) := []
def slotsUsed : Nat := 0
def theMethod : MethodId := ⟨1, 1⟩
def args0 : Array Value := #[.int 1, .int 1, .int 1, .int 1, .int 1]
def aboutOver (below : List Frame) : State where
  vm := { classes := classes, interned := interned.toArray }
  heap := heap
  slotsUsed := slotsUsed
  threads := #[{ frames := .invoking theMethod args0 :: below }]
def below0 : List Frame := [.native { method := ⟨0, 0⟩, args := #[] }]
def about1 : State := aboutOver below0
def p0 : Program := .bare "" "" ""
def e0 : Env := launch0.env 0 0 0
theorem w_frames : about1.frames = Frame.invoking theMethod args0 :: below0 := rfl
set_option maxRecDepth 65536 in
theorem w_args : argsFit about1.vm theMethod args0 = true := by decide +kernel
set_option maxRecDepth 65536 in
theorem w_heap : heapFits about1 = true := by decide +kernel
set_option maxRecDepth 65536 in
theorem w_runnable : about1.curStatus? = some .runnable := by decide +kernel
set_option maxRecDepth 65536 in
theorem w_alone : about1.alone = true := by decide +kernel
set_option maxRecDepth 65536 in
theorem w_named : about1.methodNamed? x = some theMethod := by decide +kernel
set_option maxRecDepth 65536 in
theorem w_hears : about1.hears theMethod below0 = true := by decide +kernel
set_option maxRecDepth 65536 in
theorem w_ripe : about1.ripe theMethod args0 below0 = true := by decide +kernel
theorem w_running : about1.status = .running := rfl
set_option maxRecDepth 65536 in
theorem w_room : about1.hasRoom e0.platform room_1 = true :=
  launch0.hasRoom_least _ room_1 (by decide +kernel) (by decide +kernel) (by decide +kernel) (by decide +kernel) (by decide +kernel) (by decide +kernel)
theorem allAtoms_all (ts : List Jvm.Cond) (a : Array Jvm.Value) (st : Jvm.State) : (allAtoms ts).before a st = ts.all (fun c => c.before a st) := by
  induction ts with
  | nil => rfl
  | cons c t ih =>
    show (Jvm.Cond.and c (allAtoms t)).before a st = _
    rw [Jvm.Cond.before_and, ih, List.all_cons]
def words1 : List Jvm.Cond := Jvm.Cond.code x code maxLocals ret :: tables_1
/-- a 'code' word, met by the world's own term for the bytes: nothing is compared byte by byte -/
theorem code_word {y : MethodName} {bytes : ByteArray} {mx : Nat} {rt : Option FieldType} {a : Array Value} {s : State} {m : MethodId} {meth : Method} {c : Code} (h1 : s.methodNamed? y = some m) (h2 : s.vm.method? m = some meth) (h3 : meth.code = some c) (h4 : c.code = bytes)
    (h5 : (c.maxLocals == mx && c.exceptionTable.isEmpty && decide (c.maxStack ≤ mostOperands) && decide (meth.sig.returnType = rt) && !meth.locks && decide (parseMethodDescriptor y.desc = some meth.sig)) = true) : (Jvm.Cond.code y bytes mx rt).before a s = true := by
  simp only [Bool.and_eq_true, beq_iff_eq, Bool.not_eq_true', decide_eq_true_eq] at h5
  obtain ⟨⟨⟨⟨⟨g1, g2⟩, g3⟩, g4⟩, g5⟩, g6⟩ := h5
  simp [Cond.before, Cond.holds, Cond.value, h1, h2, h3, h4, g1, g2, g3, g4, g5, g6]
def isCode : Jvm.Cond → Bool
  | .code _ _ _ _ => true
  | _ => false
theorem all_split {L : List Jvm.Cond} {P : Jvm.Cond → Bool} (h1 : L.all (fun c => isCode c || P c) = true) (h2 : ∀ c ∈ L.filter isCode, P c = true) : L.all P = true := by
  refine List.all_eq_true.mpr fun c hc => ?_
  have h := List.all_eq_true.mp h1 c hc
  rcases Bool.eq_false_or_eq_true (isCode c) with hi | hi
  · exact h2 c (List.mem_filter.mpr ⟨hc, hi⟩)
  · simpa [hi] using h
set_option maxRecDepth 65536 in
theorem w_c0 : (Jvm.Cond.code x code maxLocals ret).before args0 about1 = true := code_word (m := ⟨1, 1⟩) (meth := k1m1) (c := k1c1) (by decide +kernel) rfl rfl rfl (by decide +kernel)
set_option maxRecDepth 65536 in
theorem w_c1 : (Jvm.Cond.code ({ cls := "com/example/spillover/spillover/log/GzipMembers", name := "startsMember", desc := "([B)Z" } : Jvm.MethodName) prog_33_method_2_code (1 : Nat) (Option.some Jvm.ClassFile.FieldType.boolean)).before args0 about1 = true := code_word (m := ⟨5, 0⟩) (meth := k5m0) (c := k5c0) (by decide +kernel) rfl rfl rfl (by decide +kernel)
def codes1 : List Jvm.Cond := [Jvm.Cond.code x code maxLocals ret, Jvm.Cond.code ({ cls := "com/example/spillover/spillover/log/GzipMembers", name := "startsMember", desc := "([B)Z" } : Jvm.MethodName) prog_33_method_2_code (1 : Nat) (Option.some Jvm.ClassFile.FieldType.boolean)]
set_option maxRecDepth 65536 in
theorem codes_eq : words1.filter isCode = codes1 := rfl
theorem w_codes : ∀ c ∈ words1.filter isCode, c.before args0 about1 = true := by
  rw [codes_eq]
  intro c hc
  simp only [codes1, List.mem_cons, List.not_mem_nil, or_false] at hc
  rcases hc with rfl | rfl
  · exact w_c0
  · exact w_c1
set_option maxRecDepth 65536 in
theorem w_t1 : words1.all (fun c => isCode c || c.before args0 about1) = true := by decide +kernel
theorem w_tables : (allAtoms (Jvm.Cond.code x code maxLocals ret :: tables_1)).before args0 about1 = true := by
  rw [allAtoms_all]
  show words1.all (fun c => c.before args0 about1) = true
  refine all_split ?_ w_codes
  rw [w_t1]
set_option maxRecDepth 65536 in
theorem w_case : (Jvm.Cond.and given_1 narrow_1).before args0 about1 = true := by decide +kernel
theorem w_applies : (headSpec (Jvm.Cond.code x code maxLocals ret :: tables_1) room_1).applies x e0.platform about1 = true :=
  (Spec.applies_iff w_frames).mpr ⟨w_running, w_runnable, w_alone, w_named, w_hears, w_ripe, w_room, w_tables⟩
theorem atStart : AtStart classFile x code maxLocals ret World_1 tables_1 room_1 Calls_1 rest_1 Pre_1 launch0 p0 e0 about1 theMethod args0 below0 :=
  ⟨lists_1, trivial, launch0.admits_env _ _ _, launch0.least_env, fairChoices_fair.cas, fairChoices_fair.clock, w_frames, w_args, w_heap, w_applies, trivial, trivial, w_case⟩
end start1
theorem witness_1 : WitnessClaimed_1 := ⟨start1.p0, start1.e0, start1.about1, start1.theMethod, start1.args0, start1.below0, start1.atStart⟩
end Jvm.Pilot.@@N@@
