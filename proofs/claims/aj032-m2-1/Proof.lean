import JvmDerived
import JvmDerived.Pilot.@@N@@Statement
import JvmDerived.Pilot.@@N@@Code
set_option linter.unusedVariables false
set_option linter.unusedSimpArgs false
namespace Jvm.Pilot.@@N@@
open Jvm Jvm.ClassFile Sem Op Lib Jvm.Free Jvm.Stand Jvm.LawKit Jvm.RoadKit Bundle Jvm.Pilot.@@N@@.Jvm.D
/-! own kit: 'from this state the body comes to its end as asked', so that a walk may fork and join -/
def own_Rch (p : Program) (e : Env) (below : List Frame) (F : Outcome → State → Prop) (S : State) : Prop :=
  ∃ s₂ o, Steps p.tables e below S s₂ ∧ s₂.status = .running ∧ Ended s₂ below o ∧ F o s₂
theorem own_go {p : Program} {e : Env} {below : List Frame} {F : Outcome → State → Prop} {S S' : State}
    (h : ∀ t, Steps p.tables e below S' t → Steps p.tables e below S t) (k : own_Rch p e below F S') : own_Rch p e below F S := by
  obtain ⟨a, b, c, d⟩ := k
  exact ⟨a, b, h _ c, d⟩
theorem own_cast {p : Program} {e : Env} {below : List Frame} {F : Outcome → State → Prop} {T : State} {g g' : JFrame} (q : g = g')
    (k : own_Rch p e below F (T.setTop g')) : own_Rch p e below F (T.setTop g) := q ▸ k
theorem own_join {p : Program} {e : Env} {below : List Frame} {F : Outcome → State → Prop} {S S' : State} (h : own_Rch p e below F S' → own_Rch p e below F S) (k : own_Rch p e below F S') : own_Rch p e below F S := h k
theorem own_narR {v : Value} {c : String} (h : v.isRef = true) : narrow (.object c) v = v := by rcases ref_cases h with rfl | ⟨_, rfl⟩ <;> rfl
theorem own_fitR {v : Value} {c : String} (h : v.isRef = true) : fits (.object c) v = true := by rcases ref_cases h with rfl | ⟨_, rfl⟩ <;> rfl
theorem own_staK {Z : State} {h h' : Heap} {C n d : String} {w : Value} (F : Sta Z h C n d w) (K : Keep h h' []) : Sta Z h' C n d w := by
  obtain ⟨cf, i, k, f, st, cell, h1, h2, h3, h4, h5, r⟩ := F
  exact ⟨cf, i, k, f, st, cell, h1, h2, h3, h4, K.2.1 _ _ h5 nin0, r⟩
def own_Fin (s : State) (k n : Nat) (Q : Option Value → Heap → List Loc → Prop) (o : Outcome) (t : State) : Prop :=
  ∃ v L, o = .returned v ∧ Q v t.heap L ∧ FrameEnd s o t L k n
def own_Ctr (l : Launch) (Z : State) (y : MethodName) (bytes : ByteArray) (maxL : Nat) (ret : Option FieldType) (ws : List Jvm.Cond) (rm : Room) (h0 : Heap) (as' : Array Value)
    (Q : Option Value → Heap → List Loc → Prop) : Prop :=
  MetFree l y (head1 (Jvm.Cond.code y bytes maxL ret :: ws) rm) (fun a U => a = as' ∧ Z.Warmed39 U.vm ∧ U.heap = h0) (fun _ _ _ _ _ => True) (fun _ U o U' => ∃ v L, o = .returned v ∧ Q v U'.heap L ∧ FrameEnd U o U' L rm.cells rm.slots)
theorem own_ctr {l : Launch} {Z : State} {y : MethodName} {bytes : ByteArray} {maxL : Nat} {ret : Option FieldType} {ws : List Jvm.Cond} {rm : Room} {h0 : Heap} {as' : Array Value}
    {Q : Option Value → Heap → List Loc → Prop} (hp : plainFor y = true)
    (body : ∀ p e s m below meth c s₁, BodyLoose p l y (head1 (Jvm.Cond.code y bytes maxL ret :: ws) rm) bytes maxL ret e s m as' below meth c s₁ → c.maxLocals = maxL → p.tables.exec = Jvm.exec → c.code = bytes →
      Z.Warmed39 s.vm → s.vm.findClass y.cls = some m.cls → Stand p l e rm s m as' below meth c s₁ [] 0 0 → s₁.heap = h0 →
      own_Rch p e below (own_Fin s rm.cells rm.slots Q) (s₁.setTop (entryFrame m as' maxL))) : own_Ctr l Z y bytes maxL ret ws rm h0 as' Q := by
  refine MetFree.of_bodySF hp hisR ?_
  intro p e s m args below meth c s₁ Bd hml hP hK
  obtain ⟨rfl, hZ, hh⟩ := hP
  exact body p e s m below meth c s₁ Bd hml Bd.exec Bd.bytes hZ (findClass_of_methodNamed Bd.named) (Stand.of_body Bd) (by rw [← hh, Bd.state]; rfl)
section OwnKit
variable {p : Program} {l : Launch} {e : Env} {R : Room} {s : State} {m : MethodId} {args : Array Value} {below : List Frame} {meth : Method} {c : Code} {T : State} {locs : List Loc} {cells slots : Nat} {Z : State} {a0 : Array Value}
theorem own_retI0 (X : Stand p l e R s m args below meth c T locs cells slots) (hx : p.tables.exec = Jvm.exec) {pc : Nat} {Ls : Array Slot} {z : Int32} {rest : List Value} (hret : meth.sig.returnType = some .int) (hd : decode c.code pc = .ok (.ireturn, 1)) {fs : List Frame}
    (hl : ∀ (f : JFrame) (acts : List Action), f.method = m → f.locked = none → f.entered = [] → (doReturn e (T.setTop f) acts (some (.int z))).1 = T.setFrames fs) : Steps p.tables e below (T.setTop (mkF m pc Ls (.int z :: rest))) (T.setFrames fs) :=
  retOut X hx hret rfl (Or.inl ⟨rfl, Or.inl rfl, z, rfl⟩) hd hl
theorem own_retN {K N : Nat} {Q : Option Value → Heap → List Loc → Prop} (X : Stand p l e R s m args below meth c T locs cells slots) (hx : p.tables.exec = Jvm.exec) {pc : Nat} {Ls : Array Slot} {z w : Int32} {t : FieldType} {rest : List Value}
    (hret : meth.sig.returnType = some t) (hlocks : meth.locks = false) (ht : t = .boolean ∨ t = .byte ∨ t = .char ∨ t = .short) (hd : decode c.code pc = .ok (.ireturn, 1)) (hw : nar t z = w) (hK : cells ≤ K) (hN : slots ≤ N)
    (hq : Q (some (.int w)) T.heap locs) : own_Rch p e below (own_Fin s K N Q) (T.setTop (mkF m pc Ls (.int z :: rest))) := by
  subst hw
  obtain ⟨fs, hr, hrun, hended, hW, hsame⟩ := X.leave (v := some (.int (nar t z))) (fun h => by rw [hret] at h; cases h) hlocks
  exact ⟨_, _, retN X hx hret ht hd hr, hrun, hended, _, _, rfl, hq, ⟨_, rfl⟩, hW, hsame.mono hK hN⟩
theorem own_retI {K N : Nat} {Q : Option Value → Heap → List Loc → Prop} (X : Stand p l e R s m args below meth c T locs cells slots) (hx : p.tables.exec = Jvm.exec) {pc : Nat} {Ls : Array Slot} {z : Int32} {rest : List Value}
    (hret : meth.sig.returnType = some .int) (hlocks : meth.locks = false) (hd : decode c.code pc = .ok (.ireturn, 1)) (hK : cells ≤ K) (hN : slots ≤ N)
    (hq : Q (some (.int z)) T.heap locs) : own_Rch p e below (own_Fin s K N Q) (T.setTop (mkF m pc Ls (.int z :: rest))) := by
  obtain ⟨fs, hr, hrun, hended, hW, hsame⟩ := X.leave (v := some (.int z)) (fun h => by rw [hret] at h; cases h) hlocks
  exact ⟨_, _, own_retI0 X hx hret hd hr, hrun, hended, _, _, rfl, hq, ⟨_, rfl⟩, hW, hsame.mono hK hN⟩
theorem own_retJ {K N : Nat} {Q : Option Value → Heap → List Loc → Prop} (X : Stand p l e R s m args below meth c T locs cells slots) (hx : p.tables.exec = Jvm.exec) {pc : Nat} {Ls : Array Slot} {z : Int64} {rest : List Value}
    (hret : meth.sig.returnType = some .long) (hlocks : meth.locks = false) (hd : decode c.code pc = .ok (.lreturn, 1)) (hK : cells ≤ K) (hN : slots ≤ N)
    (hq : Q (some (.long z)) T.heap locs) : own_Rch p e below (own_Fin s K N Q) (T.setTop (mkF m pc Ls (.long z :: rest))) := by
  obtain ⟨fs, hr, hrun, hended, hW, hsame⟩ := X.leave (v := some (.long z)) (fun h => by rw [hret] at h; cases h) hlocks
  exact ⟨_, _, retOut X hx hret rfl (Or.inr (Or.inl ⟨rfl, rfl, z, rfl⟩)) hd hr, hrun, hended, _, _, rfl, hq, ⟨_, rfl⟩, hW, hsame.mono hK hN⟩
theorem own_retA {K N : Nat} {Q : Option Value → Heap → List Loc → Prop} (X : Stand p l e R s m args below meth c T locs cells slots) (hx : p.tables.exec = Jvm.exec) {pc : Nat} {Ls : Array Slot} {w : Value} {t : FieldType} {rest : List Value}
    (hret : meth.sig.returnType = some t) (hlocks : meth.locks = false) (ht : t.isReference = true) (hw : w.isRef = true) (hn : narrow t w = w) (hd : decode c.code pc = .ok (.areturn, 1)) (hK : cells ≤ K) (hN : slots ≤ N)
    (hq : Q (some w) T.heap locs) : own_Rch p e below (own_Fin s K N Q) (T.setTop (mkF m pc Ls (w :: rest))) := by
  obtain ⟨fs, hr, hrun, hended, hW, hsame⟩ := X.leave (v := some w) (fun h => by rw [hret] at h; cases h) hlocks
  exact ⟨_, _, retOut X hx hret hn (Or.inr (Or.inr (Or.inr (Or.inr ⟨rfl, ht, hw⟩)))) hd hr, hrun, hended, _, _, rfl, hq, ⟨_, rfl⟩, hW, hsame.mono hK hN⟩
theorem own_ret0 {K N : Nat} {Q : Option Value → Heap → List Loc → Prop} (X : Stand p l e R s m args below meth c T locs cells slots) (hx : p.tables.exec = Jvm.exec) {pc : Nat} {Ls : Array Slot}
    (hret : meth.sig.returnType = none) (hlocks : meth.locks = false) (hd : decode c.code pc = .ok (.return_, 1)) (hK : cells ≤ K) (hN : slots ≤ N)
    (hq : Q none T.heap locs) : own_Rch p e below (own_Fin s K N Q) (T.setTop (mkF m pc Ls [])) := by
  obtain ⟨fs, hr, hrun, hended, hW, hsame⟩ := X.leave (v := none) (fun _ => rfl) hlocks
  exact ⟨_, _, X.returnOut hx hret hd hr, hrun, hended, _, _, rfl, hq, ⟨_, rfl⟩, hW, hsame.mono hK hN⟩
theorem own_callS (X : Stand p l e R s m args below meth c T locs cells slots) (hx : p.tables.exec = Jvm.exec) (hZ : Z.Warmed39 s.vm) {own : String} {index : Nat} {y : MethodName} {bytes : ByteArray} {maxL : Nat} {ret : Option FieldType}
    (hown : s.vm.findClass own = some m.cls) (w1 : (Jvm.Cond.methodLink own index y).before a0 Z = true) (w2 : (Jvm.Cond.static y).before a0 Z = true) (w3 : (Jvm.Cond.initialized y.cls).before a0 Z = true) (w4 : (Jvm.Cond.code y bytes maxL ret).before a0 Z = true)
    (hy : y.cls ≠ "java/lang/invoke/MethodHandle" ∧ y.cls ≠ "java/lang/invoke/VarHandle") {rm : Room} {h : Heap} {as' : Array Value} {Q : Option Value → Heap → List Loc → Prop} (hM : own_Ctr l Z y bytes maxL ret [] rm h as' Q) (eT : T.heap = h)
    {W : Nat} (hf : rm.frames + 1 ≤ R.frames) (hl : W + (maxL + 11) + rm.locals ≤ R.locals) {g : JFrame} (hg : g.method = m) (hsize : g.locals.size = c.maxLocals) {argsL rest : List Value}
    (hlen : ∀ sig, parseMethodDescriptor y.desc = some sig → argsL.length = sig.parameters.length) (hstack : g.stack = argsL.reverse ++ rest) (has : argsL.toArray = as') (hW : 2 * g.monitorRoom + (rest.map fun v => v.category).sum = W)
    (hdg : decode c.code g.pc = .ok (.invokestatic index, 3)) (hc : cells + rm.cells ≤ R.cells) (hs : slots + rm.slots ≤ R.slots) :
    ∃ v T' L, Stand p l e R s m args below meth c T' (locs ++ L) (cells + rm.cells) (slots + rm.slots) ∧ Q v T'.heap L ∧
      ∀ t, Steps p.tables e below (T'.setTop { g with pc := g.pc + 3, stack := v.toList ++ rest }) t → Steps p.tables e below (T.setTop g) t := by
  obtain ⟨v, _, ⟨T', L', k', n'⟩, -, X', ⟨Lc, hQ, l', y', z'⟩, st⟩ := Jvm.LawKit.callS X hx hown (mvT hZ w1) (mvT hZ w2) (mvT hZ w3) (mvT hZ w4) hy (backOf (Q := Q) (W := W) hM hZ w4 w3 hf hl) hg hsize hlen hstack (Nat.le_of_eq hW) hdg (fun _ _ => ⟨has, eT, hc, hs⟩)
  dsimp only [Pt.U, Pt.locs, Pt.cells, Pt.slots] at X' l' y' z' st hQ
  subst l' y' z'
  exact ⟨v, T', Lc, X', hQ, st⟩
theorem own_callC (X : Stand p l e R s m args below meth c T locs cells slots) (hx : p.tables.exec = Jvm.exec) (hZ : Z.Warmed39 s.vm) {own : String} {index : Nat} {y : MethodName} {bytes : ByteArray} {maxL : Nat} (hy1 : y.name = "<init>")
    (hown : s.vm.findClass own = some m.cls) (w1 : (Jvm.Cond.methodLink own index y).before a0 Z = true) (w2 : (Jvm.Cond.instanceMethod y).before a0 Z = true) (w3 : (Jvm.Cond.initialized y.cls).before a0 Z = true) (w4 : (Jvm.Cond.code y bytes maxL none).before a0 Z = true)
    (hy : y.cls ≠ "java/lang/invoke/MethodHandle" ∧ y.cls ≠ "java/lang/invoke/VarHandle") {rm : Room} {h : Heap} {as' : Array Value} {Q : Option Value → Heap → List Loc → Prop} (hM : own_Ctr l Z y bytes maxL none [] rm h as' Q) (eT : T.heap = h)
    {W : Nat} (hf : rm.frames + 1 ≤ R.frames) (hl : W + (maxL + 11) + rm.locals ≤ R.locals) {g : JFrame} (hg : g.method = m) (hsize : g.locals.size = c.maxLocals) {a : Addr} {argsL rest : List Value}
    (hlen : ∀ sig, parseMethodDescriptor y.desc = some sig → argsL.length = sig.parameters.length) (hstack : g.stack = argsL.reverse ++ .ref a :: rest) (has : (.ref a :: argsL).toArray = as') (hW : 2 * g.monitorRoom + (rest.map fun v => v.category).sum = W)
    (hdg : decode c.code g.pc = .ok (.invokespecial index, 3)) (hc : cells + rm.cells ≤ R.cells) (hs : slots + rm.slots ≤ R.slots) :
    ∃ v T' L, Stand p l e R s m args below meth c T' (locs ++ L) (cells + rm.cells) (slots + rm.slots) ∧ Q v T'.heap L ∧
      ∀ t, Steps p.tables e below (T'.setTop { g with pc := g.pc + 3, stack := v.toList ++ rest }) t → Steps p.tables e below (T.setTop g) t := by
  obtain ⟨v, _, ⟨T', L', k', n'⟩, -, X', ⟨Lc, hQ, l', y', z'⟩, st⟩ := X.specialBack hx hy1 hown (mvT hZ w1) (mvT hZ w2) (mvT hZ w4) hy (backOf (Q := Q) (W := W) hM hZ w4 w3 hf hl) hg hsize (Steps.refl _) hlen hstack (Nat.le_of_eq hW) hdg (fun _ _ => ⟨has, eT, hc, hs⟩)
  dsimp only [Pt.U, Pt.locs, Pt.cells, Pt.slots] at X' l' y' z' st hQ
  subst l' y' z'
  exact ⟨v, T', Lc, X', hQ, fun t k => st.trans k⟩
theorem own_callV (X : Stand p l e R s m args below meth c T locs cells slots) (hx : p.tables.exec = Jvm.exec) (hZ : Z.Warmed39 s.vm) {own C : String} {index : Nat} {y z : MethodName} {bytes : ByteArray} {maxL : Nat} {ret : Option FieldType}
    (hown : s.vm.findClass own = some m.cls) (w1 : (Jvm.Cond.methodLink own index y).before a0 Z = true) (w2 : (Jvm.Cond.declares y).before a0 Z = true) (nf : NotFace s y) (w5 : (Jvm.Cond.selects C y z).before a0 Z = true) (w6 : (Jvm.Cond.instanceMethod z).before a0 Z = true)
    (w3 : (Jvm.Cond.initialized z.cls).before a0 Z = true) (w4 : (Jvm.Cond.code z bytes maxL ret).before a0 Z = true)
    (hy : y.cls ≠ "java/lang/invoke/MethodHandle" ∧ y.cls ≠ "java/lang/invoke/VarHandle") {rm : Room} {h : Heap} {as' : Array Value} {Q : Option Value → Heap → List Loc → Prop} (hM : own_Ctr l Z z bytes maxL ret [] rm h as' Q) (eT : T.heap = h)
    {b : Addr} (E : Exa Z h b C)
    {W : Nat} (hf : rm.frames + 1 ≤ R.frames) (hl : W + (maxL + 11) + rm.locals ≤ R.locals) {g : JFrame} (hg : g.method = m) (hsize : g.locals.size = c.maxLocals) {argsL rest : List Value}
    (hlen : ∀ sig, parseMethodDescriptor y.desc = some sig → argsL.length = sig.parameters.length) (hstack : g.stack = argsL.reverse ++ .ref b :: rest) (has : (.ref b :: argsL).toArray = as') (hW : 2 * g.monitorRoom + (rest.map fun v => v.category).sum = W)
    (hdg : decode c.code g.pc = .ok (.invokevirtual index, 3)) (hc : cells + rm.cells ≤ R.cells) (hs : slots + rm.slots ≤ R.slots) :
    ∃ v T' L, Stand p l e R s m args below meth c T' (locs ++ L) (cells + rm.cells) (slots + rm.slots) ∧ Q v T'.heap L ∧
      ∀ t, Steps p.tables e below (T'.setTop { g with pc := g.pc + 3, stack := v.toList ++ rest }) t → Steps p.tables e below (T.setTop g) t := by
  obtain ⟨cq, kq, qa, qb, qc⟩ := isOf hZ eT E
  obtain ⟨v, _, ⟨T', L', k', n'⟩, -, X', ⟨Lc, hQ, l', y', z'⟩, st⟩ := X.virtualBack hx hown (mvT hZ w1) (mvT hZ w2) nf (mvT hZ w5) (mvT hZ w6) hy (backOf (Q := Q) (W := W) hM hZ w4 w3 hf hl) qa qc hg hsize (Steps.refl _) hlen hstack (Nat.le_of_eq hW) hdg (fun _ _ => ⟨has, eT, hc, hs⟩)
  dsimp only [Pt.U, Pt.locs, Pt.cells, Pt.slots] at X' l' y' z' st hQ
  subst l' y' z'
  exact ⟨v, T', Lc, X', hQ, fun t k => st.trans k⟩
end OwnKit
def own_pk (f r : Int64) (s : Int32) (m : Int64) : Int64 := if s = (3 : Int32) then (r &&& m) else ((f + (s - (1 : Int32)).toInt64) &&& m)
def own_tk (r q l : Int64) : Int32 := if (0 : Int32) < (lcmpW (r + q) l) then 0 else 1
def own_tr (r q l : Int64) : Int64 := if (0 : Int32) < (lcmpW (r + q) l) then r else (r + q)
theorem own_tr1 {q l ra : Int64} {e1 : Int32} (he : e1 = if (0 : Int32) < (lcmpW q l) then 0 else 1) (hr : ra = if e1 = (0 : Int32) then (0 : Int64) else q) : own_tr 0 q l = ra := by
  rw [own_tr, Int64.zero_add]
  subst hr he
  by_cases h : (0 : Int32) < (lcmpW q l)
  · rw [if_pos h, if_pos h, if_pos rfl]
  · rw [if_neg h, if_neg h, if_neg (by decide)]
theorem own_tr2 {r q l rb : Int64} {e1 : Int32} (he : e1 = if (0 : Int32) < (lcmpW (r + q) l) then 0 else 1) (hr : rb = if e1 = (0 : Int32) then r else (r + q)) : own_tr r q l = rb := by
  rw [own_tr]
  subst hr he
  by_cases h : (0 : Int32) < (lcmpW (r + q) l)
  · rw [if_pos h, if_pos h, if_pos rfl]
  · rw [if_neg h, if_neg h, if_neg (by decide)]
theorem own_tk1 {q l : Int64} {e1 : Int32} (he : e1 = if (0 : Int32) < (lcmpW q l) then 0 else 1) : own_tk 0 q l = e1 := by rw [own_tk, Int64.zero_add, he]
theorem own_tk2 {r q l : Int64} {e1 : Int32} (he : e1 = if (0 : Int32) < (lcmpW (r + q) l) then 0 else 1) : own_tk r q l = e1 := by rw [own_tk, he]
theorem own_d1_0 : decode prog_27_method_1_code 0 = .ok (.aload_n 0, 1) := by decide +kernel
theorem own_d1_1 : decode prog_27_method_1_code 1 = .ok (.invokespecial 1, 3) := by decide +kernel
theorem own_d1_4 : decode prog_27_method_1_code 4 = .ok (.aload_n 0, 1) := by decide +kernel
theorem own_d1_5 : decode prog_27_method_1_code 5 = .ok (.lload_n 1, 1) := by decide +kernel
theorem own_d1_6 : decode prog_27_method_1_code 6 = .ok (.putfield 7, 3) := by decide +kernel
theorem own_d1_9 : decode prog_27_method_1_code 9 = .ok (.return_, 1) := by decide +kernel
theorem own_c1_ef (m : MethodId) (x0 : Addr) (x1 : Int64) : entryFrame m #[(.ref x0), (.long x1)] 3 = mkF m 0 #[.val (.ref x0), .val (.long x1), .second] [] := by first | (simp [entryFrame, mkF, argsToLocals, Value.category]; done) | rfl
theorem own_pn0 : plainName "com/example/coherd/coherd/node/ReckonedMemory" = true := by first | (simp [plainName, overriddenIn]; done) | decide +kernel
set_option maxRecDepth 65536 in
set_option maxHeartbeats 40000000 in
theorem own_c1 (l : Launch) (Z : State) (a0 : Array Value) (hw : ∀ d ∈ tables_1, d.before a0 Z = true) (ws : List Jvm.Cond) (a1 : Addr) (q2 : Int64) (h0 : Heap) (n0 : Nat) (Z0 : n0 ≤ h0.size) (F1 : Fld Z h0 a1 "com/example/coherd/coherd/node/ReckonedMemory" "limit" "J" (.long 0)) (F2 : Fld Z h0 a1 "com/example/coherd/coherd/node/ReckonedMemory" "reckoned" "J" (.long 0)) (E : Exa Z h0 a1 "com/example/coherd/coherd/node/ReckonedMemory") (g : n0 ≤ a1) :
    own_Ctr l Z (⟨"com/example/coherd/coherd/node/ReckonedMemory", "<init>", "(J)V"⟩ : MethodName) prog_27_method_1_code 3 none ws ({ frames := 1, cells := 0, slots := 0, locals := 12 } : Room) h0 #[(.ref a1), (.long q2)] (fun v h L => v = none ∧ Fr n0 L ∧ Keep h0 h [a1] ∧ Exa Z h a1 "com/example/coherd/coherd/node/ReckonedMemory" ∧ Fld Z h a1 "com/example/coherd/coherd/node/ReckonedMemory" "limit" "J" (.long q2) ∧ Fld Z h a1 "com/example/coherd/coherd/node/ReckonedMemory" "reckoned" "J" (.long 0)) := by
  refine own_ctr (plainFor_of_name own_pn0) ?_
  intro p e s m below meth c s₁ Bd hml0 hx hby hZ hown0 X0 e0
  have hml : c.maxLocals = 3 := hml0
  have hown : s.vm.findClass "com/example/coherd/coherd/node/ReckonedMemory" = some m.cls := hown0
  have hnm := (name_of_methodNamed Bd.named Bd.method).1
  have N0 := Fr.nil n0
  refine own_cast (own_c1_ef m a1 q2) ?_
  refine own_go (S' := (s₁.setTop (mkF m 1 #[.val (.ref a1), .val (.long q2), .second] [(.ref a1)]))) (fun t k => ?_) ?_
  · refine XS.aloadN X0.here hx rfl (hb hby own_d1_0) rfl rfl ?_
    show Steps p.tables e below (s₁.setTop (mkF m 1 #[.val (.ref a1), .val (.long q2), .second] [(.ref a1)])) _
    exact k
  obtain ⟨T1, X1, e1, st1⟩ := initO X0 hx hZ hown (hw _ (List.mem_of_getElem? (i := 7) rfl)) (hw _ (List.mem_of_getElem? (i := 8) rfl)) (hw _ (List.mem_of_getElem? (i := 9) rfl)) e0 (g := (mkF m 1 #[.val (.ref a1), .val (.long q2), .second] [(.ref a1)])) rfl (by rw [hml]; rfl) rfl (hb hby own_d1_1) (by decide) (W := 0) (by show 2 * 0 + _ ≤ _; exact Nat.le_of_eq rfl) (by decide)
  refine own_go st1 ?_
  show own_Rch p e below _ (T1.setTop (mkF m 4 #[.val (.ref a1), .val (.long q2), .second] []))
  refine own_go (S' := (T1.setTop (mkF m 6 #[.val (.ref a1), .val (.long q2), .second] [(.long q2), (.ref a1)]))) (fun t k => ?_) ?_
  · refine XS.aloadN X1.here hx rfl (hb hby own_d1_4) rfl rfl ?_
    show Steps p.tables e below (T1.setTop (mkF m 5 #[.val (.ref a1), .val (.long q2), .second] [(.ref a1)])) _
    refine XS.lloadN X1.here hx rfl (hb hby own_d1_5) rfl ?_
    show Steps p.tables e below (T1.setTop (mkF m 6 #[.val (.ref a1), .val (.long q2), .second] [(.long q2), (.ref a1)])) _
    exact k
  obtain ⟨T2, h2, X2, e2, W2, st2⟩ := putF X1 hx hZ hown (host := "") (Or.inl (hw _ (List.mem_of_getElem? (i := 10) rfl))) Via.refl e1 F1 E (Or.inr ⟨(hw _ (List.mem_of_getElem? (i := 11) rfl)), rfl, hnm⟩) (hw _ (List.mem_of_getElem? (i := 2) rfl)) (ty := .long) (by decide) rfl rfl (g := (mkF m 6 #[.val (.ref a1), .val (.long q2), .second] [(.long q2), (.ref a1)])) rfl rfl (hb hby own_d1_6)
  refine own_go st2 ?_
  have N2 := Fr.snoc X2 N0 g
  show own_Rch p e below _ (T2.setTop (mkF m 9 #[.val (.ref a1), .val (.long q2), .second] []))
  refine own_ret0 X2 hx Bd.returns Bd.notSynchronized (hb hby own_d1_9) (by decide) (by decide) ?_
  try rw [e2]
  exact ⟨rfl, N2, (Keep.refl h0 [a1]).wr W2 (Or.inl (List.mem_of_getElem? (i := 0) rfl)), E.wr W2, F1.same W2, F2.other W2 (Or.inr (slot_ne (Or.inl (hw _ (List.mem_of_getElem? (i := 22) rfl))) (Or.inr (hw _ (List.mem_of_getElem? (i := 11) rfl))) (by decide) (t := .long) (t' := .long) (by decide) (by decide)))⟩
theorem own_d3_0 : decode method_2_code 0 = .ok (.iload 4, 2) := by decide +kernel
theorem own_d3_2 : decode method_2_code 2 = .ok (.iconst 3, 1) := by decide +kernel
theorem own_d3_3 : decode method_2_code 3 = .ok (.if_icmp .ne 8, 3) := by decide +kernel
theorem own_d3_6 : decode method_2_code 6 = .ok (.lload_n 2, 1) := by decide +kernel
theorem own_d3_7 : decode method_2_code 7 = .ok (.lload 5, 2) := by decide +kernel
theorem own_d3_9 : decode method_2_code 9 = .ok (.land, 1) := by decide +kernel
theorem own_d3_10 : decode method_2_code 10 = .ok (.lreturn, 1) := by decide +kernel
theorem own_d3_11 : decode method_2_code 11 = .ok (.lload_n 0, 1) := by decide +kernel
theorem own_d3_12 : decode method_2_code 12 = .ok (.iload 4, 2) := by decide +kernel
theorem own_d3_14 : decode method_2_code 14 = .ok (.iconst 1, 1) := by decide +kernel
theorem own_d3_15 : decode method_2_code 15 = .ok (.isub, 1) := by decide +kernel
theorem own_d3_16 : decode method_2_code 16 = .ok (.i2l, 1) := by decide +kernel
theorem own_d3_17 : decode method_2_code 17 = .ok (.ladd, 1) := by decide +kernel
theorem own_d3_18 : decode method_2_code 18 = .ok (.lload 5, 2) := by decide +kernel
theorem own_d3_20 : decode method_2_code 20 = .ok (.land, 1) := by decide +kernel
theorem own_d3_21 : decode method_2_code 21 = .ok (.lreturn, 1) := by decide +kernel
theorem own_c3_ef (m : MethodId) (x0 : Int64) (x1 : Int64) (x2 : Int32) (x3 : Int64) : entryFrame m #[(.long x0), (.long x1), (.int x2), (.long x3)] 7 = mkF m 0 #[.val (.long x0), .second, .val (.long x1), .second, .val (.int x2), .val (.long x3), .second] [] := by first | (simp [entryFrame, mkF, argsToLocals, Value.category]; done) | rfl
theorem own_pn1 : plainName "com/example/coherd/coherd/node/ReckonedMemoryTakePinLaw" = true := by first | (simp [plainName, overriddenIn]; done) | decide +kernel
set_option maxRecDepth 65536 in
set_option maxHeartbeats 40000000 in
theorem own_c3 (l : Launch) (Z : State) (a0 : Array Value) (hw : ∀ d ∈ tables_1, d.before a0 Z = true) (ws : List Jvm.Cond) (q1 q2 : Int64) (p3 : Int32) (q4 : Int64) (h0 : Heap) (n0 : Nat) (Z0 : n0 ≤ h0.size) :
    own_Ctr l Z (⟨"com/example/coherd/coherd/node/ReckonedMemoryTakePinLaw", "pick", "(JJIJ)J"⟩ : MethodName) method_2_code 7 (some .long) ws ({ frames := 0, cells := 0, slots := 0, locals := 0 } : Room) h0 #[(.long q1), (.long q2), (.int p3), (.long q4)] (fun v h L => v = some (.long (own_pk q1 q2 p3 q4)) ∧ Fr n0 L ∧ h = h0) := by
  refine own_ctr (plainFor_of_name own_pn1) ?_
  intro p e s m below meth c s₁ Bd hml0 hx hby hZ hown0 X0 e0
  have hml : c.maxLocals = 7 := hml0
  have hown : s.vm.findClass "com/example/coherd/coherd/node/ReckonedMemoryTakePinLaw" = some m.cls := hown0
  have hnm := (name_of_methodNamed Bd.named Bd.method).1
  have N0 := Fr.nil n0
  refine own_cast (own_c3_ef m q1 q2 p3 q4) ?_
  refine own_go (S' := (s₁.setTop (mkF m 3 #[.val (.long q1), .second, .val (.long q2), .second, .val (.int p3), .val (.long q4), .second] [(.int (3 : Int32)), (.int p3)]))) (fun t k => ?_) ?_
  · refine XS.iload X0.here hx rfl (hb hby own_d3_0) rfl ?_
    show Steps p.tables e below (s₁.setTop (mkF m 2 #[.val (.long q1), .second, .val (.long q2), .second, .val (.int p3), .val (.long q4), .second] [(.int p3)])) _
    refine XS.iconst X0.here hx rfl (hb hby own_d3_2) ?_
    show Steps p.tables e below (s₁.setTop (mkF m 3 #[.val (.long q1), .second, .val (.long q2), .second, .val (.int p3), .val (.long q4), .second] [(.int (3 : Int32)), (.int p3)])) _
    exact k
  by_cases h1 : p3 = (3 : Int32)
  · skip
    refine own_go (S' := (s₁.setTop (mkF m 10 #[.val (.long q1), .second, .val (.long q2), .second, .val (.int p3), .val (.long q4), .second] [(.long (q2 &&& q4))]))) (fun t k => ?_) ?_
    · refine XS.icmpNo X0.here hx rfl (hb hby own_d3_3) rfl (teq h1).2 ?_
      show Steps p.tables e below (s₁.setTop (mkF m 6 #[.val (.long q1), .second, .val (.long q2), .second, .val (.int p3), .val (.long q4), .second] [])) _
      refine XS.lloadN X0.here hx rfl (hb hby own_d3_6) rfl ?_
      show Steps p.tables e below (s₁.setTop (mkF m 7 #[.val (.long q1), .second, .val (.long q2), .second, .val (.int p3), .val (.long q4), .second] [(.long q2)])) _
      refine XS.lload X0.here hx rfl (hb hby own_d3_7) rfl ?_
      show Steps p.tables e below (s₁.setTop (mkF m 9 #[.val (.long q1), .second, .val (.long q2), .second, .val (.int p3), .val (.long q4), .second] [(.long q4), (.long q2)])) _
      refine XS.land X0.here hx rfl (hb hby own_d3_9) rfl ?_
      show Steps p.tables e below (s₁.setTop (mkF m 10 #[.val (.long q1), .second, .val (.long q2), .second, .val (.int p3), .val (.long q4), .second] [(.long (q2 &&& q4))])) _
      exact k
    refine own_retJ X0 hx Bd.returns Bd.notSynchronized (hb hby own_d3_10) (by decide) (by decide) ?_
    try rw [e0]
    exact ⟨by rw [own_pk, if_pos h1], N0, rfl⟩
  · skip
    refine own_go (S' := (s₁.setTop (mkF m 21 #[.val (.long q1), .second, .val (.long q2), .second, .val (.int p3), .val (.long q4), .second] [(.long ((q1 + ((p3 - (1 : Int32)).toInt64)) &&& q4))]))) (fun t k => ?_) ?_
    · refine XS.icmpYes X0.here hx rfl (pc0 := 3) (pc' := 11) rfl (hb hby own_d3_3) rfl (feq h1).2 (by decide) (by decide) ?_
      show Steps p.tables e below (s₁.setTop (mkF m 11 #[.val (.long q1), .second, .val (.long q2), .second, .val (.int p3), .val (.long q4), .second] [])) _
      refine XS.lloadN X0.here hx rfl (hb hby own_d3_11) rfl ?_
      show Steps p.tables e below (s₁.setTop (mkF m 12 #[.val (.long q1), .second, .val (.long q2), .second, .val (.int p3), .val (.long q4), .second] [(.long q1)])) _
      refine XS.iload X0.here hx rfl (hb hby own_d3_12) rfl ?_
      show Steps p.tables e below (s₁.setTop (mkF m 14 #[.val (.long q1), .second, .val (.long q2), .second, .val (.int p3), .val (.long q4), .second] [(.int p3), (.long q1)])) _
      refine XS.iconst X0.here hx rfl (hb hby own_d3_14) ?_
      show Steps p.tables e below (s₁.setTop (mkF m 15 #[.val (.long q1), .second, .val (.long q2), .second, .val (.int p3), .val (.long q4), .second] [(.int (1 : Int32)), (.int p3), (.long q1)])) _
      refine XS.isub X0.here hx rfl (hb hby own_d3_15) rfl ?_
      show Steps p.tables e below (s₁.setTop (mkF m 16 #[.val (.long q1), .second, .val (.long q2), .second, .val (.int p3), .val (.long q4), .second] [(.int (p3 - (1 : Int32))), (.long q1)])) _
      refine XS.i2l X0.here hx rfl (hb hby own_d3_16) rfl ?_
      show Steps p.tables e below (s₁.setTop (mkF m 17 #[.val (.long q1), .second, .val (.long q2), .second, .val (.int p3), .val (.long q4), .second] [(.long ((p3 - (1 : Int32)).toInt64)), (.long q1)])) _
      refine XS.ladd X0.here hx rfl (hb hby own_d3_17) rfl ?_
      show Steps p.tables e below (s₁.setTop (mkF m 18 #[.val (.long q1), .second, .val (.long q2), .second, .val (.int p3), .val (.long q4), .second] [(.long (q1 + ((p3 - (1 : Int32)).toInt64)))])) _
      refine XS.lload X0.here hx rfl (hb hby own_d3_18) rfl ?_
      show Steps p.tables e below (s₁.setTop (mkF m 20 #[.val (.long q1), .second, .val (.long q2), .second, .val (.int p3), .val (.long q4), .second] [(.long q4), (.long (q1 + ((p3 - (1 : Int32)).toInt64)))])) _
      refine XS.land X0.here hx rfl (hb hby own_d3_20) rfl ?_
      show Steps p.tables e below (s₁.setTop (mkF m 21 #[.val (.long q1), .second, .val (.long q2), .second, .val (.int p3), .val (.long q4), .second] [(.long ((q1 + ((p3 - (1 : Int32)).toInt64)) &&& q4))])) _
      exact k
    refine own_retJ X0 hx Bd.returns Bd.notSynchronized (hb hby own_d3_21) (by decide) (by decide) ?_
    try rw [e0]
    exact ⟨by rw [own_pk, if_neg h1], N0, rfl⟩
theorem own_d4_0 : decode prog_27_method_2_code 0 = .ok (.aload_n 0, 1) := by decide +kernel
theorem own_d4_1 : decode prog_27_method_2_code 1 = .ok (.getfield 13, 3) := by decide +kernel
theorem own_d4_4 : decode prog_27_method_2_code 4 = .ok (.lload_n 1, 1) := by decide +kernel
theorem own_d4_5 : decode prog_27_method_2_code 5 = .ok (.ladd, 1) := by decide +kernel
theorem own_d4_6 : decode prog_27_method_2_code 6 = .ok (.aload_n 0, 1) := by decide +kernel
theorem own_d4_7 : decode prog_27_method_2_code 7 = .ok (.getfield 7, 3) := by decide +kernel
theorem own_d4_10 : decode prog_27_method_2_code 10 = .ok (.lcmp, 1) := by decide +kernel
theorem own_d4_11 : decode prog_27_method_2_code 11 = .ok (.ifCond .le 5, 3) := by decide +kernel
theorem own_d4_14 : decode prog_27_method_2_code 14 = .ok (.iconst 0, 1) := by decide +kernel
theorem own_d4_15 : decode prog_27_method_2_code 15 = .ok (.ireturn, 1) := by decide +kernel
theorem own_d4_16 : decode prog_27_method_2_code 16 = .ok (.aload_n 0, 1) := by decide +kernel
theorem own_d4_17 : decode prog_27_method_2_code 17 = .ok (.dup, 1) := by decide +kernel
theorem own_d4_18 : decode prog_27_method_2_code 18 = .ok (.getfield 13, 3) := by decide +kernel
theorem own_d4_21 : decode prog_27_method_2_code 21 = .ok (.lload_n 1, 1) := by decide +kernel
theorem own_d4_22 : decode prog_27_method_2_code 22 = .ok (.ladd, 1) := by decide +kernel
theorem own_d4_23 : decode prog_27_method_2_code 23 = .ok (.putfield 13, 3) := by decide +kernel
theorem own_d4_26 : decode prog_27_method_2_code 26 = .ok (.iconst 1, 1) := by decide +kernel
theorem own_d4_27 : decode prog_27_method_2_code 27 = .ok (.ireturn, 1) := by decide +kernel
theorem own_c4_ef (m : MethodId) (x0 : Addr) (x1 : Int64) : entryFrame m #[(.ref x0), (.long x1)] 3 = mkF m 0 #[.val (.ref x0), .val (.long x1), .second] [] := by first | (simp [entryFrame, mkF, argsToLocals, Value.category]; done) | rfl
set_option maxRecDepth 65536 in
set_option maxHeartbeats 40000000 in
theorem own_c4 (l : Launch) (Z : State) (a0 : Array Value) (hw : ∀ d ∈ tables_1, d.before a0 Z = true) (ws : List Jvm.Cond) (a1 : Addr) (q2 r l0 : Int64) (h0 : Heap) (n0 : Nat) (Z0 : n0 ≤ h0.size) (F1 : Fld Z h0 a1 "com/example/coherd/coherd/node/ReckonedMemory" "limit" "J" (.long l0)) (F2 : Fld Z h0 a1 "com/example/coherd/coherd/node/ReckonedMemory" "reckoned" "J" (.long r)) (E : Exa Z h0 a1 "com/example/coherd/coherd/node/ReckonedMemory") (g : n0 ≤ a1) :
    own_Ctr l Z (⟨"com/example/coherd/coherd/node/ReckonedMemory", "take", "(J)Z"⟩ : MethodName) prog_27_method_2_code 3 (some .boolean) ws ({ frames := 0, cells := 0, slots := 0, locals := 0 } : Room) h0 #[(.ref a1), (.long q2)] (fun v h L => v = some (.int (own_tk r q2 l0)) ∧ Fr n0 L ∧ Keep h0 h [a1] ∧ Exa Z h a1 "com/example/coherd/coherd/node/ReckonedMemory" ∧ Fld Z h a1 "com/example/coherd/coherd/node/ReckonedMemory" "limit" "J" (.long l0) ∧ Fld Z h a1 "com/example/coherd/coherd/node/ReckonedMemory" "reckoned" "J" (.long (own_tr r q2 l0))) := by
  refine own_ctr (plainFor_of_name own_pn0) ?_
  intro p e s m below meth c s₁ Bd hml0 hx hby hZ hown0 X0 e0
  have hml : c.maxLocals = 3 := hml0
  have hown : s.vm.findClass "com/example/coherd/coherd/node/ReckonedMemory" = some m.cls := hown0
  have hnm := (name_of_methodNamed Bd.named Bd.method).1
  have N0 := Fr.nil n0
  refine own_cast (own_c4_ef m a1 q2) ?_
  refine own_go (S' := (s₁.setTop (mkF m 1 #[.val (.ref a1), .val (.long q2), .second] [(.ref a1)]))) (fun t k => ?_) ?_
  · refine XS.aloadN X0.here hx rfl (hb hby own_d4_0) rfl rfl ?_
    show Steps p.tables e below (s₁.setTop (mkF m 1 #[.val (.ref a1), .val (.long q2), .second] [(.ref a1)])) _
    exact k
  obtain ⟨T1, X1, e1, st1⟩ := getF X0 hx hZ hown (host := "") (Or.inl (hw _ (List.mem_of_getElem? (i := 21) rfl))) Via.refl e0 F2 (g := (mkF m 1 #[.val (.ref a1), .val (.long q2), .second] [(.ref a1)])) rfl rfl (hb hby own_d4_1)
  refine own_go st1 ?_
  show own_Rch p e below _ (T1.setTop (mkF m 4 #[.val (.ref a1), .val (.long q2), .second] [(.long r)]))
  refine own_go (S' := (T1.setTop (mkF m 7 #[.val (.ref a1), .val (.long q2), .second] [(.ref a1), (.long (r + q2))]))) (fun t k => ?_) ?_
  · refine XS.lloadN X1.here hx rfl (hb hby own_d4_4) rfl ?_
    show Steps p.tables e below (T1.setTop (mkF m 5 #[.val (.ref a1), .val (.long q2), .second] [(.long q2), (.long r)])) _
    refine XS.ladd X1.here hx rfl (hb hby own_d4_5) rfl ?_
    show Steps p.tables e below (T1.setTop (mkF m 6 #[.val (.ref a1), .val (.long q2), .second] [(.long (r + q2))])) _
    refine XS.aloadN X1.here hx rfl (hb hby own_d4_6) rfl rfl ?_
    show Steps p.tables e below (T1.setTop (mkF m 7 #[.val (.ref a1), .val (.long q2), .second] [(.ref a1), (.long (r + q2))])) _
    exact k
  obtain ⟨T2, X2, e2, st2⟩ := getF X1 hx hZ hown (host := "") (Or.inl (hw _ (List.mem_of_getElem? (i := 10) rfl))) Via.refl e1 F1 (g := (mkF m 7 #[.val (.ref a1), .val (.long q2), .second] [(.ref a1), (.long (r + q2))])) rfl rfl (hb hby own_d4_7)
  refine own_go st2 ?_
  show own_Rch p e below _ (T2.setTop (mkF m 10 #[.val (.ref a1), .val (.long q2), .second] [(.long l0), (.long (r + q2))]))
  refine own_go (S' := (T2.setTop (mkF m 11 #[.val (.ref a1), .val (.long q2), .second] [(.int (lcmpW (r + q2) l0))]))) (fun t k => ?_) ?_
  · refine XS.lcmp X2.here hx rfl (hb hby own_d4_10) rfl ?_
    show Steps p.tables e below (T2.setTop (mkF m 11 #[.val (.ref a1), .val (.long q2), .second] [(.int (lcmpW (r + q2) l0))])) _
    exact k
  by_cases h1 : (0 : Int32) < (lcmpW (r + q2) l0)
  · skip
    refine own_go (S' := (T2.setTop (mkF m 15 #[.val (.ref a1), .val (.long q2), .second] [(.int (0 : Int32))]))) (fun t k => ?_) ?_
    · refine XS.ifNo X2.here hx rfl (hb hby own_d4_11) rfl ((if0 _ _).trans (tlt h1).2.2.2) ?_
      show Steps p.tables e below (T2.setTop (mkF m 14 #[.val (.ref a1), .val (.long q2), .second] [])) _
      refine XS.iconst X2.here hx rfl (hb hby own_d4_14) ?_
      show Steps p.tables e below (T2.setTop (mkF m 15 #[.val (.ref a1), .val (.long q2), .second] [(.int (0 : Int32))])) _
      exact k
    refine own_retN X2 hx (t := .boolean) Bd.returns Bd.notSynchronized (by simp) (hb hby own_d4_15) rfl (by decide) (by decide) ?_
    try rw [e2]
    exact ⟨by rw [own_tk, if_pos h1] <;> rfl, N0, Keep.refl h0 [a1], E, F1, by rw [own_tr, if_pos h1]; exact F2⟩
  · skip
    refine own_go (S' := (T2.setTop (mkF m 18 #[.val (.ref a1), .val (.long q2), .second] [(.ref a1), (.ref a1)]))) (fun t k => ?_) ?_
    · refine XS.ifYes X2.here hx rfl (pc0 := 11) (pc' := 16) rfl (hb hby own_d4_11) rfl ((if0 _ _).trans (flt h1).2.2.2) (by decide) (by decide) ?_
      show Steps p.tables e below (T2.setTop (mkF m 16 #[.val (.ref a1), .val (.long q2), .second] [])) _
      refine XS.aloadN X2.here hx rfl (hb hby own_d4_16) rfl rfl ?_
      show Steps p.tables e below (T2.setTop (mkF m 17 #[.val (.ref a1), .val (.long q2), .second] [(.ref a1)])) _
      refine XS.dup X2.here hx rfl (hb hby own_d4_17) rfl rfl ?_
      show Steps p.tables e below (T2.setTop (mkF m 18 #[.val (.ref a1), .val (.long q2), .second] [(.ref a1), (.ref a1)])) _
      exact k
    obtain ⟨T3, X3, e3, st3⟩ := getF X2 hx hZ hown (host := "") (Or.inl (hw _ (List.mem_of_getElem? (i := 21) rfl))) Via.refl e2 F2 (g := (mkF m 18 #[.val (.ref a1), .val (.long q2), .second] [(.ref a1), (.ref a1)])) rfl rfl (hb hby own_d4_18)
    refine own_go st3 ?_
    show own_Rch p e below _ (T3.setTop (mkF m 21 #[.val (.ref a1), .val (.long q2), .second] [(.long r), (.ref a1)]))
    refine own_go (S' := (T3.setTop (mkF m 23 #[.val (.ref a1), .val (.long q2), .second] [(.long (r + q2)), (.ref a1)]))) (fun t k => ?_) ?_
    · refine XS.lloadN X3.here hx rfl (hb hby own_d4_21) rfl ?_
      show Steps p.tables e below (T3.setTop (mkF m 22 #[.val (.ref a1), .val (.long q2), .second] [(.long q2), (.long r), (.ref a1)])) _
      refine XS.ladd X3.here hx rfl (hb hby own_d4_22) rfl ?_
      show Steps p.tables e below (T3.setTop (mkF m 23 #[.val (.ref a1), .val (.long q2), .second] [(.long (r + q2)), (.ref a1)])) _
      exact k
    obtain ⟨T4, h4, X4, e4, W4, st4⟩ := putF X3 hx hZ hown (host := "") (Or.inl (hw _ (List.mem_of_getElem? (i := 21) rfl))) Via.refl e3 F2 E (Or.inl (hw _ (List.mem_of_getElem? (i := 22) rfl))) (hw _ (List.mem_of_getElem? (i := 2) rfl)) (ty := .long) (by decide) rfl rfl (g := (mkF m 23 #[.val (.ref a1), .val (.long q2), .second] [(.long (r + q2)), (.ref a1)])) rfl rfl (hb hby own_d4_23)
    refine own_go st4 ?_
    have N4 := Fr.snoc X4 N0 g
    show own_Rch p e below _ (T4.setTop (mkF m 26 #[.val (.ref a1), .val (.long q2), .second] []))
    refine own_go (S' := (T4.setTop (mkF m 27 #[.val (.ref a1), .val (.long q2), .second] [(.int (1 : Int32))]))) (fun t k => ?_) ?_
    · refine XS.iconst X4.here hx rfl (hb hby own_d4_26) ?_
      show Steps p.tables e below (T4.setTop (mkF m 27 #[.val (.ref a1), .val (.long q2), .second] [(.int (1 : Int32))])) _
      exact k
    refine own_retN X4 hx (t := .boolean) Bd.returns Bd.notSynchronized (by simp) (hb hby own_d4_27) rfl (by decide) (by decide) ?_
    try rw [e4]
    exact ⟨by rw [own_tk, if_neg h1] <;> rfl, N4, (Keep.refl h0 [a1]).wr W4 (Or.inl (List.mem_of_getElem? (i := 0) rfl)), E.wr W4, F1.other W4 (Or.inr (slot_ne (Or.inr (hw _ (List.mem_of_getElem? (i := 11) rfl))) (Or.inl (hw _ (List.mem_of_getElem? (i := 22) rfl))) (by decide) (t := .long) (t' := .long) (by decide) (by decide))), by rw [own_tr, if_neg h1]; exact F2.same W4⟩
theorem own_pd0 : parseMethodDescriptor "(J)V" = some ⟨[.long], none⟩ := by decide +kernel
theorem own_pd1 : parseMethodDescriptor "(JJIJ)J" = some ⟨[.long, .long, .int, .long], some .long⟩ := by decide +kernel
theorem own_pd2 : parseMethodDescriptor "(J)Z" = some ⟨[.long], some .boolean⟩ := by decide +kernel
theorem own_c0_ef (m : MethodId) (x0 : Int64) (x1 : Int64) (x2 : Int64) (x3 : Int64) (x4 : Int32) : entryFrame m #[(.long x0), (.long x1), (.long x2), (.long x3), (.int x4)] maxLocals = mkF m 0 #[.val (.long x0), .second, .val (.long x1), .second, .val (.long x2), .second, .val (.long x3), .second, .val (.int x4), .unset, .unset, .unset, .unset, .unset, .unset, .unset, .unset, .unset, .unset, .unset, .unset, .unset, .unset, .unset, .unset, .unset, .unset, .unset, .unset, .unset] [] := by first | (simp [entryFrame, mkF, argsToLocals, Value.category, maxLocals]; done) | rfl
set_option maxRecDepth 65536 in
set_option maxHeartbeats 40000000 in
theorem own_c0 (l : Launch) (Z : State) (a0 : Array Value) (hw : ∀ d ∈ tables_1, d.before a0 Z = true) (ws : List Jvm.Cond) (q1 q2 q3 q4 : Int64) (p5 : Int32) (h0 : Heap) (n0 : Nat) (Z0 : n0 ≤ h0.size) :
    own_Ctr l Z x code maxLocals ret ws room_1 h0 #[(.long q1), (.long q2), (.long q3), (.long q4), (.int p5)] (fun v h L => v = some (.int 1) ∧ Fr n0 L) := by
  refine own_ctr (plainFor_of_name own_pn1) ?_
  intro p e s m below meth c s₁ Bd hml0 hx hby hZ hown0 X0 e0
  have hml : c.maxLocals = 30 := hml0
  have hown : s.vm.findClass "com/example/coherd/coherd/node/ReckonedMemoryTakePinLaw" = some m.cls := hown0
  have hnm := (name_of_methodNamed Bd.named Bd.method).1
  have N0 := Fr.nil n0
  refine own_cast (own_c0_ef m q1 q2 q3 q4 p5) ?_
  refine own_go (S' := (s₁.setTop (mkF m 11 #[.val (.long q1), .second, .val (.long q2), .second, .val (.long q3), .second, .val (.long q4), .second, .val (.int p5), .val (.long (4611686018427387903 : Int64)), .second, .val (.long (q1 &&& (4611686018427387903 : Int64))), .second, .unset, .unset, .unset, .unset, .unset, .unset, .unset, .unset, .unset, .unset, .unset, .unset, .unset, .unset, .unset, .unset, .unset] []))) (fun t k => ?_) ?_
  · refine X0.ldc2Long hx hown (mvT hZ (hw _ (List.mem_of_getElem? (i := 0) rfl))) (g := (mkF m 0 #[.val (.long q1), .second, .val (.long q2), .second, .val (.long q3), .second, .val (.long q4), .second, .val (.int p5), .unset, .unset, .unset, .unset, .unset, .unset, .unset, .unset, .unset, .unset, .unset, .unset, .unset, .unset, .unset, .unset, .unset, .unset, .unset, .unset, .unset] [])) rfl (hb hby at_0) _ ?_
    show Steps p.tables e below (s₁.setTop (mkF m 3 #[.val (.long q1), .second, .val (.long q2), .second, .val (.long q3), .second, .val (.long q4), .second, .val (.int p5), .unset, .unset, .unset, .unset, .unset, .unset, .unset, .unset, .unset, .unset, .unset, .unset, .unset, .unset, .unset, .unset, .unset, .unset, .unset, .unset, .unset] [(.long (4611686018427387903 : Int64))])) _
    refine XS.lstore X0.here hx rfl (hb hby at_3) rfl (l' := #[.val (.long q1), .second, .val (.long q2), .second, .val (.long q3), .second, .val (.long q4), .second, .val (.int p5), .val (.long (4611686018427387903 : Int64)), .second, .unset, .unset, .unset, .unset, .unset, .unset, .unset, .unset, .unset, .unset, .unset, .unset, .unset, .unset, .unset, .unset, .unset, .unset, .unset]) rfl ?_
    show Steps p.tables e below (s₁.setTop (mkF m 5 #[.val (.long q1), .second, .val (.long q2), .second, .val (.long q3), .second, .val (.long q4), .second, .val (.int p5), .val (.long (4611686018427387903 : Int64)), .second, .unset, .unset, .unset, .unset, .unset, .unset, .unset, .unset, .unset, .unset, .unset, .unset, .unset, .unset, .unset, .unset, .unset, .unset, .unset] [])) _
    refine XS.lloadN X0.here hx rfl (hb hby at_5) rfl ?_
    show Steps p.tables e below (s₁.setTop (mkF m 6 #[.val (.long q1), .second, .val (.long q2), .second, .val (.long q3), .second, .val (.long q4), .second, .val (.int p5), .val (.long (4611686018427387903 : Int64)), .second, .unset, .unset, .unset, .unset, .unset, .unset, .unset, .unset, .unset, .unset, .unset, .unset, .unset, .unset, .unset, .unset, .unset, .unset, .unset] [(.long q1)])) _
    refine XS.lload X0.here hx rfl (hb hby at_6) rfl ?_
    show Steps p.tables e below (s₁.setTop (mkF m 8 #[.val (.long q1), .second, .val (.long q2), .second, .val (.long q3), .second, .val (.long q4), .second, .val (.int p5), .val (.long (4611686018427387903 : Int64)), .second, .unset, .unset, .unset, .unset, .unset, .unset, .unset, .unset, .unset, .unset, .unset, .unset, .unset, .unset, .unset, .unset, .unset, .unset, .unset] [(.long (4611686018427387903 : Int64)), (.long q1)])) _
    refine XS.land X0.here hx rfl (hb hby at_8) rfl ?_
    show Steps p.tables e below (s₁.setTop (mkF m 9 #[.val (.long q1), .second, .val (.long q2), .second, .val (.long q3), .second, .val (.long q4), .second, .val (.int p5), .val (.long (4611686018427387903 : Int64)), .second, .unset, .unset, .unset, .unset, .unset, .unset, .unset, .unset, .unset, .unset, .unset, .unset, .unset, .unset, .unset, .unset, .unset, .unset, .unset] [(.long (q1 &&& (4611686018427387903 : Int64)))])) _
    refine XS.lstore X0.here hx rfl (hb hby at_9) rfl (l' := #[.val (.long q1), .second, .val (.long q2), .second, .val (.long q3), .second, .val (.long q4), .second, .val (.int p5), .val (.long (4611686018427387903 : Int64)), .second, .val (.long (q1 &&& (4611686018427387903 : Int64))), .second, .unset, .unset, .unset, .unset, .unset, .unset, .unset, .unset, .unset, .unset, .unset, .unset, .unset, .unset, .unset, .unset, .unset]) rfl ?_
    show Steps p.tables e below (s₁.setTop (mkF m 11 #[.val (.long q1), .second, .val (.long q2), .second, .val (.long q3), .second, .val (.long q4), .second, .val (.int p5), .val (.long (4611686018427387903 : Int64)), .second, .val (.long (q1 &&& (4611686018427387903 : Int64))), .second, .unset, .unset, .unset, .unset, .unset, .unset, .unset, .unset, .unset, .unset, .unset, .unset, .unset, .unset, .unset, .unset, .unset] [])) _
    exact k
  generalize (q1 &&& (4611686018427387903 : Int64)) = lm
  show own_Rch p e below _ (s₁.setTop (mkF m 11 #[.val (.long q1), .second, .val (.long q2), .second, .val (.long q3), .second, .val (.long q4), .second, .val (.int p5), .val (.long (4611686018427387903 : Int64)), .second, .val (.long lm), .second, .unset, .unset, .unset, .unset, .unset, .unset, .unset, .unset, .unset, .unset, .unset, .unset, .unset, .unset, .unset, .unset, .unset] []))
  obtain ⟨T1, h1, X1, e1, E1, A1, D1, -, st1⟩ := newO X0 hx hZ hown (hw _ (List.mem_of_getElem? (i := 1) rfl)) (hw _ (List.mem_of_getElem? (i := 2) rfl)) (hw _ (List.mem_of_getElem? (i := 3) rfl)) e0 (g := (mkF m 11 #[.val (.long q1), .second, .val (.long q2), .second, .val (.long q3), .second, .val (.long q4), .second, .val (.int p5), .val (.long (4611686018427387903 : Int64)), .second, .val (.long lm), .second, .unset, .unset, .unset, .unset, .unset, .unset, .unset, .unset, .unset, .unset, .unset, .unset, .unset, .unset, .unset, .unset, .unset] [])) rfl (hb hby at_11) (by decide) (by decide)
  obtain ⟨b1, g1⟩ : ∃ z, z = h0.size := ⟨_, rfl⟩
  rw [← g1] at A1 D1 st1
  have gb1 : n0 ≤ b1 := Nat.le_trans Z0 (Nat.le_of_eq g1.symm)
  refine own_go st1 ?_
  show own_Rch p e below _ (T1.setTop (mkF m 14 #[.val (.long q1), .second, .val (.long q2), .second, .val (.long q3), .second, .val (.long q4), .second, .val (.int p5), .val (.long (4611686018427387903 : Int64)), .second, .val (.long lm), .second, .unset, .unset, .unset, .unset, .unset, .unset, .unset, .unset, .unset, .unset, .unset, .unset, .unset, .unset, .unset, .unset, .unset] [(.ref b1)]))
  refine own_go (S' := (T1.setTop (mkF m 17 #[.val (.long q1), .second, .val (.long q2), .second, .val (.long q3), .second, .val (.long q4), .second, .val (.int p5), .val (.long (4611686018427387903 : Int64)), .second, .val (.long lm), .second, .unset, .unset, .unset, .unset, .unset, .unset, .unset, .unset, .unset, .unset, .unset, .unset, .unset, .unset, .unset, .unset, .unset] [(.long lm), (.ref b1), (.ref b1)]))) (fun t k => ?_) ?_
  · refine XS.dup X1.here hx rfl (hb hby at_14) rfl rfl ?_
    show Steps p.tables e below (T1.setTop (mkF m 15 #[.val (.long q1), .second, .val (.long q2), .second, .val (.long q3), .second, .val (.long q4), .second, .val (.int p5), .val (.long (4611686018427387903 : Int64)), .second, .val (.long lm), .second, .unset, .unset, .unset, .unset, .unset, .unset, .unset, .unset, .unset, .unset, .unset, .unset, .unset, .unset, .unset, .unset, .unset] [(.ref b1), (.ref b1)])) _
    refine XS.lload X1.here hx rfl (hb hby at_15) rfl ?_
    show Steps p.tables e below (T1.setTop (mkF m 17 #[.val (.long q1), .second, .val (.long q2), .second, .val (.long q3), .second, .val (.long q4), .second, .val (.int p5), .val (.long (4611686018427387903 : Int64)), .second, .val (.long lm), .second, .unset, .unset, .unset, .unset, .unset, .unset, .unset, .unset, .unset, .unset, .unset, .unset, .unset, .unset, .unset, .unset, .unset] [(.long lm), (.ref b1), (.ref b1)])) _
    exact k
  have F_limit : Fld Z h1 b1 "com/example/coherd/coherd/node/ReckonedMemory" "limit" "J" (.long 0) := D1 (Or.inr (hw _ (List.mem_of_getElem? (i := 11) rfl))) (ty := .long) (by decide)
  have F_reckoned : Fld Z h1 b1 "com/example/coherd/coherd/node/ReckonedMemory" "reckoned" "J" (.long 0) := D1 (Or.inl (hw _ (List.mem_of_getElem? (i := 22) rfl))) (ty := .long) (by decide)
  have Z1 : n0 ≤ h1.size := Nat.le_trans Z0 E1.1
  obtain ⟨_, T2, L2, X2, ⟨rfl, N2q, K2, E2, F12, F22⟩, st2⟩ := own_callC X1 hx hZ (y := (⟨"com/example/coherd/coherd/node/ReckonedMemory", "<init>", "(J)V"⟩ : MethodName)) rfl hown (hw _ (List.mem_of_getElem? (i := 4) rfl)) (hw _ (List.mem_of_getElem? (i := 5) rfl)) (hw _ (List.mem_of_getElem? (i := 3) rfl)) (hw _ (List.mem_of_getElem? (i := 6) rfl)) (by decide) (own_c1 l Z a0 hw [] b1 lm h1 n0 Z1 F_limit F_reckoned A1 gb1) e1 (a := b1) (W := 1) (by decide) (by decide) (g := (mkF m 17 #[.val (.long q1), .second, .val (.long q2), .second, .val (.long q3), .second, .val (.long q4), .second, .val (.int p5), .val (.long (4611686018427387903 : Int64)), .second, .val (.long lm), .second, .unset, .unset, .unset, .unset, .unset, .unset, .unset, .unset, .unset, .unset, .unset, .unset, .unset, .unset, .unset, .unset, .unset] [(.long lm), (.ref b1), (.ref b1)])) rfl (by rw [hml]; rfl) (argsL := [(.long lm)]) (rest := [(.ref b1)]) (lenOf own_pd0 rfl) rfl rfl rfl (hb hby at_17) (by decide) (by decide)
  have N2 := Fr.app N0 N2q
  refine own_go st2 ?_
  show own_Rch p e below _ (T2.setTop (mkF m 20 #[.val (.long q1), .second, .val (.long q2), .second, .val (.long q3), .second, .val (.long q4), .second, .val (.int p5), .val (.long (4611686018427387903 : Int64)), .second, .val (.long lm), .second, .unset, .unset, .unset, .unset, .unset, .unset, .unset, .unset, .unset, .unset, .unset, .unset, .unset, .unset, .unset, .unset, .unset] [(.ref b1)]))
  refine own_go (S' := (T2.setTop (mkF m 31 #[.val (.long q1), .second, .val (.long q2), .second, .val (.long q3), .second, .val (.long q4), .second, .val (.int p5), .val (.long (4611686018427387903 : Int64)), .second, .val (.long lm), .second, .val (.ref b1), .unset, .unset, .unset, .unset, .unset, .unset, .unset, .unset, .unset, .unset, .unset, .unset, .unset, .unset, .unset, .unset] [(.long (4611686018427387903 : Int64)), (.int (p5 &&& (3 : Int32))), (.long q2), (.long lm)]))) (fun t k => ?_) ?_
  · refine XS.astore X2.here hx rfl (hb hby at_20) rfl rfl (l' := #[.val (.long q1), .second, .val (.long q2), .second, .val (.long q3), .second, .val (.long q4), .second, .val (.int p5), .val (.long (4611686018427387903 : Int64)), .second, .val (.long lm), .second, .val (.ref b1), .unset, .unset, .unset, .unset, .unset, .unset, .unset, .unset, .unset, .unset, .unset, .unset, .unset, .unset, .unset, .unset]) rfl ?_
    show Steps p.tables e below (T2.setTop (mkF m 22 #[.val (.long q1), .second, .val (.long q2), .second, .val (.long q3), .second, .val (.long q4), .second, .val (.int p5), .val (.long (4611686018427387903 : Int64)), .second, .val (.long lm), .second, .val (.ref b1), .unset, .unset, .unset, .unset, .unset, .unset, .unset, .unset, .unset, .unset, .unset, .unset, .unset, .unset, .unset, .unset] [])) _
    refine XS.lload X2.here hx rfl (hb hby at_22) rfl ?_
    show Steps p.tables e below (T2.setTop (mkF m 24 #[.val (.long q1), .second, .val (.long q2), .second, .val (.long q3), .second, .val (.long q4), .second, .val (.int p5), .val (.long (4611686018427387903 : Int64)), .second, .val (.long lm), .second, .val (.ref b1), .unset, .unset, .unset, .unset, .unset, .unset, .unset, .unset, .unset, .unset, .unset, .unset, .unset, .unset, .unset, .unset] [(.long lm)])) _
    refine XS.lloadN X2.here hx rfl (hb hby at_24) rfl ?_
    show Steps p.tables e below (T2.setTop (mkF m 25 #[.val (.long q1), .second, .val (.long q2), .second, .val (.long q3), .second, .val (.long q4), .second, .val (.int p5), .val (.long (4611686018427387903 : Int64)), .second, .val (.long lm), .second, .val (.ref b1), .unset, .unset, .unset, .unset, .unset, .unset, .unset, .unset, .unset, .unset, .unset, .unset, .unset, .unset, .unset, .unset] [(.long q2), (.long lm)])) _
    refine XS.iload X2.here hx rfl (hb hby at_25) rfl ?_
    show Steps p.tables e below (T2.setTop (mkF m 27 #[.val (.long q1), .second, .val (.long q2), .second, .val (.long q3), .second, .val (.long q4), .second, .val (.int p5), .val (.long (4611686018427387903 : Int64)), .second, .val (.long lm), .second, .val (.ref b1), .unset, .unset, .unset, .unset, .unset, .unset, .unset, .unset, .unset, .unset, .unset, .unset, .unset, .unset, .unset, .unset] [(.int p5), (.long q2), (.long lm)])) _
    refine XS.iconst X2.here hx rfl (hb hby at_27) ?_
    show Steps p.tables e below (T2.setTop (mkF m 28 #[.val (.long q1), .second, .val (.long q2), .second, .val (.long q3), .second, .val (.long q4), .second, .val (.int p5), .val (.long (4611686018427387903 : Int64)), .second, .val (.long lm), .second, .val (.ref b1), .unset, .unset, .unset, .unset, .unset, .unset, .unset, .unset, .unset, .unset, .unset, .unset, .unset, .unset, .unset, .unset] [(.int (3 : Int32)), (.int p5), (.long q2), (.long lm)])) _
    refine XS.iand X2.here hx rfl (hb hby at_28) rfl ?_
    show Steps p.tables e below (T2.setTop (mkF m 29 #[.val (.long q1), .second, .val (.long q2), .second, .val (.long q3), .second, .val (.long q4), .second, .val (.int p5), .val (.long (4611686018427387903 : Int64)), .second, .val (.long lm), .second, .val (.ref b1), .unset, .unset, .unset, .unset, .unset, .unset, .unset, .unset, .unset, .unset, .unset, .unset, .unset, .unset, .unset, .unset] [(.int (p5 &&& (3 : Int32))), (.long q2), (.long lm)])) _
    refine XS.lload X2.here hx rfl (hb hby at_29) rfl ?_
    show Steps p.tables e below (T2.setTop (mkF m 31 #[.val (.long q1), .second, .val (.long q2), .second, .val (.long q3), .second, .val (.long q4), .second, .val (.int p5), .val (.long (4611686018427387903 : Int64)), .second, .val (.long lm), .second, .val (.ref b1), .unset, .unset, .unset, .unset, .unset, .unset, .unset, .unset, .unset, .unset, .unset, .unset, .unset, .unset, .unset, .unset] [(.long (4611686018427387903 : Int64)), (.int (p5 &&& (3 : Int32))), (.long q2), (.long lm)])) _
    exact k
  have Z2 : n0 ≤ T2.heap.size := Nat.le_trans Z1 K2.1
  obtain ⟨_, T3, L3, X3, ⟨rfl, N3q, k3⟩, st3⟩ := own_callS X2 hx hZ (y := (⟨"com/example/coherd/coherd/node/ReckonedMemoryTakePinLaw", "pick", "(JJIJ)J"⟩ : MethodName)) hown (hw _ (List.mem_of_getElem? (i := 12) rfl)) (hw _ (List.mem_of_getElem? (i := 13) rfl)) (hw _ (List.mem_of_getElem? (i := 14) rfl)) (hw _ (List.mem_of_getElem? (i := 15) rfl)) (by decide) (own_c3 l Z a0 hw [] lm q2 (p5 &&& (3 : Int32)) (4611686018427387903 : Int64) T2.heap n0 Z2) rfl (W := 0) (by decide) (by decide) (g := (mkF m 31 #[.val (.long q1), .second, .val (.long q2), .second, .val (.long q3), .second, .val (.long q4), .second, .val (.int p5), .val (.long (4611686018427387903 : Int64)), .second, .val (.long lm), .second, .val (.ref b1), .unset, .unset, .unset, .unset, .unset, .unset, .unset, .unset, .unset, .unset, .unset, .unset, .unset, .unset, .unset, .unset] [(.long (4611686018427387903 : Int64)), (.int (p5 &&& (3 : Int32))), (.long q2), (.long lm)])) rfl (by rw [hml]; rfl) (argsL := [(.long lm), (.long q2), (.int (p5 &&& (3 : Int32))), (.long (4611686018427387903 : Int64))]) (rest := []) (lenOf own_pd1 rfl) rfl rfl rfl (hb hby at_31) (by decide) (by decide)
  have N3 := Fr.app N2 N3q
  refine own_go st3 ?_
  show own_Rch p e below _ (T3.setTop (mkF m 34 #[.val (.long q1), .second, .val (.long q2), .second, .val (.long q3), .second, .val (.long q4), .second, .val (.int p5), .val (.long (4611686018427387903 : Int64)), .second, .val (.long lm), .second, .val (.ref b1), .unset, .unset, .unset, .unset, .unset, .unset, .unset, .unset, .unset, .unset, .unset, .unset, .unset, .unset, .unset, .unset] [(.long (own_pk lm q2 (p5 &&& (3 : Int32)) (4611686018427387903 : Int64)))]))
  generalize (own_pk lm q2 (p5 &&& (3 : Int32)) (4611686018427387903 : Int64)) = t0
  show own_Rch p e below _ (T3.setTop (mkF m 34 #[.val (.long q1), .second, .val (.long q2), .second, .val (.long q3), .second, .val (.long q4), .second, .val (.int p5), .val (.long (4611686018427387903 : Int64)), .second, .val (.long lm), .second, .val (.ref b1), .unset, .unset, .unset, .unset, .unset, .unset, .unset, .unset, .unset, .unset, .unset, .unset, .unset, .unset, .unset, .unset] [(.long t0)]))
  have Y0 := E2
  rw [← k3] at Y0
  have U0 := F12
  rw [← k3] at U0
  have W0_ := F22
  rw [← k3] at W0_
  have Z3_0 : n0 ≤ T3.heap.size := by rw [k3]; exact Z2
  refine own_go (S' := (T3.setTop (mkF m 41 #[.val (.long q1), .second, .val (.long q2), .second, .val (.long q3), .second, .val (.long q4), .second, .val (.int p5), .val (.long (4611686018427387903 : Int64)), .second, .val (.long lm), .second, .val (.ref b1), .val (.long t0), .second, .unset, .unset, .unset, .unset, .unset, .unset, .unset, .unset, .unset, .unset, .unset, .unset, .unset, .unset] [(.int (lcmpW t0 lm))]))) (fun t k => ?_) ?_
  · refine XS.lstore X3.here hx rfl (hb hby at_34) rfl (l' := #[.val (.long q1), .second, .val (.long q2), .second, .val (.long q3), .second, .val (.long q4), .second, .val (.int p5), .val (.long (4611686018427387903 : Int64)), .second, .val (.long lm), .second, .val (.ref b1), .val (.long t0), .second, .unset, .unset, .unset, .unset, .unset, .unset, .unset, .unset, .unset, .unset, .unset, .unset, .unset, .unset]) rfl ?_
    show Steps p.tables e below (T3.setTop (mkF m 36 #[.val (.long q1), .second, .val (.long q2), .second, .val (.long q3), .second, .val (.long q4), .second, .val (.int p5), .val (.long (4611686018427387903 : Int64)), .second, .val (.long lm), .second, .val (.ref b1), .val (.long t0), .second, .unset, .unset, .unset, .unset, .unset, .unset, .unset, .unset, .unset, .unset, .unset, .unset, .unset, .unset] [])) _
    refine XS.lload X3.here hx rfl (hb hby at_36) rfl ?_
    show Steps p.tables e below (T3.setTop (mkF m 38 #[.val (.long q1), .second, .val (.long q2), .second, .val (.long q3), .second, .val (.long q4), .second, .val (.int p5), .val (.long (4611686018427387903 : Int64)), .second, .val (.long lm), .second, .val (.ref b1), .val (.long t0), .second, .unset, .unset, .unset, .unset, .unset, .unset, .unset, .unset, .unset, .unset, .unset, .unset, .unset, .unset] [(.long t0)])) _
    refine XS.lload X3.here hx rfl (hb hby at_38) rfl ?_
    show Steps p.tables e below (T3.setTop (mkF m 40 #[.val (.long q1), .second, .val (.long q2), .second, .val (.long q3), .second, .val (.long q4), .second, .val (.int p5), .val (.long (4611686018427387903 : Int64)), .second, .val (.long lm), .second, .val (.ref b1), .val (.long t0), .second, .unset, .unset, .unset, .unset, .unset, .unset, .unset, .unset, .unset, .unset, .unset, .unset, .unset, .unset] [(.long lm), (.long t0)])) _
    refine XS.lcmp X3.here hx rfl (hb hby at_40) rfl ?_
    show Steps p.tables e below (T3.setTop (mkF m 41 #[.val (.long q1), .second, .val (.long q2), .second, .val (.long q3), .second, .val (.long q4), .second, .val (.int p5), .val (.long (4611686018427387903 : Int64)), .second, .val (.long lm), .second, .val (.ref b1), .val (.long t0), .second, .unset, .unset, .unset, .unset, .unset, .unset, .unset, .unset, .unset, .unset, .unset, .unset, .unset, .unset] [(.int (lcmpW t0 lm))])) _
    exact k
  obtain ⟨e1, ee1⟩ : ∃ z : Int32, z = if (0 : Int32) < (lcmpW t0 lm) then 0 else 1 := ⟨_, rfl⟩
  refine own_join (S' := (T3.setTop (mkF m 49 #[.val (.long q1), .second, .val (.long q2), .second, .val (.long q3), .second, .val (.long q4), .second, .val (.int p5), .val (.long (4611686018427387903 : Int64)), .second, .val (.long lm), .second, .val (.ref b1), .val (.long t0), .second, .unset, .unset, .unset, .unset, .unset, .unset, .unset, .unset, .unset, .unset, .unset, .unset, .unset, .unset] [(.int e1)]))) (fun J4 => ?_) ?_
  · skip
    by_cases he1 : (0 : Int32) < (lcmpW t0 lm)
    · skip
      refine own_go (S' := (T3.setTop (mkF m 49 #[.val (.long q1), .second, .val (.long q2), .second, .val (.long q3), .second, .val (.long q4), .second, .val (.int p5), .val (.long (4611686018427387903 : Int64)), .second, .val (.long lm), .second, .val (.ref b1), .val (.long t0), .second, .unset, .unset, .unset, .unset, .unset, .unset, .unset, .unset, .unset, .unset, .unset, .unset, .unset, .unset] [(.int (0 : Int32))]))) (fun t k => ?_) ?_
      · refine XS.ifYes X3.here hx rfl (pc0 := 41) (pc' := 48) rfl (hb hby at_41) rfl ((if0 _ _).trans (tlt he1).2.2.1) (by decide) (by decide) ?_
        show Steps p.tables e below (T3.setTop (mkF m 48 #[.val (.long q1), .second, .val (.long q2), .second, .val (.long q3), .second, .val (.long q4), .second, .val (.int p5), .val (.long (4611686018427387903 : Int64)), .second, .val (.long lm), .second, .val (.ref b1), .val (.long t0), .second, .unset, .unset, .unset, .unset, .unset, .unset, .unset, .unset, .unset, .unset, .unset, .unset, .unset, .unset] [])) _
        refine XS.iconst X3.here hx rfl (hb hby at_48) ?_
        show Steps p.tables e below (T3.setTop (mkF m 49 #[.val (.long q1), .second, .val (.long q2), .second, .val (.long q3), .second, .val (.long q4), .second, .val (.int p5), .val (.long (4611686018427387903 : Int64)), .second, .val (.long lm), .second, .val (.ref b1), .val (.long t0), .second, .unset, .unset, .unset, .unset, .unset, .unset, .unset, .unset, .unset, .unset, .unset, .unset, .unset, .unset] [(.int (0 : Int32))])) _
        exact k
      rw [if_pos he1] at ee1; subst ee1; exact J4
    · skip
      refine own_go (S' := (T3.setTop (mkF m 49 #[.val (.long q1), .second, .val (.long q2), .second, .val (.long q3), .second, .val (.long q4), .second, .val (.int p5), .val (.long (4611686018427387903 : Int64)), .second, .val (.long lm), .second, .val (.ref b1), .val (.long t0), .second, .unset, .unset, .unset, .unset, .unset, .unset, .unset, .unset, .unset, .unset, .unset, .unset, .unset, .unset] [(.int (1 : Int32))]))) (fun t k => ?_) ?_
      · refine XS.ifNo X3.here hx rfl (hb hby at_41) rfl ((if0 _ _).trans (flt he1).2.2.1) ?_
        show Steps p.tables e below (T3.setTop (mkF m 44 #[.val (.long q1), .second, .val (.long q2), .second, .val (.long q3), .second, .val (.long q4), .second, .val (.int p5), .val (.long (4611686018427387903 : Int64)), .second, .val (.long lm), .second, .val (.ref b1), .val (.long t0), .second, .unset, .unset, .unset, .unset, .unset, .unset, .unset, .unset, .unset, .unset, .unset, .unset, .unset, .unset] [])) _
        refine XS.iconst X3.here hx rfl (hb hby at_44) ?_
        show Steps p.tables e below (T3.setTop (mkF m 45 #[.val (.long q1), .second, .val (.long q2), .second, .val (.long q3), .second, .val (.long q4), .second, .val (.int p5), .val (.long (4611686018427387903 : Int64)), .second, .val (.long lm), .second, .val (.ref b1), .val (.long t0), .second, .unset, .unset, .unset, .unset, .unset, .unset, .unset, .unset, .unset, .unset, .unset, .unset, .unset, .unset] [(.int (1 : Int32))])) _
        refine XS.goto X3.here hx rfl (pc0 := 45) (pc' := 49) rfl (hb hby at_45) (by decide) (by decide) ?_
        show Steps p.tables e below (T3.setTop (mkF m 49 #[.val (.long q1), .second, .val (.long q2), .second, .val (.long q3), .second, .val (.long q4), .second, .val (.int p5), .val (.long (4611686018427387903 : Int64)), .second, .val (.long lm), .second, .val (.ref b1), .val (.long t0), .second, .unset, .unset, .unset, .unset, .unset, .unset, .unset, .unset, .unset, .unset, .unset, .unset, .unset, .unset] [(.int (1 : Int32))])) _
        exact k
      rw [if_neg he1] at ee1; subst ee1; exact J4
  refine own_go (S' := (T3.setTop (mkF m 55 #[.val (.long q1), .second, .val (.long q2), .second, .val (.long q3), .second, .val (.long q4), .second, .val (.int p5), .val (.long (4611686018427387903 : Int64)), .second, .val (.long lm), .second, .val (.ref b1), .val (.long t0), .second, .val (.int e1), .unset, .unset, .unset, .unset, .unset, .unset, .unset, .unset, .unset, .unset, .unset, .unset, .unset] [(.long t0), (.ref b1)]))) (fun t k => ?_) ?_
  · refine XS.istore X3.here hx rfl (hb hby at_49) rfl (l' := #[.val (.long q1), .second, .val (.long q2), .second, .val (.long q3), .second, .val (.long q4), .second, .val (.int p5), .val (.long (4611686018427387903 : Int64)), .second, .val (.long lm), .second, .val (.ref b1), .val (.long t0), .second, .val (.int e1), .unset, .unset, .unset, .unset, .unset, .unset, .unset, .unset, .unset, .unset, .unset, .unset, .unset]) rfl ?_
    show Steps p.tables e below (T3.setTop (mkF m 51 #[.val (.long q1), .second, .val (.long q2), .second, .val (.long q3), .second, .val (.long q4), .second, .val (.int p5), .val (.long (4611686018427387903 : Int64)), .second, .val (.long lm), .second, .val (.ref b1), .val (.long t0), .second, .val (.int e1), .unset, .unset, .unset, .unset, .unset, .unset, .unset, .unset, .unset, .unset, .unset, .unset, .unset] [])) _
    refine XS.aload X3.here hx rfl (hb hby at_51) rfl rfl ?_
    show Steps p.tables e below (T3.setTop (mkF m 53 #[.val (.long q1), .second, .val (.long q2), .second, .val (.long q3), .second, .val (.long q4), .second, .val (.int p5), .val (.long (4611686018427387903 : Int64)), .second, .val (.long lm), .second, .val (.ref b1), .val (.long t0), .second, .val (.int e1), .unset, .unset, .unset, .unset, .unset, .unset, .unset, .unset, .unset, .unset, .unset, .unset, .unset] [(.ref b1)])) _
    refine XS.lload X3.here hx rfl (hb hby at_53) rfl ?_
    show Steps p.tables e below (T3.setTop (mkF m 55 #[.val (.long q1), .second, .val (.long q2), .second, .val (.long q3), .second, .val (.long q4), .second, .val (.int p5), .val (.long (4611686018427387903 : Int64)), .second, .val (.long lm), .second, .val (.ref b1), .val (.long t0), .second, .val (.int e1), .unset, .unset, .unset, .unset, .unset, .unset, .unset, .unset, .unset, .unset, .unset, .unset, .unset] [(.long t0), (.ref b1)])) _
    exact k
  obtain ⟨_, T5, L5, X5, ⟨rfl, N5q, K5, E5, F15, F25⟩, st5⟩ := own_callV X3 hx hZ (y := (⟨"com/example/coherd/coherd/node/ReckonedMemory", "take", "(J)Z"⟩ : MethodName)) (z := (⟨"com/example/coherd/coherd/node/ReckonedMemory", "take", "(J)Z"⟩ : MethodName)) (C := "com/example/coherd/coherd/node/ReckonedMemory") hown (hw _ (List.mem_of_getElem? (i := 16) rfl)) (hw _ (List.mem_of_getElem? (i := 17) rfl)) (notFace_of_selects (args := #[]) (mvT hZ (hw _ (List.mem_of_getElem? (i := 19) rfl)))) (hw _ (List.mem_of_getElem? (i := 19) rfl)) (hw _ (List.mem_of_getElem? (i := 18) rfl)) (hw _ (List.mem_of_getElem? (i := 3) rfl)) (hw _ (List.mem_of_getElem? (i := 20) rfl)) (by decide) (own_c4 l Z a0 hw [] b1 t0 0 lm T3.heap n0 Z3_0 U0 W0_ Y0 gb1) rfl Y0 (W := 0) (by decide) (by decide) (g := (mkF m 55 #[.val (.long q1), .second, .val (.long q2), .second, .val (.long q3), .second, .val (.long q4), .second, .val (.int p5), .val (.long (4611686018427387903 : Int64)), .second, .val (.long lm), .second, .val (.ref b1), .val (.long t0), .second, .val (.int e1), .unset, .unset, .unset, .unset, .unset, .unset, .unset, .unset, .unset, .unset, .unset, .unset, .unset] [(.long t0), (.ref b1)])) rfl (by rw [hml]; rfl) (argsL := [(.long t0)]) (rest := []) (lenOf own_pd2 rfl) rfl rfl rfl (hb hby at_55) (by decide) (by decide)
  have N5 := Fr.app N3 N5q
  refine own_go st5 ?_
  show own_Rch p e below _ (T5.setTop (mkF m 58 #[.val (.long q1), .second, .val (.long q2), .second, .val (.long q3), .second, .val (.long q4), .second, .val (.int p5), .val (.long (4611686018427387903 : Int64)), .second, .val (.long lm), .second, .val (.ref b1), .val (.long t0), .second, .val (.int e1), .unset, .unset, .unset, .unset, .unset, .unset, .unset, .unset, .unset, .unset, .unset, .unset, .unset] [(.int (own_tk 0 t0 lm))]))
  rw [own_tk1 ee1]
  show own_Rch p e below _ (T5.setTop (mkF m 58 #[.val (.long q1), .second, .val (.long q2), .second, .val (.long q3), .second, .val (.long q4), .second, .val (.int p5), .val (.long (4611686018427387903 : Int64)), .second, .val (.long lm), .second, .val (.ref b1), .val (.long t0), .second, .val (.int e1), .unset, .unset, .unset, .unset, .unset, .unset, .unset, .unset, .unset, .unset, .unset, .unset, .unset] [(.int e1)]))
  refine own_go (S' := (T5.setTop (mkF m 62 #[.val (.long q1), .second, .val (.long q2), .second, .val (.long q3), .second, .val (.long q4), .second, .val (.int p5), .val (.long (4611686018427387903 : Int64)), .second, .val (.long lm), .second, .val (.ref b1), .val (.long t0), .second, .val (.int e1), .val (.int e1), .unset, .unset, .unset, .unset, .unset, .unset, .unset, .unset, .unset, .unset, .unset, .unset] [(.int e1)]))) (fun t k => ?_) ?_
  · refine XS.istore X5.here hx rfl (hb hby at_58) rfl (l' := #[.val (.long q1), .second, .val (.long q2), .second, .val (.long q3), .second, .val (.long q4), .second, .val (.int p5), .val (.long (4611686018427387903 : Int64)), .second, .val (.long lm), .second, .val (.ref b1), .val (.long t0), .second, .val (.int e1), .val (.int e1), .unset, .unset, .unset, .unset, .unset, .unset, .unset, .unset, .unset, .unset, .unset, .unset]) rfl ?_
    show Steps p.tables e below (T5.setTop (mkF m 60 #[.val (.long q1), .second, .val (.long q2), .second, .val (.long q3), .second, .val (.long q4), .second, .val (.int p5), .val (.long (4611686018427387903 : Int64)), .second, .val (.long lm), .second, .val (.ref b1), .val (.long t0), .second, .val (.int e1), .val (.int e1), .unset, .unset, .unset, .unset, .unset, .unset, .unset, .unset, .unset, .unset, .unset, .unset] [])) _
    refine XS.iload X5.here hx rfl (hb hby at_60) rfl ?_
    show Steps p.tables e below (T5.setTop (mkF m 62 #[.val (.long q1), .second, .val (.long q2), .second, .val (.long q3), .second, .val (.long q4), .second, .val (.int p5), .val (.long (4611686018427387903 : Int64)), .second, .val (.long lm), .second, .val (.ref b1), .val (.long t0), .second, .val (.int e1), .val (.int e1), .unset, .unset, .unset, .unset, .unset, .unset, .unset, .unset, .unset, .unset, .unset, .unset] [(.int e1)])) _
    exact k
  have Z4_0 : n0 ≤ T5.heap.size := Nat.le_trans Z3_0 K5.1
  obtain ⟨ra, era⟩ : ∃ z : Int64, z = if e1 = (0 : Int32) then (0 : Int64) else t0 := ⟨_, rfl⟩
  refine own_join (S' := (T5.setTop (mkF m 71 #[.val (.long q1), .second, .val (.long q2), .second, .val (.long q3), .second, .val (.long q4), .second, .val (.int p5), .val (.long (4611686018427387903 : Int64)), .second, .val (.long lm), .second, .val (.ref b1), .val (.long t0), .second, .val (.int e1), .val (.int e1), .unset, .unset, .unset, .unset, .unset, .unset, .unset, .unset, .unset, .unset, .unset, .unset] [(.long ra)]))) (fun J6 => ?_) ?_
  · skip
    by_cases hra : e1 = (0 : Int32)
    · skip
      refine own_go (S' := (T5.setTop (mkF m 71 #[.val (.long q1), .second, .val (.long q2), .second, .val (.long q3), .second, .val (.long q4), .second, .val (.int p5), .val (.long (4611686018427387903 : Int64)), .second, .val (.long lm), .second, .val (.ref b1), .val (.long t0), .second, .val (.int e1), .val (.int e1), .unset, .unset, .unset, .unset, .unset, .unset, .unset, .unset, .unset, .unset, .unset, .unset] [(.long (0 : Int64))]))) (fun t k => ?_) ?_
      · refine XS.ifYes X5.here hx rfl (pc0 := 62) (pc' := 70) rfl (hb hby at_62) rfl ((if0 _ _).trans (teq hra).1) (by decide) (by decide) ?_
        show Steps p.tables e below (T5.setTop (mkF m 70 #[.val (.long q1), .second, .val (.long q2), .second, .val (.long q3), .second, .val (.long q4), .second, .val (.int p5), .val (.long (4611686018427387903 : Int64)), .second, .val (.long lm), .second, .val (.ref b1), .val (.long t0), .second, .val (.int e1), .val (.int e1), .unset, .unset, .unset, .unset, .unset, .unset, .unset, .unset, .unset, .unset, .unset, .unset] [])) _
        refine XS.lconst X5.here hx rfl (hb hby at_70) ?_
        show Steps p.tables e below (T5.setTop (mkF m 71 #[.val (.long q1), .second, .val (.long q2), .second, .val (.long q3), .second, .val (.long q4), .second, .val (.int p5), .val (.long (4611686018427387903 : Int64)), .second, .val (.long lm), .second, .val (.ref b1), .val (.long t0), .second, .val (.int e1), .val (.int e1), .unset, .unset, .unset, .unset, .unset, .unset, .unset, .unset, .unset, .unset, .unset, .unset] [(.long (0 : Int64))])) _
        exact k
      rw [if_pos hra] at era; subst era; exact J6
    · skip
      refine own_go (S' := (T5.setTop (mkF m 71 #[.val (.long q1), .second, .val (.long q2), .second, .val (.long q3), .second, .val (.long q4), .second, .val (.int p5), .val (.long (4611686018427387903 : Int64)), .second, .val (.long lm), .second, .val (.ref b1), .val (.long t0), .second, .val (.int e1), .val (.int e1), .unset, .unset, .unset, .unset, .unset, .unset, .unset, .unset, .unset, .unset, .unset, .unset] [(.long t0)]))) (fun t k => ?_) ?_
      · refine XS.ifNo X5.here hx rfl (hb hby at_62) rfl ((if0 _ _).trans (feq hra).1) ?_
        show Steps p.tables e below (T5.setTop (mkF m 65 #[.val (.long q1), .second, .val (.long q2), .second, .val (.long q3), .second, .val (.long q4), .second, .val (.int p5), .val (.long (4611686018427387903 : Int64)), .second, .val (.long lm), .second, .val (.ref b1), .val (.long t0), .second, .val (.int e1), .val (.int e1), .unset, .unset, .unset, .unset, .unset, .unset, .unset, .unset, .unset, .unset, .unset, .unset] [])) _
        refine XS.lload X5.here hx rfl (hb hby at_65) rfl ?_
        show Steps p.tables e below (T5.setTop (mkF m 67 #[.val (.long q1), .second, .val (.long q2), .second, .val (.long q3), .second, .val (.long q4), .second, .val (.int p5), .val (.long (4611686018427387903 : Int64)), .second, .val (.long lm), .second, .val (.ref b1), .val (.long t0), .second, .val (.int e1), .val (.int e1), .unset, .unset, .unset, .unset, .unset, .unset, .unset, .unset, .unset, .unset, .unset, .unset] [(.long t0)])) _
        refine XS.goto X5.here hx rfl (pc0 := 67) (pc' := 71) rfl (hb hby at_67) (by decide) (by decide) ?_
        show Steps p.tables e below (T5.setTop (mkF m 71 #[.val (.long q1), .second, .val (.long q2), .second, .val (.long q3), .second, .val (.long q4), .second, .val (.int p5), .val (.long (4611686018427387903 : Int64)), .second, .val (.long lm), .second, .val (.ref b1), .val (.long t0), .second, .val (.int e1), .val (.int e1), .unset, .unset, .unset, .unset, .unset, .unset, .unset, .unset, .unset, .unset, .unset, .unset] [(.long t0)])) _
        exact k
      rw [if_neg hra] at era; subst era; exact J6
  refine own_go (S' := (T5.setTop (mkF m 88 #[.val (.long q1), .second, .val (.long q2), .second, .val (.long q3), .second, .val (.long q4), .second, .val (.int p5), .val (.long (4611686018427387903 : Int64)), .second, .val (.long lm), .second, .val (.ref b1), .val (.long t0), .second, .val (.int e1), .val (.int e1), .val (.long ra), .second, .unset, .unset, .unset, .unset, .unset, .unset, .unset, .unset, .unset, .unset] [(.long (4611686018427387903 : Int64)), (.int (((p5.toUInt32 >>> ((2 : Int32) &&& 31).toUInt32).toInt32) &&& (3 : Int32))), (.long q3), (.long (lm - ra))]))) (fun t k => ?_) ?_
  · refine XS.lstore X5.here hx rfl (hb hby at_71) rfl (l' := #[.val (.long q1), .second, .val (.long q2), .second, .val (.long q3), .second, .val (.long q4), .second, .val (.int p5), .val (.long (4611686018427387903 : Int64)), .second, .val (.long lm), .second, .val (.ref b1), .val (.long t0), .second, .val (.int e1), .val (.int e1), .val (.long ra), .second, .unset, .unset, .unset, .unset, .unset, .unset, .unset, .unset, .unset, .unset]) rfl ?_
    show Steps p.tables e below (T5.setTop (mkF m 73 #[.val (.long q1), .second, .val (.long q2), .second, .val (.long q3), .second, .val (.long q4), .second, .val (.int p5), .val (.long (4611686018427387903 : Int64)), .second, .val (.long lm), .second, .val (.ref b1), .val (.long t0), .second, .val (.int e1), .val (.int e1), .val (.long ra), .second, .unset, .unset, .unset, .unset, .unset, .unset, .unset, .unset, .unset, .unset] [])) _
    refine XS.lload X5.here hx rfl (hb hby at_73) rfl ?_
    show Steps p.tables e below (T5.setTop (mkF m 75 #[.val (.long q1), .second, .val (.long q2), .second, .val (.long q3), .second, .val (.long q4), .second, .val (.int p5), .val (.long (4611686018427387903 : Int64)), .second, .val (.long lm), .second, .val (.ref b1), .val (.long t0), .second, .val (.int e1), .val (.int e1), .val (.long ra), .second, .unset, .unset, .unset, .unset, .unset, .unset, .unset, .unset, .unset, .unset] [(.long lm)])) _
    refine XS.lload X5.here hx rfl (hb hby at_75) rfl ?_
    show Steps p.tables e below (T5.setTop (mkF m 77 #[.val (.long q1), .second, .val (.long q2), .second, .val (.long q3), .second, .val (.long q4), .second, .val (.int p5), .val (.long (4611686018427387903 : Int64)), .second, .val (.long lm), .second, .val (.ref b1), .val (.long t0), .second, .val (.int e1), .val (.int e1), .val (.long ra), .second, .unset, .unset, .unset, .unset, .unset, .unset, .unset, .unset, .unset, .unset] [(.long ra), (.long lm)])) _
    refine XS.lsub X5.here hx rfl (hb hby at_77) rfl ?_
    show Steps p.tables e below (T5.setTop (mkF m 78 #[.val (.long q1), .second, .val (.long q2), .second, .val (.long q3), .second, .val (.long q4), .second, .val (.int p5), .val (.long (4611686018427387903 : Int64)), .second, .val (.long lm), .second, .val (.ref b1), .val (.long t0), .second, .val (.int e1), .val (.int e1), .val (.long ra), .second, .unset, .unset, .unset, .unset, .unset, .unset, .unset, .unset, .unset, .unset] [(.long (lm - ra))])) _
    refine XS.lload X5.here hx rfl (hb hby at_78) rfl ?_
    show Steps p.tables e below (T5.setTop (mkF m 80 #[.val (.long q1), .second, .val (.long q2), .second, .val (.long q3), .second, .val (.long q4), .second, .val (.int p5), .val (.long (4611686018427387903 : Int64)), .second, .val (.long lm), .second, .val (.ref b1), .val (.long t0), .second, .val (.int e1), .val (.int e1), .val (.long ra), .second, .unset, .unset, .unset, .unset, .unset, .unset, .unset, .unset, .unset, .unset] [(.long q3), (.long (lm - ra))])) _
    refine XS.iload X5.here hx rfl (hb hby at_80) rfl ?_
    show Steps p.tables e below (T5.setTop (mkF m 82 #[.val (.long q1), .second, .val (.long q2), .second, .val (.long q3), .second, .val (.long q4), .second, .val (.int p5), .val (.long (4611686018427387903 : Int64)), .second, .val (.long lm), .second, .val (.ref b1), .val (.long t0), .second, .val (.int e1), .val (.int e1), .val (.long ra), .second, .unset, .unset, .unset, .unset, .unset, .unset, .unset, .unset, .unset, .unset] [(.int p5), (.long q3), (.long (lm - ra))])) _
    refine XS.iconst X5.here hx rfl (hb hby at_82) ?_
    show Steps p.tables e below (T5.setTop (mkF m 83 #[.val (.long q1), .second, .val (.long q2), .second, .val (.long q3), .second, .val (.long q4), .second, .val (.int p5), .val (.long (4611686018427387903 : Int64)), .second, .val (.long lm), .second, .val (.ref b1), .val (.long t0), .second, .val (.int e1), .val (.int e1), .val (.long ra), .second, .unset, .unset, .unset, .unset, .unset, .unset, .unset, .unset, .unset, .unset] [(.int (2 : Int32)), (.int p5), (.long q3), (.long (lm - ra))])) _
    refine XS.iushr X5.here hx rfl (hb hby at_83) rfl ?_
    show Steps p.tables e below (T5.setTop (mkF m 84 #[.val (.long q1), .second, .val (.long q2), .second, .val (.long q3), .second, .val (.long q4), .second, .val (.int p5), .val (.long (4611686018427387903 : Int64)), .second, .val (.long lm), .second, .val (.ref b1), .val (.long t0), .second, .val (.int e1), .val (.int e1), .val (.long ra), .second, .unset, .unset, .unset, .unset, .unset, .unset, .unset, .unset, .unset, .unset] [(.int ((p5.toUInt32 >>> ((2 : Int32) &&& 31).toUInt32).toInt32)), (.long q3), (.long (lm - ra))])) _
    refine XS.iconst X5.here hx rfl (hb hby at_84) ?_
    show Steps p.tables e below (T5.setTop (mkF m 85 #[.val (.long q1), .second, .val (.long q2), .second, .val (.long q3), .second, .val (.long q4), .second, .val (.int p5), .val (.long (4611686018427387903 : Int64)), .second, .val (.long lm), .second, .val (.ref b1), .val (.long t0), .second, .val (.int e1), .val (.int e1), .val (.long ra), .second, .unset, .unset, .unset, .unset, .unset, .unset, .unset, .unset, .unset, .unset] [(.int (3 : Int32)), (.int ((p5.toUInt32 >>> ((2 : Int32) &&& 31).toUInt32).toInt32)), (.long q3), (.long (lm - ra))])) _
    refine XS.iand X5.here hx rfl (hb hby at_85) rfl ?_
    show Steps p.tables e below (T5.setTop (mkF m 86 #[.val (.long q1), .second, .val (.long q2), .second, .val (.long q3), .second, .val (.long q4), .second, .val (.int p5), .val (.long (4611686018427387903 : Int64)), .second, .val (.long lm), .second, .val (.ref b1), .val (.long t0), .second, .val (.int e1), .val (.int e1), .val (.long ra), .second, .unset, .unset, .unset, .unset, .unset, .unset, .unset, .unset, .unset, .unset] [(.int (((p5.toUInt32 >>> ((2 : Int32) &&& 31).toUInt32).toInt32) &&& (3 : Int32))), (.long q3), (.long (lm - ra))])) _
    refine XS.lload X5.here hx rfl (hb hby at_86) rfl ?_
    show Steps p.tables e below (T5.setTop (mkF m 88 #[.val (.long q1), .second, .val (.long q2), .second, .val (.long q3), .second, .val (.long q4), .second, .val (.int p5), .val (.long (4611686018427387903 : Int64)), .second, .val (.long lm), .second, .val (.ref b1), .val (.long t0), .second, .val (.int e1), .val (.int e1), .val (.long ra), .second, .unset, .unset, .unset, .unset, .unset, .unset, .unset, .unset, .unset, .unset] [(.long (4611686018427387903 : Int64)), (.int (((p5.toUInt32 >>> ((2 : Int32) &&& 31).toUInt32).toInt32) &&& (3 : Int32))), (.long q3), (.long (lm - ra))])) _
    exact k
  rw [own_tr1 ee1 era] at F25
  obtain ⟨_, T7, L7, X7, ⟨rfl, N7q, k7⟩, st7⟩ := own_callS X5 hx hZ (y := (⟨"com/example/coherd/coherd/node/ReckonedMemoryTakePinLaw", "pick", "(JJIJ)J"⟩ : MethodName)) hown (hw _ (List.mem_of_getElem? (i := 12) rfl)) (hw _ (List.mem_of_getElem? (i := 13) rfl)) (hw _ (List.mem_of_getElem? (i := 14) rfl)) (hw _ (List.mem_of_getElem? (i := 15) rfl)) (by decide) (own_c3 l Z a0 hw [] (lm - ra) q3 (((p5.toUInt32 >>> ((2 : Int32) &&& 31).toUInt32).toInt32) &&& (3 : Int32)) (4611686018427387903 : Int64) T5.heap n0 Z4_0) rfl (W := 0) (by decide) (by decide) (g := (mkF m 88 #[.val (.long q1), .second, .val (.long q2), .second, .val (.long q3), .second, .val (.long q4), .second, .val (.int p5), .val (.long (4611686018427387903 : Int64)), .second, .val (.long lm), .second, .val (.ref b1), .val (.long t0), .second, .val (.int e1), .val (.int e1), .val (.long ra), .second, .unset, .unset, .unset, .unset, .unset, .unset, .unset, .unset, .unset, .unset] [(.long (4611686018427387903 : Int64)), (.int (((p5.toUInt32 >>> ((2 : Int32) &&& 31).toUInt32).toInt32) &&& (3 : Int32))), (.long q3), (.long (lm - ra))])) rfl (by rw [hml]; rfl) (argsL := [(.long (lm - ra)), (.long q3), (.int (((p5.toUInt32 >>> ((2 : Int32) &&& 31).toUInt32).toInt32) &&& (3 : Int32))), (.long (4611686018427387903 : Int64))]) (rest := []) (lenOf own_pd1 rfl) rfl rfl rfl (hb hby at_88) (by decide) (by decide)
  have N7 := Fr.app N5 N7q
  refine own_go st7 ?_
  show own_Rch p e below _ (T7.setTop (mkF m 91 #[.val (.long q1), .second, .val (.long q2), .second, .val (.long q3), .second, .val (.long q4), .second, .val (.int p5), .val (.long (4611686018427387903 : Int64)), .second, .val (.long lm), .second, .val (.ref b1), .val (.long t0), .second, .val (.int e1), .val (.int e1), .val (.long ra), .second, .unset, .unset, .unset, .unset, .unset, .unset, .unset, .unset, .unset, .unset] [(.long (own_pk (lm - ra) q3 (((p5.toUInt32 >>> ((2 : Int32) &&& 31).toUInt32).toInt32) &&& (3 : Int32)) (4611686018427387903 : Int64)))]))
  generalize (own_pk (lm - ra) q3 (((p5.toUInt32 >>> ((2 : Int32) &&& 31).toUInt32).toInt32) &&& (3 : Int32)) (4611686018427387903 : Int64)) = t1
  show own_Rch p e below _ (T7.setTop (mkF m 91 #[.val (.long q1), .second, .val (.long q2), .second, .val (.long q3), .second, .val (.long q4), .second, .val (.int p5), .val (.long (4611686018427387903 : Int64)), .second, .val (.long lm), .second, .val (.ref b1), .val (.long t0), .second, .val (.int e1), .val (.int e1), .val (.long ra), .second, .unset, .unset, .unset, .unset, .unset, .unset, .unset, .unset, .unset, .unset] [(.long t1)]))
  have Y1 := E5
  rw [← k7] at Y1
  have U1 := F15
  rw [← k7] at U1
  have W1_ := F25
  rw [← k7] at W1_
  have Z3_1 : n0 ≤ T7.heap.size := by rw [k7]; exact Z4_0
  refine own_go (S' := (T7.setTop (mkF m 101 #[.val (.long q1), .second, .val (.long q2), .second, .val (.long q3), .second, .val (.long q4), .second, .val (.int p5), .val (.long (4611686018427387903 : Int64)), .second, .val (.long lm), .second, .val (.ref b1), .val (.long t0), .second, .val (.int e1), .val (.int e1), .val (.long ra), .second, .val (.long t1), .second, .unset, .unset, .unset, .unset, .unset, .unset, .unset, .unset] [(.int (lcmpW (ra + t1) lm))]))) (fun t k => ?_) ?_
  · refine XS.lstore X7.here hx rfl (hb hby at_91) rfl (l' := #[.val (.long q1), .second, .val (.long q2), .second, .val (.long q3), .second, .val (.long q4), .second, .val (.int p5), .val (.long (4611686018427387903 : Int64)), .second, .val (.long lm), .second, .val (.ref b1), .val (.long t0), .second, .val (.int e1), .val (.int e1), .val (.long ra), .second, .val (.long t1), .second, .unset, .unset, .unset, .unset, .unset, .unset, .unset, .unset]) rfl ?_
    show Steps p.tables e below (T7.setTop (mkF m 93 #[.val (.long q1), .second, .val (.long q2), .second, .val (.long q3), .second, .val (.long q4), .second, .val (.int p5), .val (.long (4611686018427387903 : Int64)), .second, .val (.long lm), .second, .val (.ref b1), .val (.long t0), .second, .val (.int e1), .val (.int e1), .val (.long ra), .second, .val (.long t1), .second, .unset, .unset, .unset, .unset, .unset, .unset, .unset, .unset] [])) _
    refine XS.lload X7.here hx rfl (hb hby at_93) rfl ?_
    show Steps p.tables e below (T7.setTop (mkF m 95 #[.val (.long q1), .second, .val (.long q2), .second, .val (.long q3), .second, .val (.long q4), .second, .val (.int p5), .val (.long (4611686018427387903 : Int64)), .second, .val (.long lm), .second, .val (.ref b1), .val (.long t0), .second, .val (.int e1), .val (.int e1), .val (.long ra), .second, .val (.long t1), .second, .unset, .unset, .unset, .unset, .unset, .unset, .unset, .unset] [(.long ra)])) _
    refine XS.lload X7.here hx rfl (hb hby at_95) rfl ?_
    show Steps p.tables e below (T7.setTop (mkF m 97 #[.val (.long q1), .second, .val (.long q2), .second, .val (.long q3), .second, .val (.long q4), .second, .val (.int p5), .val (.long (4611686018427387903 : Int64)), .second, .val (.long lm), .second, .val (.ref b1), .val (.long t0), .second, .val (.int e1), .val (.int e1), .val (.long ra), .second, .val (.long t1), .second, .unset, .unset, .unset, .unset, .unset, .unset, .unset, .unset] [(.long t1), (.long ra)])) _
    refine XS.ladd X7.here hx rfl (hb hby at_97) rfl ?_
    show Steps p.tables e below (T7.setTop (mkF m 98 #[.val (.long q1), .second, .val (.long q2), .second, .val (.long q3), .second, .val (.long q4), .second, .val (.int p5), .val (.long (4611686018427387903 : Int64)), .second, .val (.long lm), .second, .val (.ref b1), .val (.long t0), .second, .val (.int e1), .val (.int e1), .val (.long ra), .second, .val (.long t1), .second, .unset, .unset, .unset, .unset, .unset, .unset, .unset, .unset] [(.long (ra + t1))])) _
    refine XS.lload X7.here hx rfl (hb hby at_98) rfl ?_
    show Steps p.tables e below (T7.setTop (mkF m 100 #[.val (.long q1), .second, .val (.long q2), .second, .val (.long q3), .second, .val (.long q4), .second, .val (.int p5), .val (.long (4611686018427387903 : Int64)), .second, .val (.long lm), .second, .val (.ref b1), .val (.long t0), .second, .val (.int e1), .val (.int e1), .val (.long ra), .second, .val (.long t1), .second, .unset, .unset, .unset, .unset, .unset, .unset, .unset, .unset] [(.long lm), (.long (ra + t1))])) _
    refine XS.lcmp X7.here hx rfl (hb hby at_100) rfl ?_
    show Steps p.tables e below (T7.setTop (mkF m 101 #[.val (.long q1), .second, .val (.long q2), .second, .val (.long q3), .second, .val (.long q4), .second, .val (.int p5), .val (.long (4611686018427387903 : Int64)), .second, .val (.long lm), .second, .val (.ref b1), .val (.long t0), .second, .val (.int e1), .val (.int e1), .val (.long ra), .second, .val (.long t1), .second, .unset, .unset, .unset, .unset, .unset, .unset, .unset, .unset] [(.int (lcmpW (ra + t1) lm))])) _
    exact k
  obtain ⟨e2, ee2⟩ : ∃ z : Int32, z = if (0 : Int32) < (lcmpW (ra + t1) lm) then 0 else 1 := ⟨_, rfl⟩
  refine own_join (S' := (T7.setTop (mkF m 109 #[.val (.long q1), .second, .val (.long q2), .second, .val (.long q3), .second, .val (.long q4), .second, .val (.int p5), .val (.long (4611686018427387903 : Int64)), .second, .val (.long lm), .second, .val (.ref b1), .val (.long t0), .second, .val (.int e1), .val (.int e1), .val (.long ra), .second, .val (.long t1), .second, .unset, .unset, .unset, .unset, .unset, .unset, .unset, .unset] [(.int e2)]))) (fun J8 => ?_) ?_
  · skip
    by_cases he2 : (0 : Int32) < (lcmpW (ra + t1) lm)
    · skip
      refine own_go (S' := (T7.setTop (mkF m 109 #[.val (.long q1), .second, .val (.long q2), .second, .val (.long q3), .second, .val (.long q4), .second, .val (.int p5), .val (.long (4611686018427387903 : Int64)), .second, .val (.long lm), .second, .val (.ref b1), .val (.long t0), .second, .val (.int e1), .val (.int e1), .val (.long ra), .second, .val (.long t1), .second, .unset, .unset, .unset, .unset, .unset, .unset, .unset, .unset] [(.int (0 : Int32))]))) (fun t k => ?_) ?_
      · refine XS.ifYes X7.here hx rfl (pc0 := 101) (pc' := 108) rfl (hb hby at_101) rfl ((if0 _ _).trans (tlt he2).2.2.1) (by decide) (by decide) ?_
        show Steps p.tables e below (T7.setTop (mkF m 108 #[.val (.long q1), .second, .val (.long q2), .second, .val (.long q3), .second, .val (.long q4), .second, .val (.int p5), .val (.long (4611686018427387903 : Int64)), .second, .val (.long lm), .second, .val (.ref b1), .val (.long t0), .second, .val (.int e1), .val (.int e1), .val (.long ra), .second, .val (.long t1), .second, .unset, .unset, .unset, .unset, .unset, .unset, .unset, .unset] [])) _
        refine XS.iconst X7.here hx rfl (hb hby at_108) ?_
        show Steps p.tables e below (T7.setTop (mkF m 109 #[.val (.long q1), .second, .val (.long q2), .second, .val (.long q3), .second, .val (.long q4), .second, .val (.int p5), .val (.long (4611686018427387903 : Int64)), .second, .val (.long lm), .second, .val (.ref b1), .val (.long t0), .second, .val (.int e1), .val (.int e1), .val (.long ra), .second, .val (.long t1), .second, .unset, .unset, .unset, .unset, .unset, .unset, .unset, .unset] [(.int (0 : Int32))])) _
        exact k
      rw [if_pos he2] at ee2; subst ee2; exact J8
    · skip
      refine own_go (S' := (T7.setTop (mkF m 109 #[.val (.long q1), .second, .val (.long q2), .second, .val (.long q3), .second, .val (.long q4), .second, .val (.int p5), .val (.long (4611686018427387903 : Int64)), .second, .val (.long lm), .second, .val (.ref b1), .val (.long t0), .second, .val (.int e1), .val (.int e1), .val (.long ra), .second, .val (.long t1), .second, .unset, .unset, .unset, .unset, .unset, .unset, .unset, .unset] [(.int (1 : Int32))]))) (fun t k => ?_) ?_
      · refine XS.ifNo X7.here hx rfl (hb hby at_101) rfl ((if0 _ _).trans (flt he2).2.2.1) ?_
        show Steps p.tables e below (T7.setTop (mkF m 104 #[.val (.long q1), .second, .val (.long q2), .second, .val (.long q3), .second, .val (.long q4), .second, .val (.int p5), .val (.long (4611686018427387903 : Int64)), .second, .val (.long lm), .second, .val (.ref b1), .val (.long t0), .second, .val (.int e1), .val (.int e1), .val (.long ra), .second, .val (.long t1), .second, .unset, .unset, .unset, .unset, .unset, .unset, .unset, .unset] [])) _
        refine XS.iconst X7.here hx rfl (hb hby at_104) ?_
        show Steps p.tables e below (T7.setTop (mkF m 105 #[.val (.long q1), .second, .val (.long q2), .second, .val (.long q3), .second, .val (.long q4), .second, .val (.int p5), .val (.long (4611686018427387903 : Int64)), .second, .val (.long lm), .second, .val (.ref b1), .val (.long t0), .second, .val (.int e1), .val (.int e1), .val (.long ra), .second, .val (.long t1), .second, .unset, .unset, .unset, .unset, .unset, .unset, .unset, .unset] [(.int (1 : Int32))])) _
        refine XS.goto X7.here hx rfl (pc0 := 105) (pc' := 109) rfl (hb hby at_105) (by decide) (by decide) ?_
        show Steps p.tables e below (T7.setTop (mkF m 109 #[.val (.long q1), .second, .val (.long q2), .second, .val (.long q3), .second, .val (.long q4), .second, .val (.int p5), .val (.long (4611686018427387903 : Int64)), .second, .val (.long lm), .second, .val (.ref b1), .val (.long t0), .second, .val (.int e1), .val (.int e1), .val (.long ra), .second, .val (.long t1), .second, .unset, .unset, .unset, .unset, .unset, .unset, .unset, .unset] [(.int (1 : Int32))])) _
        exact k
      rw [if_neg he2] at ee2; subst ee2; exact J8
  refine own_go (S' := (T7.setTop (mkF m 115 #[.val (.long q1), .second, .val (.long q2), .second, .val (.long q3), .second, .val (.long q4), .second, .val (.int p5), .val (.long (4611686018427387903 : Int64)), .second, .val (.long lm), .second, .val (.ref b1), .val (.long t0), .second, .val (.int e1), .val (.int e1), .val (.long ra), .second, .val (.long t1), .second, .val (.int e2), .unset, .unset, .unset, .unset, .unset, .unset, .unset] [(.long t1), (.ref b1)]))) (fun t k => ?_) ?_
  · refine XS.istore X7.here hx rfl (hb hby at_109) rfl (l' := #[.val (.long q1), .second, .val (.long q2), .second, .val (.long q3), .second, .val (.long q4), .second, .val (.int p5), .val (.long (4611686018427387903 : Int64)), .second, .val (.long lm), .second, .val (.ref b1), .val (.long t0), .second, .val (.int e1), .val (.int e1), .val (.long ra), .second, .val (.long t1), .second, .val (.int e2), .unset, .unset, .unset, .unset, .unset, .unset, .unset]) rfl ?_
    show Steps p.tables e below (T7.setTop (mkF m 111 #[.val (.long q1), .second, .val (.long q2), .second, .val (.long q3), .second, .val (.long q4), .second, .val (.int p5), .val (.long (4611686018427387903 : Int64)), .second, .val (.long lm), .second, .val (.ref b1), .val (.long t0), .second, .val (.int e1), .val (.int e1), .val (.long ra), .second, .val (.long t1), .second, .val (.int e2), .unset, .unset, .unset, .unset, .unset, .unset, .unset] [])) _
    refine XS.aload X7.here hx rfl (hb hby at_111) rfl rfl ?_
    show Steps p.tables e below (T7.setTop (mkF m 113 #[.val (.long q1), .second, .val (.long q2), .second, .val (.long q3), .second, .val (.long q4), .second, .val (.int p5), .val (.long (4611686018427387903 : Int64)), .second, .val (.long lm), .second, .val (.ref b1), .val (.long t0), .second, .val (.int e1), .val (.int e1), .val (.long ra), .second, .val (.long t1), .second, .val (.int e2), .unset, .unset, .unset, .unset, .unset, .unset, .unset] [(.ref b1)])) _
    refine XS.lload X7.here hx rfl (hb hby at_113) rfl ?_
    show Steps p.tables e below (T7.setTop (mkF m 115 #[.val (.long q1), .second, .val (.long q2), .second, .val (.long q3), .second, .val (.long q4), .second, .val (.int p5), .val (.long (4611686018427387903 : Int64)), .second, .val (.long lm), .second, .val (.ref b1), .val (.long t0), .second, .val (.int e1), .val (.int e1), .val (.long ra), .second, .val (.long t1), .second, .val (.int e2), .unset, .unset, .unset, .unset, .unset, .unset, .unset] [(.long t1), (.ref b1)])) _
    exact k
  obtain ⟨_, T9, L9, X9, ⟨rfl, N9q, K9, E9, F19, F29⟩, st9⟩ := own_callV X7 hx hZ (y := (⟨"com/example/coherd/coherd/node/ReckonedMemory", "take", "(J)Z"⟩ : MethodName)) (z := (⟨"com/example/coherd/coherd/node/ReckonedMemory", "take", "(J)Z"⟩ : MethodName)) (C := "com/example/coherd/coherd/node/ReckonedMemory") hown (hw _ (List.mem_of_getElem? (i := 16) rfl)) (hw _ (List.mem_of_getElem? (i := 17) rfl)) (notFace_of_selects (args := #[]) (mvT hZ (hw _ (List.mem_of_getElem? (i := 19) rfl)))) (hw _ (List.mem_of_getElem? (i := 19) rfl)) (hw _ (List.mem_of_getElem? (i := 18) rfl)) (hw _ (List.mem_of_getElem? (i := 3) rfl)) (hw _ (List.mem_of_getElem? (i := 20) rfl)) (by decide) (own_c4 l Z a0 hw [] b1 t1 ra lm T7.heap n0 Z3_1 U1 W1_ Y1 gb1) rfl Y1 (W := 0) (by decide) (by decide) (g := (mkF m 115 #[.val (.long q1), .second, .val (.long q2), .second, .val (.long q3), .second, .val (.long q4), .second, .val (.int p5), .val (.long (4611686018427387903 : Int64)), .second, .val (.long lm), .second, .val (.ref b1), .val (.long t0), .second, .val (.int e1), .val (.int e1), .val (.long ra), .second, .val (.long t1), .second, .val (.int e2), .unset, .unset, .unset, .unset, .unset, .unset, .unset] [(.long t1), (.ref b1)])) rfl (by rw [hml]; rfl) (argsL := [(.long t1)]) (rest := []) (lenOf own_pd2 rfl) rfl rfl rfl (hb hby at_115) (by decide) (by decide)
  have N9 := Fr.app N7 N9q
  refine own_go st9 ?_
  show own_Rch p e below _ (T9.setTop (mkF m 118 #[.val (.long q1), .second, .val (.long q2), .second, .val (.long q3), .second, .val (.long q4), .second, .val (.int p5), .val (.long (4611686018427387903 : Int64)), .second, .val (.long lm), .second, .val (.ref b1), .val (.long t0), .second, .val (.int e1), .val (.int e1), .val (.long ra), .second, .val (.long t1), .second, .val (.int e2), .unset, .unset, .unset, .unset, .unset, .unset, .unset] [(.int (own_tk ra t1 lm))]))
  rw [own_tk2 ee2]
  show own_Rch p e below _ (T9.setTop (mkF m 118 #[.val (.long q1), .second, .val (.long q2), .second, .val (.long q3), .second, .val (.long q4), .second, .val (.int p5), .val (.long (4611686018427387903 : Int64)), .second, .val (.long lm), .second, .val (.ref b1), .val (.long t0), .second, .val (.int e1), .val (.int e1), .val (.long ra), .second, .val (.long t1), .second, .val (.int e2), .unset, .unset, .unset, .unset, .unset, .unset, .unset] [(.int e2)]))
  refine own_go (S' := (T9.setTop (mkF m 122 #[.val (.long q1), .second, .val (.long q2), .second, .val (.long q3), .second, .val (.long q4), .second, .val (.int p5), .val (.long (4611686018427387903 : Int64)), .second, .val (.long lm), .second, .val (.ref b1), .val (.long t0), .second, .val (.int e1), .val (.int e1), .val (.long ra), .second, .val (.long t1), .second, .val (.int e2), .val (.int e2), .unset, .unset, .unset, .unset, .unset, .unset] [(.int e2)]))) (fun t k => ?_) ?_
  · refine XS.istore X9.here hx rfl (hb hby at_118) rfl (l' := #[.val (.long q1), .second, .val (.long q2), .second, .val (.long q3), .second, .val (.long q4), .second, .val (.int p5), .val (.long (4611686018427387903 : Int64)), .second, .val (.long lm), .second, .val (.ref b1), .val (.long t0), .second, .val (.int e1), .val (.int e1), .val (.long ra), .second, .val (.long t1), .second, .val (.int e2), .val (.int e2), .unset, .unset, .unset, .unset, .unset, .unset]) rfl ?_
    show Steps p.tables e below (T9.setTop (mkF m 120 #[.val (.long q1), .second, .val (.long q2), .second, .val (.long q3), .second, .val (.long q4), .second, .val (.int p5), .val (.long (4611686018427387903 : Int64)), .second, .val (.long lm), .second, .val (.ref b1), .val (.long t0), .second, .val (.int e1), .val (.int e1), .val (.long ra), .second, .val (.long t1), .second, .val (.int e2), .val (.int e2), .unset, .unset, .unset, .unset, .unset, .unset] [])) _
    refine XS.iload X9.here hx rfl (hb hby at_120) rfl ?_
    show Steps p.tables e below (T9.setTop (mkF m 122 #[.val (.long q1), .second, .val (.long q2), .second, .val (.long q3), .second, .val (.long q4), .second, .val (.int p5), .val (.long (4611686018427387903 : Int64)), .second, .val (.long lm), .second, .val (.ref b1), .val (.long t0), .second, .val (.int e1), .val (.int e1), .val (.long ra), .second, .val (.long t1), .second, .val (.int e2), .val (.int e2), .unset, .unset, .unset, .unset, .unset, .unset] [(.int e2)])) _
    exact k
  have Z4_1 : n0 ≤ T9.heap.size := Nat.le_trans Z3_1 K9.1
  obtain ⟨rb, erb⟩ : ∃ z : Int64, z = if e2 = (0 : Int32) then ra else (ra + t1) := ⟨_, rfl⟩
  refine own_join (S' := (T9.setTop (mkF m 135 #[.val (.long q1), .second, .val (.long q2), .second, .val (.long q3), .second, .val (.long q4), .second, .val (.int p5), .val (.long (4611686018427387903 : Int64)), .second, .val (.long lm), .second, .val (.ref b1), .val (.long t0), .second, .val (.int e1), .val (.int e1), .val (.long ra), .second, .val (.long t1), .second, .val (.int e2), .val (.int e2), .unset, .unset, .unset, .unset, .unset, .unset] [(.long rb)]))) (fun J10 => ?_) ?_
  · skip
    by_cases hrb : e2 = (0 : Int32)
    · skip
      refine own_go (S' := (T9.setTop (mkF m 135 #[.val (.long q1), .second, .val (.long q2), .second, .val (.long q3), .second, .val (.long q4), .second, .val (.int p5), .val (.long (4611686018427387903 : Int64)), .second, .val (.long lm), .second, .val (.ref b1), .val (.long t0), .second, .val (.int e1), .val (.int e1), .val (.long ra), .second, .val (.long t1), .second, .val (.int e2), .val (.int e2), .unset, .unset, .unset, .unset, .unset, .unset] [(.long ra)]))) (fun t k => ?_) ?_
      · refine XS.ifYes X9.here hx rfl (pc0 := 122) (pc' := 133) rfl (hb hby at_122) rfl ((if0 _ _).trans (teq hrb).1) (by decide) (by decide) ?_
        show Steps p.tables e below (T9.setTop (mkF m 133 #[.val (.long q1), .second, .val (.long q2), .second, .val (.long q3), .second, .val (.long q4), .second, .val (.int p5), .val (.long (4611686018427387903 : Int64)), .second, .val (.long lm), .second, .val (.ref b1), .val (.long t0), .second, .val (.int e1), .val (.int e1), .val (.long ra), .second, .val (.long t1), .second, .val (.int e2), .val (.int e2), .unset, .unset, .unset, .unset, .unset, .unset] [])) _
        refine XS.lload X9.here hx rfl (hb hby at_133) rfl ?_
        show Steps p.tables e below (T9.setTop (mkF m 135 #[.val (.long q1), .second, .val (.long q2), .second, .val (.long q3), .second, .val (.long q4), .second, .val (.int p5), .val (.long (4611686018427387903 : Int64)), .second, .val (.long lm), .second, .val (.ref b1), .val (.long t0), .second, .val (.int e1), .val (.int e1), .val (.long ra), .second, .val (.long t1), .second, .val (.int e2), .val (.int e2), .unset, .unset, .unset, .unset, .unset, .unset] [(.long ra)])) _
        exact k
      rw [if_pos hrb] at erb; subst erb; exact J10
    · skip
      refine own_go (S' := (T9.setTop (mkF m 135 #[.val (.long q1), .second, .val (.long q2), .second, .val (.long q3), .second, .val (.long q4), .second, .val (.int p5), .val (.long (4611686018427387903 : Int64)), .second, .val (.long lm), .second, .val (.ref b1), .val (.long t0), .second, .val (.int e1), .val (.int e1), .val (.long ra), .second, .val (.long t1), .second, .val (.int e2), .val (.int e2), .unset, .unset, .unset, .unset, .unset, .unset] [(.long (ra + t1))]))) (fun t k => ?_) ?_
      · refine XS.ifNo X9.here hx rfl (hb hby at_122) rfl ((if0 _ _).trans (feq hrb).1) ?_
        show Steps p.tables e below (T9.setTop (mkF m 125 #[.val (.long q1), .second, .val (.long q2), .second, .val (.long q3), .second, .val (.long q4), .second, .val (.int p5), .val (.long (4611686018427387903 : Int64)), .second, .val (.long lm), .second, .val (.ref b1), .val (.long t0), .second, .val (.int e1), .val (.int e1), .val (.long ra), .second, .val (.long t1), .second, .val (.int e2), .val (.int e2), .unset, .unset, .unset, .unset, .unset, .unset] [])) _
        refine XS.lload X9.here hx rfl (hb hby at_125) rfl ?_
        show Steps p.tables e below (T9.setTop (mkF m 127 #[.val (.long q1), .second, .val (.long q2), .second, .val (.long q3), .second, .val (.long q4), .second, .val (.int p5), .val (.long (4611686018427387903 : Int64)), .second, .val (.long lm), .second, .val (.ref b1), .val (.long t0), .second, .val (.int e1), .val (.int e1), .val (.long ra), .second, .val (.long t1), .second, .val (.int e2), .val (.int e2), .unset, .unset, .unset, .unset, .unset, .unset] [(.long ra)])) _
        refine XS.lload X9.here hx rfl (hb hby at_127) rfl ?_
        show Steps p.tables e below (T9.setTop (mkF m 129 #[.val (.long q1), .second, .val (.long q2), .second, .val (.long q3), .second, .val (.long q4), .second, .val (.int p5), .val (.long (4611686018427387903 : Int64)), .second, .val (.long lm), .second, .val (.ref b1), .val (.long t0), .second, .val (.int e1), .val (.int e1), .val (.long ra), .second, .val (.long t1), .second, .val (.int e2), .val (.int e2), .unset, .unset, .unset, .unset, .unset, .unset] [(.long t1), (.long ra)])) _
        refine XS.ladd X9.here hx rfl (hb hby at_129) rfl ?_
        show Steps p.tables e below (T9.setTop (mkF m 130 #[.val (.long q1), .second, .val (.long q2), .second, .val (.long q3), .second, .val (.long q4), .second, .val (.int p5), .val (.long (4611686018427387903 : Int64)), .second, .val (.long lm), .second, .val (.ref b1), .val (.long t0), .second, .val (.int e1), .val (.int e1), .val (.long ra), .second, .val (.long t1), .second, .val (.int e2), .val (.int e2), .unset, .unset, .unset, .unset, .unset, .unset] [(.long (ra + t1))])) _
        refine XS.goto X9.here hx rfl (pc0 := 130) (pc' := 135) rfl (hb hby at_130) (by decide) (by decide) ?_
        show Steps p.tables e below (T9.setTop (mkF m 135 #[.val (.long q1), .second, .val (.long q2), .second, .val (.long q3), .second, .val (.long q4), .second, .val (.int p5), .val (.long (4611686018427387903 : Int64)), .second, .val (.long lm), .second, .val (.ref b1), .val (.long t0), .second, .val (.int e1), .val (.int e1), .val (.long ra), .second, .val (.long t1), .second, .val (.int e2), .val (.int e2), .unset, .unset, .unset, .unset, .unset, .unset] [(.long (ra + t1))])) _
        exact k
      rw [if_neg hrb] at erb; subst erb; exact J10
  refine own_go (S' := (T9.setTop (mkF m 152 #[.val (.long q1), .second, .val (.long q2), .second, .val (.long q3), .second, .val (.long q4), .second, .val (.int p5), .val (.long (4611686018427387903 : Int64)), .second, .val (.long lm), .second, .val (.ref b1), .val (.long t0), .second, .val (.int e1), .val (.int e1), .val (.long ra), .second, .val (.long t1), .second, .val (.int e2), .val (.int e2), .val (.long rb), .second, .unset, .unset, .unset, .unset] [(.long (4611686018427387903 : Int64)), (.int (((p5.toUInt32 >>> ((4 : Int32) &&& 31).toUInt32).toInt32) &&& (3 : Int32))), (.long q4), (.long (lm - rb))]))) (fun t k => ?_) ?_
  · refine XS.lstore X9.here hx rfl (hb hby at_135) rfl (l' := #[.val (.long q1), .second, .val (.long q2), .second, .val (.long q3), .second, .val (.long q4), .second, .val (.int p5), .val (.long (4611686018427387903 : Int64)), .second, .val (.long lm), .second, .val (.ref b1), .val (.long t0), .second, .val (.int e1), .val (.int e1), .val (.long ra), .second, .val (.long t1), .second, .val (.int e2), .val (.int e2), .val (.long rb), .second, .unset, .unset, .unset, .unset]) rfl ?_
    show Steps p.tables e below (T9.setTop (mkF m 137 #[.val (.long q1), .second, .val (.long q2), .second, .val (.long q3), .second, .val (.long q4), .second, .val (.int p5), .val (.long (4611686018427387903 : Int64)), .second, .val (.long lm), .second, .val (.ref b1), .val (.long t0), .second, .val (.int e1), .val (.int e1), .val (.long ra), .second, .val (.long t1), .second, .val (.int e2), .val (.int e2), .val (.long rb), .second, .unset, .unset, .unset, .unset] [])) _
    refine XS.lload X9.here hx rfl (hb hby at_137) rfl ?_
    show Steps p.tables e below (T9.setTop (mkF m 139 #[.val (.long q1), .second, .val (.long q2), .second, .val (.long q3), .second, .val (.long q4), .second, .val (.int p5), .val (.long (4611686018427387903 : Int64)), .second, .val (.long lm), .second, .val (.ref b1), .val (.long t0), .second, .val (.int e1), .val (.int e1), .val (.long ra), .second, .val (.long t1), .second, .val (.int e2), .val (.int e2), .val (.long rb), .second, .unset, .unset, .unset, .unset] [(.long lm)])) _
    refine XS.lload X9.here hx rfl (hb hby at_139) rfl ?_
    show Steps p.tables e below (T9.setTop (mkF m 141 #[.val (.long q1), .second, .val (.long q2), .second, .val (.long q3), .second, .val (.long q4), .second, .val (.int p5), .val (.long (4611686018427387903 : Int64)), .second, .val (.long lm), .second, .val (.ref b1), .val (.long t0), .second, .val (.int e1), .val (.int e1), .val (.long ra), .second, .val (.long t1), .second, .val (.int e2), .val (.int e2), .val (.long rb), .second, .unset, .unset, .unset, .unset] [(.long rb), (.long lm)])) _
    refine XS.lsub X9.here hx rfl (hb hby at_141) rfl ?_
    show Steps p.tables e below (T9.setTop (mkF m 142 #[.val (.long q1), .second, .val (.long q2), .second, .val (.long q3), .second, .val (.long q4), .second, .val (.int p5), .val (.long (4611686018427387903 : Int64)), .second, .val (.long lm), .second, .val (.ref b1), .val (.long t0), .second, .val (.int e1), .val (.int e1), .val (.long ra), .second, .val (.long t1), .second, .val (.int e2), .val (.int e2), .val (.long rb), .second, .unset, .unset, .unset, .unset] [(.long (lm - rb))])) _
    refine XS.lload X9.here hx rfl (hb hby at_142) rfl ?_
    show Steps p.tables e below (T9.setTop (mkF m 144 #[.val (.long q1), .second, .val (.long q2), .second, .val (.long q3), .second, .val (.long q4), .second, .val (.int p5), .val (.long (4611686018427387903 : Int64)), .second, .val (.long lm), .second, .val (.ref b1), .val (.long t0), .second, .val (.int e1), .val (.int e1), .val (.long ra), .second, .val (.long t1), .second, .val (.int e2), .val (.int e2), .val (.long rb), .second, .unset, .unset, .unset, .unset] [(.long q4), (.long (lm - rb))])) _
    refine XS.iload X9.here hx rfl (hb hby at_144) rfl ?_
    show Steps p.tables e below (T9.setTop (mkF m 146 #[.val (.long q1), .second, .val (.long q2), .second, .val (.long q3), .second, .val (.long q4), .second, .val (.int p5), .val (.long (4611686018427387903 : Int64)), .second, .val (.long lm), .second, .val (.ref b1), .val (.long t0), .second, .val (.int e1), .val (.int e1), .val (.long ra), .second, .val (.long t1), .second, .val (.int e2), .val (.int e2), .val (.long rb), .second, .unset, .unset, .unset, .unset] [(.int p5), (.long q4), (.long (lm - rb))])) _
    refine XS.iconst X9.here hx rfl (hb hby at_146) ?_
    show Steps p.tables e below (T9.setTop (mkF m 147 #[.val (.long q1), .second, .val (.long q2), .second, .val (.long q3), .second, .val (.long q4), .second, .val (.int p5), .val (.long (4611686018427387903 : Int64)), .second, .val (.long lm), .second, .val (.ref b1), .val (.long t0), .second, .val (.int e1), .val (.int e1), .val (.long ra), .second, .val (.long t1), .second, .val (.int e2), .val (.int e2), .val (.long rb), .second, .unset, .unset, .unset, .unset] [(.int (4 : Int32)), (.int p5), (.long q4), (.long (lm - rb))])) _
    refine XS.iushr X9.here hx rfl (hb hby at_147) rfl ?_
    show Steps p.tables e below (T9.setTop (mkF m 148 #[.val (.long q1), .second, .val (.long q2), .second, .val (.long q3), .second, .val (.long q4), .second, .val (.int p5), .val (.long (4611686018427387903 : Int64)), .second, .val (.long lm), .second, .val (.ref b1), .val (.long t0), .second, .val (.int e1), .val (.int e1), .val (.long ra), .second, .val (.long t1), .second, .val (.int e2), .val (.int e2), .val (.long rb), .second, .unset, .unset, .unset, .unset] [(.int ((p5.toUInt32 >>> ((4 : Int32) &&& 31).toUInt32).toInt32)), (.long q4), (.long (lm - rb))])) _
    refine XS.iconst X9.here hx rfl (hb hby at_148) ?_
    show Steps p.tables e below (T9.setTop (mkF m 149 #[.val (.long q1), .second, .val (.long q2), .second, .val (.long q3), .second, .val (.long q4), .second, .val (.int p5), .val (.long (4611686018427387903 : Int64)), .second, .val (.long lm), .second, .val (.ref b1), .val (.long t0), .second, .val (.int e1), .val (.int e1), .val (.long ra), .second, .val (.long t1), .second, .val (.int e2), .val (.int e2), .val (.long rb), .second, .unset, .unset, .unset, .unset] [(.int (3 : Int32)), (.int ((p5.toUInt32 >>> ((4 : Int32) &&& 31).toUInt32).toInt32)), (.long q4), (.long (lm - rb))])) _
    refine XS.iand X9.here hx rfl (hb hby at_149) rfl ?_
    show Steps p.tables e below (T9.setTop (mkF m 150 #[.val (.long q1), .second, .val (.long q2), .second, .val (.long q3), .second, .val (.long q4), .second, .val (.int p5), .val (.long (4611686018427387903 : Int64)), .second, .val (.long lm), .second, .val (.ref b1), .val (.long t0), .second, .val (.int e1), .val (.int e1), .val (.long ra), .second, .val (.long t1), .second, .val (.int e2), .val (.int e2), .val (.long rb), .second, .unset, .unset, .unset, .unset] [(.int (((p5.toUInt32 >>> ((4 : Int32) &&& 31).toUInt32).toInt32) &&& (3 : Int32))), (.long q4), (.long (lm - rb))])) _
    refine XS.lload X9.here hx rfl (hb hby at_150) rfl ?_
    show Steps p.tables e below (T9.setTop (mkF m 152 #[.val (.long q1), .second, .val (.long q2), .second, .val (.long q3), .second, .val (.long q4), .second, .val (.int p5), .val (.long (4611686018427387903 : Int64)), .second, .val (.long lm), .second, .val (.ref b1), .val (.long t0), .second, .val (.int e1), .val (.int e1), .val (.long ra), .second, .val (.long t1), .second, .val (.int e2), .val (.int e2), .val (.long rb), .second, .unset, .unset, .unset, .unset] [(.long (4611686018427387903 : Int64)), (.int (((p5.toUInt32 >>> ((4 : Int32) &&& 31).toUInt32).toInt32) &&& (3 : Int32))), (.long q4), (.long (lm - rb))])) _
    exact k
  rw [own_tr2 ee2 erb] at F29
  obtain ⟨_, T11, L11, X11, ⟨rfl, N11q, k11⟩, st11⟩ := own_callS X9 hx hZ (y := (⟨"com/example/coherd/coherd/node/ReckonedMemoryTakePinLaw", "pick", "(JJIJ)J"⟩ : MethodName)) hown (hw _ (List.mem_of_getElem? (i := 12) rfl)) (hw _ (List.mem_of_getElem? (i := 13) rfl)) (hw _ (List.mem_of_getElem? (i := 14) rfl)) (hw _ (List.mem_of_getElem? (i := 15) rfl)) (by decide) (own_c3 l Z a0 hw [] (lm - rb) q4 (((p5.toUInt32 >>> ((4 : Int32) &&& 31).toUInt32).toInt32) &&& (3 : Int32)) (4611686018427387903 : Int64) T9.heap n0 Z4_1) rfl (W := 0) (by decide) (by decide) (g := (mkF m 152 #[.val (.long q1), .second, .val (.long q2), .second, .val (.long q3), .second, .val (.long q4), .second, .val (.int p5), .val (.long (4611686018427387903 : Int64)), .second, .val (.long lm), .second, .val (.ref b1), .val (.long t0), .second, .val (.int e1), .val (.int e1), .val (.long ra), .second, .val (.long t1), .second, .val (.int e2), .val (.int e2), .val (.long rb), .second, .unset, .unset, .unset, .unset] [(.long (4611686018427387903 : Int64)), (.int (((p5.toUInt32 >>> ((4 : Int32) &&& 31).toUInt32).toInt32) &&& (3 : Int32))), (.long q4), (.long (lm - rb))])) rfl (by rw [hml]; rfl) (argsL := [(.long (lm - rb)), (.long q4), (.int (((p5.toUInt32 >>> ((4 : Int32) &&& 31).toUInt32).toInt32) &&& (3 : Int32))), (.long (4611686018427387903 : Int64))]) (rest := []) (lenOf own_pd1 rfl) rfl rfl rfl (hb hby at_152) (by decide) (by decide)
  have N11 := Fr.app N9 N11q
  refine own_go st11 ?_
  show own_Rch p e below _ (T11.setTop (mkF m 155 #[.val (.long q1), .second, .val (.long q2), .second, .val (.long q3), .second, .val (.long q4), .second, .val (.int p5), .val (.long (4611686018427387903 : Int64)), .second, .val (.long lm), .second, .val (.ref b1), .val (.long t0), .second, .val (.int e1), .val (.int e1), .val (.long ra), .second, .val (.long t1), .second, .val (.int e2), .val (.int e2), .val (.long rb), .second, .unset, .unset, .unset, .unset] [(.long (own_pk (lm - rb) q4 (((p5.toUInt32 >>> ((4 : Int32) &&& 31).toUInt32).toInt32) &&& (3 : Int32)) (4611686018427387903 : Int64)))]))
  generalize (own_pk (lm - rb) q4 (((p5.toUInt32 >>> ((4 : Int32) &&& 31).toUInt32).toInt32) &&& (3 : Int32)) (4611686018427387903 : Int64)) = t2
  show own_Rch p e below _ (T11.setTop (mkF m 155 #[.val (.long q1), .second, .val (.long q2), .second, .val (.long q3), .second, .val (.long q4), .second, .val (.int p5), .val (.long (4611686018427387903 : Int64)), .second, .val (.long lm), .second, .val (.ref b1), .val (.long t0), .second, .val (.int e1), .val (.int e1), .val (.long ra), .second, .val (.long t1), .second, .val (.int e2), .val (.int e2), .val (.long rb), .second, .unset, .unset, .unset, .unset] [(.long t2)]))
  have Y2 := E9
  rw [← k11] at Y2
  have U2 := F19
  rw [← k11] at U2
  have W2_ := F29
  rw [← k11] at W2_
  have Z3_2 : n0 ≤ T11.heap.size := by rw [k11]; exact Z4_1
  refine own_go (S' := (T11.setTop (mkF m 165 #[.val (.long q1), .second, .val (.long q2), .second, .val (.long q3), .second, .val (.long q4), .second, .val (.int p5), .val (.long (4611686018427387903 : Int64)), .second, .val (.long lm), .second, .val (.ref b1), .val (.long t0), .second, .val (.int e1), .val (.int e1), .val (.long ra), .second, .val (.long t1), .second, .val (.int e2), .val (.int e2), .val (.long rb), .second, .val (.long t2), .second, .unset, .unset] [(.int (lcmpW (rb + t2) lm))]))) (fun t k => ?_) ?_
  · refine XS.lstore X11.here hx rfl (hb hby at_155) rfl (l' := #[.val (.long q1), .second, .val (.long q2), .second, .val (.long q3), .second, .val (.long q4), .second, .val (.int p5), .val (.long (4611686018427387903 : Int64)), .second, .val (.long lm), .second, .val (.ref b1), .val (.long t0), .second, .val (.int e1), .val (.int e1), .val (.long ra), .second, .val (.long t1), .second, .val (.int e2), .val (.int e2), .val (.long rb), .second, .val (.long t2), .second, .unset, .unset]) rfl ?_
    show Steps p.tables e below (T11.setTop (mkF m 157 #[.val (.long q1), .second, .val (.long q2), .second, .val (.long q3), .second, .val (.long q4), .second, .val (.int p5), .val (.long (4611686018427387903 : Int64)), .second, .val (.long lm), .second, .val (.ref b1), .val (.long t0), .second, .val (.int e1), .val (.int e1), .val (.long ra), .second, .val (.long t1), .second, .val (.int e2), .val (.int e2), .val (.long rb), .second, .val (.long t2), .second, .unset, .unset] [])) _
    refine XS.lload X11.here hx rfl (hb hby at_157) rfl ?_
    show Steps p.tables e below (T11.setTop (mkF m 159 #[.val (.long q1), .second, .val (.long q2), .second, .val (.long q3), .second, .val (.long q4), .second, .val (.int p5), .val (.long (4611686018427387903 : Int64)), .second, .val (.long lm), .second, .val (.ref b1), .val (.long t0), .second, .val (.int e1), .val (.int e1), .val (.long ra), .second, .val (.long t1), .second, .val (.int e2), .val (.int e2), .val (.long rb), .second, .val (.long t2), .second, .unset, .unset] [(.long rb)])) _
    refine XS.lload X11.here hx rfl (hb hby at_159) rfl ?_
    show Steps p.tables e below (T11.setTop (mkF m 161 #[.val (.long q1), .second, .val (.long q2), .second, .val (.long q3), .second, .val (.long q4), .second, .val (.int p5), .val (.long (4611686018427387903 : Int64)), .second, .val (.long lm), .second, .val (.ref b1), .val (.long t0), .second, .val (.int e1), .val (.int e1), .val (.long ra), .second, .val (.long t1), .second, .val (.int e2), .val (.int e2), .val (.long rb), .second, .val (.long t2), .second, .unset, .unset] [(.long t2), (.long rb)])) _
    refine XS.ladd X11.here hx rfl (hb hby at_161) rfl ?_
    show Steps p.tables e below (T11.setTop (mkF m 162 #[.val (.long q1), .second, .val (.long q2), .second, .val (.long q3), .second, .val (.long q4), .second, .val (.int p5), .val (.long (4611686018427387903 : Int64)), .second, .val (.long lm), .second, .val (.ref b1), .val (.long t0), .second, .val (.int e1), .val (.int e1), .val (.long ra), .second, .val (.long t1), .second, .val (.int e2), .val (.int e2), .val (.long rb), .second, .val (.long t2), .second, .unset, .unset] [(.long (rb + t2))])) _
    refine XS.lload X11.here hx rfl (hb hby at_162) rfl ?_
    show Steps p.tables e below (T11.setTop (mkF m 164 #[.val (.long q1), .second, .val (.long q2), .second, .val (.long q3), .second, .val (.long q4), .second, .val (.int p5), .val (.long (4611686018427387903 : Int64)), .second, .val (.long lm), .second, .val (.ref b1), .val (.long t0), .second, .val (.int e1), .val (.int e1), .val (.long ra), .second, .val (.long t1), .second, .val (.int e2), .val (.int e2), .val (.long rb), .second, .val (.long t2), .second, .unset, .unset] [(.long lm), (.long (rb + t2))])) _
    refine XS.lcmp X11.here hx rfl (hb hby at_164) rfl ?_
    show Steps p.tables e below (T11.setTop (mkF m 165 #[.val (.long q1), .second, .val (.long q2), .second, .val (.long q3), .second, .val (.long q4), .second, .val (.int p5), .val (.long (4611686018427387903 : Int64)), .second, .val (.long lm), .second, .val (.ref b1), .val (.long t0), .second, .val (.int e1), .val (.int e1), .val (.long ra), .second, .val (.long t1), .second, .val (.int e2), .val (.int e2), .val (.long rb), .second, .val (.long t2), .second, .unset, .unset] [(.int (lcmpW (rb + t2) lm))])) _
    exact k
  obtain ⟨e3, ee3⟩ : ∃ z : Int32, z = if (0 : Int32) < (lcmpW (rb + t2) lm) then 0 else 1 := ⟨_, rfl⟩
  refine own_join (S' := (T11.setTop (mkF m 173 #[.val (.long q1), .second, .val (.long q2), .second, .val (.long q3), .second, .val (.long q4), .second, .val (.int p5), .val (.long (4611686018427387903 : Int64)), .second, .val (.long lm), .second, .val (.ref b1), .val (.long t0), .second, .val (.int e1), .val (.int e1), .val (.long ra), .second, .val (.long t1), .second, .val (.int e2), .val (.int e2), .val (.long rb), .second, .val (.long t2), .second, .unset, .unset] [(.int e3)]))) (fun J12 => ?_) ?_
  · skip
    by_cases he3 : (0 : Int32) < (lcmpW (rb + t2) lm)
    · skip
      refine own_go (S' := (T11.setTop (mkF m 173 #[.val (.long q1), .second, .val (.long q2), .second, .val (.long q3), .second, .val (.long q4), .second, .val (.int p5), .val (.long (4611686018427387903 : Int64)), .second, .val (.long lm), .second, .val (.ref b1), .val (.long t0), .second, .val (.int e1), .val (.int e1), .val (.long ra), .second, .val (.long t1), .second, .val (.int e2), .val (.int e2), .val (.long rb), .second, .val (.long t2), .second, .unset, .unset] [(.int (0 : Int32))]))) (fun t k => ?_) ?_
      · refine XS.ifYes X11.here hx rfl (pc0 := 165) (pc' := 172) rfl (hb hby at_165) rfl ((if0 _ _).trans (tlt he3).2.2.1) (by decide) (by decide) ?_
        show Steps p.tables e below (T11.setTop (mkF m 172 #[.val (.long q1), .second, .val (.long q2), .second, .val (.long q3), .second, .val (.long q4), .second, .val (.int p5), .val (.long (4611686018427387903 : Int64)), .second, .val (.long lm), .second, .val (.ref b1), .val (.long t0), .second, .val (.int e1), .val (.int e1), .val (.long ra), .second, .val (.long t1), .second, .val (.int e2), .val (.int e2), .val (.long rb), .second, .val (.long t2), .second, .unset, .unset] [])) _
        refine XS.iconst X11.here hx rfl (hb hby at_172) ?_
        show Steps p.tables e below (T11.setTop (mkF m 173 #[.val (.long q1), .second, .val (.long q2), .second, .val (.long q3), .second, .val (.long q4), .second, .val (.int p5), .val (.long (4611686018427387903 : Int64)), .second, .val (.long lm), .second, .val (.ref b1), .val (.long t0), .second, .val (.int e1), .val (.int e1), .val (.long ra), .second, .val (.long t1), .second, .val (.int e2), .val (.int e2), .val (.long rb), .second, .val (.long t2), .second, .unset, .unset] [(.int (0 : Int32))])) _
        exact k
      rw [if_pos he3] at ee3; subst ee3; exact J12
    · skip
      refine own_go (S' := (T11.setTop (mkF m 173 #[.val (.long q1), .second, .val (.long q2), .second, .val (.long q3), .second, .val (.long q4), .second, .val (.int p5), .val (.long (4611686018427387903 : Int64)), .second, .val (.long lm), .second, .val (.ref b1), .val (.long t0), .second, .val (.int e1), .val (.int e1), .val (.long ra), .second, .val (.long t1), .second, .val (.int e2), .val (.int e2), .val (.long rb), .second, .val (.long t2), .second, .unset, .unset] [(.int (1 : Int32))]))) (fun t k => ?_) ?_
      · refine XS.ifNo X11.here hx rfl (hb hby at_165) rfl ((if0 _ _).trans (flt he3).2.2.1) ?_
        show Steps p.tables e below (T11.setTop (mkF m 168 #[.val (.long q1), .second, .val (.long q2), .second, .val (.long q3), .second, .val (.long q4), .second, .val (.int p5), .val (.long (4611686018427387903 : Int64)), .second, .val (.long lm), .second, .val (.ref b1), .val (.long t0), .second, .val (.int e1), .val (.int e1), .val (.long ra), .second, .val (.long t1), .second, .val (.int e2), .val (.int e2), .val (.long rb), .second, .val (.long t2), .second, .unset, .unset] [])) _
        refine XS.iconst X11.here hx rfl (hb hby at_168) ?_
        show Steps p.tables e below (T11.setTop (mkF m 169 #[.val (.long q1), .second, .val (.long q2), .second, .val (.long q3), .second, .val (.long q4), .second, .val (.int p5), .val (.long (4611686018427387903 : Int64)), .second, .val (.long lm), .second, .val (.ref b1), .val (.long t0), .second, .val (.int e1), .val (.int e1), .val (.long ra), .second, .val (.long t1), .second, .val (.int e2), .val (.int e2), .val (.long rb), .second, .val (.long t2), .second, .unset, .unset] [(.int (1 : Int32))])) _
        refine XS.goto X11.here hx rfl (pc0 := 169) (pc' := 173) rfl (hb hby at_169) (by decide) (by decide) ?_
        show Steps p.tables e below (T11.setTop (mkF m 173 #[.val (.long q1), .second, .val (.long q2), .second, .val (.long q3), .second, .val (.long q4), .second, .val (.int p5), .val (.long (4611686018427387903 : Int64)), .second, .val (.long lm), .second, .val (.ref b1), .val (.long t0), .second, .val (.int e1), .val (.int e1), .val (.long ra), .second, .val (.long t1), .second, .val (.int e2), .val (.int e2), .val (.long rb), .second, .val (.long t2), .second, .unset, .unset] [(.int (1 : Int32))])) _
        exact k
      rw [if_neg he3] at ee3; subst ee3; exact J12
  refine own_go (S' := (T11.setTop (mkF m 179 #[.val (.long q1), .second, .val (.long q2), .second, .val (.long q3), .second, .val (.long q4), .second, .val (.int p5), .val (.long (4611686018427387903 : Int64)), .second, .val (.long lm), .second, .val (.ref b1), .val (.long t0), .second, .val (.int e1), .val (.int e1), .val (.long ra), .second, .val (.long t1), .second, .val (.int e2), .val (.int e2), .val (.long rb), .second, .val (.long t2), .second, .val (.int e3), .unset] [(.long t2), (.ref b1)]))) (fun t k => ?_) ?_
  · refine XS.istore X11.here hx rfl (hb hby at_173) rfl (l' := #[.val (.long q1), .second, .val (.long q2), .second, .val (.long q3), .second, .val (.long q4), .second, .val (.int p5), .val (.long (4611686018427387903 : Int64)), .second, .val (.long lm), .second, .val (.ref b1), .val (.long t0), .second, .val (.int e1), .val (.int e1), .val (.long ra), .second, .val (.long t1), .second, .val (.int e2), .val (.int e2), .val (.long rb), .second, .val (.long t2), .second, .val (.int e3), .unset]) rfl ?_
    show Steps p.tables e below (T11.setTop (mkF m 175 #[.val (.long q1), .second, .val (.long q2), .second, .val (.long q3), .second, .val (.long q4), .second, .val (.int p5), .val (.long (4611686018427387903 : Int64)), .second, .val (.long lm), .second, .val (.ref b1), .val (.long t0), .second, .val (.int e1), .val (.int e1), .val (.long ra), .second, .val (.long t1), .second, .val (.int e2), .val (.int e2), .val (.long rb), .second, .val (.long t2), .second, .val (.int e3), .unset] [])) _
    refine XS.aload X11.here hx rfl (hb hby at_175) rfl rfl ?_
    show Steps p.tables e below (T11.setTop (mkF m 177 #[.val (.long q1), .second, .val (.long q2), .second, .val (.long q3), .second, .val (.long q4), .second, .val (.int p5), .val (.long (4611686018427387903 : Int64)), .second, .val (.long lm), .second, .val (.ref b1), .val (.long t0), .second, .val (.int e1), .val (.int e1), .val (.long ra), .second, .val (.long t1), .second, .val (.int e2), .val (.int e2), .val (.long rb), .second, .val (.long t2), .second, .val (.int e3), .unset] [(.ref b1)])) _
    refine XS.lload X11.here hx rfl (hb hby at_177) rfl ?_
    show Steps p.tables e below (T11.setTop (mkF m 179 #[.val (.long q1), .second, .val (.long q2), .second, .val (.long q3), .second, .val (.long q4), .second, .val (.int p5), .val (.long (4611686018427387903 : Int64)), .second, .val (.long lm), .second, .val (.ref b1), .val (.long t0), .second, .val (.int e1), .val (.int e1), .val (.long ra), .second, .val (.long t1), .second, .val (.int e2), .val (.int e2), .val (.long rb), .second, .val (.long t2), .second, .val (.int e3), .unset] [(.long t2), (.ref b1)])) _
    exact k
  obtain ⟨_, T13, L13, X13, ⟨rfl, N13q, K13, E13, F113, F213⟩, st13⟩ := own_callV X11 hx hZ (y := (⟨"com/example/coherd/coherd/node/ReckonedMemory", "take", "(J)Z"⟩ : MethodName)) (z := (⟨"com/example/coherd/coherd/node/ReckonedMemory", "take", "(J)Z"⟩ : MethodName)) (C := "com/example/coherd/coherd/node/ReckonedMemory") hown (hw _ (List.mem_of_getElem? (i := 16) rfl)) (hw _ (List.mem_of_getElem? (i := 17) rfl)) (notFace_of_selects (args := #[]) (mvT hZ (hw _ (List.mem_of_getElem? (i := 19) rfl)))) (hw _ (List.mem_of_getElem? (i := 19) rfl)) (hw _ (List.mem_of_getElem? (i := 18) rfl)) (hw _ (List.mem_of_getElem? (i := 3) rfl)) (hw _ (List.mem_of_getElem? (i := 20) rfl)) (by decide) (own_c4 l Z a0 hw [] b1 t2 rb lm T11.heap n0 Z3_2 U2 W2_ Y2 gb1) rfl Y2 (W := 0) (by decide) (by decide) (g := (mkF m 179 #[.val (.long q1), .second, .val (.long q2), .second, .val (.long q3), .second, .val (.long q4), .second, .val (.int p5), .val (.long (4611686018427387903 : Int64)), .second, .val (.long lm), .second, .val (.ref b1), .val (.long t0), .second, .val (.int e1), .val (.int e1), .val (.long ra), .second, .val (.long t1), .second, .val (.int e2), .val (.int e2), .val (.long rb), .second, .val (.long t2), .second, .val (.int e3), .unset] [(.long t2), (.ref b1)])) rfl (by rw [hml]; rfl) (argsL := [(.long t2)]) (rest := []) (lenOf own_pd2 rfl) rfl rfl rfl (hb hby at_179) (by decide) (by decide)
  have N13 := Fr.app N11 N13q
  refine own_go st13 ?_
  show own_Rch p e below _ (T13.setTop (mkF m 182 #[.val (.long q1), .second, .val (.long q2), .second, .val (.long q3), .second, .val (.long q4), .second, .val (.int p5), .val (.long (4611686018427387903 : Int64)), .second, .val (.long lm), .second, .val (.ref b1), .val (.long t0), .second, .val (.int e1), .val (.int e1), .val (.long ra), .second, .val (.long t1), .second, .val (.int e2), .val (.int e2), .val (.long rb), .second, .val (.long t2), .second, .val (.int e3), .unset] [(.int (own_tk rb t2 lm))]))
  rw [own_tk2 ee3]
  show own_Rch p e below _ (T13.setTop (mkF m 182 #[.val (.long q1), .second, .val (.long q2), .second, .val (.long q3), .second, .val (.long q4), .second, .val (.int p5), .val (.long (4611686018427387903 : Int64)), .second, .val (.long lm), .second, .val (.ref b1), .val (.long t0), .second, .val (.int e1), .val (.int e1), .val (.long ra), .second, .val (.long t1), .second, .val (.int e2), .val (.int e2), .val (.long rb), .second, .val (.long t2), .second, .val (.int e3), .unset] [(.int e3)]))
  refine own_go (S' := (T13.setTop (mkF m 188 #[.val (.long q1), .second, .val (.long q2), .second, .val (.long q3), .second, .val (.long q4), .second, .val (.int p5), .val (.long (4611686018427387903 : Int64)), .second, .val (.long lm), .second, .val (.ref b1), .val (.long t0), .second, .val (.int e1), .val (.int e1), .val (.long ra), .second, .val (.long t1), .second, .val (.int e2), .val (.int e2), .val (.long rb), .second, .val (.long t2), .second, .val (.int e3), .val (.int e3)] [(.int e1), (.int e1)]))) (fun t k => ?_) ?_
  · refine XS.istore X13.here hx rfl (hb hby at_182) rfl (l' := #[.val (.long q1), .second, .val (.long q2), .second, .val (.long q3), .second, .val (.long q4), .second, .val (.int p5), .val (.long (4611686018427387903 : Int64)), .second, .val (.long lm), .second, .val (.ref b1), .val (.long t0), .second, .val (.int e1), .val (.int e1), .val (.long ra), .second, .val (.long t1), .second, .val (.int e2), .val (.int e2), .val (.long rb), .second, .val (.long t2), .second, .val (.int e3), .val (.int e3)]) rfl ?_
    show Steps p.tables e below (T13.setTop (mkF m 184 #[.val (.long q1), .second, .val (.long q2), .second, .val (.long q3), .second, .val (.long q4), .second, .val (.int p5), .val (.long (4611686018427387903 : Int64)), .second, .val (.long lm), .second, .val (.ref b1), .val (.long t0), .second, .val (.int e1), .val (.int e1), .val (.long ra), .second, .val (.long t1), .second, .val (.int e2), .val (.int e2), .val (.long rb), .second, .val (.long t2), .second, .val (.int e3), .val (.int e3)] [])) _
    refine XS.iload X13.here hx rfl (hb hby at_184) rfl ?_
    show Steps p.tables e below (T13.setTop (mkF m 186 #[.val (.long q1), .second, .val (.long q2), .second, .val (.long q3), .second, .val (.long q4), .second, .val (.int p5), .val (.long (4611686018427387903 : Int64)), .second, .val (.long lm), .second, .val (.ref b1), .val (.long t0), .second, .val (.int e1), .val (.int e1), .val (.long ra), .second, .val (.long t1), .second, .val (.int e2), .val (.int e2), .val (.long rb), .second, .val (.long t2), .second, .val (.int e3), .val (.int e3)] [(.int e1)])) _
    refine XS.iload X13.here hx rfl (hb hby at_186) rfl ?_
    show Steps p.tables e below (T13.setTop (mkF m 188 #[.val (.long q1), .second, .val (.long q2), .second, .val (.long q3), .second, .val (.long q4), .second, .val (.int p5), .val (.long (4611686018427387903 : Int64)), .second, .val (.long lm), .second, .val (.ref b1), .val (.long t0), .second, .val (.int e1), .val (.int e1), .val (.long ra), .second, .val (.long t1), .second, .val (.int e2), .val (.int e2), .val (.long rb), .second, .val (.long t2), .second, .val (.int e3), .val (.int e3)] [(.int e1), (.int e1)])) _
    exact k
  have Z4_2 : n0 ≤ T13.heap.size := Nat.le_trans Z3_2 K13.1
  refine own_go (S' := (T13.setTop (mkF m 195 #[.val (.long q1), .second, .val (.long q2), .second, .val (.long q3), .second, .val (.long q4), .second, .val (.int p5), .val (.long (4611686018427387903 : Int64)), .second, .val (.long lm), .second, .val (.ref b1), .val (.long t0), .second, .val (.int e1), .val (.int e1), .val (.long ra), .second, .val (.long t1), .second, .val (.int e2), .val (.int e2), .val (.long rb), .second, .val (.long t2), .second, .val (.int e3), .val (.int e3)] [(.int e2), (.int e2)]))) (fun t k => ?_) ?_
  · refine XS.icmpNo X13.here hx rfl (hb hby at_188) rfl (teq rfl).2 ?_
    show Steps p.tables e below (T13.setTop (mkF m 191 #[.val (.long q1), .second, .val (.long q2), .second, .val (.long q3), .second, .val (.long q4), .second, .val (.int p5), .val (.long (4611686018427387903 : Int64)), .second, .val (.long lm), .second, .val (.ref b1), .val (.long t0), .second, .val (.int e1), .val (.int e1), .val (.long ra), .second, .val (.long t1), .second, .val (.int e2), .val (.int e2), .val (.long rb), .second, .val (.long t2), .second, .val (.int e3), .val (.int e3)] [])) _
    refine XS.iload X13.here hx rfl (hb hby at_191) rfl ?_
    show Steps p.tables e below (T13.setTop (mkF m 193 #[.val (.long q1), .second, .val (.long q2), .second, .val (.long q3), .second, .val (.long q4), .second, .val (.int p5), .val (.long (4611686018427387903 : Int64)), .second, .val (.long lm), .second, .val (.ref b1), .val (.long t0), .second, .val (.int e1), .val (.int e1), .val (.long ra), .second, .val (.long t1), .second, .val (.int e2), .val (.int e2), .val (.long rb), .second, .val (.long t2), .second, .val (.int e3), .val (.int e3)] [(.int e2)])) _
    refine XS.iload X13.here hx rfl (hb hby at_193) rfl ?_
    show Steps p.tables e below (T13.setTop (mkF m 195 #[.val (.long q1), .second, .val (.long q2), .second, .val (.long q3), .second, .val (.long q4), .second, .val (.int p5), .val (.long (4611686018427387903 : Int64)), .second, .val (.long lm), .second, .val (.ref b1), .val (.long t0), .second, .val (.int e1), .val (.int e1), .val (.long ra), .second, .val (.long t1), .second, .val (.int e2), .val (.int e2), .val (.long rb), .second, .val (.long t2), .second, .val (.int e3), .val (.int e3)] [(.int e2), (.int e2)])) _
    exact k
  refine own_go (S' := (T13.setTop (mkF m 202 #[.val (.long q1), .second, .val (.long q2), .second, .val (.long q3), .second, .val (.long q4), .second, .val (.int p5), .val (.long (4611686018427387903 : Int64)), .second, .val (.long lm), .second, .val (.ref b1), .val (.long t0), .second, .val (.int e1), .val (.int e1), .val (.long ra), .second, .val (.long t1), .second, .val (.int e2), .val (.int e2), .val (.long rb), .second, .val (.long t2), .second, .val (.int e3), .val (.int e3)] [(.int e3), (.int e3)]))) (fun t k => ?_) ?_
  · refine XS.icmpNo X13.here hx rfl (hb hby at_195) rfl (teq rfl).2 ?_
    show Steps p.tables e below (T13.setTop (mkF m 198 #[.val (.long q1), .second, .val (.long q2), .second, .val (.long q3), .second, .val (.long q4), .second, .val (.int p5), .val (.long (4611686018427387903 : Int64)), .second, .val (.long lm), .second, .val (.ref b1), .val (.long t0), .second, .val (.int e1), .val (.int e1), .val (.long ra), .second, .val (.long t1), .second, .val (.int e2), .val (.int e2), .val (.long rb), .second, .val (.long t2), .second, .val (.int e3), .val (.int e3)] [])) _
    refine XS.iload X13.here hx rfl (hb hby at_198) rfl ?_
    show Steps p.tables e below (T13.setTop (mkF m 200 #[.val (.long q1), .second, .val (.long q2), .second, .val (.long q3), .second, .val (.long q4), .second, .val (.int p5), .val (.long (4611686018427387903 : Int64)), .second, .val (.long lm), .second, .val (.ref b1), .val (.long t0), .second, .val (.int e1), .val (.int e1), .val (.long ra), .second, .val (.long t1), .second, .val (.int e2), .val (.int e2), .val (.long rb), .second, .val (.long t2), .second, .val (.int e3), .val (.int e3)] [(.int e3)])) _
    refine XS.iload X13.here hx rfl (hb hby at_200) rfl ?_
    show Steps p.tables e below (T13.setTop (mkF m 202 #[.val (.long q1), .second, .val (.long q2), .second, .val (.long q3), .second, .val (.long q4), .second, .val (.int p5), .val (.long (4611686018427387903 : Int64)), .second, .val (.long lm), .second, .val (.ref b1), .val (.long t0), .second, .val (.int e1), .val (.int e1), .val (.long ra), .second, .val (.long t1), .second, .val (.int e2), .val (.int e2), .val (.long rb), .second, .val (.long t2), .second, .val (.int e3), .val (.int e3)] [(.int e3), (.int e3)])) _
    exact k
  refine own_go (S' := (T13.setTop (mkF m 210 #[.val (.long q1), .second, .val (.long q2), .second, .val (.long q3), .second, .val (.long q4), .second, .val (.int p5), .val (.long (4611686018427387903 : Int64)), .second, .val (.long lm), .second, .val (.ref b1), .val (.long t0), .second, .val (.int e1), .val (.int e1), .val (.long ra), .second, .val (.long t1), .second, .val (.int e2), .val (.int e2), .val (.long rb), .second, .val (.long t2), .second, .val (.int e3), .val (.int e3)] [(.int (1 : Int32))]))) (fun t k => ?_) ?_
  · refine XS.icmpNo X13.here hx rfl (hb hby at_202) rfl (teq rfl).2 ?_
    show Steps p.tables e below (T13.setTop (mkF m 205 #[.val (.long q1), .second, .val (.long q2), .second, .val (.long q3), .second, .val (.long q4), .second, .val (.int p5), .val (.long (4611686018427387903 : Int64)), .second, .val (.long lm), .second, .val (.ref b1), .val (.long t0), .second, .val (.int e1), .val (.int e1), .val (.long ra), .second, .val (.long t1), .second, .val (.int e2), .val (.int e2), .val (.long rb), .second, .val (.long t2), .second, .val (.int e3), .val (.int e3)] [])) _
    refine XS.iconst X13.here hx rfl (hb hby at_205) ?_
    show Steps p.tables e below (T13.setTop (mkF m 206 #[.val (.long q1), .second, .val (.long q2), .second, .val (.long q3), .second, .val (.long q4), .second, .val (.int p5), .val (.long (4611686018427387903 : Int64)), .second, .val (.long lm), .second, .val (.ref b1), .val (.long t0), .second, .val (.int e1), .val (.int e1), .val (.long ra), .second, .val (.long t1), .second, .val (.int e2), .val (.int e2), .val (.long rb), .second, .val (.long t2), .second, .val (.int e3), .val (.int e3)] [(.int (1 : Int32))])) _
    refine XS.goto X13.here hx rfl (pc0 := 206) (pc' := 210) rfl (hb hby at_206) (by decide) (by decide) ?_
    show Steps p.tables e below (T13.setTop (mkF m 210 #[.val (.long q1), .second, .val (.long q2), .second, .val (.long q3), .second, .val (.long q4), .second, .val (.int p5), .val (.long (4611686018427387903 : Int64)), .second, .val (.long lm), .second, .val (.ref b1), .val (.long t0), .second, .val (.int e1), .val (.int e1), .val (.long ra), .second, .val (.long t1), .second, .val (.int e2), .val (.int e2), .val (.long rb), .second, .val (.long t2), .second, .val (.int e3), .val (.int e3)] [(.int (1 : Int32))])) _
    exact k
  refine own_retN X13 hx (t := .boolean) Bd.returns Bd.notSynchronized (by simp) (hb hby at_210) rfl (by decide) (by decide) ?_
  exact ⟨rfl, N13⟩
set_option maxRecDepth 65536 in
set_option maxHeartbeats 40000000 in
theorem comes_1 {Post : Tables → Env → Array Value → State → Outcome → State → Prop} (hpost : ∀ tb e args s v u, (limb_1_1.after args s (.returned v) u = true ∧ limb_1_2.after args s (.returned v) u = true ∧ True) → FrameEnd s (.returned v) u (Jvm.fieldLocs frame_1_writes args s ++ Jvm.arrayLocs frame_1_arrays args s ++ Jvm.staticLocs frame_1_statics s) 16 128 → Post tb e args s (.returned v) u) :
    ArmFor flags0 classFile x code maxLocals ret World_1 tables_1 room_1 Calls_1 rest_1 Pre_1 Post := by
  intro l hfl _ _ p e ha hc hk s m args below hf hA hF happ hP
  obtain ⟨hcalls, hrest, hpre⟩ := hP
  obtain ⟨-, -, -, hnamed, -, -, -, hat⟩ := (Spec.applies_iff hf).mp happ
  obtain ⟨hg, hn⟩ := and_e (Cond.before_iff.mp (show (Jvm.Cond.and given_1 narrow_1).before args s = true from hpre))
  obtain ⟨gc, g0⟩ := and_e hg
  obtain ⟨ga0, g1⟩ := and_e g0
  obtain ⟨ga1, g2⟩ := and_e g1
  obtain ⟨ga2, g3⟩ := and_e g2
  obtain ⟨ga3, g4⟩ := and_e g3
  obtain ⟨w0, w1, w2, w3, w4, rfl⟩ : ∃ w0 w1 w2 w3 w4 : Value, args = #[w0, w1, w2, w3, w4] := by
    have hs : args.size = 5 := by simpa [Cond.value, given_1] using gc
    obtain ⟨L⟩ := args
    match L, hs with
    | [w0, w1, w2, w3, w4], _ => exact ⟨w0, w1, w2, w3, w4, rfl⟩
  obtain ⟨i0, ei0⟩ := isL_v ga0
  obtain rfl : w0 = (.long i0) := Option.some.inj ei0
  obtain ⟨i1, ei1⟩ := isL_v ga1
  obtain rfl : w1 = (.long i1) := Option.some.inj ei1
  obtain ⟨i2, ei2⟩ := isL_v ga2
  obtain rfl : w2 = (.long i2) := Option.some.inj ei2
  obtain ⟨i3, ei3⟩ := isL_v ga3
  obtain rfl : w3 = (.long i3) := Option.some.inj ei3
  obtain ⟨i4, ei4⟩ := is_v g4
  obtain rfl : w4 = (.int i4) := Option.some.inj ei4
  have hw := fun d (hd : d ∈ tables_1) => atoms_spec (ws := Jvm.Cond.code x code maxLocals ret :: tables_1) hat d (List.mem_cons_of_mem _ hd)
  have hfit : Fit s := fun {y c} hc i hi => by
    obtain ⟨ha, rfl⟩ := Array.getElem?_eq_some_iff.mp hc
    have q := List.all_eq_true.mp ((Array.all_eq_true_iff_forall_mem.mp hF) _ (Array.getElem_mem ha)) i (List.mem_range.mpr hi)
    simpa [Array.getElem?_eq_getElem hi] using q
  obtain ⟨n, o, h1, h2, h3, _, L, rfl, ⟨rfl, N⟩, hq⟩ := own_c0 l s _ hw tables_1 i0 i1 i2 i3 i4 s.heap s.heap.size (Nat.le_refl _) p e ha hc hk s m _ below hf ((Spec.applies_iff_loose hf).mp happ).1 ⟨rfl, State.Warmed39.refl s, rfl⟩ trivial
  refine ⟨n, _, h1, h2, h3, hpost _ _ _ _ _ _ ⟨Cond.after_iff.mpr rfl, Cond.after_iff.mpr (eq_i res_at (Term.int_eval (1)) rfl), trivial⟩ ⟨hq.1, hq.2.1, (hq.2.2.sift fun y hy => Or.inr (N y hy)).mono (by decide) (by decide)⟩⟩
theorem main_1_1 : Claimed_1_1 := comes_1 fun _ _ _ _ _ _ h hF => ⟨h.1, hF⟩
theorem main_1_2 : Claimed_1_2 := comes_1 fun _ _ _ _ _ _ h hF => ⟨h.2.1, hF⟩
end Jvm.Pilot.@@N@@
namespace Jvm.Pilot.@@N@@
open Jvm Jvm.ClassFile Sem Op Lib Jvm.Free Jvm.Stand Jvm.Pilot.@@N@@.Jvm.D
/-! MADE BY PROGRAM (witnessworld.py) out of the Statement's table words and the real class files: 7 classes; the members and pool entries that the words name. The judged class is class 1, her method 2. -/
namespace start1
open Jvm.ClassFile
def u (s : String) : CpInfo := .utf8 (stringToUtf16 s)
/-- a pool by its gaps: so many unusable entries, then the entry; so many at the end -/
def gap : Nat → List CpInfo → List CpInfo
  | 0, r => r
  | n + 1, r => .unusable :: gap n r
def poolList (es : List (Nat × CpInfo)) (last : Nat) : List CpInfo := es.foldr (fun e r => gap e.1 (e.2 :: r)) (gap last [])
def pool (es : List (Nat × CpInfo)) (last : Nat) : Array CpInfo := ⟨poolList es last⟩
def fileOf (pool : Array CpInfo) (this : Nat) (attrs : Array Attribute := #[]) (ms : Array MethodInfo := #[]) (fl : Nat := 33) (sup : Nat := 0) (ifs : Array Nat := #[]) (fds : Array FieldInfo := #[]) : ClassFile where
  minorVersion := 0
  majorVersion := 65
  constantPool := pool
  accessFlags := fl
  thisClass := this
  superClass := sup
  interfaces := ifs
  fields := fds
  methods := ms
  attributes := attrs
def plain (name : String) (sup : Option ClassId) : Class where
  name := name
  kind := .ordinary
  loader := none
  accessFlags := 33
  super := sup
  interfaces := #[]
  cf := none
  fields := #[]
  methods := #[]
  instanceTypes := #[]
  staticTypes := #[]
  resolved := #[]
  callSites := []
  init := .initialized
  statics := none
  mirror := none

def pool0 : Array CpInfo := pool [(5, u "<init>"), (0, u "()V"), (1, .class_ 10), (1, u "java/lang/Object")] 113

def k0c0 : Code := { maxStack := 0, maxLocals := 1, code := object_method_1_code, exceptionTable := #[], attributes := #[] }
def k0m0 : Method := { name := "<init>", desc := "()V", sig := { parameters := [], returnType := none }, accessFlags := 1, code := some k0c0 }
/-- java/lang/Object -/
def k0 : Class := { plain "java/lang/Object" none with
  accessFlags := 33
  interfaces := #[]
  cf := some (fileOf pool0 8 #[] #[{ accessFlags := 1, nameIndex := 5, descriptorIndex := 6, attributes := #[] }] 33 0 #[] #[])
  fields := #[]
  methods := #[k0m0]
  instanceTypes := #[]
  staticTypes := #[]
  resolved := Array.replicate 124 none
  statics := none }

def pool1 : Array CpInfo := pool [(2, .class_ 4), (1, u "java/lang/Object"), (0, u "<init>"), (0, u "()V"), (0, .long 4611686018427387903), (1, .class_ 10), (0, u "com/example/coherd/coherd/node/ReckonedMemory"), (0, .methodref 9 12), (0, .nameAndType 5 13), (0, u "(J)V"), (0, .methodref 15 16), (0, .class_ 17), (0, .nameAndType 18 19), (0, u "com/example/coherd/coherd/node/ReckonedMemoryTakePinLaw"), (0, u "pick"), (0, u "(JJIJ)J"), (0, .methodref 9 21), (0, .nameAndType 22 23), (0, u "take"), (0, u "(J)Z"), (3, u "law"), (0, u "(JJJJI)Z")] 2

def k1m0 : Method := { name := "<init>", desc := "()V", sig := { parameters := [], returnType := none }, accessFlags := 1, code := none }
def k1c1 : Code := { maxStack := 4, maxLocals := 7, code := method_2_code, exceptionTable := #[], attributes := #[] }
def k1m1 : Method := { name := "pick", desc := "(JJIJ)J", sig := { parameters := [.long, .long, .int, .long], returnType := some .long }, accessFlags := 10, code := some k1c1 }
def k1c2 : Code := { maxStack := 7, maxLocals := 30, code := code, exceptionTable := #[], attributes := #[] }
def k1m2 : Method := { name := "law", desc := "(JJJJI)Z", sig := { parameters := [.long, .long, .long, .long, .int], returnType := some .boolean }, accessFlags := 9, code := some k1c2 }
/-- com/example/coherd/coherd/node/ReckonedMemoryTakePinLaw -/
def k1 : Class := { plain "com/example/coherd/coherd/node/ReckonedMemoryTakePinLaw" (some 0) with
  accessFlags := 49
  interfaces := #[]
  cf := some (fileOf pool1 15 #[] #[{ accessFlags := 1, nameIndex := 5, descriptorIndex := 6, attributes := #[] }, { accessFlags := 10, nameIndex := 18, descriptorIndex := 19, attributes := #[] }, { accessFlags := 9, nameIndex := 27, descriptorIndex := 28, attributes := #[] }] 49 2 #[] #[])
  fields := #[]
  methods := #[k1m0, k1m1, k1m2]
  instanceTypes := #[]
  staticTypes := #[]
  resolved := Array.replicate 31 none
  statics := none }

def pool2 : Array CpInfo := pool [(1, .methodref 2 3), (0, .class_ 4), (0, .nameAndType 5 6), (0, u "java/lang/Object"), (0, u "<init>"), (0, u "()V"), (0, .fieldref 8 9), (0, .class_ 10), (0, .nameAndType 11 12), (0, u "com/example/coherd/coherd/node/ReckonedMemory"), (0, u "limit"), (0, u "J"), (0, .fieldref 8 14), (0, .nameAndType 15 12), (0, u "reckoned"), (0, u "(J)V"), (2, u "take"), (0, u "(J)Z")] 4

def k2c0 : Code := { maxStack := 3, maxLocals := 3, code := prog_27_method_1_code, exceptionTable := #[], attributes := #[] }
def k2m0 : Method := { name := "<init>", desc := "(J)V", sig := { parameters := [.long], returnType := none }, accessFlags := 0, code := some k2c0 }
def k2c1 : Code := { maxStack := 5, maxLocals := 3, code := prog_27_method_2_code, exceptionTable := #[], attributes := #[] }
def k2m1 : Method := { name := "take", desc := "(J)Z", sig := { parameters := [.long], returnType := some .boolean }, accessFlags := 0, code := some k2c1 }
/-- com/example/coherd/coherd/node/ReckonedMemory -/
def k2 : Class := { plain "com/example/coherd/coherd/node/ReckonedMemory" (some 0) with
  accessFlags := 48
  interfaces := #[]
  cf := some (fileOf pool2 8 #[] #[{ accessFlags := 0, nameIndex := 5, descriptorIndex := 16, attributes := #[] }, { accessFlags := 0, nameIndex := 19, descriptorIndex := 20, attributes := #[] }] 48 2 #[] #[{ accessFlags := 18, nameIndex := 11, descriptorIndex := 12, attributes := #[] }, { accessFlags := 2, nameIndex := 15, descriptorIndex := 12, attributes := #[] }])
  fields := #[{ name := "limit", type := .long, accessFlags := 18, slot := 0, constantValue := 0 }, { name := "reckoned", type := .long, accessFlags := 2, slot := 1, constantValue := 0 }]
  methods := #[k2m0, k2m1]
  instanceTypes := #[.long, .long]
  staticTypes := #[]
  resolved := Array.replicate 25 none
  statics := none }

def pool3 : Array CpInfo := pool [(1, u "java/lang/Cloneable"), (0, .class_ 1), (0, u "java/lang/Object"), (0, .class_ 3)] 3

/-- java/lang/Cloneable -/
def k3 : Class := { plain "java/lang/Cloneable" (some 0) with
  accessFlags := 1537
  interfaces := #[]
  cf := some (fileOf pool3 2 #[] #[] 1537 4 #[] #[])
  fields := #[]
  methods := #[]
  instanceTypes := #[]
  staticTypes := #[]
  resolved := Array.replicate 8 none
  statics := none }

def pool4 : Array CpInfo := pool [(1, u "java/io/Serializable"), (0, .class_ 1), (0, u "java/lang/Object"), (0, .class_ 3)] 3

/-- java/io/Serializable -/
def k4 : Class := { plain "java/io/Serializable" (some 0) with
  accessFlags := 1537
  interfaces := #[]
  cf := some (fileOf pool4 2 #[] #[] 1537 4 #[] #[])
  fields := #[]
  methods := #[]
  instanceTypes := #[]
  staticTypes := #[]
  resolved := Array.replicate 8 none
  statics := none }

/-- the primitive byte -/
def k5 : Class := { plain "byte" none with kind := .primitive 'B', accessFlags := 0x411 }
/-- [B -/
def k6 : Class := { plain "[B" (some 0) with kind := .array 5 .byte, interfaces := #[3, 4], accessFlags := 1041 }

def heap : Heap := #[]
def classes : Array Class := #[k0, k1, k2, k3, k4, k5, k6]
def interned : List (Array UInt16 × Addr) := []
def slotsUsed : Nat := 0
def theMethod : MethodId := ⟨1, 2⟩
def args0 : Array Value := #[.long 5, .long 5, .long 5, .long 5, .int 5]
def aboutOver (below : List Frame) : State where
  vm := { classes := classes, interned := interned.toArray }
  heap := heap
  slotsUsed := slotsUsed
  threads := #[{ frames := .invoking theMethod args0 :: below }]
def below0 : List Frame := [.native { method := ⟨0, 0⟩, args := #[] }]
def about1 : State := aboutOver below0
def p0 : Program := .bare "" "" ""
def e0 : Env := launch0.env 0 0 0
theorem w_frames : about1.frames = Frame.invoking theMethod args0 :: below0 := rfl
set_option maxRecDepth 65536 in
theorem w_args : argsFit about1.vm theMethod args0 = true := by decide +kernel
set_option maxRecDepth 65536 in
theorem w_heap : heapFits about1 = true := by decide +kernel
set_option maxRecDepth 65536 in
theorem w_runnable : about1.curStatus? = some .runnable := by decide +kernel
set_option maxRecDepth 65536 in
theorem w_alone : about1.alone = true := by decide +kernel
set_option maxRecDepth 65536 in
theorem w_named : about1.methodNamed? x = some theMethod := by decide +kernel
set_option maxRecDepth 65536 in
theorem w_hears : about1.hears theMethod below0 = true := by decide +kernel
set_option maxRecDepth 65536 in
theorem w_ripe : about1.ripe theMethod args0 below0 = true := by decide +kernel
theorem w_running : about1.status = .running := rfl
set_option maxRecDepth 65536 in
theorem w_room : about1.hasRoom e0.platform room_1 = true :=
  launch0.hasRoom_least _ room_1 (by decide +kernel) (by decide +kernel) (by decide +kernel) (by decide +kernel) (by decide +kernel) (by decide +kernel)
theorem allAtoms_all (ts : List Jvm.Cond) (a : Array Jvm.Value) (st : Jvm.State) : (allAtoms ts).before a st = ts.all (fun c => c.before a st) := by
  induction ts with
  | nil => rfl
  | cons c t ih =>
    show (Jvm.Cond.and c (allAtoms t)).before a st = _
    rw [Jvm.Cond.before_and, ih, List.all_cons]
def words1 : List Jvm.Cond := Jvm.Cond.code x code maxLocals ret :: tables_1
/-- a 'code' word, met by the world's own term for the bytes: nothing is compared byte by byte -/
theorem code_word {y : MethodName} {bytes : ByteArray} {mx : Nat} {rt : Option FieldType} {a : Array Value} {s : State} {m : MethodId} {meth : Method} {c : Code} (h1 : s.methodNamed? y = some m) (h2 : s.vm.method? m = some meth) (h3 : meth.code = some c) (h4 : c.code = bytes)
    (h5 : (c.maxLocals == mx && c.exceptionTable.isEmpty && decide (c.maxStack ≤ mostOperands) && decide (meth.sig.returnType = rt) && !meth.locks && decide (parseMethodDescriptor y.desc = some meth.sig)) = true) : (Jvm.Cond.code y bytes mx rt).before a s = true := by
  simp only [Bool.and_eq_true, beq_iff_eq, Bool.not_eq_true', decide_eq_true_eq] at h5
  obtain ⟨⟨⟨⟨⟨g1, g2⟩, g3⟩, g4⟩, g5⟩, g6⟩ := h5
  simp [Cond.before, Cond.holds, Cond.value, h1, h2, h3, h4, g1, g2, g3, g4, g5, g6]
def isCode : Jvm.Cond → Bool
  | .code _ _ _ _ => true
  | _ => false
theorem all_split {L : List Jvm.Cond} {P : Jvm.Cond → Bool} (h1 : L.all (fun c => isCode c || P c) = true) (h2 : ∀ c ∈ L.filter isCode, P c = true) : L.all P = true := by
  refine List.all_eq_true.mpr fun c hc => ?_
  have h := List.all_eq_true.mp h1 c hc
  rcases Bool.eq_false_or_eq_true (isCode c) with hi | hi
  · exact h2 c (List.mem_filter.mpr ⟨hc, hi⟩)
  · simpa [hi] using h
set_option maxRecDepth 65536 in
theorem w_c0 : (Jvm.Cond.code x code maxLocals ret).before args0 about1 = true := code_word (m := ⟨1, 2⟩) (meth := k1m2) (c := k1c2) (by decide +kernel) rfl rfl rfl (by decide +kernel)
set_option maxRecDepth 65536 in
theorem w_c1 : (Jvm.Cond.code ({ cls := "com/example/coherd/coherd/node/ReckonedMemory", name := "<init>", desc := "(J)V" } : Jvm.MethodName) prog_27_method_1_code (3 : Nat) (Option.none : Option Jvm.ClassFile.FieldType)).before args0 about1 = true := code_word (m := ⟨2, 0⟩) (meth := k2m0) (c := k2c0) (by decide +kernel) rfl rfl rfl (by decide +kernel)
set_option maxRecDepth 65536 in
theorem w_c2 : (Jvm.Cond.code ({ cls := "java/lang/Object", name := "<init>", desc := "()V" } : Jvm.MethodName) object_method_1_code (1 : Nat) (Option.none : Option Jvm.ClassFile.FieldType)).before args0 about1 = true := code_word (m := ⟨0, 0⟩) (meth := k0m0) (c := k0c0) (by decide +kernel) rfl rfl rfl (by decide +kernel)
set_option maxRecDepth 65536 in
theorem w_c3 : (Jvm.Cond.code ({ cls := "com/example/coherd/coherd/node/ReckonedMemoryTakePinLaw", name := "pick", desc := "(JJIJ)J" } : Jvm.MethodName) method_2_code (7 : Nat) (Option.some Jvm.ClassFile.FieldType.long)).before args0 about1 = true := code_word (m := ⟨1, 1⟩) (meth := k1m1) (c := k1c1) (by decide +kernel) rfl rfl rfl (by decide +kernel)
set_option maxRecDepth 65536 in
theorem w_c4 : (Jvm.Cond.code ({ cls := "com/example/coherd/coherd/node/ReckonedMemory", name := "take", desc := "(J)Z" } : Jvm.MethodName) prog_27_method_2_code (3 : Nat) (Option.some Jvm.ClassFile.FieldType.boolean)).before args0 about1 = true := code_word (m := ⟨2, 1⟩) (meth := k2m1) (c := k2c1) (by decide +kernel) rfl rfl rfl (by decide +kernel)
def codes1 : List Jvm.Cond := [Jvm.Cond.code x code maxLocals ret, Jvm.Cond.code ({ cls := "com/example/coherd/coherd/node/ReckonedMemory", name := "<init>", desc := "(J)V" } : Jvm.MethodName) prog_27_method_1_code (3 : Nat) (Option.none : Option Jvm.ClassFile.FieldType), Jvm.Cond.code ({ cls := "java/lang/Object", name := "<init>", desc := "()V" } : Jvm.MethodName) object_method_1_code (1 : Nat) (Option.none : Option Jvm.ClassFile.FieldType), Jvm.Cond.code ({ cls := "com/example/coherd/coherd/node/ReckonedMemoryTakePinLaw", name := "pick", desc := "(JJIJ)J" } : Jvm.MethodName) method_2_code (7 : Nat) (Option.some Jvm.ClassFile.FieldType.long), Jvm.Cond.code ({ cls := "com/example/coherd/coherd/node/ReckonedMemory", name := "take", desc := "(J)Z" } : Jvm.MethodName) prog_27_method_2_code (3 : Nat) (Option.some Jvm.ClassFile.FieldType.boolean)]
set_option maxRecDepth 65536 in
theorem codes_eq : words1.filter isCode = codes1 := rfl
theorem w_codes : ∀ c ∈ words1.filter isCode, c.before args0 about1 = true := by
  rw [codes_eq]
  intro c hc
  simp only [codes1, List.mem_cons, List.not_mem_nil, or_false] at hc
  rcases hc with rfl | rfl | rfl | rfl | rfl
  · exact w_c0
  · exact w_c1
  · exact w_c2
  · exact w_c3
  · exact w_c4
set_option maxRecDepth 65536 in
theorem w_t1 : words1.all (fun c => isCode c || c.before args0 about1) = true := by decide +kernel
theorem w_tables : (allAtoms (Jvm.Cond.code x code maxLocals ret :: tables_1)).before args0 about1 = true := by
  rw [allAtoms_all]
  show words1.all (fun c => c.before args0 about1) = true
  refine all_split ?_ w_codes
  rw [w_t1]
set_option maxRecDepth 65536 in
theorem w_case : (Jvm.Cond.and given_1 narrow_1).before args0 about1 = true := by decide +kernel
theorem w_applies : (headSpec (Jvm.Cond.code x code maxLocals ret :: tables_1) room_1).applies x e0.platform about1 = true :=
  (Spec.applies_iff w_frames).mpr ⟨w_running, w_runnable, w_alone, w_named, w_hears, w_ripe, w_room, w_tables⟩
theorem atStart : AtStart classFile x code maxLocals ret World_1 tables_1 room_1 Calls_1 rest_1 Pre_1 launch0 p0 e0 about1 theMethod args0 below0 :=
  ⟨lists_1, trivial, launch0.admits_env _ _ _, launch0.least_env, fairChoices_fair.cas, fairChoices_fair.clock, w_frames, w_args, w_heap, w_applies, trivial, trivial, w_case⟩
end start1
theorem witness_1 : WitnessClaimed_1 := ⟨start1.p0, start1.e0, start1.about1, start1.theMethod, start1.args0, start1.below0, start1.atStart⟩
end Jvm.Pilot.@@N@@
