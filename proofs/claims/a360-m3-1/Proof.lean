import JvmDerived
import JvmDerived.Pilot.@@N@@Statement
import JvmDerived.Pilot.@@N@@Code
set_option linter.unusedVariables false
set_option linter.unusedSimpArgs false
namespace Jvm.Pilot.@@N@@
open Jvm Jvm.ClassFile Sem Op Lib Jvm.Free Jvm.Stand Jvm.LawKit Jvm.RoadKit Bundle Jvm.Pilot.@@N@@.Jvm.D
section Own
variable {p : Program} {l : Launch} {e : Env} {R : Room} {s : State} {m : MethodId} {args : Array Value} {below : List Frame} {meth : Method} {c : Code} {T : State} {locs : List Loc} {cells slots : Nat} {Z : State} {h h' : Heap}
def Run (p : Program) (e : Env) (below : List Frame) (s : State) (C N : Nat) (Q : Option Value → Heap → List Loc → Prop) (S : State) : Prop :=
  ∃ s₂ o, Steps p.tables e below S s₂ ∧ s₂.status = .running ∧ Ended s₂ below o ∧ ∃ v L, o = .returned v ∧ Q v s₂.heap L ∧ FrameEnd s o s₂ L C N
variable {C N : Nat} {Q : Option Value → Heap → List Loc → Prop} {S S' : State}
theorem Run.go (k : ∀ t, Steps p.tables e below S' t → Steps p.tables e below S t) (r : Run p e below s C N Q S') : Run p e below s C N Q S := by
  obtain ⟨s₂, o, h1, r⟩ := r
  exact ⟨s₂, o, k _ h1, r⟩
theorem Run.tr (k : Steps p.tables e below S S') (r : Run p e below s C N Q S') : Run p e below s C N Q S := by
  obtain ⟨s₂, o, h1, r⟩ := r
  exact ⟨s₂, o, k.trans h1, r⟩
theorem Run.retI (X : Stand p l e R s m args below meth c T locs cells slots) (hx : p.tables.exec = Jvm.exec) {pc : Nat} {Ls : Array Slot} {z : Int32} {rest : List Value} (hret : meth.sig.returnType = some .int) (hlk : meth.locks = false) (hd : decode c.code pc = .ok (.ireturn, 1)) (hc : cells ≤ C) (hn : slots ≤ N)
    (hQ : Q (some (.int z)) T.heap locs) : Run p e below s C N Q (T.setTop (mkF m pc Ls (.int z :: rest))) := by
  obtain ⟨fs, hr, hrun, hended, hW, hsame⟩ := X.leave (v := some (.int z)) (fun q => by rw [hret] at q; cases q)
  refine ⟨_, _, ?_, hrun, hended, _, _, rfl, hQ, ⟨_, rfl⟩, hW, hsame.mono hc hn⟩
  have hm' : T.vm.method? m = some meth := X.method'
  have hn : narrow .int (.int z) = .int z := rfl
  show Steps p.tables e below (T.setTop { method := m, pc := pc, locals := Ls, stack := _ :: rest, locked := none }) _
  jvm_step X.here [X.here.top, hx, hd, hm', hret, hn]
  first | (intro acts; rw [hr _ acts rfl rfl rfl]) | rw [hr _ _ rfl rfl rfl]
  exact Steps.refl _
theorem Run.retN (X : Stand p l e R s m args below meth c T locs cells slots) (hx : p.tables.exec = Jvm.exec) {pc : Nat} {Ls : Array Slot} {z y : Int32} {t : FieldType} {rest : List Value} (hret : meth.sig.returnType = some t) (ht : t = .boolean ∨ t = .byte ∨ t = .char ∨ t = .short) (hy : nar t z = y) (hlk : meth.locks = false) (hd : decode c.code pc = .ok (.ireturn, 1)) (hc : cells ≤ C) (hn : slots ≤ N)
    (hQ : Q (some (.int y)) T.heap locs) : Run p e below s C N Q (T.setTop (mkF m pc Ls (.int z :: rest))) := by
  subst hy
  obtain ⟨fs, hr, hrun, hended, hW, hsame⟩ := X.leave (v := some (.int (nar t z))) (fun q => by rw [hret] at q; cases q)
  exact ⟨_, _, Jvm.RoadKit.retN X hx hret ht hd hr, hrun, hended, _, _, rfl, hQ, ⟨_, rfl⟩, hW, hsame.mono hc hn⟩
theorem Run.retJ (X : Stand p l e R s m args below meth c T locs cells slots) (hx : p.tables.exec = Jvm.exec) {pc : Nat} {Ls : Array Slot} {z : Int64} {rest : List Value} (hret : meth.sig.returnType = some .long) (hlk : meth.locks = false) (hd : decode c.code pc = .ok (.lreturn, 1)) (hc : cells ≤ C) (hn : slots ≤ N)
    (hQ : Q (some (.long z)) T.heap locs) : Run p e below s C N Q (T.setTop (mkF m pc Ls (.long z :: rest))) := by
  obtain ⟨fs, hr, hrun, hended, hW, hsame⟩ := X.leave (v := some (.long z)) (fun q => by rw [hret] at q; cases q)
  refine ⟨_, _, ?_, hrun, hended, _, _, rfl, hQ, ⟨_, rfl⟩, hW, hsame.mono hc hn⟩
  have hm' : T.vm.method? m = some meth := X.method'
  show Steps p.tables e below (T.setTop { method := m, pc := pc, locals := Ls, stack := _ :: rest, locked := none }) _
  jvm_step X.here [X.here.top, hx, hd, hm', hret, narrow]
  first | (intro acts; rw [hr _ acts rfl rfl rfl]) | rw [hr _ _ rfl rfl rfl]
  exact Steps.refl _
theorem Run.retA (X : Stand p l e R s m args below meth c T locs cells slots) (hx : p.tables.exec = Jvm.exec) {pc : Nat} {Ls : Array Slot} {w : Value} {t : FieldType} {rest : List Value} (hw : w.isRef = true) (hret : meth.sig.returnType = some t) (ht : t.isReference = true) (hlk : meth.locks = false) (hd : decode c.code pc = .ok (.areturn, 1)) (hc : cells ≤ C) (hn : slots ≤ N)
    (hQ : Q (some w) T.heap locs) : Run p e below s C N Q (T.setTop (mkF m pc Ls (w :: rest))) := by
  obtain ⟨fs, hr, hrun, hended, hW, hsame⟩ := X.leave (v := some w) (fun q => by rw [hret] at q; cases q)
  refine ⟨_, _, ?_, hrun, hended, _, _, rfl, hQ, ⟨_, rfl⟩, hW, hsame.mono hc hn⟩
  have hm' : T.vm.method? m = some meth := X.method'
  show Steps p.tables e below (T.setTop { method := m, pc := pc, locals := Ls, stack := _ :: rest, locked := none }) _
  rcases ref_cases hw with rfl | ⟨a, rfl⟩
  all_goals
    jvm_step X.here [X.here.top, hx, hd, hm', hret, Value.isRef, ht]
    first | (intro acts; rw [hr _ acts rfl rfl rfl]) | rw [hr _ _ rfl rfl rfl]
    exact Steps.refl _
theorem Run.ret0 (X : Stand p l e R s m args below meth c T locs cells slots) (hx : p.tables.exec = Jvm.exec) {pc : Nat} {Ls : Array Slot} (hret : meth.sig.returnType = none) (hlk : meth.locks = false) (hd : decode c.code pc = .ok (.return_, 1)) (hc : cells ≤ C) (hn : slots ≤ N)
    (hQ : Q none T.heap locs) : Run p e below s C N Q (T.setTop (mkF m pc Ls [])) := by
  obtain ⟨fs, hr, hrun, hended, hW, hsame⟩ := X.leave (v := none) (fun _ => rfl)
  exact ⟨_, _, X.returnOut hx hret hd hr, hrun, hended, _, _, rfl, hQ, ⟨_, rfl⟩, hW, hsame.mono hc hn⟩
theorem Stand_gen {k : Nat} (X : Stand p l e R s m args below meth c T locs cells slots) (F : Fr k locs) : ∃ L, Stand p l e R s m args below meth c T L cells slots ∧ Fr k L := ⟨_, X, F⟩
theorem Sta.keep {C n d : String} {w : Value} {ws : List Addr} (F : Sta Z h C n d w) (K : Keep h h' ws) (q : ∀ x ∈ ws, ∀ c : Cell, h[x]? = some c → c.vm.isStatics = false) : Sta Z h' C n d w := by
  obtain ⟨cf, i, k, f, st, cell, h1, h2, h3, h4, h5, h6, h7⟩ := F
  refine ⟨cf, i, k, f, st, cell, h1, h2, h3, h4, K.2.1 st cell h5 (fun hm => ?_), h6, h7⟩
  rw [q st hm cell h5] at h6; cases h6
theorem Exa.nst {a : Addr} {C : String} (F : Exa Z h a C) : ∀ c : Cell, h[a]? = some c → c.vm.isStatics = false := fun c q => by
  obtain ⟨cell, k, h1, -, -, h4, -⟩ := F
  cases h1.symm.trans q; exact h4
/-- an array of n elements, the i-th is f i -/
def Ary (Z : State) (h : Heap) (a : Addr) (ty : FieldType) (n : Nat) (f : Nat → Value) : Prop := ∃ c : Cell, Arr Z h a c ty ∧ c.slots.size = n ∧ ∀ i, i < n → c.slots[i]? = some (f i)
variable {a b : Addr} {ty : FieldType} {n sl : Nat} {f : Nat → Value} {v : Value} {ws : List Addr}
theorem Ary.lt (F : Ary Z h a ty n f) : a < h.size := by obtain ⟨c, A, -⟩ := F; exact A.lt
theorem Ary.ext (F : Ary Z h a ty n f) (E : Ext h h') : Ary Z h' a ty n f := by obtain ⟨c, A, r⟩ := F; exact ⟨c, A.ext E, r⟩
theorem Ary.other (F : Ary Z h b ty n f) (W : Wr h h' a sl v) (q : b ≠ a) : Ary Z h' b ty n f := by obtain ⟨c, A, r⟩ := F; exact ⟨c, A.other W q, r⟩
theorem Ary.keep (F : Ary Z h a ty n f) (K : Keep h h' ws) (q : a ∉ ws) : Ary Z h' a ty n f := by obtain ⟨c, A, r⟩ := F; exact ⟨c, ⟨K.2.1 a c A.1 q, A.2⟩, r⟩
theorem Ary.ne {C : String} {a0 : Array Value} {k : Nat} (F : Ary Z h a ty n f) (G : Exa Z h b C) (wi : (Jvm.Cond.instantiable C k).before a0 Z = true) : a ≠ b := by
  obtain ⟨c, A, r⟩ := F; exact (ne_arr G wi A).symm
theorem Ary.same (F : Ary Z h a ty n f) (W : Wr h h' a sl v) : Ary Z h' a ty n (fun i => if i = sl then v else f i) := by
  obtain ⟨c, A, hs, hf⟩ := F
  obtain ⟨c1, q1, q2, q3, q4⟩ := W
  obtain rfl := Option.some.inj (q1.symm.trans A.1)
  refine ⟨c1.setSlot sl v, A.same ⟨c1, q1, q2, q3, q4⟩, by simp [Cell.setSlot, hs], fun i hi => ?_⟩
  by_cases e : i = sl
  · subst e; simp [Cell.setSlot, q3]
  · simp only [if_neg e]; rw [← hf i hi]; exact Array.getElem?_setIfInBounds_ne (Ne.symm e)
theorem Ary.nst (F : Ary Z h a ty n f) : ∀ c : Cell, h[a]? = some c → c.vm.isStatics = false := fun c q => by
  obtain ⟨cl, A, -⟩ := F
  cases A.1.symm.trans q; exact A.plain
theorem Ary.congr {g : Nat → Value} (F : Ary Z h a ty n f) (q : ∀ i, i < n → f i = g i) : Ary Z h a ty n g := by
  obtain ⟨c, A, hs, hf⟩ := F; exact ⟨c, A, hs, fun i hi => by rw [hf i hi, q i hi]⟩
theorem Ary.new {k : ClassId} {z : Int32} (A : Arr Z h a (newA k ty z) ty) (q : z.toNatClampNeg = n) : Ary Z h a ty n (fun _ => defaultValue ty) := by
  subst q
  exact ⟨_, A, sz_new _ _ _, fun i hi => by simp [newA, hi]⟩
theorem out_of {j : Int32} {c : Cell} (hs : c.slots.size = n) (h0 : ¬ j < 0) (hj : j.toNatClampNeg < n) : ¬ (j < 0 ∨ c.slots.size ≤ j.toNatClampNeg) := by
  rw [hs]; exact fun q => q.elim h0 (fun q => absurd hj (Nat.not_lt.mpr q))
/-- an array of references: besides, its class is that of arrays over C -/
def ArR (Z : State) (h : Heap) (a : Addr) (C : String) (n : Nat) (f : Nat → Value) : Prop := ∃ c : Cell, Arr Z h a c (.object C) ∧ Ovr Z c.cls C ∧ c.slots.size = n ∧ ∀ i, i < n → c.slots[i]? = some (f i)
variable {K : String}
theorem ArR.lt (F : ArR Z h a K n f) : a < h.size := by obtain ⟨c, A, -⟩ := F; exact A.lt
theorem ArR.ext (F : ArR Z h a K n f) (E : Ext h h') : ArR Z h' a K n f := by obtain ⟨c, A, r⟩ := F; exact ⟨c, A.ext E, r⟩
theorem ArR.other (F : ArR Z h b K n f) (W : Wr h h' a sl v) (q : b ≠ a) : ArR Z h' b K n f := by obtain ⟨c, A, r⟩ := F; exact ⟨c, A.other W q, r⟩
theorem ArR.keep (F : ArR Z h a K n f) (k : Keep h h' ws) (q : a ∉ ws) : ArR Z h' a K n f := by obtain ⟨c, A, r⟩ := F; exact ⟨c, ⟨k.2.1 a c A.1 q, A.2⟩, r⟩
theorem ArR.ary (F : ArR Z h a K n f) : Ary Z h a (.object K) n f := by obtain ⟨c, A, -, r⟩ := F; exact ⟨c, A, r⟩
theorem ArR.same (F : ArR Z h a K n f) (W : Wr h h' a sl v) : ArR Z h' a K n (fun i => if i = sl then v else f i) := by
  obtain ⟨c, A, o, hs, hf⟩ := F
  obtain ⟨c1, q1, q2, q3, q4⟩ := W
  obtain rfl := Option.some.inj (q1.symm.trans A.1)
  refine ⟨c1.setSlot sl v, A.same ⟨c1, q1, q2, q3, q4⟩, o, by simp [Cell.setSlot, hs], fun i hi => ?_⟩
  by_cases e : i = sl
  · subst e; simp [Cell.setSlot, q3]
  · simp only [if_neg e]; rw [← hf i hi]; exact Array.getElem?_setIfInBounds_ne (Ne.symm e)
theorem ArR.new {k : ClassId} {z : Int32} (A : Arr Z h a (newA k (.object K) z) (.object K)) (O : Ovr Z k K) (q : z.toNatClampNeg = n) : ArR Z h a K n (fun _ => .null) := by
  subst q
  exact ⟨_, A, O, sz_new _ _ _, fun i hi => by simp [newA, hi]; rfl⟩
section Arrays
theorem ary_iget (X : Stand p l e R s m args below meth c T locs cells slots) (hx : p.tables.exec = Jvm.exec) (hZ : Z.Warmed39 s.vm) (eT : T.heap = h) (A : Ary Z h a .int n f) {j : Int32} (h0 : ¬ j < 0) (hj : j.toNatClampNeg < n) {g : JFrame} (hg : g.method = m) {rest : List Value} (hs : g.stack = .int j :: .ref a :: rest) (hd : decode c.code g.pc = .ok (.iaload, 1)) {v : Value} (hv : f j.toNatClampNeg = v) (target : State)
    (k : Steps p.tables e below (T.setTop { g with pc := g.pc + 1, stack := v :: rest }) target) : Steps p.tables e below (T.setTop g) target := by
  subst hv; obtain ⟨cl, A, q, F⟩ := A
  exact X.iaload hx (by rw [eT]; exact A.1) (State.isArrayOf_alike hZ.alike A.2.1) A.2.2 (out_of q h0 hj) (F _ hj) hg hs hd target k
theorem ary_lget (X : Stand p l e R s m args below meth c T locs cells slots) (hx : p.tables.exec = Jvm.exec) (hZ : Z.Warmed39 s.vm) (eT : T.heap = h) (A : Ary Z h a .long n f) {j : Int32} (h0 : ¬ j < 0) (hj : j.toNatClampNeg < n) {g : JFrame} (hg : g.method = m) {rest : List Value} (hs : g.stack = .int j :: .ref a :: rest) (hd : decode c.code g.pc = .ok (.laload, 1)) {v : Value} (hv : f j.toNatClampNeg = v) (target : State)
    (k : Steps p.tables e below (T.setTop { g with pc := g.pc + 1, stack := v :: rest }) target) : Steps p.tables e below (T.setTop g) target := by
  subst hv; obtain ⟨cl, A, q, F⟩ := A
  exact X.laload hx (by rw [eT]; exact A.1) (State.isArrayOf_alike hZ.alike A.2.1) A.2.2 (out_of q h0 hj) (F _ hj) hg hs hd target k
theorem ary_bget (X : Stand p l e R s m args below meth c T locs cells slots) (hx : p.tables.exec = Jvm.exec) (hZ : Z.Warmed39 s.vm) (eT : T.heap = h) (A : Ary Z h a .byte n f) {j : Int32} (h0 : ¬ j < 0) (hj : j.toNatClampNeg < n) {g : JFrame} (hg : g.method = m) {rest : List Value} (hs : g.stack = .int j :: .ref a :: rest) (hd : decode c.code g.pc = .ok (.baload, 1)) {v : Value} (hv : f j.toNatClampNeg = v) (target : State)
    (k : Steps p.tables e below (T.setTop { g with pc := g.pc + 1, stack := v :: rest }) target) : Steps p.tables e below (T.setTop g) target := by
  subst hv; obtain ⟨cl, A, q, F⟩ := A
  exact X.baloadBytes hx (by rw [eT]; exact A.1) (State.isArrayOf_alike hZ.alike A.2.1) A.2.2 (out_of q h0 hj) (F _ hj) hg hs hd target k
theorem ary_cget (X : Stand p l e R s m args below meth c T locs cells slots) (hx : p.tables.exec = Jvm.exec) (hZ : Z.Warmed39 s.vm) (eT : T.heap = h) (A : Ary Z h a .char n f) {j : Int32} (h0 : ¬ j < 0) (hj : j.toNatClampNeg < n) {g : JFrame} (hg : g.method = m) {rest : List Value} (hs : g.stack = .int j :: .ref a :: rest) (hd : decode c.code g.pc = .ok (.caload, 1)) {v : Value} (hv : f j.toNatClampNeg = v) (target : State)
    (k : Steps p.tables e below (T.setTop { g with pc := g.pc + 1, stack := v :: rest }) target) : Steps p.tables e below (T.setTop g) target := by
  subst hv; obtain ⟨cl, A, q, F⟩ := A
  exact X.caload hx (by rw [eT]; exact A.1) (State.isArrayOf_alike hZ.alike A.2.1) A.2.2 (out_of q h0 hj) (F _ hj) hg hs hd target k
theorem ary_aget (X : Stand p l e R s m args below meth c T locs cells slots) (hx : p.tables.exec = Jvm.exec) (hZ : Z.Warmed39 s.vm) (eT : T.heap = h) (A : Ary Z h a ty n f) (hr : ty.isReference = true) {j : Int32} (h0 : ¬ j < 0) (hj : j.toNatClampNeg < n) {g : JFrame} (hg : g.method = m) {rest : List Value} (hs : g.stack = .int j :: .ref a :: rest) (hd : decode c.code g.pc = .ok (.aaload, 1)) {v : Value} (hv : f j.toNatClampNeg = v) (target : State)
    (k : Steps p.tables e below (T.setTop { g with pc := g.pc + 1, stack := v :: rest }) target) : Steps p.tables e below (T.setTop g) target := by
  subst hv; obtain ⟨cl, A, q, F⟩ := A
  exact X.aaload hx (by rw [eT]; exact A.1) (State.isArrayOf_alike hZ.alike A.2.1) hr A.2.2 (out_of q h0 hj) (F _ hj) hg hs hd target k
theorem ary_len (X : Stand p l e R s m args below meth c T locs cells slots) (hx : p.tables.exec = Jvm.exec) (hZ : Z.Warmed39 s.vm) (eT : T.heap = h) (A : Ary Z h a ty n f) {g : JFrame} (hg : g.method = m) {rest : List Value} (hs : g.stack = .ref a :: rest) (hd : decode c.code g.pc = .ok (.arraylength, 1)) {z : Int32} (hv : n.toInt32 = z) (target : State)
    (k : Steps p.tables e below (T.setTop { g with pc := g.pc + 1, stack := .int z :: rest }) target) : Steps p.tables e below (T.setTop g) target := by
  subst hv; obtain ⟨cl, A, q, F⟩ := A
  subst q
  exact X.arraylength hx (by rw [eT]; exact A.1) (State.isArrayOf_alike hZ.alike A.2.1) hg hs hd target k
theorem ary_iset (X : Stand p l e R s m args below meth c T locs cells slots) (hx : p.tables.exec = Jvm.exec) (hZ : Z.Warmed39 s.vm) (eT : T.heap = h) (A : Ary Z h a .int n f) {j x : Int32} (h0 : ¬ j < 0) (hj : j.toNatClampNeg < n) {g : JFrame} (hg : g.method = m) {rest : List Value} (hs : g.stack = .int x :: .int j :: .ref a :: rest) (hd : decode c.code g.pc = .ok (.iastore, 1)) :
    ∃ T' h', Stand p l e R s m args below meth c T' (locs ++ [⟨a, j.toNatClampNeg⟩]) cells slots ∧ T'.heap = h' ∧ Wr h h' a j.toNatClampNeg (.int x) ∧ ∀ target, Steps p.tables e below (T'.setTop { g with pc := g.pc + 1, stack := rest }) target → Steps p.tables e below (T.setTop g) target := by
  obtain ⟨cl, A, q, F⟩ := A
  exact stI X hx hZ eT A (out_of q h0 hj) hg hs hd
theorem ary_lset (X : Stand p l e R s m args below meth c T locs cells slots) (hx : p.tables.exec = Jvm.exec) (hZ : Z.Warmed39 s.vm) (eT : T.heap = h) (A : Ary Z h a .long n f) {j : Int32} {x : Int64} (h0 : ¬ j < 0) (hj : j.toNatClampNeg < n) {g : JFrame} (hg : g.method = m) {rest : List Value} (hs : g.stack = .long x :: .int j :: .ref a :: rest) (hd : decode c.code g.pc = .ok (.lastore, 1)) :
    ∃ T' h', Stand p l e R s m args below meth c T' (locs ++ [⟨a, j.toNatClampNeg⟩]) cells slots ∧ T'.heap = h' ∧ Wr h h' a j.toNatClampNeg (.long x) ∧ ∀ target, Steps p.tables e below (T'.setTop { g with pc := g.pc + 1, stack := rest }) target → Steps p.tables e below (T.setTop g) target := by
  obtain ⟨cl, A, q, F⟩ := A
  exact stJ X hx hZ eT A (out_of q h0 hj) hg hs hd
theorem ary_bset (X : Stand p l e R s m args below meth c T locs cells slots) (hx : p.tables.exec = Jvm.exec) (hZ : Z.Warmed39 s.vm) (eT : T.heap = h) (A : Ary Z h a .byte n f) {j x y : Int32} (h0 : ¬ j < 0) (hj : j.toNatClampNeg < n) {g : JFrame} (hg : g.method = m) {rest : List Value} (hs : g.stack = .int x :: .int j :: .ref a :: rest) (hd : decode c.code g.pc = .ok (.bastore, 1)) (hy : x.toInt8.toInt32 = y) :
    ∃ T' h', Stand p l e R s m args below meth c T' (locs ++ [⟨a, j.toNatClampNeg⟩]) cells slots ∧ T'.heap = h' ∧ Wr h h' a j.toNatClampNeg (.int y) ∧ ∀ target, Steps p.tables e below (T'.setTop { g with pc := g.pc + 1, stack := rest }) target → Steps p.tables e below (T.setTop g) target := by
  subst hy; obtain ⟨cl, A, q, F⟩ := A
  exact stB X hx hZ eT A (out_of q h0 hj) hg hs hd
theorem ary_cset (X : Stand p l e R s m args below meth c T locs cells slots) (hx : p.tables.exec = Jvm.exec) (hZ : Z.Warmed39 s.vm) (eT : T.heap = h) (A : Ary Z h a .char n f) {j x y : Int32} (h0 : ¬ j < 0) (hj : j.toNatClampNeg < n) {g : JFrame} (hg : g.method = m) {rest : List Value} (hs : g.stack = .int x :: .int j :: .ref a :: rest) (hd : decode c.code g.pc = .ok (.castore, 1)) (hy : nar .char x = y) :
    ∃ T' h', Stand p l e R s m args below meth c T' (locs ++ [⟨a, j.toNatClampNeg⟩]) cells slots ∧ T'.heap = h' ∧ Wr h h' a j.toNatClampNeg (.int y) ∧ ∀ target, Steps p.tables e below (T'.setTop { g with pc := g.pc + 1, stack := rest }) target → Steps p.tables e below (T.setTop g) target := by
  subst hy; obtain ⟨cl, A, q, F⟩ := A
  exact stC X hx hZ eT A (out_of q h0 hj) hg hs hd
theorem arr_set (X : Stand p l e R s m args below meth c T locs cells slots) (hx : p.tables.exec = Jvm.exec) (hZ : Z.Warmed39 s.vm) (eT : T.heap = h) (A : ArR Z h a K n f) {j : Int32} {y : Addr} (I : Ins Z h y K true) (h0 : ¬ j < 0) (hj : j.toNatClampNeg < n) {g : JFrame} (hg : g.method = m) {rest : List Value} (hs : g.stack = .ref y :: .int j :: .ref a :: rest) (hd : decode c.code g.pc = .ok (.aastore, 1)) :
    ∃ T' h', Stand p l e R s m args below meth c T' (locs ++ [⟨a, j.toNatClampNeg⟩]) cells slots ∧ T'.heap = h' ∧ Wr h h' a j.toNatClampNeg (.ref y) ∧ ∀ target, Steps p.tables e below (T'.setTop { g with pc := g.pc + 1, stack := rest }) target → Steps p.tables e below (T.setTop g) target := by
  obtain ⟨cl, A, O, q, F⟩ := A
  exact stR X hx hZ eT A (out_of q h0 hj) rfl (Sto.of A O I) hg hs hd
end Arrays
theorem nar_ite (P : Prop) [Decidable P] : nar .boolean (if P then (1 : Int32) else 0) = if P then 1 else 0 := by by_cases q : P <;> simp [q] <;> rfl
theorem cat_ref {w : Value} (q : w.isRef = true) : w.category = 1 := by cases w <;> first | rfl | (simp [Value.isRef] at q)
theorem upd_hit {g f : Nat → Value} {k : Nat} {w : Value} (q : g = fun i => if i = k then w else f i) : g k = w := by rw [q]; exact if_pos rfl
theorem upd_miss {g f : Nat → Value} {k j : Nat} {w u : Value} (q : g = fun i => if i = k then w else f i) (ne : ¬ j = k) (r : f j = u) : g j = u := by rw [q]; exact (if_neg ne).trans r
theorem upd_c {g : Nat → Value} {j : Nat} {w : Value} (q : g = fun _ => w) : g j = w := by rw [q]
theorem b_idem (x : Int32) : x.toInt8.toInt32.toInt8.toInt32 = x.toInt8.toInt32 := by rw [Int8.toInt8_toInt32]
theorem isI_c (x : Int32) : ∀ n : Nat, ∃ y, (fun _ => Value.int x) n = Value.int y := fun _ => ⟨x, rfl⟩
theorem isI_s {f : Nat → Value} (q : ∀ n, ∃ y, f n = Value.int y) (k : Nat) (x : Int32) : ∀ n, ∃ y, (fun i => if i = k then Value.int x else f i) n = Value.int y := fun n => by
  by_cases e : n = k
  · exact ⟨x, if_pos e⟩
  · obtain ⟨y, hy⟩ := q n
    exact ⟨y, (if_neg e).trans hy⟩
end Own
section OwnDbl
variable {p : Program} {l : Launch} {e : Env} {R : Room} {s : State} {m : MethodId} {args : Array Value} {below : List Frame} {meth : Method} {c : Code} {T : State} {locs : List Loc} {cells slots : Nat} {Z : State} {h h' : Heap} {C N : Nat} {Q : Option Value → Heap → List Loc → Prop}
theorem Run.retD (X : Stand p l e R s m args below meth c T locs cells slots) (hx : p.tables.exec = Jvm.exec) {pc : Nat} {Ls : Array Slot} {z : UInt64} {rest : List Value} (hret : meth.sig.returnType = some .double) (hlk : meth.locks = false) (hd : decode c.code pc = .ok (.dreturn, 1)) (hc : cells ≤ C) (hn : slots ≤ N)
    (hQ : Q (some (.double z)) T.heap locs) : Run p e below s C N Q (T.setTop (mkF m pc Ls (.double z :: rest))) := by
  obtain ⟨fs, hr, hrun, hended, hW, hsame⟩ := X.leave (v := some (.double z)) (fun q => by rw [hret] at q; cases q)
  refine ⟨_, _, ?_, hrun, hended, _, _, rfl, hQ, ⟨_, rfl⟩, hW, hsame.mono hc hn⟩
  have hm' : T.vm.method? m = some meth := X.method'
  show Steps p.tables e below (T.setTop { method := m, pc := pc, locals := Ls, stack := _ :: rest, locked := none }) _
  jvm_step X.here [X.here.top, hx, hd, hm', hret, narrow]
  first | (intro acts; rw [hr _ acts rfl rfl rfl]) | rw [hr _ _ rfl rfl rfl]
  exact Steps.refl _
end OwnDbl
section OwnFl
open Jvm.FP.Core
theorem own_lshape {v : Int64} (h0 : 0 < v.toInt) (h1 : v.toInt < 9007199254740992) : ∃ (c : Nat) (q : Int), val64 (l2d v) = .fin false c q ∧ 2 ^ 52 ≤ c ∧ c < 2 ^ 53 ∧ -53 < q ∧ q ≤ 0 := by
  obtain ⟨c, q, hv⟩ := l2d_shape v
  have hd : decide (v.toInt < 0) = false := decide_eq_false (by omega)
  rw [hd] at hv
  have W := l2d_whole (a := v) ⟨by omega, h1⟩
  rw [hv] at W
  have E := whole_natAbs W
  have F := val64_fits (l2d v)
  rw [hv] at F
  obtain ⟨f1, f2, f3, f4⟩ := F
  have e0 : b64.qmin = -1074 := qmin_b64
  have e1 : b64.tails = 2 ^ 52 := tails_b64
  have e2 : b64.p = 53 := rfl
  rw [e0] at f2 f4
  rw [e1] at f4
  rw [e2] at f1
  have n0 : 1 ≤ v.toInt.natAbs := by omega
  have n1 : v.toInt.natAbs < 2 ^ 53 := by omega
  have a1 : -53 < q := by
    by_cases k : -53 < q
    · exact k
    · exfalso
      have z : q.toNat = 0 := by omega
      rw [z] at E
      have g : 2 ^ 53 ≤ 2 ^ (-q).toNat := Nat.pow_le_pow_right (by decide) (by omega)
      have g2 : 1 * 2 ^ (-q).toNat ≤ v.toInt.natAbs * 2 ^ (-q).toNat := Nat.mul_le_mul_right _ n0
      omega
  have a2 : 2 ^ 52 ≤ c := by omega
  refine ⟨c, q, hv, a2, f1, a1, ?_⟩
  by_cases k : q ≤ 0
  · exact k
  · exfalso
    have z : (-q).toNat = 0 := by omega
    rw [z] at E
    have g : 2 ^ 1 ≤ 2 ^ q.toNat := Nat.pow_le_pow_right (by decide) (by omega)
    have g2 : 2 ^ 52 * 2 ^ 1 ≤ c * 2 ^ q.toNat := Nat.mul_le_mul a2 g
    omega
theorem own_dm {x : UInt64} {c : Nat} {q r : Int} {y : UInt64} (hx : val64 x = .fin false c q) (hy : val64 y = .fin false (2 ^ 52) r) (c1 : 2 ^ 52 ≤ c) (c2 : c < 2 ^ 53) (q1 : -1074 ≤ q + r + 52) (q2 : q + r + 52 ≤ 971) : val64 (dmul x y) = .fin false c (q + r + 52) := by
  rw [val64_dmul, hx, hy]
  show roundRatio b64 (false != false) (c * 2 ^ 52) 1 (q + r) = _
  refine roundRatio_exact good_b64 (by decide) ⟨c2, ?_, ?_, Or.inr c1⟩ ?_
  · exact q1
  · exact q2
  · have z1 : (q + r - (q + r + 52)).toNat = 0 := by omega
    have z2 : (q + r + 52 - (q + r)).toNat = 52 := by omega
    rw [z1, z2, Nat.pow_zero, Nat.mul_one, Nat.mul_one]
def own_lo : UInt64 := 4368491638549381120
def own_hi : UInt64 := 4845873199050653696
theorem own_lov : val64 own_lo = .fin false (2 ^ 52) (-105) := by decide +kernel
theorem own_hiv : val64 own_hi = .fin false (2 ^ 52) 1 := by decide +kernel
/-- what the law reckons: f = v * 2^-53, s = f * 2^53, for v from 0 to 2^53 - 1 -/
theorem own_flaw {v : Int64} (h0 : 0 ≤ v.toInt) (h1 : v.toInt < 9007199254740992) :
    (dcmp dconst0 (dmul (l2d v) own_lo) = some .lt ∨ dcmp dconst0 (dmul (l2d v) own_lo) = some .eq) ∧ dcmp (dmul (l2d v) own_lo) dconst1 = some .lt ∧ dmul (dmul (l2d v) own_lo) own_hi = l2d v ∧ d2l (l2d v) = v ∧ dcmp (l2d v) (l2d v) = some .eq := by
  by_cases z : v.toInt = 0
  · obtain rfl : v = 0 := Int64.toInt_inj.mp z
    decide +kernel
  · obtain ⟨c, q, hv, c1, c2, q1, q2⟩ := own_lshape (v := v) (by omega) h1
    have hf := own_dm hv own_lov c1 c2 (by omega) (by omega)
    have hs := own_dm hf own_hiv c1 c2 (by omega) (by omega)
    have hL : dmul (dmul (l2d v) own_lo) own_hi = l2d v := by
      refine val64_inj (by rw [hs]; exact nofun) ?_
      rw [hs, hv]
      congr 1
      omega
    refine ⟨Or.inl ?_, ?_, hL, d2l_l2d_small ⟨by omega, h1⟩, dcmp_refl (l2d_notNaN v)⟩
    · show order (val64 dconst0) (val64 (dmul (l2d v) own_lo)) = _
      rw [hf, val64_dconst0]
      show some (compare (signed false (0 * _)) (signed false (c * _))) = some .lt
      rw [Nat.zero_mul]
      congr 1
      rw [compare_ite, if_pos]
      show (0 : Int) < ((c * 2 ^ _ : Nat) : Int)
      have := Nat.mul_pos (show 0 < c by omega) (Nat.two_pow_pos ((q + -105 + 52) - min b64.qmin (q + -105 + 52)).toNat)
      omega
    · show order (val64 (dmul (l2d v) own_lo)) (val64 dconst1) = _
      rw [hf, val64_dconst1]
      show some (compare (signed false (inUnits c (q + -105 + 52) (min (q + -105 + 52) (-52)))) (signed false (inUnits (2 ^ 52) (-52) (min (q + -105 + 52) (-52))))) = some .lt
      have m : min (q + -105 + 52) (-52) = q + -105 + 52 := by omega
      rw [m]
      unfold inUnits
      have t1 : (q + -105 + 52 - (q + -105 + 52)).toNat = 0 := by omega
      rw [t1, Nat.pow_zero, Nat.mul_one]
      congr 1
      rw [compare_ite, if_pos]
      show ((c : Nat) : Int) < ((2 ^ 52 * 2 ^ (-52 - (q + -105 + 52)).toNat : Nat) : Int)
      have g : 2 ^ 1 ≤ 2 ^ (-52 - (q + -105 + 52)).toNat := Nat.pow_le_pow_right (by decide) (by omega)
      have g2 : 2 ^ 52 * 2 ^ 1 ≤ 2 ^ 52 * 2 ^ (-52 - (q + -105 + 52)).toNat := Nat.mul_le_mul_left _ g
      omega
end OwnFl
open Jvm.Free.Fl in
theorem own_n1 (v : Int64) : NoNaN64 (FP.dmul (FP.l2d v) (4368491638549381120 : UInt64)) := dmul_out (l2d_fin v) (by unfold Fin64; decide)
theorem own_vr (y : Int64) : 0 ≤ (((y.toUInt64 >>> ((11 : Int32) &&& 0x3f).toInt64.toUInt64).toInt64)).toInt ∧ (((y.toUInt64 >>> ((11 : Int32) &&& 0x3f).toInt64.toUInt64).toInt64)).toInt < 9007199254740992 := by
  have h := c_lushr y 11 11 rfl (by decide)
  omega
theorem own_f1 (y : Int64) : ¬ ((0 : Int32) < cmpValue (FP.dcmp FP.dconst0 (FP.dmul (FP.l2d ((y.toUInt64 >>> ((11 : Int32) &&& 0x3f).toInt64.toUInt64).toInt64)) (4368491638549381120 : UInt64))) .g) := by
  have h := (own_flaw (own_vr y).1 (own_vr y).2).1
  show ¬ ((0 : Int32) < cmpValue (FP.Core.dcmp FP.Core.dconst0 (FP.Core.dmul (FP.Core.l2d ((y.toUInt64 >>> ((11 : Int32) &&& 0x3f).toInt64.toUInt64).toInt64)) own_lo)) .g)
  rcases h with h | h <;> rw [h] <;> decide
theorem own_f2 (y : Int64) : cmpValue (FP.dcmp (FP.dmul (FP.l2d ((y.toUInt64 >>> ((11 : Int32) &&& 0x3f).toInt64.toUInt64).toInt64)) (4368491638549381120 : UInt64)) FP.dconst1) .g = (-1 : Int32) := by
  have h := (own_flaw (own_vr y).1 (own_vr y).2).2.1
  show cmpValue (FP.Core.dcmp (FP.Core.dmul (FP.Core.l2d ((y.toUInt64 >>> ((11 : Int32) &&& 0x3f).toInt64.toUInt64).toInt64)) own_lo) FP.Core.dconst1) .g = (-1 : Int32)
  rw [h]; rfl
theorem own_f3 (y : Int64) : FP.dmul (FP.dmul (FP.l2d ((y.toUInt64 >>> ((11 : Int32) &&& 0x3f).toInt64.toUInt64).toInt64)) (4368491638549381120 : UInt64)) (4845873199050653696 : UInt64) = FP.l2d ((y.toUInt64 >>> ((11 : Int32) &&& 0x3f).toInt64.toUInt64).toInt64) := (own_flaw (own_vr y).1 (own_vr y).2).2.2.1
theorem own_f4 (y : Int64) : FP.d2l (FP.l2d ((y.toUInt64 >>> ((11 : Int32) &&& 0x3f).toInt64.toUInt64).toInt64)) = ((y.toUInt64 >>> ((11 : Int32) &&& 0x3f).toInt64.toUInt64).toInt64) := (own_flaw (own_vr y).1 (own_vr y).2).2.2.2.1
theorem own_f5 (v : Int64) : cmpValue (FP.dcmp (FP.l2d v) (FP.l2d v)) .l = (0 : Int32) := dcmpV_self (Jvm.Free.Fl.l2d_fin v).noNaN .l
theorem d1_0 : decode prog_14_method_1_code 0 = .ok (.aload_n 0, 1) := by decide +kernel
theorem d1_1 : decode prog_14_method_1_code 1 = .ok (.invokespecial 1, 3) := by decide +kernel
theorem d1_4 : decode prog_14_method_1_code 4 = .ok (.aload_n 0, 1) := by decide +kernel
theorem d1_5 : decode prog_14_method_1_code 5 = .ok (.lload_n 1, 1) := by decide +kernel
theorem d1_6 : decode prog_14_method_1_code 6 = .ok (.putfield 7, 3) := by decide +kernel
theorem d1_9 : decode prog_14_method_1_code 9 = .ok (.return_, 1) := by decide +kernel
def Q_rm1 (Z : State) (a1 : Addr) (q2 : Int64) (u_state_a1 : Value) (h0 : Heap) (n0 : Nat) (v : Option Value) (h : Heap) (L : List Loc) : Prop := v = none ∧ Fr n0 L ∧ Keep h0 h [a1] ∧ Exa Z h a1 "com/example/throngwise/throngwise/generate/RandomStream" ∧ Fld Z h a1 "com/example/throngwise/throngwise/generate/RandomStream" "state" "J" (.long q2)
theorem ef_rm1 (m : MethodId) (x0 : Addr) (x1 : Int64) : entryFrame m #[(.ref x0), (.long x1)] 3 = mkF m 0 #[.val (.ref x0), .val (.long x1), .second] [] := by first | (simp [entryFrame, mkF, argsToLocals, Value.category]; done) | rfl
theorem pn_0 : plainName "com/example/throngwise/throngwise/generate/RandomStream" = true := by first | (simp [plainName, overriddenIn]; done) | decide +kernel
set_option maxRecDepth 65536 in
set_option maxHeartbeats 40000000 in
theorem rm1 (l : Launch) (Z : State) (a0 : Array Value) (hw : ∀ d ∈ tables_1, d.before a0 Z = true) (ws : List Jvm.Cond) (a1 : Addr) (q2 : Int64) (u_state_a1 : Value) (h0 : Heap) (n0 : Nat) (Z0 : n0 ≤ h0.size) (E_a1 : Exa Z h0 a1 "com/example/throngwise/throngwise/generate/RandomStream") (F_state_a1 : Fld Z h0 a1 "com/example/throngwise/throngwise/generate/RandomStream" "state" "J" u_state_a1) (g_a1 : n0 ≤ a1) :
    MetFree l (⟨"com/example/throngwise/throngwise/generate/RandomStream", "<init>", "(J)V"⟩ : MethodName) (head1 (Jvm.Cond.code (⟨"com/example/throngwise/throngwise/generate/RandomStream", "<init>", "(J)V"⟩ : MethodName) prog_14_method_1_code 3 none :: ws) ({ frames := 1, cells := 0, slots := 0, locals := 12 } : Room)) (fun a U => a = #[(.ref a1), (.long q2)] ∧ Z.Warmed39 U.vm ∧ U.heap = h0) (fun _ _ _ _ _ => True) (fun _ U o U' => ∃ v L, o = .returned v ∧ Q_rm1 Z a1 q2 u_state_a1 h0 n0 v U'.heap L ∧ FrameEnd U o U' L ({ frames := 1, cells := 0, slots := 0, locals := 12 } : Room).cells ({ frames := 1, cells := 0, slots := 0, locals := 12 } : Room).slots) := by
  refine MetFree.of_bodySF (plainFor_of_name pn_0) hisR ?_
  intro p e s m args below meth c s₁ Bd hml0 hP hK
  obtain ⟨rfl, hZ, hh⟩ := hP
  have hx := Bd.exec
  have hby := Bd.bytes
  have hml : c.maxLocals = 3 := hml0
  have hown : s.vm.findClass "com/example/throngwise/throngwise/generate/RandomStream" = some m.cls := findClass_of_methodNamed Bd.named
  have hnm := (name_of_methodNamed Bd.named Bd.method).1
  have X0 : Stand p l e ({ frames := 1, cells := 0, slots := 0, locals := 12 } : Room) s m #[(.ref a1), (.long q2)] below meth c s₁ [] 0 0 := Stand.of_body Bd
  have e0 : s₁.heap = h0 := by rw [← hh, Bd.state]; rfl
  have N0 := Fr.nil n0
  show Run p e below s 0 0 (Q_rm1 Z a1 q2 u_state_a1 h0 n0) (s₁.setTop (entryFrame m #[(.ref a1), (.long q2)] 3))
  refine Run.go (fun _ k => castTop (ef_rm1 m a1 q2) k) ?_
  show Run p e below s 0 0 (Q_rm1 Z a1 q2 u_state_a1 h0 n0) (s₁.setTop (mkF m 0 #[.val (.ref a1), .val (.long q2), .second] []))
  refine Run.go (fun _ k => XS.aloadN X0.here hx rfl (hb hby d1_0) rfl rfl k) ?_
  show Run p e below s 0 0 (Q_rm1 Z a1 q2 u_state_a1 h0 n0) (s₁.setTop (mkF m 1 #[.val (.ref a1), .val (.long q2), .second] [(.ref a1)]))
  obtain ⟨T3, X3, e3, st3⟩ := initO X0 hx hZ hown (hw _ (List.mem_of_getElem? (i := 6) rfl)) (hw _ (List.mem_of_getElem? (i := 7) rfl)) (hw _ (List.mem_of_getElem? (i := 8) rfl)) e0 (g := (mkF m 1 #[.val (.ref a1), .val (.long q2), .second] [(.ref a1)])) rfl (by rw [hml]; rfl) rfl (hb hby d1_1) (by decide) (W := 0) (by show 2 * 0 + _ ≤ _; exact Nat.le_of_eq rfl) (by decide)
  refine Run.go st3 ?_
  show Run p e below s 0 0 (Q_rm1 Z a1 q2 u_state_a1 h0 n0) (T3.setTop (mkF m 4 #[.val (.ref a1), .val (.long q2), .second] []))
  refine Run.go (fun _ k => XS.aloadN X3.here hx rfl (hb hby d1_4) rfl rfl k) ?_
  show Run p e below s 0 0 (Q_rm1 Z a1 q2 u_state_a1 h0 n0) (T3.setTop (mkF m 5 #[.val (.ref a1), .val (.long q2), .second] [(.ref a1)]))
  refine Run.go (fun _ k => XS.lloadN X3.here hx rfl (hb hby d1_5) rfl  k) ?_
  show Run p e below s 0 0 (Q_rm1 Z a1 q2 u_state_a1 h0 n0) (T3.setTop (mkF m 6 #[.val (.ref a1), .val (.long q2), .second] [(.long q2), (.ref a1)]))
  obtain ⟨T4, h4, X4, e4, W4, st4⟩ := putF X3 hx hZ hown (host := "") (Or.inl (hw _ (List.mem_of_getElem? (i := 9) rfl))) Via.refl e3 F_state_a1 E_a1 (Or.inl (hw _ (List.mem_of_getElem? (i := 10) rfl))) (hw _ (List.mem_of_getElem? (i := 1) rfl)) (ty := .long) (by decide) rfl rfl (g := (mkF m 6 #[.val (.ref a1), .val (.long q2), .second] [(.long q2), (.ref a1)])) rfl rfl (hb hby d1_6)
  have N4 := Fr.snoc X4 N0 g_a1
  have Z4 : n0 ≤ h4.size := Nat.le_trans Z0 (Keep.of_wr W4).1
  have K4 : Keep h0 h4 [a1] := (Keep.refl h0 [a1]).wr W4 (Or.inl (List.mem_of_getElem? (i := 0) rfl))
  obtain ⟨Lg4, Xg4, Ng4⟩ := Stand_gen X4 N4
  have fx5 := F_state_a1.same W4
  refine Run.go st4 ?_
  show Run p e below s 0 0 (Q_rm1 Z a1 q2 u_state_a1 h0 n0) (T4.setTop (mkF m 9 #[.val (.ref a1), .val (.long q2), .second] []))
  refine Run.ret0 Xg4 hx Bd.returns Bd.notSynchronized (hb hby d1_9) (by decide) (by decide) ?_
  show Q_rm1 Z a1 q2 u_state_a1 h0 n0 _ T4.heap _
  have fx6 := (E_a1.wr W4)
  rw [e4]
  exact ⟨rfl, Ng4, K4, fx6, fx5⟩
theorem d4_0 : decode prog_14_method_2_code 0 = .ok (.aload_n 0, 1) := by decide +kernel
theorem d4_1 : decode prog_14_method_2_code 1 = .ok (.dup, 1) := by decide +kernel
theorem d4_2 : decode prog_14_method_2_code 2 = .ok (.getfield 7, 3) := by decide +kernel
theorem d4_5 : decode prog_14_method_2_code 5 = .ok (.ldc2_w 13, 3) := by decide +kernel
theorem d4_8 : decode prog_14_method_2_code 8 = .ok (.ladd, 1) := by decide +kernel
theorem d4_9 : decode prog_14_method_2_code 9 = .ok (.putfield 7, 3) := by decide +kernel
theorem d4_12 : decode prog_14_method_2_code 12 = .ok (.aload_n 0, 1) := by decide +kernel
theorem d4_13 : decode prog_14_method_2_code 13 = .ok (.getfield 7, 3) := by decide +kernel
theorem d4_16 : decode prog_14_method_2_code 16 = .ok (.lstore_n 1, 1) := by decide +kernel
theorem d4_17 : decode prog_14_method_2_code 17 = .ok (.lload_n 1, 1) := by decide +kernel
theorem d4_18 : decode prog_14_method_2_code 18 = .ok (.lload_n 1, 1) := by decide +kernel
theorem d4_19 : decode prog_14_method_2_code 19 = .ok (.bipush 30, 2) := by decide +kernel
theorem d4_21 : decode prog_14_method_2_code 21 = .ok (.lushr, 1) := by decide +kernel
theorem d4_22 : decode prog_14_method_2_code 22 = .ok (.lxor, 1) := by decide +kernel
theorem d4_23 : decode prog_14_method_2_code 23 = .ok (.ldc2_w 15, 3) := by decide +kernel
theorem d4_26 : decode prog_14_method_2_code 26 = .ok (.lmul, 1) := by decide +kernel
theorem d4_27 : decode prog_14_method_2_code 27 = .ok (.lstore_n 1, 1) := by decide +kernel
theorem d4_28 : decode prog_14_method_2_code 28 = .ok (.lload_n 1, 1) := by decide +kernel
theorem d4_29 : decode prog_14_method_2_code 29 = .ok (.lload_n 1, 1) := by decide +kernel
theorem d4_30 : decode prog_14_method_2_code 30 = .ok (.bipush 27, 2) := by decide +kernel
theorem d4_32 : decode prog_14_method_2_code 32 = .ok (.lushr, 1) := by decide +kernel
theorem d4_33 : decode prog_14_method_2_code 33 = .ok (.lxor, 1) := by decide +kernel
theorem d4_34 : decode prog_14_method_2_code 34 = .ok (.ldc2_w 17, 3) := by decide +kernel
theorem d4_37 : decode prog_14_method_2_code 37 = .ok (.lmul, 1) := by decide +kernel
theorem d4_38 : decode prog_14_method_2_code 38 = .ok (.lstore_n 1, 1) := by decide +kernel
theorem d4_39 : decode prog_14_method_2_code 39 = .ok (.lload_n 1, 1) := by decide +kernel
theorem d4_40 : decode prog_14_method_2_code 40 = .ok (.lload_n 1, 1) := by decide +kernel
theorem d4_41 : decode prog_14_method_2_code 41 = .ok (.bipush 31, 2) := by decide +kernel
theorem d4_43 : decode prog_14_method_2_code 43 = .ok (.lushr, 1) := by decide +kernel
theorem d4_44 : decode prog_14_method_2_code 44 = .ok (.lxor, 1) := by decide +kernel
theorem d4_45 : decode prog_14_method_2_code 45 = .ok (.lreturn, 1) := by decide +kernel
def F_rm4 (w2 : Int64) : Int64 := let z7 : Int64 := (((w2 + (-7046029254386353131 : Int64)) ^^^ (((w2 + (-7046029254386353131 : Int64)).toUInt64 >>> ((30 : Int32) &&& 0x3f).toInt64.toUInt64).toInt64)) * (-4658895280553007687 : Int64)); let z8 : Int64 := ((z7 ^^^ ((z7.toUInt64 >>> ((27 : Int32) &&& 0x3f).toInt64.toUInt64).toInt64)) * (-7723592293110705685 : Int64)); (z8 ^^^ ((z8.toUInt64 >>> ((31 : Int32) &&& 0x3f).toInt64.toUInt64).toInt64))
def Q_rm4 (Z : State) (a1 : Addr) (w2 : Int64) (h0 : Heap) (n0 : Nat) (v : Option Value) (h : Heap) (L : List Loc) : Prop := v = some (.long (F_rm4 w2)) ∧ Fr n0 L ∧ Keep h0 h [a1] ∧ Fld Z h a1 "com/example/throngwise/throngwise/generate/RandomStream" "state" "J" (.long (w2 + (-7046029254386353131 : Int64))) ∧ Exa Z h a1 "com/example/throngwise/throngwise/generate/RandomStream"
theorem ef_rm4 (m : MethodId) (x0 : Addr) : entryFrame m #[(.ref x0)] 3 = mkF m 0 #[.val (.ref x0), .unset, .unset] [] := by first | (simp [entryFrame, mkF, argsToLocals, Value.category]; done) | rfl
set_option maxRecDepth 65536 in
set_option maxHeartbeats 40000000 in
theorem rm4 (l : Launch) (Z : State) (a0 : Array Value) (hw : ∀ d ∈ tables_1, d.before a0 Z = true) (ws : List Jvm.Cond) (a1 : Addr) (w2 : Int64) (h0 : Heap) (n0 : Nat) (Z0 : n0 ≤ h0.size) (F_state_a1 : Fld Z h0 a1 "com/example/throngwise/throngwise/generate/RandomStream" "state" "J" (.long w2)) (E_a1 : Exa Z h0 a1 "com/example/throngwise/throngwise/generate/RandomStream") (g_a1 : n0 ≤ a1) :
    MetFree l (⟨"com/example/throngwise/throngwise/generate/RandomStream", "nextLong", "()J"⟩ : MethodName) (head1 (Jvm.Cond.code (⟨"com/example/throngwise/throngwise/generate/RandomStream", "nextLong", "()J"⟩ : MethodName) prog_14_method_2_code 3 (some .long) :: ws) ({ frames := 0, cells := 0, slots := 0, locals := 0 } : Room)) (fun a U => a = #[(.ref a1)] ∧ Z.Warmed39 U.vm ∧ U.heap = h0) (fun _ _ _ _ _ => True) (fun _ U o U' => ∃ v L, o = .returned v ∧ Q_rm4 Z a1 w2 h0 n0 v U'.heap L ∧ FrameEnd U o U' L ({ frames := 0, cells := 0, slots := 0, locals := 0 } : Room).cells ({ frames := 0, cells := 0, slots := 0, locals := 0 } : Room).slots) := by
  refine MetFree.of_bodySF (plainFor_of_name pn_0) hisR ?_
  intro p e s m args below meth c s₁ Bd hml0 hP hK
  obtain ⟨rfl, hZ, hh⟩ := hP
  have hx := Bd.exec
  have hby := Bd.bytes
  have hml : c.maxLocals = 3 := hml0
  have hown : s.vm.findClass "com/example/throngwise/throngwise/generate/RandomStream" = some m.cls := findClass_of_methodNamed Bd.named
  have hnm := (name_of_methodNamed Bd.named Bd.method).1
  have X0 : Stand p l e ({ frames := 0, cells := 0, slots := 0, locals := 0 } : Room) s m #[(.ref a1)] below meth c s₁ [] 0 0 := Stand.of_body Bd
  have e0 : s₁.heap = h0 := by rw [← hh, Bd.state]; rfl
  have N0 := Fr.nil n0
  show Run p e below s 0 0 (Q_rm4 Z a1 w2 h0 n0) (s₁.setTop (entryFrame m #[(.ref a1)] 3))
  refine Run.go (fun _ k => castTop (ef_rm4 m a1) k) ?_
  show Run p e below s 0 0 (Q_rm4 Z a1 w2 h0 n0) (s₁.setTop (mkF m 0 #[.val (.ref a1), .unset, .unset] []))
  refine Run.go (fun _ k => XS.aloadN X0.here hx rfl (hb hby d4_0) rfl rfl k) ?_
  show Run p e below s 0 0 (Q_rm4 Z a1 w2 h0 n0) (s₁.setTop (mkF m 1 #[.val (.ref a1), .unset, .unset] [(.ref a1)]))
  refine Run.go (fun _ k => XS.dup X0.here hx rfl (hb hby d4_1) rfl rfl k) ?_
  show Run p e below s 0 0 (Q_rm4 Z a1 w2 h0 n0) (s₁.setTop (mkF m 2 #[.val (.ref a1), .unset, .unset] [(.ref a1), (.ref a1)]))
  obtain ⟨T3, X3, e3, st3⟩ := getF X0 hx hZ hown (host := "") (Or.inl (hw _ (List.mem_of_getElem? (i := 9) rfl))) Via.refl e0 F_state_a1 (g := (mkF m 2 #[.val (.ref a1), .unset, .unset] [(.ref a1), (.ref a1)])) rfl rfl (hb hby d4_2)
  refine Run.go st3 ?_
  show Run p e below s 0 0 (Q_rm4 Z a1 w2 h0 n0) (T3.setTop (mkF m 5 #[.val (.ref a1), .unset, .unset] [(.long w2), (.ref a1)]))
  refine Run.go (fun _ k => X3.ldc2Long hx hown (mvT hZ (hw _ (List.mem_of_getElem? (i := 21) rfl))) (g := (mkF m 5 #[.val (.ref a1), .unset, .unset] [(.long w2), (.ref a1)])) rfl (hb hby d4_5) _ k) ?_
  show Run p e below s 0 0 (Q_rm4 Z a1 w2 h0 n0) (T3.setTop (mkF m 8 #[.val (.ref a1), .unset, .unset] [(.long (-7046029254386353131 : Int64)), (.long w2), (.ref a1)]))
  refine Run.go (fun _ k => XS.ladd X3.here hx rfl (hb hby d4_8) rfl k) ?_
  show Run p e below s 0 0 (Q_rm4 Z a1 w2 h0 n0) (T3.setTop (mkF m 9 #[.val (.ref a1), .unset, .unset] [(.long (w2 + (-7046029254386353131 : Int64))), (.ref a1)]))
  obtain ⟨T4, h4, X4, e4, W4, st4⟩ := putF X3 hx hZ hown (host := "") (Or.inl (hw _ (List.mem_of_getElem? (i := 9) rfl))) Via.refl e3 F_state_a1 E_a1 (Or.inl (hw _ (List.mem_of_getElem? (i := 10) rfl))) (hw _ (List.mem_of_getElem? (i := 1) rfl)) (ty := .long) (by decide) rfl rfl (g := (mkF m 9 #[.val (.ref a1), .unset, .unset] [(.long (w2 + (-7046029254386353131 : Int64))), (.ref a1)])) rfl rfl (hb hby d4_9)
  have N4 := Fr.snoc X4 N0 g_a1
  have Z4 : n0 ≤ h4.size := Nat.le_trans Z0 (Keep.of_wr W4).1
  have K4 : Keep h0 h4 [a1] := (Keep.refl h0 [a1]).wr W4 (Or.inl (List.mem_of_getElem? (i := 0) rfl))
  obtain ⟨Lg4, Xg4, Ng4⟩ := Stand_gen X4 N4
  have fx5 := F_state_a1.same W4
  refine Run.go st4 ?_
  show Run p e below s 0 0 (Q_rm4 Z a1 w2 h0 n0) (T4.setTop (mkF m 12 #[.val (.ref a1), .unset, .unset] []))
  refine Run.go (fun _ k => XS.aloadN Xg4.here hx rfl (hb hby d4_12) rfl rfl k) ?_
  show Run p e below s 0 0 (Q_rm4 Z a1 w2 h0 n0) (T4.setTop (mkF m 13 #[.val (.ref a1), .unset, .unset] [(.ref a1)]))
  obtain ⟨T6, X6, e6, st6⟩ := getF Xg4 hx hZ hown (host := "") (Or.inl (hw _ (List.mem_of_getElem? (i := 9) rfl))) Via.refl e4 fx5 (g := (mkF m 13 #[.val (.ref a1), .unset, .unset] [(.ref a1)])) rfl rfl (hb hby d4_13)
  refine Run.go st6 ?_
  show Run p e below s 0 0 (Q_rm4 Z a1 w2 h0 n0) (T6.setTop (mkF m 16 #[.val (.ref a1), .unset, .unset] [(.long (w2 + (-7046029254386353131 : Int64)))]))
  refine Run.go (fun _ k => XS.lstoreN X6.here hx rfl (hb hby d4_16) rfl (l' := #[.val (.ref a1), .val (.long (w2 + (-7046029254386353131 : Int64))), .second]) rfl k) ?_
  show Run p e below s 0 0 (Q_rm4 Z a1 w2 h0 n0) (T6.setTop (mkF m 17 #[.val (.ref a1), .val (.long (w2 + (-7046029254386353131 : Int64))), .second] []))
  refine Run.go (fun _ k => XS.lloadN X6.here hx rfl (hb hby d4_17) rfl  k) ?_
  show Run p e below s 0 0 (Q_rm4 Z a1 w2 h0 n0) (T6.setTop (mkF m 18 #[.val (.ref a1), .val (.long (w2 + (-7046029254386353131 : Int64))), .second] [(.long (w2 + (-7046029254386353131 : Int64)))]))
  refine Run.go (fun _ k => XS.lloadN X6.here hx rfl (hb hby d4_18) rfl  k) ?_
  show Run p e below s 0 0 (Q_rm4 Z a1 w2 h0 n0) (T6.setTop (mkF m 19 #[.val (.ref a1), .val (.long (w2 + (-7046029254386353131 : Int64))), .second] [(.long (w2 + (-7046029254386353131 : Int64))), (.long (w2 + (-7046029254386353131 : Int64)))]))
  refine Run.go (fun _ k => XS.bipush X6.here hx rfl (hb hby d4_19) k) ?_
  show Run p e below s 0 0 (Q_rm4 Z a1 w2 h0 n0) (T6.setTop (mkF m 21 #[.val (.ref a1), .val (.long (w2 + (-7046029254386353131 : Int64))), .second] [(.int (30 : Int32)), (.long (w2 + (-7046029254386353131 : Int64))), (.long (w2 + (-7046029254386353131 : Int64)))]))
  refine Run.go (fun _ k => XS.lushr X6.here hx rfl (hb hby d4_21) rfl k) ?_
  show Run p e below s 0 0 (Q_rm4 Z a1 w2 h0 n0) (T6.setTop (mkF m 22 #[.val (.ref a1), .val (.long (w2 + (-7046029254386353131 : Int64))), .second] [(.long (((w2 + (-7046029254386353131 : Int64)).toUInt64 >>> ((30 : Int32) &&& 0x3f).toInt64.toUInt64).toInt64)), (.long (w2 + (-7046029254386353131 : Int64)))]))
  refine Run.go (fun _ k => XS.lxor X6.here hx rfl (hb hby d4_22) rfl k) ?_
  show Run p e below s 0 0 (Q_rm4 Z a1 w2 h0 n0) (T6.setTop (mkF m 23 #[.val (.ref a1), .val (.long (w2 + (-7046029254386353131 : Int64))), .second] [(.long ((w2 + (-7046029254386353131 : Int64)) ^^^ (((w2 + (-7046029254386353131 : Int64)).toUInt64 >>> ((30 : Int32) &&& 0x3f).toInt64.toUInt64).toInt64)))]))
  refine Run.go (fun _ k => X6.ldc2Long hx hown (mvT hZ (hw _ (List.mem_of_getElem? (i := 22) rfl))) (g := (mkF m 23 #[.val (.ref a1), .val (.long (w2 + (-7046029254386353131 : Int64))), .second] [(.long ((w2 + (-7046029254386353131 : Int64)) ^^^ (((w2 + (-7046029254386353131 : Int64)).toUInt64 >>> ((30 : Int32) &&& 0x3f).toInt64.toUInt64).toInt64)))])) rfl (hb hby d4_23) _ k) ?_
  show Run p e below s 0 0 (Q_rm4 Z a1 w2 h0 n0) (T6.setTop (mkF m 26 #[.val (.ref a1), .val (.long (w2 + (-7046029254386353131 : Int64))), .second] [(.long (-4658895280553007687 : Int64)), (.long ((w2 + (-7046029254386353131 : Int64)) ^^^ (((w2 + (-7046029254386353131 : Int64)).toUInt64 >>> ((30 : Int32) &&& 0x3f).toInt64.toUInt64).toInt64)))]))
  refine Run.go (fun _ k => XS.lmul X6.here hx rfl (hb hby d4_26) rfl k) ?_
  show Run p e below s 0 0 (Q_rm4 Z a1 w2 h0 n0) (T6.setTop (mkF m 27 #[.val (.ref a1), .val (.long (w2 + (-7046029254386353131 : Int64))), .second] [(.long (((w2 + (-7046029254386353131 : Int64)) ^^^ (((w2 + (-7046029254386353131 : Int64)).toUInt64 >>> ((30 : Int32) &&& 0x3f).toInt64.toUInt64).toInt64)) * (-4658895280553007687 : Int64)))]))
  refine Run.go (fun _ k => XS.lstoreN X6.here hx rfl (hb hby d4_27) rfl (l' := #[.val (.ref a1), .val (.long (((w2 + (-7046029254386353131 : Int64)) ^^^ (((w2 + (-7046029254386353131 : Int64)).toUInt64 >>> ((30 : Int32) &&& 0x3f).toInt64.toUInt64).toInt64)) * (-4658895280553007687 : Int64))), .second]) rfl k) ?_
  show Run p e below s 0 0 (Q_rm4 Z a1 w2 h0 n0) (T6.setTop (mkF m 28 #[.val (.ref a1), .val (.long (((w2 + (-7046029254386353131 : Int64)) ^^^ (((w2 + (-7046029254386353131 : Int64)).toUInt64 >>> ((30 : Int32) &&& 0x3f).toInt64.toUInt64).toInt64)) * (-4658895280553007687 : Int64))), .second] []))
  obtain ⟨z7, hz7⟩ : ∃ z, z = (((w2 + (-7046029254386353131 : Int64)) ^^^ (((w2 + (-7046029254386353131 : Int64)).toUInt64 >>> ((30 : Int32) &&& 0x3f).toInt64.toUInt64).toInt64)) * (-4658895280553007687 : Int64)) := ⟨_, rfl⟩
  rw [← hz7]
  show Run p e below s 0 0 (Q_rm4 Z a1 w2 h0 n0) (T6.setTop (mkF m 28 #[.val (.ref a1), .val (.long z7), .second] []))
  refine Run.go (fun _ k => XS.lloadN X6.here hx rfl (hb hby d4_28) rfl  k) ?_
  show Run p e below s 0 0 (Q_rm4 Z a1 w2 h0 n0) (T6.setTop (mkF m 29 #[.val (.ref a1), .val (.long z7), .second] [(.long z7)]))
  refine Run.go (fun _ k => XS.lloadN X6.here hx rfl (hb hby d4_29) rfl  k) ?_
  show Run p e below s 0 0 (Q_rm4 Z a1 w2 h0 n0) (T6.setTop (mkF m 30 #[.val (.ref a1), .val (.long z7), .second] [(.long z7), (.long z7)]))
  refine Run.go (fun _ k => XS.bipush X6.here hx rfl (hb hby d4_30) k) ?_
  show Run p e below s 0 0 (Q_rm4 Z a1 w2 h0 n0) (T6.setTop (mkF m 32 #[.val (.ref a1), .val (.long z7), .second] [(.int (27 : Int32)), (.long z7), (.long z7)]))
  refine Run.go (fun _ k => XS.lushr X6.here hx rfl (hb hby d4_32) rfl k) ?_
  show Run p e below s 0 0 (Q_rm4 Z a1 w2 h0 n0) (T6.setTop (mkF m 33 #[.val (.ref a1), .val (.long z7), .second] [(.long ((z7.toUInt64 >>> ((27 : Int32) &&& 0x3f).toInt64.toUInt64).toInt64)), (.long z7)]))
  refine Run.go (fun _ k => XS.lxor X6.here hx rfl (hb hby d4_33) rfl k) ?_
  show Run p e below s 0 0 (Q_rm4 Z a1 w2 h0 n0) (T6.setTop (mkF m 34 #[.val (.ref a1), .val (.long z7), .second] [(.long (z7 ^^^ ((z7.toUInt64 >>> ((27 : Int32) &&& 0x3f).toInt64.toUInt64).toInt64)))]))
  refine Run.go (fun _ k => X6.ldc2Long hx hown (mvT hZ (hw _ (List.mem_of_getElem? (i := 23) rfl))) (g := (mkF m 34 #[.val (.ref a1), .val (.long z7), .second] [(.long (z7 ^^^ ((z7.toUInt64 >>> ((27 : Int32) &&& 0x3f).toInt64.toUInt64).toInt64)))])) rfl (hb hby d4_34) _ k) ?_
  show Run p e below s 0 0 (Q_rm4 Z a1 w2 h0 n0) (T6.setTop (mkF m 37 #[.val (.ref a1), .val (.long z7), .second] [(.long (-7723592293110705685 : Int64)), (.long (z7 ^^^ ((z7.toUInt64 >>> ((27 : Int32) &&& 0x3f).toInt64.toUInt64).toInt64)))]))
  refine Run.go (fun _ k => XS.lmul X6.here hx rfl (hb hby d4_37) rfl k) ?_
  show Run p e below s 0 0 (Q_rm4 Z a1 w2 h0 n0) (T6.setTop (mkF m 38 #[.val (.ref a1), .val (.long z7), .second] [(.long ((z7 ^^^ ((z7.toUInt64 >>> ((27 : Int32) &&& 0x3f).toInt64.toUInt64).toInt64)) * (-7723592293110705685 : Int64)))]))
  refine Run.go (fun _ k => XS.lstoreN X6.here hx rfl (hb hby d4_38) rfl (l' := #[.val (.ref a1), .val (.long ((z7 ^^^ ((z7.toUInt64 >>> ((27 : Int32) &&& 0x3f).toInt64.toUInt64).toInt64)) * (-7723592293110705685 : Int64))), .second]) rfl k) ?_
  show Run p e below s 0 0 (Q_rm4 Z a1 w2 h0 n0) (T6.setTop (mkF m 39 #[.val (.ref a1), .val (.long ((z7 ^^^ ((z7.toUInt64 >>> ((27 : Int32) &&& 0x3f).toInt64.toUInt64).toInt64)) * (-7723592293110705685 : Int64))), .second] []))
  obtain ⟨z8, hz8⟩ : ∃ z, z = ((z7 ^^^ ((z7.toUInt64 >>> ((27 : Int32) &&& 0x3f).toInt64.toUInt64).toInt64)) * (-7723592293110705685 : Int64)) := ⟨_, rfl⟩
  rw [← hz8]
  show Run p e below s 0 0 (Q_rm4 Z a1 w2 h0 n0) (T6.setTop (mkF m 39 #[.val (.ref a1), .val (.long z8), .second] []))
  refine Run.go (fun _ k => XS.lloadN X6.here hx rfl (hb hby d4_39) rfl  k) ?_
  show Run p e below s 0 0 (Q_rm4 Z a1 w2 h0 n0) (T6.setTop (mkF m 40 #[.val (.ref a1), .val (.long z8), .second] [(.long z8)]))
  refine Run.go (fun _ k => XS.lloadN X6.here hx rfl (hb hby d4_40) rfl  k) ?_
  show Run p e below s 0 0 (Q_rm4 Z a1 w2 h0 n0) (T6.setTop (mkF m 41 #[.val (.ref a1), .val (.long z8), .second] [(.long z8), (.long z8)]))
  refine Run.go (fun _ k => XS.bipush X6.here hx rfl (hb hby d4_41) k) ?_
  show Run p e below s 0 0 (Q_rm4 Z a1 w2 h0 n0) (T6.setTop (mkF m 43 #[.val (.ref a1), .val (.long z8), .second] [(.int (31 : Int32)), (.long z8), (.long z8)]))
  refine Run.go (fun _ k => XS.lushr X6.here hx rfl (hb hby d4_43) rfl k) ?_
  show Run p e below s 0 0 (Q_rm4 Z a1 w2 h0 n0) (T6.setTop (mkF m 44 #[.val (.ref a1), .val (.long z8), .second] [(.long ((z8.toUInt64 >>> ((31 : Int32) &&& 0x3f).toInt64.toUInt64).toInt64)), (.long z8)]))
  refine Run.go (fun _ k => XS.lxor X6.here hx rfl (hb hby d4_44) rfl k) ?_
  show Run p e below s 0 0 (Q_rm4 Z a1 w2 h0 n0) (T6.setTop (mkF m 45 #[.val (.ref a1), .val (.long z8), .second] [(.long (z8 ^^^ ((z8.toUInt64 >>> ((31 : Int32) &&& 0x3f).toInt64.toUInt64).toInt64)))]))
  refine Run.retJ X6 hx Bd.returns Bd.notSynchronized (hb hby d4_45) (by decide) (by decide) ?_
  show Q_rm4 Z a1 w2 h0 n0 _ T6.heap _
  subst hz8
  subst hz7
  have fx9 := (E_a1.wr W4)
  rw [e6]
  exact ⟨rfl, Ng4, K4, fx5, fx9⟩
theorem d3_0 : decode prog_14_method_3_code 0 = .ok (.aload_n 0, 1) := by decide +kernel
theorem d3_1 : decode prog_14_method_3_code 1 = .ok (.invokevirtual 19, 3) := by decide +kernel
theorem pd_0 : parseMethodDescriptor "()J" = some ⟨[], some .long⟩ := by decide +kernel
theorem d3_4 : decode prog_14_method_3_code 4 = .ok (.bipush 11, 2) := by decide +kernel
theorem d3_6 : decode prog_14_method_3_code 6 = .ok (.lushr, 1) := by decide +kernel
theorem d3_7 : decode prog_14_method_3_code 7 = .ok (.l2d, 1) := by decide +kernel
theorem d3_8 : decode prog_14_method_3_code 8 = .ok (.ldc2_w 23, 3) := by decide +kernel
theorem d3_11 : decode prog_14_method_3_code 11 = .ok (.dmul, 1) := by decide +kernel
theorem d3_12 : decode prog_14_method_3_code 12 = .ok (.dreturn, 1) := by decide +kernel
def Q_rm3 (Z : State) (a1 : Addr) (w3 : Int64) (h0 : Heap) (n0 : Nat) (v : Option Value) (h : Heap) (L : List Loc) : Prop := v = some (.double (FP.dmul (FP.l2d (((F_rm4 w3).toUInt64 >>> ((11 : Int32) &&& 0x3f).toInt64.toUInt64).toInt64)) (4368491638549381120 : UInt64))) ∧ Fr n0 L ∧ Keep h0 h [a1] ∧ Exa Z h a1 "com/example/throngwise/throngwise/generate/RandomStream" ∧ Fld Z h a1 "com/example/throngwise/throngwise/generate/RandomStream" "state" "J" (.long (w3 + (-7046029254386353131 : Int64)))
theorem ef_rm3 (m : MethodId) (x0 : Addr) : entryFrame m #[(.ref x0)] 1 = mkF m 0 #[.val (.ref x0)] [] := by first | (simp [entryFrame, mkF, argsToLocals, Value.category]; done) | rfl
set_option maxRecDepth 65536 in
set_option maxHeartbeats 40000000 in
theorem rm3 (l : Launch) (Z : State) (a0 : Array Value) (hw : ∀ d ∈ tables_1, d.before a0 Z = true) (ws : List Jvm.Cond) (a1 : Addr) (w3 : Int64) (h0 : Heap) (n0 : Nat) (Z0 : n0 ≤ h0.size) (F_state_a1 : Fld Z h0 a1 "com/example/throngwise/throngwise/generate/RandomStream" "state" "J" (.long w3)) (E_a1 : Exa Z h0 a1 "com/example/throngwise/throngwise/generate/RandomStream") (g_a1 : n0 ≤ a1) :
    MetFree l (⟨"com/example/throngwise/throngwise/generate/RandomStream", "nextFraction", "()D"⟩ : MethodName) (head1 (Jvm.Cond.code (⟨"com/example/throngwise/throngwise/generate/RandomStream", "nextFraction", "()D"⟩ : MethodName) prog_14_method_3_code 1 (some .double) :: ws) ({ frames := 1, cells := 0, slots := 0, locals := 14 } : Room)) (fun a U => a = #[(.ref a1)] ∧ Z.Warmed39 U.vm ∧ U.heap = h0) (fun _ _ _ _ _ => True) (fun _ U o U' => ∃ v L, o = .returned v ∧ Q_rm3 Z a1 w3 h0 n0 v U'.heap L ∧ FrameEnd U o U' L ({ frames := 1, cells := 0, slots := 0, locals := 14 } : Room).cells ({ frames := 1, cells := 0, slots := 0, locals := 14 } : Room).slots) := by
  refine MetFree.of_bodySF (plainFor_of_name pn_0) hisR ?_
  intro p e s m args below meth c s₁ Bd hml0 hP hK
  obtain ⟨rfl, hZ, hh⟩ := hP
  have hx := Bd.exec
  have hby := Bd.bytes
  have hml : c.maxLocals = 1 := hml0
  have hown : s.vm.findClass "com/example/throngwise/throngwise/generate/RandomStream" = some m.cls := findClass_of_methodNamed Bd.named
  have hnm := (name_of_methodNamed Bd.named Bd.method).1
  have X0 : Stand p l e ({ frames := 1, cells := 0, slots := 0, locals := 14 } : Room) s m #[(.ref a1)] below meth c s₁ [] 0 0 := Stand.of_body Bd
  have e0 : s₁.heap = h0 := by rw [← hh, Bd.state]; rfl
  have N0 := Fr.nil n0
  show Run p e below s 0 0 (Q_rm3 Z a1 w3 h0 n0) (s₁.setTop (entryFrame m #[(.ref a1)] 1))
  refine Run.go (fun _ k => castTop (ef_rm3 m a1) k) ?_
  show Run p e below s 0 0 (Q_rm3 Z a1 w3 h0 n0) (s₁.setTop (mkF m 0 #[.val (.ref a1)] []))
  refine Run.go (fun _ k => XS.aloadN X0.here hx rfl (hb hby d3_0) rfl rfl k) ?_
  show Run p e below s 0 0 (Q_rm3 Z a1 w3 h0 n0) (s₁.setTop (mkF m 1 #[.val (.ref a1)] [(.ref a1)]))
  obtain ⟨cq2, kq2, q2a, q2b, q2c⟩ := isOf hZ e0 E_a1
  obtain ⟨_, _, ⟨T2, L2, k2, n2⟩, -, X2, ⟨Lc2, hQ2, l2, y2, z2⟩, st2⟩ := X0.virtualBack hx (y := (⟨"com/example/throngwise/throngwise/generate/RandomStream", "nextLong", "()J"⟩ : MethodName)) (z := (⟨"com/example/throngwise/throngwise/generate/RandomStream", "nextLong", "()J"⟩ : MethodName)) hown (mvT hZ (hw _ (List.mem_of_getElem? (i := 16) rfl))) (mvT hZ (hw _ (List.mem_of_getElem? (i := 17) rfl))) (notFace_of_selects (args := #[]) (mvT hZ (hw _ (List.mem_of_getElem? (i := 19) rfl)))) (mvT hZ (hw _ (List.mem_of_getElem? (i := 19) rfl))) (mvT hZ (hw _ (List.mem_of_getElem? (i := 18) rfl))) (by decide) (backOf (W := 0) (rm4 l Z a0 hw [] a1 w3 h0 n0 Z0 F_state_a1 E_a1 g_a1) hZ (hw _ (List.mem_of_getElem? (i := 20) rfl)) (hw _ (List.mem_of_getElem? (i := 2) rfl)) (by decide) (by decide)) q2a q2c (g := (mkF m 1 #[.val (.ref a1)] [(.ref a1)])) rfl (by rw [hml]; rfl) (Steps.refl _) (argsL := []) (rest := []) (lenOf pd_0 rfl) rfl (by show 2 * 0 + _ ≤ _; exact Nat.le_of_eq rfl) (hb hby d3_1) (fun _ _ => ⟨rfl, e0, (by decide : 0 + 0 ≤ _), (by decide : 0 + 0 ≤ _)⟩)
  dsimp only [Pt.U, Pt.locs, Pt.cells, Pt.slots] at X2 l2 y2 z2 st2 hQ2
  subst l2 y2 z2
  obtain ⟨rfl, N2q, K2q, fq2_0, fq2_1⟩ := hQ2
  have N2 := Fr.app N0 N2q
  have K2 : Keep h0 T2.heap [a1] := (Keep.refl h0 [a1]).trans K2q (allS (Or.inl (List.mem_of_getElem? (i := 0) rfl)) all0)
  have Z2 : n0 ≤ T2.heap.size := Nat.le_trans Z0 K2q.1
  obtain ⟨Lg2, Xg2, Ng2⟩ := Stand_gen X2 N2
  refine Run.tr st2 ?_
  show Run p e below s 0 0 (Q_rm3 Z a1 w3 h0 n0) (T2.setTop (mkF m 4 #[.val (.ref a1)] [(.long (F_rm4 w3))]))
  refine Run.go (fun _ k => XS.bipush Xg2.here hx rfl (hb hby d3_4) k) ?_
  show Run p e below s 0 0 (Q_rm3 Z a1 w3 h0 n0) (T2.setTop (mkF m 6 #[.val (.ref a1)] [(.int (11 : Int32)), (.long (F_rm4 w3))]))
  refine Run.go (fun _ k => XS.lushr Xg2.here hx rfl (hb hby d3_6) rfl k) ?_
  show Run p e below s 0 0 (Q_rm3 Z a1 w3 h0 n0) (T2.setTop (mkF m 7 #[.val (.ref a1)] [(.long (((F_rm4 w3).toUInt64 >>> ((11 : Int32) &&& 0x3f).toInt64.toUInt64).toInt64))]))
  refine Run.go (fun _ k => XS.l2dS Xg2.here hx rfl (hb hby d3_7) rfl rfl k) ?_
  show Run p e below s 0 0 (Q_rm3 Z a1 w3 h0 n0) (T2.setTop (mkF m 8 #[.val (.ref a1)] [(.double (FP.l2d (((F_rm4 w3).toUInt64 >>> ((11 : Int32) &&& 0x3f).toInt64.toUInt64).toInt64)))]))
  refine Run.go (fun _ k => Xg2.ldc2DoubleC hx hown (mvT hZ (hw _ (List.mem_of_getElem? (i := 24) rfl))) (g := (mkF m 8 #[.val (.ref a1)] [(.double (FP.l2d (((F_rm4 w3).toUInt64 >>> ((11 : Int32) &&& 0x3f).toInt64.toUInt64).toInt64)))])) rfl (hb hby d3_8) _ k) ?_
  show Run p e below s 0 0 (Q_rm3 Z a1 w3 h0 n0) (T2.setTop (mkF m 11 #[.val (.ref a1)] [(.double (4368491638549381120 : UInt64)), (.double (FP.l2d (((F_rm4 w3).toUInt64 >>> ((11 : Int32) &&& 0x3f).toInt64.toUInt64).toInt64)))]))
  refine Run.go (fun _ k => XS.dmulS Xg2.here hx rfl (hb hby d3_11) rfl (own_n1 _) rfl k) ?_
  show Run p e below s 0 0 (Q_rm3 Z a1 w3 h0 n0) (T2.setTop (mkF m 12 #[.val (.ref a1)] [(.double (FP.dmul (FP.l2d (((F_rm4 w3).toUInt64 >>> ((11 : Int32) &&& 0x3f).toInt64.toUInt64).toInt64)) (4368491638549381120 : UInt64)))]))
  refine Run.retD Xg2 hx Bd.returns Bd.notSynchronized (hb hby d3_12) (by decide) (by decide) ?_
  show Q_rm3 Z a1 w3 h0 n0 _ T2.heap _
  exact ⟨rfl, Ng2, K2, fq2_1, fq2_0⟩
theorem pd_1 : parseMethodDescriptor "(J)V" = some ⟨[.long], none⟩ := by decide +kernel
theorem pd_2 : parseMethodDescriptor "()D" = some ⟨[], some .double⟩ := by decide +kernel
def Q_rm0 (Z : State) (q1 : Int64) (h0 : Heap) (n0 : Nat) (v : Option Value) (h : Heap) (L : List Loc) : Prop := v = some (.int 1) ∧ Fr n0 L
theorem ef_rm0 (m : MethodId) (x0 : Int64) : entryFrame m #[(.long x0)] maxLocals = mkF m 0 #[.val (.long x0), .second, .unset, .unset, .unset, .unset, .unset, .unset, .unset, .unset, .unset, .unset, .unset, .unset, .unset] [] := by first | (simp [entryFrame, mkF, argsToLocals, Value.category, maxLocals]; done) | rfl
theorem pn_1 : plainName "com/example/throngwise/throngwise/generate/RandomStreamNextFractionPinLaw" = true := by first | (simp [plainName, overriddenIn]; done) | decide +kernel
set_option maxRecDepth 65536 in
set_option maxHeartbeats 40000000 in
theorem rm0 (l : Launch) (Z : State) (a0 : Array Value) (hw : ∀ d ∈ tables_1, d.before a0 Z = true) (ws : List Jvm.Cond) (q1 : Int64) (h0 : Heap) (n0 : Nat) (Z0 : n0 ≤ h0.size)  :
    MetFree l x (head1 (Jvm.Cond.code x code maxLocals ret :: ws) room_1) (fun a U => a = #[(.long q1)] ∧ Z.Warmed39 U.vm ∧ U.heap = h0) (fun _ _ _ _ _ => True) (fun _ U o U' => ∃ v L, o = .returned v ∧ Q_rm0 Z q1 h0 n0 v U'.heap L ∧ FrameEnd U o U' L 2 2) := by
  refine MetFree.of_bodySF (plainFor_of_name pn_1) hisR ?_
  intro p e s m args below meth c s₁ Bd hml0 hP hK
  obtain ⟨rfl, hZ, hh⟩ := hP
  have hx := Bd.exec
  have hby := Bd.bytes
  have hml : c.maxLocals = 15 := hml0
  have hown : s.vm.findClass "com/example/throngwise/throngwise/generate/RandomStreamNextFractionPinLaw" = some m.cls := findClass_of_methodNamed Bd.named
  have hnm := (name_of_methodNamed Bd.named Bd.method).1
  have X0 : Stand p l e room_1 s m #[(.long q1)] below meth c s₁ [] 0 0 := Stand.of_body Bd
  have e0 : s₁.heap = h0 := by rw [← hh, Bd.state]; rfl
  have N0 := Fr.nil n0
  show Run p e below s 2 2 (Q_rm0 Z q1 h0 n0) (s₁.setTop (entryFrame m #[(.long q1)] maxLocals))
  refine Run.go (fun _ k => castTop (ef_rm0 m q1) k) ?_
  show Run p e below s 2 2 (Q_rm0 Z q1 h0 n0) (s₁.setTop (mkF m 0 #[.val (.long q1), .second, .unset, .unset, .unset, .unset, .unset, .unset, .unset, .unset, .unset, .unset, .unset, .unset, .unset] []))
  obtain ⟨T2, h2, X2, e2, E2, A2, D2, -, st2⟩ := newO X0 hx hZ hown (hw _ (List.mem_of_getElem? (i := 0) rfl)) (hw _ (List.mem_of_getElem? (i := 1) rfl)) (hw _ (List.mem_of_getElem? (i := 2) rfl)) e0 (g := (mkF m 0 #[.val (.long q1), .second, .unset, .unset, .unset, .unset, .unset, .unset, .unset, .unset, .unset, .unset, .unset, .unset, .unset] [])) rfl (hb hby at_0) (by decide) (by decide)
  obtain ⟨b2, g2⟩ : ∃ z, z = h0.size := ⟨_, rfl⟩
  rw [← g2] at A2 D2 st2
  have g_b2 : n0 ≤ b2 := Nat.le_trans Z0 (Nat.le_of_eq g2.symm)
  have Z2 : n0 ≤ h2.size := Nat.le_trans Z0 E2.1
  have fx3 : Fld Z h2 b2 "com/example/throngwise/throngwise/generate/RandomStream" "state" "J" (.long (0 : Int64)) := D2 (Or.inl (hw _ (List.mem_of_getElem? (i := 10) rfl))) (ty := .long) (by decide)
  refine Run.go st2 ?_
  show Run p e below s 2 2 (Q_rm0 Z q1 h0 n0) (T2.setTop (mkF m 3 #[.val (.long q1), .second, .unset, .unset, .unset, .unset, .unset, .unset, .unset, .unset, .unset, .unset, .unset, .unset, .unset] [(.ref b2)]))
  refine Run.go (fun _ k => XS.dup X2.here hx rfl (hb hby at_3) rfl rfl k) ?_
  show Run p e below s 2 2 (Q_rm0 Z q1 h0 n0) (T2.setTop (mkF m 4 #[.val (.long q1), .second, .unset, .unset, .unset, .unset, .unset, .unset, .unset, .unset, .unset, .unset, .unset, .unset, .unset] [(.ref b2), (.ref b2)]))
  refine Run.go (fun _ k => XS.lloadN X2.here hx rfl (hb hby at_4) rfl  k) ?_
  show Run p e below s 2 2 (Q_rm0 Z q1 h0 n0) (T2.setTop (mkF m 5 #[.val (.long q1), .second, .unset, .unset, .unset, .unset, .unset, .unset, .unset, .unset, .unset, .unset, .unset, .unset, .unset] [(.long q1), (.ref b2), (.ref b2)]))
  obtain ⟨_, _, ⟨T4, L4, k4, n4⟩, -, X4, ⟨Lc4, hQ4, l4, y4, z4⟩, st4⟩ := X2.specialBack hx (y := (⟨"com/example/throngwise/throngwise/generate/RandomStream", "<init>", "(J)V"⟩ : MethodName)) rfl hown (mvT hZ (hw _ (List.mem_of_getElem? (i := 3) rfl))) (mvT hZ (hw _ (List.mem_of_getElem? (i := 4) rfl))) (mvT hZ (hw _ (List.mem_of_getElem? (i := 5) rfl))) (by decide) (backOf (W := 1) (rm1 l Z a0 hw [] b2 q1 (.long (0 : Int64)) h2 n0 Z2 A2 fx3 g_b2) hZ (hw _ (List.mem_of_getElem? (i := 5) rfl)) (hw _ (List.mem_of_getElem? (i := 2) rfl)) (by decide) (by decide)) (g := (mkF m 5 #[.val (.long q1), .second, .unset, .unset, .unset, .unset, .unset, .unset, .unset, .unset, .unset, .unset, .unset, .unset, .unset] [(.long q1), (.ref b2), (.ref b2)])) rfl (by rw [hml]; rfl) (Steps.refl _) (a := b2) (argsL := [(.long q1)]) (rest := [(.ref b2)]) (lenOf pd_1 rfl) rfl (by show 2 * 0 + _ ≤ _; exact Nat.le_of_eq rfl) (hb hby at_5) (fun _ _ => ⟨rfl, e2, (by decide : 1 + 0 ≤ _), (by decide : 1 + 0 ≤ _)⟩)
  dsimp only [Pt.U, Pt.locs, Pt.cells, Pt.slots] at X4 l4 y4 z4 st4 hQ4
  subst l4 y4 z4
  obtain ⟨rfl, N4q, K4q, fq4_0, fq4_1⟩ := hQ4
  have N4 := Fr.app N0 N4q
  have Z4 : n0 ≤ T4.heap.size := Nat.le_trans Z2 K4q.1
  obtain ⟨Lg4, Xg4, Ng4⟩ := Stand_gen X4 N4
  refine Run.tr st4 ?_
  show Run p e below s 2 2 (Q_rm0 Z q1 h0 n0) (T4.setTop (mkF m 8 #[.val (.long q1), .second, .unset, .unset, .unset, .unset, .unset, .unset, .unset, .unset, .unset, .unset, .unset, .unset, .unset] [(.ref b2)]))
  refine Run.go (fun _ k => XS.astoreN Xg4.here hx rfl (hb hby at_8) rfl rfl (l' := #[.val (.long q1), .second, .val (.ref b2), .unset, .unset, .unset, .unset, .unset, .unset, .unset, .unset, .unset, .unset, .unset, .unset]) rfl k) ?_
  show Run p e below s 2 2 (Q_rm0 Z q1 h0 n0) (T4.setTop (mkF m 9 #[.val (.long q1), .second, .val (.ref b2), .unset, .unset, .unset, .unset, .unset, .unset, .unset, .unset, .unset, .unset, .unset, .unset] []))
  obtain ⟨T5, h5, X5, e5, E5, A5, D5, -, st5⟩ := newO Xg4 hx hZ hown (hw _ (List.mem_of_getElem? (i := 0) rfl)) (hw _ (List.mem_of_getElem? (i := 1) rfl)) (hw _ (List.mem_of_getElem? (i := 2) rfl)) rfl (g := (mkF m 9 #[.val (.long q1), .second, .val (.ref b2), .unset, .unset, .unset, .unset, .unset, .unset, .unset, .unset, .unset, .unset, .unset, .unset] [])) rfl (hb hby at_9) (by decide) (by decide)
  obtain ⟨b5, g5⟩ : ∃ z, z = T4.heap.size := ⟨_, rfl⟩
  rw [← g5] at A5 D5 st5
  have g_b5 : n0 ≤ b5 := Nat.le_trans Z4 (Nat.le_of_eq g5.symm)
  have Z5 : n0 ≤ h5.size := Nat.le_trans Z4 E5.1
  have ne_b2_b5 : b2 ≠ b5 := Nat.ne_of_lt (Nat.lt_of_lt_of_le fq4_0.lt (Nat.le_of_eq g5.symm))
  have fx6 : Fld Z h5 b5 "com/example/throngwise/throngwise/generate/RandomStream" "state" "J" (.long (0 : Int64)) := D5 (Or.inl (hw _ (List.mem_of_getElem? (i := 10) rfl))) (ty := .long) (by decide)
  refine Run.go st5 ?_
  show Run p e below s 2 2 (Q_rm0 Z q1 h0 n0) (T5.setTop (mkF m 12 #[.val (.long q1), .second, .val (.ref b2), .unset, .unset, .unset, .unset, .unset, .unset, .unset, .unset, .unset, .unset, .unset, .unset] [(.ref b5)]))
  refine Run.go (fun _ k => XS.dup X5.here hx rfl (hb hby at_12) rfl rfl k) ?_
  show Run p e below s 2 2 (Q_rm0 Z q1 h0 n0) (T5.setTop (mkF m 13 #[.val (.long q1), .second, .val (.ref b2), .unset, .unset, .unset, .unset, .unset, .unset, .unset, .unset, .unset, .unset, .unset, .unset] [(.ref b5), (.ref b5)]))
  refine Run.go (fun _ k => XS.lloadN X5.here hx rfl (hb hby at_13) rfl  k) ?_
  show Run p e below s 2 2 (Q_rm0 Z q1 h0 n0) (T5.setTop (mkF m 14 #[.val (.long q1), .second, .val (.ref b2), .unset, .unset, .unset, .unset, .unset, .unset, .unset, .unset, .unset, .unset, .unset, .unset] [(.long q1), (.ref b5), (.ref b5)]))
  obtain ⟨_, _, ⟨T7, L7, k7, n7⟩, -, X7, ⟨Lc7, hQ7, l7, y7, z7⟩, st7⟩ := X5.specialBack hx (y := (⟨"com/example/throngwise/throngwise/generate/RandomStream", "<init>", "(J)V"⟩ : MethodName)) rfl hown (mvT hZ (hw _ (List.mem_of_getElem? (i := 3) rfl))) (mvT hZ (hw _ (List.mem_of_getElem? (i := 4) rfl))) (mvT hZ (hw _ (List.mem_of_getElem? (i := 5) rfl))) (by decide) (backOf (W := 1) (rm1 l Z a0 hw [] b5 q1 (.long (0 : Int64)) h5 n0 Z5 A5 fx6 g_b5) hZ (hw _ (List.mem_of_getElem? (i := 5) rfl)) (hw _ (List.mem_of_getElem? (i := 2) rfl)) (by decide) (by decide)) (g := (mkF m 14 #[.val (.long q1), .second, .val (.ref b2), .unset, .unset, .unset, .unset, .unset, .unset, .unset, .unset, .unset, .unset, .unset, .unset] [(.long q1), (.ref b5), (.ref b5)])) rfl (by rw [hml]; rfl) (Steps.refl _) (a := b5) (argsL := [(.long q1)]) (rest := [(.ref b5)]) (lenOf pd_1 rfl) rfl (by show 2 * 0 + _ ≤ _; exact Nat.le_of_eq rfl) (hb hby at_14) (fun _ _ => ⟨rfl, e5, (by decide : 2 + 0 ≤ _), (by decide : 2 + 0 ≤ _)⟩)
  dsimp only [Pt.U, Pt.locs, Pt.cells, Pt.slots] at X7 l7 y7 z7 st7 hQ7
  subst l7 y7 z7
  obtain ⟨rfl, N7q, K7q, fq7_0, fq7_1⟩ := hQ7
  have N7 := Fr.app Ng4 N7q
  have Z7 : n0 ≤ T7.heap.size := Nat.le_trans Z5 K7q.1
  obtain ⟨Lg7, Xg7, Ng7⟩ := Stand_gen X7 N7
  refine Run.tr st7 ?_
  show Run p e below s 2 2 (Q_rm0 Z q1 h0 n0) (T7.setTop (mkF m 17 #[.val (.long q1), .second, .val (.ref b2), .unset, .unset, .unset, .unset, .unset, .unset, .unset, .unset, .unset, .unset, .unset, .unset] [(.ref b5)]))
  refine Run.go (fun _ k => XS.astoreN Xg7.here hx rfl (hb hby at_17) rfl rfl (l' := #[.val (.long q1), .second, .val (.ref b2), .val (.ref b5), .unset, .unset, .unset, .unset, .unset, .unset, .unset, .unset, .unset, .unset, .unset]) rfl k) ?_
  show Run p e below s 2 2 (Q_rm0 Z q1 h0 n0) (T7.setTop (mkF m 18 #[.val (.long q1), .second, .val (.ref b2), .val (.ref b5), .unset, .unset, .unset, .unset, .unset, .unset, .unset, .unset, .unset, .unset, .unset] []))
  refine Run.go (fun _ k => XS.aloadN Xg7.here hx rfl (hb hby at_18) rfl rfl k) ?_
  show Run p e below s 2 2 (Q_rm0 Z q1 h0 n0) (T7.setTop (mkF m 19 #[.val (.long q1), .second, .val (.ref b2), .val (.ref b5), .unset, .unset, .unset, .unset, .unset, .unset, .unset, .unset, .unset, .unset, .unset] [(.ref b2)]))
  have fx9 := ((fq4_1.ext E5).keep K7q (ninS ne_b2_b5 nin0))
  have fx10 := ((fq4_0.ext E5).keep K7q)
  obtain ⟨cq8, kq8, q8a, q8b, q8c⟩ := isOf hZ rfl fx10
  obtain ⟨_, _, ⟨T8, L8, k8, n8⟩, -, X8, ⟨Lc8, hQ8, l8, y8, z8⟩, st8⟩ := Xg7.virtualBack hx (y := (⟨"com/example/throngwise/throngwise/generate/RandomStream", "nextFraction", "()D"⟩ : MethodName)) (z := (⟨"com/example/throngwise/throngwise/generate/RandomStream", "nextFraction", "()D"⟩ : MethodName)) hown (mvT hZ (hw _ (List.mem_of_getElem? (i := 11) rfl))) (mvT hZ (hw _ (List.mem_of_getElem? (i := 12) rfl))) (notFace_of_selects (args := #[]) (mvT hZ (hw _ (List.mem_of_getElem? (i := 14) rfl)))) (mvT hZ (hw _ (List.mem_of_getElem? (i := 14) rfl))) (mvT hZ (hw _ (List.mem_of_getElem? (i := 13) rfl))) (by decide) (backOf (W := 0) (rm3 l Z a0 hw [] b2 q1 T7.heap n0 Z7 fx9 fx10 g_b2) hZ (hw _ (List.mem_of_getElem? (i := 15) rfl)) (hw _ (List.mem_of_getElem? (i := 2) rfl)) (by decide) (by decide)) q8a q8c (g := (mkF m 19 #[.val (.long q1), .second, .val (.ref b2), .val (.ref b5), .unset, .unset, .unset, .unset, .unset, .unset, .unset, .unset, .unset, .unset, .unset] [(.ref b2)])) rfl (by rw [hml]; rfl) (Steps.refl _) (argsL := []) (rest := []) (lenOf pd_2 rfl) rfl (by show 2 * 0 + _ ≤ _; exact Nat.le_of_eq rfl) (hb hby at_19) (fun _ _ => ⟨rfl, rfl, (by decide : 2 + 0 ≤ _), (by decide : 2 + 0 ≤ _)⟩)
  dsimp only [Pt.U, Pt.locs, Pt.cells, Pt.slots] at X8 l8 y8 z8 st8 hQ8
  subst l8 y8 z8
  obtain ⟨rfl, N8q, K8q, fq8_0, fq8_1⟩ := hQ8
  have N8 := Fr.app Ng7 N8q
  have Z8 : n0 ≤ T8.heap.size := Nat.le_trans Z7 K8q.1
  obtain ⟨Lg8, Xg8, Ng8⟩ := Stand_gen X8 N8
  refine Run.tr st8 ?_
  show Run p e below s 2 2 (Q_rm0 Z q1 h0 n0) (T8.setTop (mkF m 22 #[.val (.long q1), .second, .val (.ref b2), .val (.ref b5), .unset, .unset, .unset, .unset, .unset, .unset, .unset, .unset, .unset, .unset, .unset] [(.double (FP.dmul (FP.l2d (((F_rm4 q1).toUInt64 >>> ((11 : Int32) &&& 0x3f).toInt64.toUInt64).toInt64)) (4368491638549381120 : UInt64)))]))
  refine Run.go (fun _ k => XS.dstore Xg8.here hx rfl (hb hby at_22) rfl (l' := #[.val (.long q1), .second, .val (.ref b2), .val (.ref b5), .val (.double (FP.dmul (FP.l2d (((F_rm4 q1).toUInt64 >>> ((11 : Int32) &&& 0x3f).toInt64.toUInt64).toInt64)) (4368491638549381120 : UInt64))), .second, .unset, .unset, .unset, .unset, .unset, .unset, .unset, .unset, .unset]) rfl k) ?_
  show Run p e below s 2 2 (Q_rm0 Z q1 h0 n0) (T8.setTop (mkF m 24 #[.val (.long q1), .second, .val (.ref b2), .val (.ref b5), .val (.double (FP.dmul (FP.l2d (((F_rm4 q1).toUInt64 >>> ((11 : Int32) &&& 0x3f).toInt64.toUInt64).toInt64)) (4368491638549381120 : UInt64))), .second, .unset, .unset, .unset, .unset, .unset, .unset, .unset, .unset, .unset] []))
  refine Run.go (fun _ k => XS.aloadN Xg8.here hx rfl (hb hby at_24) rfl rfl k) ?_
  show Run p e below s 2 2 (Q_rm0 Z q1 h0 n0) (T8.setTop (mkF m 25 #[.val (.long q1), .second, .val (.ref b2), .val (.ref b5), .val (.double (FP.dmul (FP.l2d (((F_rm4 q1).toUInt64 >>> ((11 : Int32) &&& 0x3f).toInt64.toUInt64).toInt64)) (4368491638549381120 : UInt64))), .second, .unset, .unset, .unset, .unset, .unset, .unset, .unset, .unset, .unset] [(.ref b5)]))
  have fx12 := (fq7_1.keep K8q (ninS (Ne.symm ne_b2_b5) nin0))
  have fx13 := (fq7_0.keep K8q)
  obtain ⟨cq11, kq11, q11a, q11b, q11c⟩ := isOf hZ rfl fx13
  obtain ⟨_, _, ⟨T11, L11, k11, n11⟩, -, X11, ⟨Lc11, hQ11, l11, y11, z11⟩, st11⟩ := Xg8.virtualBack hx (y := (⟨"com/example/throngwise/throngwise/generate/RandomStream", "nextLong", "()J"⟩ : MethodName)) (z := (⟨"com/example/throngwise/throngwise/generate/RandomStream", "nextLong", "()J"⟩ : MethodName)) hown (mvT hZ (hw _ (List.mem_of_getElem? (i := 25) rfl))) (mvT hZ (hw _ (List.mem_of_getElem? (i := 17) rfl))) (notFace_of_selects (args := #[]) (mvT hZ (hw _ (List.mem_of_getElem? (i := 19) rfl)))) (mvT hZ (hw _ (List.mem_of_getElem? (i := 19) rfl))) (mvT hZ (hw _ (List.mem_of_getElem? (i := 18) rfl))) (by decide) (backOf (W := 0) (rm4 l Z a0 hw [] b5 q1 T8.heap n0 Z8 fx12 fx13 g_b5) hZ (hw _ (List.mem_of_getElem? (i := 20) rfl)) (hw _ (List.mem_of_getElem? (i := 2) rfl)) (by decide) (by decide)) q11a q11c (g := (mkF m 25 #[.val (.long q1), .second, .val (.ref b2), .val (.ref b5), .val (.double (FP.dmul (FP.l2d (((F_rm4 q1).toUInt64 >>> ((11 : Int32) &&& 0x3f).toInt64.toUInt64).toInt64)) (4368491638549381120 : UInt64))), .second, .unset, .unset, .unset, .unset, .unset, .unset, .unset, .unset, .unset] [(.ref b5)])) rfl (by rw [hml]; rfl) (Steps.refl _) (argsL := []) (rest := []) (lenOf pd_0 rfl) rfl (by show 2 * 0 + _ ≤ _; exact Nat.le_of_eq rfl) (hb hby at_25) (fun _ _ => ⟨rfl, rfl, (by decide : 2 + 0 ≤ _), (by decide : 2 + 0 ≤ _)⟩)
  dsimp only [Pt.U, Pt.locs, Pt.cells, Pt.slots] at X11 l11 y11 z11 st11 hQ11
  subst l11 y11 z11
  obtain ⟨rfl, N11q, K11q, fq11_0, fq11_1⟩ := hQ11
  have N11 := Fr.app Ng8 N11q
  have Z11 : n0 ≤ T11.heap.size := Nat.le_trans Z8 K11q.1
  obtain ⟨Lg11, Xg11, Ng11⟩ := Stand_gen X11 N11
  refine Run.tr st11 ?_
  show Run p e below s 2 2 (Q_rm0 Z q1 h0 n0) (T11.setTop (mkF m 28 #[.val (.long q1), .second, .val (.ref b2), .val (.ref b5), .val (.double (FP.dmul (FP.l2d (((F_rm4 q1).toUInt64 >>> ((11 : Int32) &&& 0x3f).toInt64.toUInt64).toInt64)) (4368491638549381120 : UInt64))), .second, .unset, .unset, .unset, .unset, .unset, .unset, .unset, .unset, .unset] [(.long (F_rm4 q1))]))
  refine Run.go (fun _ k => XS.lstore Xg11.here hx rfl (hb hby at_28) rfl (l' := #[.val (.long q1), .second, .val (.ref b2), .val (.ref b5), .val (.double (FP.dmul (FP.l2d (((F_rm4 q1).toUInt64 >>> ((11 : Int32) &&& 0x3f).toInt64.toUInt64).toInt64)) (4368491638549381120 : UInt64))), .second, .val (.long (F_rm4 q1)), .second, .unset, .unset, .unset, .unset, .unset, .unset, .unset]) rfl k) ?_
  show Run p e below s 2 2 (Q_rm0 Z q1 h0 n0) (T11.setTop (mkF m 30 #[.val (.long q1), .second, .val (.ref b2), .val (.ref b5), .val (.double (FP.dmul (FP.l2d (((F_rm4 q1).toUInt64 >>> ((11 : Int32) &&& 0x3f).toInt64.toUInt64).toInt64)) (4368491638549381120 : UInt64))), .second, .val (.long (F_rm4 q1)), .second, .unset, .unset, .unset, .unset, .unset, .unset, .unset] []))
  refine Run.go (fun _ k => XS.dconst0 Xg11.here hx rfl (hb hby at_30) rfl k) ?_
  show Run p e below s 2 2 (Q_rm0 Z q1 h0 n0) (T11.setTop (mkF m 31 #[.val (.long q1), .second, .val (.ref b2), .val (.ref b5), .val (.double (FP.dmul (FP.l2d (((F_rm4 q1).toUInt64 >>> ((11 : Int32) &&& 0x3f).toInt64.toUInt64).toInt64)) (4368491638549381120 : UInt64))), .second, .val (.long (F_rm4 q1)), .second, .unset, .unset, .unset, .unset, .unset, .unset, .unset] [(.double FP.dconst0)]))
  refine Run.go (fun _ k => XS.dload Xg11.here hx rfl (hb hby at_31) rfl  k) ?_
  show Run p e below s 2 2 (Q_rm0 Z q1 h0 n0) (T11.setTop (mkF m 33 #[.val (.long q1), .second, .val (.ref b2), .val (.ref b5), .val (.double (FP.dmul (FP.l2d (((F_rm4 q1).toUInt64 >>> ((11 : Int32) &&& 0x3f).toInt64.toUInt64).toInt64)) (4368491638549381120 : UInt64))), .second, .val (.long (F_rm4 q1)), .second, .unset, .unset, .unset, .unset, .unset, .unset, .unset] [(.double (FP.dmul (FP.l2d (((F_rm4 q1).toUInt64 >>> ((11 : Int32) &&& 0x3f).toInt64.toUInt64).toInt64)) (4368491638549381120 : UInt64))), (.double FP.dconst0)]))
  refine Run.go (fun _ k => XS.dcmpS Xg11.here hx rfl (hb hby at_33) rfl rfl k) ?_
  show Run p e below s 2 2 (Q_rm0 Z q1 h0 n0) (T11.setTop (mkF m 34 #[.val (.long q1), .second, .val (.ref b2), .val (.ref b5), .val (.double (FP.dmul (FP.l2d (((F_rm4 q1).toUInt64 >>> ((11 : Int32) &&& 0x3f).toInt64.toUInt64).toInt64)) (4368491638549381120 : UInt64))), .second, .val (.long (F_rm4 q1)), .second, .unset, .unset, .unset, .unset, .unset, .unset, .unset] [(.int (cmpValue (FP.dcmp FP.dconst0 (FP.dmul (FP.l2d (((F_rm4 q1).toUInt64 >>> ((11 : Int32) &&& 0x3f).toInt64.toUInt64).toInt64)) (4368491638549381120 : UInt64))) .g))]))
  refine Run.go (fun _ k => XS.ifNo Xg11.here hx rfl (hb hby at_34) rfl ((if0 _ _).trans (flt (own_f1 _)).2.2.1) k) ?_
  show Run p e below s 2 2 (Q_rm0 Z q1 h0 n0) (T11.setTop (mkF m 37 #[.val (.long q1), .second, .val (.ref b2), .val (.ref b5), .val (.double (FP.dmul (FP.l2d (((F_rm4 q1).toUInt64 >>> ((11 : Int32) &&& 0x3f).toInt64.toUInt64).toInt64)) (4368491638549381120 : UInt64))), .second, .val (.long (F_rm4 q1)), .second, .unset, .unset, .unset, .unset, .unset, .unset, .unset] []))
  refine Run.go (fun _ k => XS.dload Xg11.here hx rfl (hb hby at_37) rfl  k) ?_
  show Run p e below s 2 2 (Q_rm0 Z q1 h0 n0) (T11.setTop (mkF m 39 #[.val (.long q1), .second, .val (.ref b2), .val (.ref b5), .val (.double (FP.dmul (FP.l2d (((F_rm4 q1).toUInt64 >>> ((11 : Int32) &&& 0x3f).toInt64.toUInt64).toInt64)) (4368491638549381120 : UInt64))), .second, .val (.long (F_rm4 q1)), .second, .unset, .unset, .unset, .unset, .unset, .unset, .unset] [(.double (FP.dmul (FP.l2d (((F_rm4 q1).toUInt64 >>> ((11 : Int32) &&& 0x3f).toInt64.toUInt64).toInt64)) (4368491638549381120 : UInt64)))]))
  refine Run.go (fun _ k => XS.dconst1 Xg11.here hx rfl (hb hby at_39) rfl k) ?_
  show Run p e below s 2 2 (Q_rm0 Z q1 h0 n0) (T11.setTop (mkF m 40 #[.val (.long q1), .second, .val (.ref b2), .val (.ref b5), .val (.double (FP.dmul (FP.l2d (((F_rm4 q1).toUInt64 >>> ((11 : Int32) &&& 0x3f).toInt64.toUInt64).toInt64)) (4368491638549381120 : UInt64))), .second, .val (.long (F_rm4 q1)), .second, .unset, .unset, .unset, .unset, .unset, .unset, .unset] [(.double FP.dconst1), (.double (FP.dmul (FP.l2d (((F_rm4 q1).toUInt64 >>> ((11 : Int32) &&& 0x3f).toInt64.toUInt64).toInt64)) (4368491638549381120 : UInt64)))]))
  refine Run.go (fun _ k => XS.dcmpS Xg11.here hx rfl (hb hby at_40) rfl (own_f2 _) k) ?_
  show Run p e below s 2 2 (Q_rm0 Z q1 h0 n0) (T11.setTop (mkF m 41 #[.val (.long q1), .second, .val (.ref b2), .val (.ref b5), .val (.double (FP.dmul (FP.l2d (((F_rm4 q1).toUInt64 >>> ((11 : Int32) &&& 0x3f).toInt64.toUInt64).toInt64)) (4368491638549381120 : UInt64))), .second, .val (.long (F_rm4 q1)), .second, .unset, .unset, .unset, .unset, .unset, .unset, .unset] [(.int (-1 : Int32))]))
  refine Run.go (fun _ k => XS.ifNo Xg11.here hx rfl (hb hby at_41) rfl ((if0 _ _).trans (tlt (by decide)).2.1) k) ?_
  show Run p e below s 2 2 (Q_rm0 Z q1 h0 n0) (T11.setTop (mkF m 44 #[.val (.long q1), .second, .val (.ref b2), .val (.ref b5), .val (.double (FP.dmul (FP.l2d (((F_rm4 q1).toUInt64 >>> ((11 : Int32) &&& 0x3f).toInt64.toUInt64).toInt64)) (4368491638549381120 : UInt64))), .second, .val (.long (F_rm4 q1)), .second, .unset, .unset, .unset, .unset, .unset, .unset, .unset] []))
  refine Run.go (fun _ k => XS.iconst Xg11.here hx rfl (hb hby at_44) k) ?_
  show Run p e below s 2 2 (Q_rm0 Z q1 h0 n0) (T11.setTop (mkF m 45 #[.val (.long q1), .second, .val (.ref b2), .val (.ref b5), .val (.double (FP.dmul (FP.l2d (((F_rm4 q1).toUInt64 >>> ((11 : Int32) &&& 0x3f).toInt64.toUInt64).toInt64)) (4368491638549381120 : UInt64))), .second, .val (.long (F_rm4 q1)), .second, .unset, .unset, .unset, .unset, .unset, .unset, .unset] [(.int (1 : Int32))]))
  refine Run.go (fun _ k => XS.goto Xg11.here hx rfl (pc0 := 45) (pc' := 49) rfl (hb hby at_45) (by decide) (by decide) k) ?_
  show Run p e below s 2 2 (Q_rm0 Z q1 h0 n0) (T11.setTop (mkF m 49 #[.val (.long q1), .second, .val (.ref b2), .val (.ref b5), .val (.double (FP.dmul (FP.l2d (((F_rm4 q1).toUInt64 >>> ((11 : Int32) &&& 0x3f).toInt64.toUInt64).toInt64)) (4368491638549381120 : UInt64))), .second, .val (.long (F_rm4 q1)), .second, .unset, .unset, .unset, .unset, .unset, .unset, .unset] [(.int (1 : Int32))]))
  refine Run.go (fun _ k => XS.istore Xg11.here hx rfl (hb hby at_49) rfl (l' := #[.val (.long q1), .second, .val (.ref b2), .val (.ref b5), .val (.double (FP.dmul (FP.l2d (((F_rm4 q1).toUInt64 >>> ((11 : Int32) &&& 0x3f).toInt64.toUInt64).toInt64)) (4368491638549381120 : UInt64))), .second, .val (.long (F_rm4 q1)), .second, .val (.int (1 : Int32)), .unset, .unset, .unset, .unset, .unset, .unset]) rfl k) ?_
  show Run p e below s 2 2 (Q_rm0 Z q1 h0 n0) (T11.setTop (mkF m 51 #[.val (.long q1), .second, .val (.ref b2), .val (.ref b5), .val (.double (FP.dmul (FP.l2d (((F_rm4 q1).toUInt64 >>> ((11 : Int32) &&& 0x3f).toInt64.toUInt64).toInt64)) (4368491638549381120 : UInt64))), .second, .val (.long (F_rm4 q1)), .second, .val (.int (1 : Int32)), .unset, .unset, .unset, .unset, .unset, .unset] []))
  refine Run.go (fun _ k => XS.dload Xg11.here hx rfl (hb hby at_51) rfl  k) ?_
  show Run p e below s 2 2 (Q_rm0 Z q1 h0 n0) (T11.setTop (mkF m 53 #[.val (.long q1), .second, .val (.ref b2), .val (.ref b5), .val (.double (FP.dmul (FP.l2d (((F_rm4 q1).toUInt64 >>> ((11 : Int32) &&& 0x3f).toInt64.toUInt64).toInt64)) (4368491638549381120 : UInt64))), .second, .val (.long (F_rm4 q1)), .second, .val (.int (1 : Int32)), .unset, .unset, .unset, .unset, .unset, .unset] [(.double (FP.dmul (FP.l2d (((F_rm4 q1).toUInt64 >>> ((11 : Int32) &&& 0x3f).toInt64.toUInt64).toInt64)) (4368491638549381120 : UInt64)))]))
  refine Run.go (fun _ k => Xg11.ldc2DoubleC hx hown (mvT hZ (hw _ (List.mem_of_getElem? (i := 26) rfl))) (g := (mkF m 53 #[.val (.long q1), .second, .val (.ref b2), .val (.ref b5), .val (.double (FP.dmul (FP.l2d (((F_rm4 q1).toUInt64 >>> ((11 : Int32) &&& 0x3f).toInt64.toUInt64).toInt64)) (4368491638549381120 : UInt64))), .second, .val (.long (F_rm4 q1)), .second, .val (.int (1 : Int32)), .unset, .unset, .unset, .unset, .unset, .unset] [(.double (FP.dmul (FP.l2d (((F_rm4 q1).toUInt64 >>> ((11 : Int32) &&& 0x3f).toInt64.toUInt64).toInt64)) (4368491638549381120 : UInt64)))])) rfl (hb hby at_53) _ k) ?_
  show Run p e below s 2 2 (Q_rm0 Z q1 h0 n0) (T11.setTop (mkF m 56 #[.val (.long q1), .second, .val (.ref b2), .val (.ref b5), .val (.double (FP.dmul (FP.l2d (((F_rm4 q1).toUInt64 >>> ((11 : Int32) &&& 0x3f).toInt64.toUInt64).toInt64)) (4368491638549381120 : UInt64))), .second, .val (.long (F_rm4 q1)), .second, .val (.int (1 : Int32)), .unset, .unset, .unset, .unset, .unset, .unset] [(.double (4845873199050653696 : UInt64)), (.double (FP.dmul (FP.l2d (((F_rm4 q1).toUInt64 >>> ((11 : Int32) &&& 0x3f).toInt64.toUInt64).toInt64)) (4368491638549381120 : UInt64)))]))
  refine Run.go (fun _ k => XS.dmulS Xg11.here hx rfl (hb hby at_56) rfl (nn_w (own_f3 _)) (own_f3 _) k) ?_
  show Run p e below s 2 2 (Q_rm0 Z q1 h0 n0) (T11.setTop (mkF m 57 #[.val (.long q1), .second, .val (.ref b2), .val (.ref b5), .val (.double (FP.dmul (FP.l2d (((F_rm4 q1).toUInt64 >>> ((11 : Int32) &&& 0x3f).toInt64.toUInt64).toInt64)) (4368491638549381120 : UInt64))), .second, .val (.long (F_rm4 q1)), .second, .val (.int (1 : Int32)), .unset, .unset, .unset, .unset, .unset, .unset] [(.double (FP.l2d (((F_rm4 q1).toUInt64 >>> ((11 : Int32) &&& 0x3f).toInt64.toUInt64).toInt64)))]))
  refine Run.go (fun _ k => XS.dstore Xg11.here hx rfl (hb hby at_57) rfl (l' := #[.val (.long q1), .second, .val (.ref b2), .val (.ref b5), .val (.double (FP.dmul (FP.l2d (((F_rm4 q1).toUInt64 >>> ((11 : Int32) &&& 0x3f).toInt64.toUInt64).toInt64)) (4368491638549381120 : UInt64))), .second, .val (.long (F_rm4 q1)), .second, .val (.int (1 : Int32)), .val (.double (FP.l2d (((F_rm4 q1).toUInt64 >>> ((11 : Int32) &&& 0x3f).toInt64.toUInt64).toInt64))), .second, .unset, .unset, .unset, .unset]) rfl k) ?_
  show Run p e below s 2 2 (Q_rm0 Z q1 h0 n0) (T11.setTop (mkF m 59 #[.val (.long q1), .second, .val (.ref b2), .val (.ref b5), .val (.double (FP.dmul (FP.l2d (((F_rm4 q1).toUInt64 >>> ((11 : Int32) &&& 0x3f).toInt64.toUInt64).toInt64)) (4368491638549381120 : UInt64))), .second, .val (.long (F_rm4 q1)), .second, .val (.int (1 : Int32)), .val (.double (FP.l2d (((F_rm4 q1).toUInt64 >>> ((11 : Int32) &&& 0x3f).toInt64.toUInt64).toInt64))), .second, .unset, .unset, .unset, .unset] []))
  refine Run.go (fun _ k => XS.dload Xg11.here hx rfl (hb hby at_59) rfl  k) ?_
  show Run p e below s 2 2 (Q_rm0 Z q1 h0 n0) (T11.setTop (mkF m 61 #[.val (.long q1), .second, .val (.ref b2), .val (.ref b5), .val (.double (FP.dmul (FP.l2d (((F_rm4 q1).toUInt64 >>> ((11 : Int32) &&& 0x3f).toInt64.toUInt64).toInt64)) (4368491638549381120 : UInt64))), .second, .val (.long (F_rm4 q1)), .second, .val (.int (1 : Int32)), .val (.double (FP.l2d (((F_rm4 q1).toUInt64 >>> ((11 : Int32) &&& 0x3f).toInt64.toUInt64).toInt64))), .second, .unset, .unset, .unset, .unset] [(.double (FP.l2d (((F_rm4 q1).toUInt64 >>> ((11 : Int32) &&& 0x3f).toInt64.toUInt64).toInt64)))]))
  refine Run.go (fun _ k => XS.d2lS Xg11.here hx rfl (hb hby at_61) rfl (own_f4 _) k) ?_
  show Run p e below s 2 2 (Q_rm0 Z q1 h0 n0) (T11.setTop (mkF m 62 #[.val (.long q1), .second, .val (.ref b2), .val (.ref b5), .val (.double (FP.dmul (FP.l2d (((F_rm4 q1).toUInt64 >>> ((11 : Int32) &&& 0x3f).toInt64.toUInt64).toInt64)) (4368491638549381120 : UInt64))), .second, .val (.long (F_rm4 q1)), .second, .val (.int (1 : Int32)), .val (.double (FP.l2d (((F_rm4 q1).toUInt64 >>> ((11 : Int32) &&& 0x3f).toInt64.toUInt64).toInt64))), .second, .unset, .unset, .unset, .unset] [(.long (((F_rm4 q1).toUInt64 >>> ((11 : Int32) &&& 0x3f).toInt64.toUInt64).toInt64))]))
  refine Run.go (fun _ k => XS.lstore Xg11.here hx rfl (hb hby at_62) rfl (l' := #[.val (.long q1), .second, .val (.ref b2), .val (.ref b5), .val (.double (FP.dmul (FP.l2d (((F_rm4 q1).toUInt64 >>> ((11 : Int32) &&& 0x3f).toInt64.toUInt64).toInt64)) (4368491638549381120 : UInt64))), .second, .val (.long (F_rm4 q1)), .second, .val (.int (1 : Int32)), .val (.double (FP.l2d (((F_rm4 q1).toUInt64 >>> ((11 : Int32) &&& 0x3f).toInt64.toUInt64).toInt64))), .second, .val (.long (((F_rm4 q1).toUInt64 >>> ((11 : Int32) &&& 0x3f).toInt64.toUInt64).toInt64)), .second, .unset, .unset]) rfl k) ?_
  show Run p e below s 2 2 (Q_rm0 Z q1 h0 n0) (T11.setTop (mkF m 64 #[.val (.long q1), .second, .val (.ref b2), .val (.ref b5), .val (.double (FP.dmul (FP.l2d (((F_rm4 q1).toUInt64 >>> ((11 : Int32) &&& 0x3f).toInt64.toUInt64).toInt64)) (4368491638549381120 : UInt64))), .second, .val (.long (F_rm4 q1)), .second, .val (.int (1 : Int32)), .val (.double (FP.l2d (((F_rm4 q1).toUInt64 >>> ((11 : Int32) &&& 0x3f).toInt64.toUInt64).toInt64))), .second, .val (.long (((F_rm4 q1).toUInt64 >>> ((11 : Int32) &&& 0x3f).toInt64.toUInt64).toInt64)), .second, .unset, .unset] []))
  refine Run.go (fun _ k => XS.lload Xg11.here hx rfl (hb hby at_64) rfl  k) ?_
  show Run p e below s 2 2 (Q_rm0 Z q1 h0 n0) (T11.setTop (mkF m 66 #[.val (.long q1), .second, .val (.ref b2), .val (.ref b5), .val (.double (FP.dmul (FP.l2d (((F_rm4 q1).toUInt64 >>> ((11 : Int32) &&& 0x3f).toInt64.toUInt64).toInt64)) (4368491638549381120 : UInt64))), .second, .val (.long (F_rm4 q1)), .second, .val (.int (1 : Int32)), .val (.double (FP.l2d (((F_rm4 q1).toUInt64 >>> ((11 : Int32) &&& 0x3f).toInt64.toUInt64).toInt64))), .second, .val (.long (((F_rm4 q1).toUInt64 >>> ((11 : Int32) &&& 0x3f).toInt64.toUInt64).toInt64)), .second, .unset, .unset] [(.long (((F_rm4 q1).toUInt64 >>> ((11 : Int32) &&& 0x3f).toInt64.toUInt64).toInt64))]))
  refine Run.go (fun _ k => XS.lload Xg11.here hx rfl (hb hby at_66) rfl  k) ?_
  show Run p e below s 2 2 (Q_rm0 Z q1 h0 n0) (T11.setTop (mkF m 68 #[.val (.long q1), .second, .val (.ref b2), .val (.ref b5), .val (.double (FP.dmul (FP.l2d (((F_rm4 q1).toUInt64 >>> ((11 : Int32) &&& 0x3f).toInt64.toUInt64).toInt64)) (4368491638549381120 : UInt64))), .second, .val (.long (F_rm4 q1)), .second, .val (.int (1 : Int32)), .val (.double (FP.l2d (((F_rm4 q1).toUInt64 >>> ((11 : Int32) &&& 0x3f).toInt64.toUInt64).toInt64))), .second, .val (.long (((F_rm4 q1).toUInt64 >>> ((11 : Int32) &&& 0x3f).toInt64.toUInt64).toInt64)), .second, .unset, .unset] [(.long (F_rm4 q1)), (.long (((F_rm4 q1).toUInt64 >>> ((11 : Int32) &&& 0x3f).toInt64.toUInt64).toInt64))]))
  refine Run.go (fun _ k => XS.bipush Xg11.here hx rfl (hb hby at_68) k) ?_
  show Run p e below s 2 2 (Q_rm0 Z q1 h0 n0) (T11.setTop (mkF m 70 #[.val (.long q1), .second, .val (.ref b2), .val (.ref b5), .val (.double (FP.dmul (FP.l2d (((F_rm4 q1).toUInt64 >>> ((11 : Int32) &&& 0x3f).toInt64.toUInt64).toInt64)) (4368491638549381120 : UInt64))), .second, .val (.long (F_rm4 q1)), .second, .val (.int (1 : Int32)), .val (.double (FP.l2d (((F_rm4 q1).toUInt64 >>> ((11 : Int32) &&& 0x3f).toInt64.toUInt64).toInt64))), .second, .val (.long (((F_rm4 q1).toUInt64 >>> ((11 : Int32) &&& 0x3f).toInt64.toUInt64).toInt64)), .second, .unset, .unset] [(.int (11 : Int32)), (.long (F_rm4 q1)), (.long (((F_rm4 q1).toUInt64 >>> ((11 : Int32) &&& 0x3f).toInt64.toUInt64).toInt64))]))
  refine Run.go (fun _ k => XS.lushr Xg11.here hx rfl (hb hby at_70) rfl k) ?_
  show Run p e below s 2 2 (Q_rm0 Z q1 h0 n0) (T11.setTop (mkF m 71 #[.val (.long q1), .second, .val (.ref b2), .val (.ref b5), .val (.double (FP.dmul (FP.l2d (((F_rm4 q1).toUInt64 >>> ((11 : Int32) &&& 0x3f).toInt64.toUInt64).toInt64)) (4368491638549381120 : UInt64))), .second, .val (.long (F_rm4 q1)), .second, .val (.int (1 : Int32)), .val (.double (FP.l2d (((F_rm4 q1).toUInt64 >>> ((11 : Int32) &&& 0x3f).toInt64.toUInt64).toInt64))), .second, .val (.long (((F_rm4 q1).toUInt64 >>> ((11 : Int32) &&& 0x3f).toInt64.toUInt64).toInt64)), .second, .unset, .unset] [(.long (((F_rm4 q1).toUInt64 >>> ((11 : Int32) &&& 0x3f).toInt64.toUInt64).toInt64)), (.long (((F_rm4 q1).toUInt64 >>> ((11 : Int32) &&& 0x3f).toInt64.toUInt64).toInt64))]))
  refine Run.go (fun _ k => XS.lcmp Xg11.here hx rfl (hb hby at_71) rfl k) ?_
  show Run p e below s 2 2 (Q_rm0 Z q1 h0 n0) (T11.setTop (mkF m 72 #[.val (.long q1), .second, .val (.ref b2), .val (.ref b5), .val (.double (FP.dmul (FP.l2d (((F_rm4 q1).toUInt64 >>> ((11 : Int32) &&& 0x3f).toInt64.toUInt64).toInt64)) (4368491638549381120 : UInt64))), .second, .val (.long (F_rm4 q1)), .second, .val (.int (1 : Int32)), .val (.double (FP.l2d (((F_rm4 q1).toUInt64 >>> ((11 : Int32) &&& 0x3f).toInt64.toUInt64).toInt64))), .second, .val (.long (((F_rm4 q1).toUInt64 >>> ((11 : Int32) &&& 0x3f).toInt64.toUInt64).toInt64)), .second, .unset, .unset] [(.int (lcmpW (((F_rm4 q1).toUInt64 >>> ((11 : Int32) &&& 0x3f).toInt64.toUInt64).toInt64) (((F_rm4 q1).toUInt64 >>> ((11 : Int32) &&& 0x3f).toInt64.toUInt64).toInt64)))]))
  refine Run.go (fun _ k => XS.ifNo Xg11.here hx rfl (hb hby at_72) rfl ((if0 _ _).trans (teq ((lw_eq (((F_rm4 q1).toUInt64 >>> ((11 : Int32) &&& 0x3f).toInt64.toUInt64).toInt64) (((F_rm4 q1).toUInt64 >>> ((11 : Int32) &&& 0x3f).toInt64.toUInt64).toInt64)).mpr rfl)).2) k) ?_
  show Run p e below s 2 2 (Q_rm0 Z q1 h0 n0) (T11.setTop (mkF m 75 #[.val (.long q1), .second, .val (.ref b2), .val (.ref b5), .val (.double (FP.dmul (FP.l2d (((F_rm4 q1).toUInt64 >>> ((11 : Int32) &&& 0x3f).toInt64.toUInt64).toInt64)) (4368491638549381120 : UInt64))), .second, .val (.long (F_rm4 q1)), .second, .val (.int (1 : Int32)), .val (.double (FP.l2d (((F_rm4 q1).toUInt64 >>> ((11 : Int32) &&& 0x3f).toInt64.toUInt64).toInt64))), .second, .val (.long (((F_rm4 q1).toUInt64 >>> ((11 : Int32) &&& 0x3f).toInt64.toUInt64).toInt64)), .second, .unset, .unset] []))
  refine Run.go (fun _ k => XS.lload Xg11.here hx rfl (hb hby at_75) rfl  k) ?_
  show Run p e below s 2 2 (Q_rm0 Z q1 h0 n0) (T11.setTop (mkF m 77 #[.val (.long q1), .second, .val (.ref b2), .val (.ref b5), .val (.double (FP.dmul (FP.l2d (((F_rm4 q1).toUInt64 >>> ((11 : Int32) &&& 0x3f).toInt64.toUInt64).toInt64)) (4368491638549381120 : UInt64))), .second, .val (.long (F_rm4 q1)), .second, .val (.int (1 : Int32)), .val (.double (FP.l2d (((F_rm4 q1).toUInt64 >>> ((11 : Int32) &&& 0x3f).toInt64.toUInt64).toInt64))), .second, .val (.long (((F_rm4 q1).toUInt64 >>> ((11 : Int32) &&& 0x3f).toInt64.toUInt64).toInt64)), .second, .unset, .unset] [(.long (((F_rm4 q1).toUInt64 >>> ((11 : Int32) &&& 0x3f).toInt64.toUInt64).toInt64))]))
  refine Run.go (fun _ k => XS.l2dS Xg11.here hx rfl (hb hby at_77) rfl rfl k) ?_
  show Run p e below s 2 2 (Q_rm0 Z q1 h0 n0) (T11.setTop (mkF m 78 #[.val (.long q1), .second, .val (.ref b2), .val (.ref b5), .val (.double (FP.dmul (FP.l2d (((F_rm4 q1).toUInt64 >>> ((11 : Int32) &&& 0x3f).toInt64.toUInt64).toInt64)) (4368491638549381120 : UInt64))), .second, .val (.long (F_rm4 q1)), .second, .val (.int (1 : Int32)), .val (.double (FP.l2d (((F_rm4 q1).toUInt64 >>> ((11 : Int32) &&& 0x3f).toInt64.toUInt64).toInt64))), .second, .val (.long (((F_rm4 q1).toUInt64 >>> ((11 : Int32) &&& 0x3f).toInt64.toUInt64).toInt64)), .second, .unset, .unset] [(.double (FP.l2d (((F_rm4 q1).toUInt64 >>> ((11 : Int32) &&& 0x3f).toInt64.toUInt64).toInt64)))]))
  refine Run.go (fun _ k => XS.dload Xg11.here hx rfl (hb hby at_78) rfl  k) ?_
  show Run p e below s 2 2 (Q_rm0 Z q1 h0 n0) (T11.setTop (mkF m 80 #[.val (.long q1), .second, .val (.ref b2), .val (.ref b5), .val (.double (FP.dmul (FP.l2d (((F_rm4 q1).toUInt64 >>> ((11 : Int32) &&& 0x3f).toInt64.toUInt64).toInt64)) (4368491638549381120 : UInt64))), .second, .val (.long (F_rm4 q1)), .second, .val (.int (1 : Int32)), .val (.double (FP.l2d (((F_rm4 q1).toUInt64 >>> ((11 : Int32) &&& 0x3f).toInt64.toUInt64).toInt64))), .second, .val (.long (((F_rm4 q1).toUInt64 >>> ((11 : Int32) &&& 0x3f).toInt64.toUInt64).toInt64)), .second, .unset, .unset] [(.double (FP.l2d (((F_rm4 q1).toUInt64 >>> ((11 : Int32) &&& 0x3f).toInt64.toUInt64).toInt64))), (.double (FP.l2d (((F_rm4 q1).toUInt64 >>> ((11 : Int32) &&& 0x3f).toInt64.toUInt64).toInt64)))]))
  refine Run.go (fun _ k => XS.dcmpS Xg11.here hx rfl (hb hby at_80) rfl (own_f5 _) k) ?_
  show Run p e below s 2 2 (Q_rm0 Z q1 h0 n0) (T11.setTop (mkF m 81 #[.val (.long q1), .second, .val (.ref b2), .val (.ref b5), .val (.double (FP.dmul (FP.l2d (((F_rm4 q1).toUInt64 >>> ((11 : Int32) &&& 0x3f).toInt64.toUInt64).toInt64)) (4368491638549381120 : UInt64))), .second, .val (.long (F_rm4 q1)), .second, .val (.int (1 : Int32)), .val (.double (FP.l2d (((F_rm4 q1).toUInt64 >>> ((11 : Int32) &&& 0x3f).toInt64.toUInt64).toInt64))), .second, .val (.long (((F_rm4 q1).toUInt64 >>> ((11 : Int32) &&& 0x3f).toInt64.toUInt64).toInt64)), .second, .unset, .unset] [(.int (0 : Int32))]))
  refine Run.go (fun _ k => XS.ifNo Xg11.here hx rfl (hb hby at_81) rfl ((if0 _ _).trans (teq (rfl : (0 : Int32) = (0 : Int32))).2) k) ?_
  show Run p e below s 2 2 (Q_rm0 Z q1 h0 n0) (T11.setTop (mkF m 84 #[.val (.long q1), .second, .val (.ref b2), .val (.ref b5), .val (.double (FP.dmul (FP.l2d (((F_rm4 q1).toUInt64 >>> ((11 : Int32) &&& 0x3f).toInt64.toUInt64).toInt64)) (4368491638549381120 : UInt64))), .second, .val (.long (F_rm4 q1)), .second, .val (.int (1 : Int32)), .val (.double (FP.l2d (((F_rm4 q1).toUInt64 >>> ((11 : Int32) &&& 0x3f).toInt64.toUInt64).toInt64))), .second, .val (.long (((F_rm4 q1).toUInt64 >>> ((11 : Int32) &&& 0x3f).toInt64.toUInt64).toInt64)), .second, .unset, .unset] []))
  refine Run.go (fun _ k => XS.iconst Xg11.here hx rfl (hb hby at_84) k) ?_
  show Run p e below s 2 2 (Q_rm0 Z q1 h0 n0) (T11.setTop (mkF m 85 #[.val (.long q1), .second, .val (.ref b2), .val (.ref b5), .val (.double (FP.dmul (FP.l2d (((F_rm4 q1).toUInt64 >>> ((11 : Int32) &&& 0x3f).toInt64.toUInt64).toInt64)) (4368491638549381120 : UInt64))), .second, .val (.long (F_rm4 q1)), .second, .val (.int (1 : Int32)), .val (.double (FP.l2d (((F_rm4 q1).toUInt64 >>> ((11 : Int32) &&& 0x3f).toInt64.toUInt64).toInt64))), .second, .val (.long (((F_rm4 q1).toUInt64 >>> ((11 : Int32) &&& 0x3f).toInt64.toUInt64).toInt64)), .second, .unset, .unset] [(.int (1 : Int32))]))
  refine Run.go (fun _ k => XS.goto Xg11.here hx rfl (pc0 := 85) (pc' := 89) rfl (hb hby at_85) (by decide) (by decide) k) ?_
  show Run p e below s 2 2 (Q_rm0 Z q1 h0 n0) (T11.setTop (mkF m 89 #[.val (.long q1), .second, .val (.ref b2), .val (.ref b5), .val (.double (FP.dmul (FP.l2d (((F_rm4 q1).toUInt64 >>> ((11 : Int32) &&& 0x3f).toInt64.toUInt64).toInt64)) (4368491638549381120 : UInt64))), .second, .val (.long (F_rm4 q1)), .second, .val (.int (1 : Int32)), .val (.double (FP.l2d (((F_rm4 q1).toUInt64 >>> ((11 : Int32) &&& 0x3f).toInt64.toUInt64).toInt64))), .second, .val (.long (((F_rm4 q1).toUInt64 >>> ((11 : Int32) &&& 0x3f).toInt64.toUInt64).toInt64)), .second, .unset, .unset] [(.int (1 : Int32))]))
  refine Run.go (fun _ k => XS.istore Xg11.here hx rfl (hb hby at_89) rfl (l' := #[.val (.long q1), .second, .val (.ref b2), .val (.ref b5), .val (.double (FP.dmul (FP.l2d (((F_rm4 q1).toUInt64 >>> ((11 : Int32) &&& 0x3f).toInt64.toUInt64).toInt64)) (4368491638549381120 : UInt64))), .second, .val (.long (F_rm4 q1)), .second, .val (.int (1 : Int32)), .val (.double (FP.l2d (((F_rm4 q1).toUInt64 >>> ((11 : Int32) &&& 0x3f).toInt64.toUInt64).toInt64))), .second, .val (.long (((F_rm4 q1).toUInt64 >>> ((11 : Int32) &&& 0x3f).toInt64.toUInt64).toInt64)), .second, .val (.int (1 : Int32)), .unset]) rfl k) ?_
  show Run p e below s 2 2 (Q_rm0 Z q1 h0 n0) (T11.setTop (mkF m 91 #[.val (.long q1), .second, .val (.ref b2), .val (.ref b5), .val (.double (FP.dmul (FP.l2d (((F_rm4 q1).toUInt64 >>> ((11 : Int32) &&& 0x3f).toInt64.toUInt64).toInt64)) (4368491638549381120 : UInt64))), .second, .val (.long (F_rm4 q1)), .second, .val (.int (1 : Int32)), .val (.double (FP.l2d (((F_rm4 q1).toUInt64 >>> ((11 : Int32) &&& 0x3f).toInt64.toUInt64).toInt64))), .second, .val (.long (((F_rm4 q1).toUInt64 >>> ((11 : Int32) &&& 0x3f).toInt64.toUInt64).toInt64)), .second, .val (.int (1 : Int32)), .unset] []))
  refine Run.go (fun _ k => XS.aloadN Xg11.here hx rfl (hb hby at_91) rfl rfl k) ?_
  show Run p e below s 2 2 (Q_rm0 Z q1 h0 n0) (T11.setTop (mkF m 92 #[.val (.long q1), .second, .val (.ref b2), .val (.ref b5), .val (.double (FP.dmul (FP.l2d (((F_rm4 q1).toUInt64 >>> ((11 : Int32) &&& 0x3f).toInt64.toUInt64).toInt64)) (4368491638549381120 : UInt64))), .second, .val (.long (F_rm4 q1)), .second, .val (.int (1 : Int32)), .val (.double (FP.l2d (((F_rm4 q1).toUInt64 >>> ((11 : Int32) &&& 0x3f).toInt64.toUInt64).toInt64))), .second, .val (.long (((F_rm4 q1).toUInt64 >>> ((11 : Int32) &&& 0x3f).toInt64.toUInt64).toInt64)), .second, .val (.int (1 : Int32)), .unset] [(.ref b2)]))
  have fx15 := (fq8_1.keep K11q (ninS ne_b2_b5 nin0))
  have fx16 := (fq8_0.keep K11q)
  obtain ⟨cq14, kq14, q14a, q14b, q14c⟩ := isOf hZ rfl fx16
  obtain ⟨_, _, ⟨T14, L14, k14, n14⟩, -, X14, ⟨Lc14, hQ14, l14, y14, z14⟩, st14⟩ := Xg11.virtualBack hx (y := (⟨"com/example/throngwise/throngwise/generate/RandomStream", "nextLong", "()J"⟩ : MethodName)) (z := (⟨"com/example/throngwise/throngwise/generate/RandomStream", "nextLong", "()J"⟩ : MethodName)) hown (mvT hZ (hw _ (List.mem_of_getElem? (i := 25) rfl))) (mvT hZ (hw _ (List.mem_of_getElem? (i := 17) rfl))) (notFace_of_selects (args := #[]) (mvT hZ (hw _ (List.mem_of_getElem? (i := 19) rfl)))) (mvT hZ (hw _ (List.mem_of_getElem? (i := 19) rfl))) (mvT hZ (hw _ (List.mem_of_getElem? (i := 18) rfl))) (by decide) (backOf (W := 0) (rm4 l Z a0 hw [] b2 (q1 + (-7046029254386353131 : Int64)) T11.heap n0 Z11 fx15 fx16 g_b2) hZ (hw _ (List.mem_of_getElem? (i := 20) rfl)) (hw _ (List.mem_of_getElem? (i := 2) rfl)) (by decide) (by decide)) q14a q14c (g := (mkF m 92 #[.val (.long q1), .second, .val (.ref b2), .val (.ref b5), .val (.double (FP.dmul (FP.l2d (((F_rm4 q1).toUInt64 >>> ((11 : Int32) &&& 0x3f).toInt64.toUInt64).toInt64)) (4368491638549381120 : UInt64))), .second, .val (.long (F_rm4 q1)), .second, .val (.int (1 : Int32)), .val (.double (FP.l2d (((F_rm4 q1).toUInt64 >>> ((11 : Int32) &&& 0x3f).toInt64.toUInt64).toInt64))), .second, .val (.long (((F_rm4 q1).toUInt64 >>> ((11 : Int32) &&& 0x3f).toInt64.toUInt64).toInt64)), .second, .val (.int (1 : Int32)), .unset] [(.ref b2)])) rfl (by rw [hml]; rfl) (Steps.refl _) (argsL := []) (rest := []) (lenOf pd_0 rfl) rfl (by show 2 * 0 + _ ≤ _; exact Nat.le_of_eq rfl) (hb hby at_92) (fun _ _ => ⟨rfl, rfl, (by decide : 2 + 0 ≤ _), (by decide : 2 + 0 ≤ _)⟩)
  dsimp only [Pt.U, Pt.locs, Pt.cells, Pt.slots] at X14 l14 y14 z14 st14 hQ14
  subst l14 y14 z14
  obtain ⟨rfl, N14q, K14q, fq14_0, fq14_1⟩ := hQ14
  have N14 := Fr.app Ng11 N14q
  have Z14 : n0 ≤ T14.heap.size := Nat.le_trans Z11 K14q.1
  obtain ⟨Lg14, Xg14, Ng14⟩ := Stand_gen X14 N14
  refine Run.tr st14 ?_
  show Run p e below s 2 2 (Q_rm0 Z q1 h0 n0) (T14.setTop (mkF m 95 #[.val (.long q1), .second, .val (.ref b2), .val (.ref b5), .val (.double (FP.dmul (FP.l2d (((F_rm4 q1).toUInt64 >>> ((11 : Int32) &&& 0x3f).toInt64.toUInt64).toInt64)) (4368491638549381120 : UInt64))), .second, .val (.long (F_rm4 q1)), .second, .val (.int (1 : Int32)), .val (.double (FP.l2d (((F_rm4 q1).toUInt64 >>> ((11 : Int32) &&& 0x3f).toInt64.toUInt64).toInt64))), .second, .val (.long (((F_rm4 q1).toUInt64 >>> ((11 : Int32) &&& 0x3f).toInt64.toUInt64).toInt64)), .second, .val (.int (1 : Int32)), .unset] [(.long (F_rm4 (q1 + (-7046029254386353131 : Int64))))]))
  refine Run.go (fun _ k => XS.aloadN Xg14.here hx rfl (hb hby at_95) rfl rfl k) ?_
  show Run p e below s 2 2 (Q_rm0 Z q1 h0 n0) (T14.setTop (mkF m 96 #[.val (.long q1), .second, .val (.ref b2), .val (.ref b5), .val (.double (FP.dmul (FP.l2d (((F_rm4 q1).toUInt64 >>> ((11 : Int32) &&& 0x3f).toInt64.toUInt64).toInt64)) (4368491638549381120 : UInt64))), .second, .val (.long (F_rm4 q1)), .second, .val (.int (1 : Int32)), .val (.double (FP.l2d (((F_rm4 q1).toUInt64 >>> ((11 : Int32) &&& 0x3f).toInt64.toUInt64).toInt64))), .second, .val (.long (((F_rm4 q1).toUInt64 >>> ((11 : Int32) &&& 0x3f).toInt64.toUInt64).toInt64)), .second, .val (.int (1 : Int32)), .unset] [(.ref b5), (.long (F_rm4 (q1 + (-7046029254386353131 : Int64))))]))
  have fx18 := (fq11_0.keep K14q (ninS (Ne.symm ne_b2_b5) nin0))
  have fx19 := (fq11_1.keep K14q)
  obtain ⟨cq17, kq17, q17a, q17b, q17c⟩ := isOf hZ rfl fx19
  obtain ⟨_, _, ⟨T17, L17, k17, n17⟩, -, X17, ⟨Lc17, hQ17, l17, y17, z17⟩, st17⟩ := Xg14.virtualBack hx (y := (⟨"com/example/throngwise/throngwise/generate/RandomStream", "nextLong", "()J"⟩ : MethodName)) (z := (⟨"com/example/throngwise/throngwise/generate/RandomStream", "nextLong", "()J"⟩ : MethodName)) hown (mvT hZ (hw _ (List.mem_of_getElem? (i := 25) rfl))) (mvT hZ (hw _ (List.mem_of_getElem? (i := 17) rfl))) (notFace_of_selects (args := #[]) (mvT hZ (hw _ (List.mem_of_getElem? (i := 19) rfl)))) (mvT hZ (hw _ (List.mem_of_getElem? (i := 19) rfl))) (mvT hZ (hw _ (List.mem_of_getElem? (i := 18) rfl))) (by decide) (backOf (W := 2) (rm4 l Z a0 hw [] b5 (q1 + (-7046029254386353131 : Int64)) T14.heap n0 Z14 fx18 fx19 g_b5) hZ (hw _ (List.mem_of_getElem? (i := 20) rfl)) (hw _ (List.mem_of_getElem? (i := 2) rfl)) (by decide) (by decide)) q17a q17c (g := (mkF m 96 #[.val (.long q1), .second, .val (.ref b2), .val (.ref b5), .val (.double (FP.dmul (FP.l2d (((F_rm4 q1).toUInt64 >>> ((11 : Int32) &&& 0x3f).toInt64.toUInt64).toInt64)) (4368491638549381120 : UInt64))), .second, .val (.long (F_rm4 q1)), .second, .val (.int (1 : Int32)), .val (.double (FP.l2d (((F_rm4 q1).toUInt64 >>> ((11 : Int32) &&& 0x3f).toInt64.toUInt64).toInt64))), .second, .val (.long (((F_rm4 q1).toUInt64 >>> ((11 : Int32) &&& 0x3f).toInt64.toUInt64).toInt64)), .second, .val (.int (1 : Int32)), .unset] [(.ref b5), (.long (F_rm4 (q1 + (-7046029254386353131 : Int64))))])) rfl (by rw [hml]; rfl) (Steps.refl _) (argsL := []) (rest := [(.long (F_rm4 (q1 + (-7046029254386353131 : Int64))))]) (lenOf pd_0 rfl) rfl (by show 2 * 0 + _ ≤ _; exact Nat.le_of_eq rfl) (hb hby at_96) (fun _ _ => ⟨rfl, rfl, (by decide : 2 + 0 ≤ _), (by decide : 2 + 0 ≤ _)⟩)
  dsimp only [Pt.U, Pt.locs, Pt.cells, Pt.slots] at X17 l17 y17 z17 st17 hQ17
  subst l17 y17 z17
  obtain ⟨rfl, N17q, K17q, fq17_0, fq17_1⟩ := hQ17
  have N17 := Fr.app Ng14 N17q
  have Z17 : n0 ≤ T17.heap.size := Nat.le_trans Z14 K17q.1
  obtain ⟨Lg17, Xg17, Ng17⟩ := Stand_gen X17 N17
  refine Run.tr st17 ?_
  show Run p e below s 2 2 (Q_rm0 Z q1 h0 n0) (T17.setTop (mkF m 99 #[.val (.long q1), .second, .val (.ref b2), .val (.ref b5), .val (.double (FP.dmul (FP.l2d (((F_rm4 q1).toUInt64 >>> ((11 : Int32) &&& 0x3f).toInt64.toUInt64).toInt64)) (4368491638549381120 : UInt64))), .second, .val (.long (F_rm4 q1)), .second, .val (.int (1 : Int32)), .val (.double (FP.l2d (((F_rm4 q1).toUInt64 >>> ((11 : Int32) &&& 0x3f).toInt64.toUInt64).toInt64))), .second, .val (.long (((F_rm4 q1).toUInt64 >>> ((11 : Int32) &&& 0x3f).toInt64.toUInt64).toInt64)), .second, .val (.int (1 : Int32)), .unset] [(.long (F_rm4 (q1 + (-7046029254386353131 : Int64)))), (.long (F_rm4 (q1 + (-7046029254386353131 : Int64))))]))
  refine Run.go (fun _ k => XS.lcmp Xg17.here hx rfl (hb hby at_99) rfl k) ?_
  show Run p e below s 2 2 (Q_rm0 Z q1 h0 n0) (T17.setTop (mkF m 100 #[.val (.long q1), .second, .val (.ref b2), .val (.ref b5), .val (.double (FP.dmul (FP.l2d (((F_rm4 q1).toUInt64 >>> ((11 : Int32) &&& 0x3f).toInt64.toUInt64).toInt64)) (4368491638549381120 : UInt64))), .second, .val (.long (F_rm4 q1)), .second, .val (.int (1 : Int32)), .val (.double (FP.l2d (((F_rm4 q1).toUInt64 >>> ((11 : Int32) &&& 0x3f).toInt64.toUInt64).toInt64))), .second, .val (.long (((F_rm4 q1).toUInt64 >>> ((11 : Int32) &&& 0x3f).toInt64.toUInt64).toInt64)), .second, .val (.int (1 : Int32)), .unset] [(.int (lcmpW (F_rm4 (q1 + (-7046029254386353131 : Int64))) (F_rm4 (q1 + (-7046029254386353131 : Int64)))))]))
  refine Run.go (fun _ k => XS.ifNo Xg17.here hx rfl (hb hby at_100) rfl ((if0 _ _).trans (teq ((lw_eq (F_rm4 (q1 + (-7046029254386353131 : Int64))) (F_rm4 (q1 + (-7046029254386353131 : Int64)))).mpr rfl)).2) k) ?_
  show Run p e below s 2 2 (Q_rm0 Z q1 h0 n0) (T17.setTop (mkF m 103 #[.val (.long q1), .second, .val (.ref b2), .val (.ref b5), .val (.double (FP.dmul (FP.l2d (((F_rm4 q1).toUInt64 >>> ((11 : Int32) &&& 0x3f).toInt64.toUInt64).toInt64)) (4368491638549381120 : UInt64))), .second, .val (.long (F_rm4 q1)), .second, .val (.int (1 : Int32)), .val (.double (FP.l2d (((F_rm4 q1).toUInt64 >>> ((11 : Int32) &&& 0x3f).toInt64.toUInt64).toInt64))), .second, .val (.long (((F_rm4 q1).toUInt64 >>> ((11 : Int32) &&& 0x3f).toInt64.toUInt64).toInt64)), .second, .val (.int (1 : Int32)), .unset] []))
  refine Run.go (fun _ k => XS.iconst Xg17.here hx rfl (hb hby at_103) k) ?_
  show Run p e below s 2 2 (Q_rm0 Z q1 h0 n0) (T17.setTop (mkF m 104 #[.val (.long q1), .second, .val (.ref b2), .val (.ref b5), .val (.double (FP.dmul (FP.l2d (((F_rm4 q1).toUInt64 >>> ((11 : Int32) &&& 0x3f).toInt64.toUInt64).toInt64)) (4368491638549381120 : UInt64))), .second, .val (.long (F_rm4 q1)), .second, .val (.int (1 : Int32)), .val (.double (FP.l2d (((F_rm4 q1).toUInt64 >>> ((11 : Int32) &&& 0x3f).toInt64.toUInt64).toInt64))), .second, .val (.long (((F_rm4 q1).toUInt64 >>> ((11 : Int32) &&& 0x3f).toInt64.toUInt64).toInt64)), .second, .val (.int (1 : Int32)), .unset] [(.int (1 : Int32))]))
  refine Run.go (fun _ k => XS.goto Xg17.here hx rfl (pc0 := 104) (pc' := 108) rfl (hb hby at_104) (by decide) (by decide) k) ?_
  show Run p e below s 2 2 (Q_rm0 Z q1 h0 n0) (T17.setTop (mkF m 108 #[.val (.long q1), .second, .val (.ref b2), .val (.ref b5), .val (.double (FP.dmul (FP.l2d (((F_rm4 q1).toUInt64 >>> ((11 : Int32) &&& 0x3f).toInt64.toUInt64).toInt64)) (4368491638549381120 : UInt64))), .second, .val (.long (F_rm4 q1)), .second, .val (.int (1 : Int32)), .val (.double (FP.l2d (((F_rm4 q1).toUInt64 >>> ((11 : Int32) &&& 0x3f).toInt64.toUInt64).toInt64))), .second, .val (.long (((F_rm4 q1).toUInt64 >>> ((11 : Int32) &&& 0x3f).toInt64.toUInt64).toInt64)), .second, .val (.int (1 : Int32)), .unset] [(.int (1 : Int32))]))
  refine Run.go (fun _ k => XS.istore Xg17.here hx rfl (hb hby at_108) rfl (l' := #[.val (.long q1), .second, .val (.ref b2), .val (.ref b5), .val (.double (FP.dmul (FP.l2d (((F_rm4 q1).toUInt64 >>> ((11 : Int32) &&& 0x3f).toInt64.toUInt64).toInt64)) (4368491638549381120 : UInt64))), .second, .val (.long (F_rm4 q1)), .second, .val (.int (1 : Int32)), .val (.double (FP.l2d (((F_rm4 q1).toUInt64 >>> ((11 : Int32) &&& 0x3f).toInt64.toUInt64).toInt64))), .second, .val (.long (((F_rm4 q1).toUInt64 >>> ((11 : Int32) &&& 0x3f).toInt64.toUInt64).toInt64)), .second, .val (.int (1 : Int32)), .val (.int (1 : Int32))]) rfl k) ?_
  show Run p e below s 2 2 (Q_rm0 Z q1 h0 n0) (T17.setTop (mkF m 110 #[.val (.long q1), .second, .val (.ref b2), .val (.ref b5), .val (.double (FP.dmul (FP.l2d (((F_rm4 q1).toUInt64 >>> ((11 : Int32) &&& 0x3f).toInt64.toUInt64).toInt64)) (4368491638549381120 : UInt64))), .second, .val (.long (F_rm4 q1)), .second, .val (.int (1 : Int32)), .val (.double (FP.l2d (((F_rm4 q1).toUInt64 >>> ((11 : Int32) &&& 0x3f).toInt64.toUInt64).toInt64))), .second, .val (.long (((F_rm4 q1).toUInt64 >>> ((11 : Int32) &&& 0x3f).toInt64.toUInt64).toInt64)), .second, .val (.int (1 : Int32)), .val (.int (1 : Int32))] []))
  refine Run.go (fun _ k => XS.iload Xg17.here hx rfl (hb hby at_110) rfl  k) ?_
  show Run p e below s 2 2 (Q_rm0 Z q1 h0 n0) (T17.setTop (mkF m 112 #[.val (.long q1), .second, .val (.ref b2), .val (.ref b5), .val (.double (FP.dmul (FP.l2d (((F_rm4 q1).toUInt64 >>> ((11 : Int32) &&& 0x3f).toInt64.toUInt64).toInt64)) (4368491638549381120 : UInt64))), .second, .val (.long (F_rm4 q1)), .second, .val (.int (1 : Int32)), .val (.double (FP.l2d (((F_rm4 q1).toUInt64 >>> ((11 : Int32) &&& 0x3f).toInt64.toUInt64).toInt64))), .second, .val (.long (((F_rm4 q1).toUInt64 >>> ((11 : Int32) &&& 0x3f).toInt64.toUInt64).toInt64)), .second, .val (.int (1 : Int32)), .val (.int (1 : Int32))] [(.int (1 : Int32))]))
  refine Run.go (fun _ k => XS.ifNo Xg17.here hx rfl (hb hby at_112) rfl ((if0 _ _).trans (feq (by decide)).1) k) ?_
  show Run p e below s 2 2 (Q_rm0 Z q1 h0 n0) (T17.setTop (mkF m 115 #[.val (.long q1), .second, .val (.ref b2), .val (.ref b5), .val (.double (FP.dmul (FP.l2d (((F_rm4 q1).toUInt64 >>> ((11 : Int32) &&& 0x3f).toInt64.toUInt64).toInt64)) (4368491638549381120 : UInt64))), .second, .val (.long (F_rm4 q1)), .second, .val (.int (1 : Int32)), .val (.double (FP.l2d (((F_rm4 q1).toUInt64 >>> ((11 : Int32) &&& 0x3f).toInt64.toUInt64).toInt64))), .second, .val (.long (((F_rm4 q1).toUInt64 >>> ((11 : Int32) &&& 0x3f).toInt64.toUInt64).toInt64)), .second, .val (.int (1 : Int32)), .val (.int (1 : Int32))] []))
  refine Run.go (fun _ k => XS.iload Xg17.here hx rfl (hb hby at_115) rfl  k) ?_
  show Run p e below s 2 2 (Q_rm0 Z q1 h0 n0) (T17.setTop (mkF m 117 #[.val (.long q1), .second, .val (.ref b2), .val (.ref b5), .val (.double (FP.dmul (FP.l2d (((F_rm4 q1).toUInt64 >>> ((11 : Int32) &&& 0x3f).toInt64.toUInt64).toInt64)) (4368491638549381120 : UInt64))), .second, .val (.long (F_rm4 q1)), .second, .val (.int (1 : Int32)), .val (.double (FP.l2d (((F_rm4 q1).toUInt64 >>> ((11 : Int32) &&& 0x3f).toInt64.toUInt64).toInt64))), .second, .val (.long (((F_rm4 q1).toUInt64 >>> ((11 : Int32) &&& 0x3f).toInt64.toUInt64).toInt64)), .second, .val (.int (1 : Int32)), .val (.int (1 : Int32))] [(.int (1 : Int32))]))
  refine Run.go (fun _ k => XS.ifNo Xg17.here hx rfl (hb hby at_117) rfl ((if0 _ _).trans (feq (by decide)).1) k) ?_
  show Run p e below s 2 2 (Q_rm0 Z q1 h0 n0) (T17.setTop (mkF m 120 #[.val (.long q1), .second, .val (.ref b2), .val (.ref b5), .val (.double (FP.dmul (FP.l2d (((F_rm4 q1).toUInt64 >>> ((11 : Int32) &&& 0x3f).toInt64.toUInt64).toInt64)) (4368491638549381120 : UInt64))), .second, .val (.long (F_rm4 q1)), .second, .val (.int (1 : Int32)), .val (.double (FP.l2d (((F_rm4 q1).toUInt64 >>> ((11 : Int32) &&& 0x3f).toInt64.toUInt64).toInt64))), .second, .val (.long (((F_rm4 q1).toUInt64 >>> ((11 : Int32) &&& 0x3f).toInt64.toUInt64).toInt64)), .second, .val (.int (1 : Int32)), .val (.int (1 : Int32))] []))
  refine Run.go (fun _ k => XS.iload Xg17.here hx rfl (hb hby at_120) rfl  k) ?_
  show Run p e below s 2 2 (Q_rm0 Z q1 h0 n0) (T17.setTop (mkF m 122 #[.val (.long q1), .second, .val (.ref b2), .val (.ref b5), .val (.double (FP.dmul (FP.l2d (((F_rm4 q1).toUInt64 >>> ((11 : Int32) &&& 0x3f).toInt64.toUInt64).toInt64)) (4368491638549381120 : UInt64))), .second, .val (.long (F_rm4 q1)), .second, .val (.int (1 : Int32)), .val (.double (FP.l2d (((F_rm4 q1).toUInt64 >>> ((11 : Int32) &&& 0x3f).toInt64.toUInt64).toInt64))), .second, .val (.long (((F_rm4 q1).toUInt64 >>> ((11 : Int32) &&& 0x3f).toInt64.toUInt64).toInt64)), .second, .val (.int (1 : Int32)), .val (.int (1 : Int32))] [(.int (1 : Int32))]))
  refine Run.go (fun _ k => XS.ifNo Xg17.here hx rfl (hb hby at_122) rfl ((if0 _ _).trans (feq (by decide)).1) k) ?_
  show Run p e below s 2 2 (Q_rm0 Z q1 h0 n0) (T17.setTop (mkF m 125 #[.val (.long q1), .second, .val (.ref b2), .val (.ref b5), .val (.double (FP.dmul (FP.l2d (((F_rm4 q1).toUInt64 >>> ((11 : Int32) &&& 0x3f).toInt64.toUInt64).toInt64)) (4368491638549381120 : UInt64))), .second, .val (.long (F_rm4 q1)), .second, .val (.int (1 : Int32)), .val (.double (FP.l2d (((F_rm4 q1).toUInt64 >>> ((11 : Int32) &&& 0x3f).toInt64.toUInt64).toInt64))), .second, .val (.long (((F_rm4 q1).toUInt64 >>> ((11 : Int32) &&& 0x3f).toInt64.toUInt64).toInt64)), .second, .val (.int (1 : Int32)), .val (.int (1 : Int32))] []))
  refine Run.go (fun _ k => XS.iconst Xg17.here hx rfl (hb hby at_125) k) ?_
  show Run p e below s 2 2 (Q_rm0 Z q1 h0 n0) (T17.setTop (mkF m 126 #[.val (.long q1), .second, .val (.ref b2), .val (.ref b5), .val (.double (FP.dmul (FP.l2d (((F_rm4 q1).toUInt64 >>> ((11 : Int32) &&& 0x3f).toInt64.toUInt64).toInt64)) (4368491638549381120 : UInt64))), .second, .val (.long (F_rm4 q1)), .second, .val (.int (1 : Int32)), .val (.double (FP.l2d (((F_rm4 q1).toUInt64 >>> ((11 : Int32) &&& 0x3f).toInt64.toUInt64).toInt64))), .second, .val (.long (((F_rm4 q1).toUInt64 >>> ((11 : Int32) &&& 0x3f).toInt64.toUInt64).toInt64)), .second, .val (.int (1 : Int32)), .val (.int (1 : Int32))] [(.int (1 : Int32))]))
  refine Run.go (fun _ k => XS.goto Xg17.here hx rfl (pc0 := 126) (pc' := 130) rfl (hb hby at_126) (by decide) (by decide) k) ?_
  show Run p e below s 2 2 (Q_rm0 Z q1 h0 n0) (T17.setTop (mkF m 130 #[.val (.long q1), .second, .val (.ref b2), .val (.ref b5), .val (.double (FP.dmul (FP.l2d (((F_rm4 q1).toUInt64 >>> ((11 : Int32) &&& 0x3f).toInt64.toUInt64).toInt64)) (4368491638549381120 : UInt64))), .second, .val (.long (F_rm4 q1)), .second, .val (.int (1 : Int32)), .val (.double (FP.l2d (((F_rm4 q1).toUInt64 >>> ((11 : Int32) &&& 0x3f).toInt64.toUInt64).toInt64))), .second, .val (.long (((F_rm4 q1).toUInt64 >>> ((11 : Int32) &&& 0x3f).toInt64.toUInt64).toInt64)), .second, .val (.int (1 : Int32)), .val (.int (1 : Int32))] [(.int (1 : Int32))]))
  exact Run.retN (y := 1) Xg17 hx (t := .boolean) Bd.returns (by simp) rfl Bd.notSynchronized (hb hby at_130) (by decide) (by decide) ⟨rfl, Ng17⟩
set_option maxRecDepth 65536 in
set_option maxHeartbeats 40000000 in
theorem comes_1 {Post : Tables → Env → Array Value → State → Outcome → State → Prop} (hpost : ∀ tb e args s v u, (limb_1_1.after args s (.returned v) u = true ∧ limb_1_2.after args s (.returned v) u = true ∧ True) → FrameEnd s (.returned v) u (Jvm.fieldLocs frame_1_writes args s ++ Jvm.arrayLocs frame_1_arrays args s ++ Jvm.staticLocs frame_1_statics s) 16 128 → Post tb e args s (.returned v) u) :
    ArmFor flags0 classFile x code maxLocals ret World_1 tables_1 room_1 Calls_1 rest_1 Pre_1 Post := by
  intro l hfl _ _ p e ha hc hk s m args below hf hA hF happ hP
  obtain ⟨hcalls, hrest, hpre⟩ := hP
  obtain ⟨-, -, -, hnamed, -, -, -, hat⟩ := (Spec.applies_iff hf).mp happ
  obtain ⟨hg, hn⟩ := and_e (Cond.before_iff.mp (show (Jvm.Cond.and given_1 narrow_1).before args s = true from hpre))
  obtain ⟨g1, g2⟩ := and_e hg
  obtain ⟨w0, rfl⟩ : ∃ w0 : Value, args = #[w0] := by
    have hs : args.size = 1 := by simpa [Cond.value, given_1] using g1
    obtain ⟨L⟩ := args
    match L, hs with
    | [w0], _ => exact ⟨w0, rfl⟩
  have hw := fun d (hd : d ∈ tables_1) => atoms_spec (ws := Jvm.Cond.code x code maxLocals ret :: tables_1) hat d (List.mem_cons_of_mem _ hd)
  have hfit : Fit s := fun {y c} hc i hi => by
    obtain ⟨ha, rfl⟩ := Array.getElem?_eq_some_iff.mp hc
    have q := List.all_eq_true.mp ((Array.all_eq_true_iff_forall_mem.mp hF) _ (Array.getElem_mem ha)) i (List.mem_range.mpr hi)
    simpa [Array.getElem?_eq_getElem hi] using q
  obtain ⟨i0, ei0⟩ := isL_v g2
  obtain rfl : w0 = (.long i0) := Option.some.inj ei0
  obtain ⟨n, o, h1, h2, h3, _, L, rfl, ⟨rfl, N⟩, hq⟩ := rm0 l s _ hw tables_1 i0 s.heap s.heap.size (Nat.le_refl _)  p e ha hc hk s m _ below hf ((Spec.applies_iff_loose hf).mp happ).1 ⟨rfl, State.Warmed39.refl s, rfl⟩ trivial
  refine ⟨n, _, h1, h2, h3, hpost _ _ _ _ _ _ ⟨Cond.after_iff.mpr rfl, Cond.after_iff.mpr (eq_i res_at (Term.int_eval (1)) rfl), trivial⟩ ⟨hq.1, hq.2.1, (hq.2.2.sift fun y hy => Or.inr (N y hy)).mono (by decide) (by decide)⟩⟩
theorem main_1_1 : Claimed_1_1 := comes_1 fun _ _ _ _ _ _ h hF => ⟨h.1, hF⟩
theorem main_1_2 : Claimed_1_2 := comes_1 fun _ _ _ _ _ _ h hF => ⟨h.2.1, hF⟩
end Jvm.Pilot.@@N@@
namespace Jvm.Pilot.@@N@@
open Jvm Jvm.ClassFile Sem Op Lib Jvm.Free Jvm.Stand Jvm.Pilot.@@N@@.Jvm.D
/-! MADE BY PROGRAM (witnessworld.py) out of the Statement's table words and the real class files: 9 classes; the members and pool entries that the words name. The judged class is class 1, her method 1. -/
namespace start1
open Jvm.ClassFile
def u (s : String) : CpInfo := .utf8 (stringToUtf16 s)
/-- a pool by its gaps: so many unusable entries, then the entry; so many at the end -/
def gap : Nat → List CpInfo → List CpInfo
  | 0, r => r
  | n + 1, r => .unusable :: gap n r
def poolList (es : List (Nat × CpInfo)) (last : Nat) : List CpInfo := es.foldr (fun e r => gap e.1 (e.2 :: r)) (gap last [])
def pool (es : List (Nat × CpInfo)) (last : Nat) : Array CpInfo := ⟨poolList es last⟩
def fileOf (pool : Array CpInfo) (this : Nat) (attrs : Array Attribute := #[]) (ms : Array MethodInfo := #[]) (fl : Nat := 33) (sup : Nat := 0) (ifs : Array Nat := #[]) (fds : Array FieldInfo := #[]) : ClassFile where
  minorVersion := 0
  majorVersion := 65
  constantPool := pool
  accessFlags := fl
  thisClass := this
  superClass := sup
  interfaces := ifs
  fields := fds
  methods := ms
  attributes := attrs
def plain (name : String) (sup : Option ClassId) : Class where
  name := name
  kind := .ordinary
  loader := none
  accessFlags := 33
  super := sup
  interfaces := #[]
  cf := none
  fields := #[]
  methods := #[]
  instanceTypes := #[]
  staticTypes := #[]
  resolved := #[]
  callSites := []
  init := .initialized
  statics := none
  mirror := none

def pool0 : Array CpInfo := pool [(5, u "<init>"), (0, u "()V"), (1, .class_ 10), (1, u "java/lang/Object")] 113

def k0c0 : Code := { maxStack := 0, maxLocals := 1, code := object_method_1_code, exceptionTable := #[], attributes := #[] }
def k0m0 : Method := { name := "<init>", desc := "()V", sig := { parameters := [], returnType := none }, accessFlags := 1, code := some k0c0 }
/-- java/lang/Object -/
def k0 : Class := { plain "java/lang/Object" none with
  accessFlags := 33
  interfaces := #[]
  cf := some (fileOf pool0 8 #[] #[{ accessFlags := 1, nameIndex := 5, descriptorIndex := 6, attributes := #[] }] 33 0 #[] #[])
  fields := #[]
  methods := #[k0m0]
  instanceTypes := #[]
  staticTypes := #[]
  resolved := Array.replicate 124 none
  statics := none }

def pool1 : Array CpInfo := pool [(2, .class_ 4), (1, u "java/lang/Object"), (0, u "<init>"), (0, u "()V"), (0, .class_ 8), (0, u "com/example/throngwise/throngwise/generate/RandomStream"), (0, .methodref 7 10), (0, .nameAndType 5 11), (0, u "(J)V"), (0, .methodref 7 13), (0, .nameAndType 14 15), (0, u "nextFraction"), (0, u "()D"), (0, .methodref 7 17), (0, .nameAndType 18 19), (0, u "nextLong"), (0, u "()J"), (0, .double 4845873199050653696), (1, .class_ 23), (0, u "com/example/throngwise/throngwise/generate/RandomStreamNextFractionPinLaw"), (2, u "law"), (0, u "(J)Z")] 3

def k1m0 : Method := { name := "<init>", desc := "()V", sig := { parameters := [], returnType := none }, accessFlags := 1, code := none }
def k1c1 : Code := { maxStack := 5, maxLocals := 15, code := code, exceptionTable := #[], attributes := #[] }
def k1m1 : Method := { name := "law", desc := "(J)Z", sig := { parameters := [.long], returnType := some .boolean }, accessFlags := 9, code := some k1c1 }
/-- com/example/throngwise/throngwise/generate/RandomStreamNextFractionPinLaw -/
def k1 : Class := { plain "com/example/throngwise/throngwise/generate/RandomStreamNextFractionPinLaw" (some 0) with
  accessFlags := 49
  interfaces := #[]
  cf := some (fileOf pool1 22 #[] #[{ accessFlags := 1, nameIndex := 5, descriptorIndex := 6, attributes := #[] }, { accessFlags := 9, nameIndex := 26, descriptorIndex := 27, attributes := #[] }] 49 2 #[] #[])
  fields := #[]
  methods := #[k1m0, k1m1]
  instanceTypes := #[]
  staticTypes := #[]
  resolved := Array.replicate 31 none
  statics := none }

def pool2 : Array CpInfo := pool [(1, .methodref 2 3), (0, .class_ 4), (0, .nameAndType 5 6), (0, u "java/lang/Object"), (0, u "<init>"), (0, u "()V"), (0, .fieldref 8 9), (0, .class_ 10), (0, .nameAndType 11 12), (0, u "com/example/throngwise/throngwise/generate/RandomStream"), (0, u "state"), (0, u "J"), (0, .long 11400714819323198485), (1, .long 13787848793156543929), (1, .long 10723151780598845931), (1, .methodref 8 20), (0, .nameAndType 21 22), (0, u "nextLong"), (0, u "()J"), (0, .double 4368491638549381120), (14, u "GAMMA"), (1, u "(J)V"), (2, u "nextFraction"), (0, u "()D")] 20

def k2c0 : Code := { maxStack := 3, maxLocals := 3, code := prog_14_method_1_code, exceptionTable := #[], attributes := #[] }
def k2m0 : Method := { name := "<init>", desc := "(J)V", sig := { parameters := [.long], returnType := none }, accessFlags := 0, code := some k2c0 }
def k2c1 : Code := { maxStack := 5, maxLocals := 3, code := prog_14_method_2_code, exceptionTable := #[], attributes := #[] }
def k2m1 : Method := { name := "nextLong", desc := "()J", sig := { parameters := [], returnType := some .long }, accessFlags := 0, code := some k2c1 }
def k2c2 : Code := { maxStack := 4, maxLocals := 1, code := prog_14_method_3_code, exceptionTable := #[], attributes := #[] }
def k2m2 : Method := { name := "nextFraction", desc := "()D", sig := { parameters := [], returnType := some .double }, accessFlags := 0, code := some k2c2 }
/-- com/example/throngwise/throngwise/generate/RandomStream -/
def k2 : Class := { plain "com/example/throngwise/throngwise/generate/RandomStream" (some 0) with
  accessFlags := 48
  interfaces := #[]
  cf := some (fileOf pool2 8 #[] #[{ accessFlags := 0, nameIndex := 5, descriptorIndex := 40, attributes := #[] }, { accessFlags := 0, nameIndex := 21, descriptorIndex := 22, attributes := #[] }, { accessFlags := 0, nameIndex := 43, descriptorIndex := 44, attributes := #[] }] 48 2 #[] #[{ accessFlags := 26, nameIndex := 38, descriptorIndex := 12, attributes := #[] }, { accessFlags := 2, nameIndex := 11, descriptorIndex := 12, attributes := #[] }])
  fields := #[{ name := "GAMMA", type := .long, accessFlags := 26, slot := 0, constantValue := 0 }, { name := "state", type := .long, accessFlags := 2, slot := 0, constantValue := 0 }]
  methods := #[k2m0, k2m1, k2m2]
  instanceTypes := #[.long]
  staticTypes := #[.long]
  resolved := Array.replicate 65 none
  statics := none }

def pool3 : Array CpInfo := pool [(1, u "java/lang/Cloneable"), (0, .class_ 1), (0, u "java/lang/Object"), (0, .class_ 3)] 3

/-- java/lang/Cloneable -/
def k3 : Class := { plain "java/lang/Cloneable" (some 0) with
  accessFlags := 1537
  interfaces := #[]
  cf := some (fileOf pool3 2 #[] #[] 1537 4 #[] #[])
  fields := #[]
  methods := #[]
  instanceTypes := #[]
  staticTypes := #[]
  resolved := Array.replicate 8 none
  statics := none }

def pool4 : Array CpInfo := pool [(1, u "java/io/Serializable"), (0, .class_ 1), (0, u "java/lang/Object"), (0, .class_ 3)] 3

/-- java/io/Serializable -/
def k4 : Class := { plain "java/io/Serializable" (some 0) with
  accessFlags := 1537
  interfaces := #[]
  cf := some (fileOf pool4 2 #[] #[] 1537 4 #[] #[])
  fields := #[]
  methods := #[]
  instanceTypes := #[]
  staticTypes := #[]
  resolved := Array.replicate 8 none
  statics := none }

/-- the primitive byte -/
def k5 : Class := { plain "byte" none with kind := .primitive 'B', accessFlags := 0x411 }
/-- [B -/
def k6 : Class := { plain "[B" (some 0) with kind := .array 5 .byte, interfaces := #[3, 4], accessFlags := 1041 }

/-- the primitive int -/
def k7 : Class := { plain "int" none with kind := .primitive 'I', accessFlags := 0x411 }
/-- [I -/
def k8 : Class := { plain "[I" (some 0) with kind := .array 7 .int, interfaces := #[3, 4], accessFlags := 1041 }

def heap : Heap := #[]
def classes : Array Class := #[k0, k1, k2, k3, k4, k5, k6, k7, k8]
def interned : List (Array UInt16 × Addr) := []
def slotsUsed : Nat := 0
def theMethod : MethodId := ⟨1, 1⟩
def args0 : Array Value := #[.long 5]
def aboutOver (below : List Frame) : State where
  vm := { classes := classes, interned := interned.toArray }
  heap := heap
  slotsUsed := slotsUsed
  threads := #[{ frames := .invoking theMethod args0 :: below }]
def below0 : List Frame := [.native { method := ⟨0, 0⟩, args := #[] }]
def about1 : State := aboutOver below0
def p0 : Program := .bare "" "" ""
def e0 : Env := launch0.env 0 0 0
theorem w_frames : about1.frames = Frame.invoking theMethod args0 :: below0 := rfl
set_option maxRecDepth 65536 in
theorem w_args : argsFit about1.vm theMethod args0 = true := by decide +kernel
set_option maxRecDepth 65536 in
theorem w_heap : heapFits about1 = true := by decide +kernel
set_option maxRecDepth 65536 in
theorem w_runnable : about1.curStatus? = some .runnable := by decide +kernel
set_option maxRecDepth 65536 in
theorem w_alone : about1.alone = true := by decide +kernel
set_option maxRecDepth 65536 in
theorem w_named : about1.methodNamed? x = some theMethod := by decide +kernel
set_option maxRecDepth 65536 in
theorem w_hears : about1.hears theMethod below0 = true := by decide +kernel
set_option maxRecDepth 65536 in
theorem w_ripe : about1.ripe theMethod args0 below0 = true := by decide +kernel
theorem w_running : about1.status = .running := rfl
set_option maxRecDepth 65536 in
theorem w_room : about1.hasRoom e0.platform room_1 = true :=
  launch0.hasRoom_least _ room_1 (by decide +kernel) (by decide +kernel) (by decide +kernel) (by decide +kernel) (by decide +kernel) (by decide +kernel)
theorem allAtoms_all (ts : List Jvm.Cond) (a : Array Jvm.Value) (st : Jvm.State) : (allAtoms ts).before a st = ts.all (fun c => c.before a st) := by
  induction ts with
  | nil => rfl
  | cons c t ih =>
    show (Jvm.Cond.and c (allAtoms t)).before a st = _
    rw [Jvm.Cond.before_and, ih, List.all_cons]
def words1 : List Jvm.Cond := Jvm.Cond.code x code maxLocals ret :: tables_1
/-- a 'code' word, met by the world's own term for the bytes: nothing is compared byte by byte -/
theorem code_word {y : MethodName} {bytes : ByteArray} {mx : Nat} {rt : Option FieldType} {a : Array Value} {s : State} {m : MethodId} {meth : Method} {c : Code} (h1 : s.methodNamed? y = some m) (h2 : s.vm.method? m = some meth) (h3 : meth.code = some c) (h4 : c.code = bytes)
    (h5 : (c.maxLocals == mx && c.exceptionTable.isEmpty && decide (c.maxStack ≤ mostOperands) && decide (meth.sig.returnType = rt) && !meth.locks && decide (parseMethodDescriptor y.desc = some meth.sig)) = true) : (Jvm.Cond.code y bytes mx rt).before a s = true := by
  simp only [Bool.and_eq_true, beq_iff_eq, Bool.not_eq_true', decide_eq_true_eq] at h5
  obtain ⟨⟨⟨⟨⟨g1, g2⟩, g3⟩, g4⟩, g5⟩, g6⟩ := h5
  simp [Cond.before, Cond.holds, Cond.value, h1, h2, h3, h4, g1, g2, g3, g4, g5, g6]
def isCode : Jvm.Cond → Bool
  | .code _ _ _ _ => true
  | _ => false
theorem all_split {L : List Jvm.Cond} {P : Jvm.Cond → Bool} (h1 : L.all (fun c => isCode c || P c) = true) (h2 : ∀ c ∈ L.filter isCode, P c = true) : L.all P = true := by
  refine List.all_eq_true.mpr fun c hc => ?_
  have h := List.all_eq_true.mp h1 c hc
  rcases Bool.eq_false_or_eq_true (isCode c) with hi | hi
  · exact h2 c (List.mem_filter.mpr ⟨hc, hi⟩)
  · simpa [hi] using h
set_option maxRecDepth 65536 in
theorem w_c0 : (Jvm.Cond.code x code maxLocals ret).before args0 about1 = true := code_word (m := ⟨1, 1⟩) (meth := k1m1) (c := k1c1) (by decide +kernel) rfl rfl rfl (by decide +kernel)
set_option maxRecDepth 65536 in
theorem w_c1 : (Jvm.Cond.code ({ cls := "com/example/throngwise/throngwise/generate/RandomStream", name := "<init>", desc := "(J)V" } : Jvm.MethodName) prog_14_method_1_code (3 : Nat) (Option.none : Option Jvm.ClassFile.FieldType)).before args0 about1 = true := code_word (m := ⟨2, 0⟩) (meth := k2m0) (c := k2c0) (by decide +kernel) rfl rfl rfl (by decide +kernel)
set_option maxRecDepth 65536 in
theorem w_c2 : (Jvm.Cond.code ({ cls := "java/lang/Object", name := "<init>", desc := "()V" } : Jvm.MethodName) object_method_1_code (1 : Nat) (Option.none : Option Jvm.ClassFile.FieldType)).before args0 about1 = true := code_word (m := ⟨0, 0⟩) (meth := k0m0) (c := k0c0) (by decide +kernel) rfl rfl rfl (by decide +kernel)
set_option maxRecDepth 65536 in
theorem w_c3 : (Jvm.Cond.code ({ cls := "com/example/throngwise/throngwise/generate/RandomStream", name := "nextFraction", desc := "()D" } : Jvm.MethodName) prog_14_method_3_code (1 : Nat) (Option.some Jvm.ClassFile.FieldType.double)).before args0 about1 = true := code_word (m := ⟨2, 2⟩) (meth := k2m2) (c := k2c2) (by decide +kernel) rfl rfl rfl (by decide +kernel)
set_option maxRecDepth 65536 in
theorem w_c4 : (Jvm.Cond.code ({ cls := "com/example/throngwise/throngwise/generate/RandomStream", name := "nextLong", desc := "()J" } : Jvm.MethodName) prog_14_method_2_code (3 : Nat) (Option.some Jvm.ClassFile.FieldType.long)).before args0 about1 = true := code_word (m := ⟨2, 1⟩) (meth := k2m1) (c := k2c1) (by decide +kernel) rfl rfl rfl (by decide +kernel)
def codes1 : List Jvm.Cond := [Jvm.Cond.code x code maxLocals ret, Jvm.Cond.code ({ cls := "com/example/throngwise/throngwise/generate/RandomStream", name := "<init>", desc := "(J)V" } : Jvm.MethodName) prog_14_method_1_code (3 : Nat) (Option.none : Option Jvm.ClassFile.FieldType), Jvm.Cond.code ({ cls := "java/lang/Object", name := "<init>", desc := "()V" } : Jvm.MethodName) object_method_1_code (1 : Nat) (Option.none : Option Jvm.ClassFile.FieldType), Jvm.Cond.code ({ cls := "com/example/throngwise/throngwise/generate/RandomStream", name := "nextFraction", desc := "()D" } : Jvm.MethodName) prog_14_method_3_code (1 : Nat) (Option.some Jvm.ClassFile.FieldType.double), Jvm.Cond.code ({ cls := "com/example/throngwise/throngwise/generate/RandomStream", name := "nextLong", desc := "()J" } : Jvm.MethodName) prog_14_method_2_code (3 : Nat) (Option.some Jvm.ClassFile.FieldType.long)]
set_option maxRecDepth 65536 in
theorem codes_eq : words1.filter isCode = codes1 := rfl
theorem w_codes : ∀ c ∈ words1.filter isCode, c.before args0 about1 = true := by
  rw [codes_eq]
  intro c hc
  simp only [codes1, List.mem_cons, List.not_mem_nil, or_false] at hc
  rcases hc with rfl | rfl | rfl | rfl | rfl
  · exact w_c0
  · exact w_c1
  · exact w_c2
  · exact w_c3
  · exact w_c4
set_option maxRecDepth 65536 in
theorem w_t1 : (words1.take 24).all (fun c => isCode c || c.before args0 about1) = true := by decide +kernel
set_option maxRecDepth 65536 in
theorem w_t2 : (words1.drop 24).all (fun c => isCode c || c.before args0 about1) = true := by decide +kernel
theorem w_tables : (allAtoms (Jvm.Cond.code x code maxLocals ret :: tables_1)).before args0 about1 = true := by
  rw [allAtoms_all]
  show words1.all (fun c => c.before args0 about1) = true
  refine all_split ?_ w_codes
  rw [← List.take_append_drop 24 words1, List.all_append, w_t1, w_t2]
  rfl
set_option maxRecDepth 65536 in
theorem w_case : (Jvm.Cond.and given_1 narrow_1).before args0 about1 = true := by decide +kernel
theorem w_applies : (headSpec (Jvm.Cond.code x code maxLocals ret :: tables_1) room_1).applies x e0.platform about1 = true :=
  (Spec.applies_iff w_frames).mpr ⟨w_running, w_runnable, w_alone, w_named, w_hears, w_ripe, w_room, w_tables⟩
theorem atStart : AtStart classFile x code maxLocals ret World_1 tables_1 room_1 Calls_1 rest_1 Pre_1 launch0 p0 e0 about1 theMethod args0 below0 :=
  ⟨lists_1, trivial, launch0.admits_env _ _ _, launch0.least_env, fairChoices_fair.cas, fairChoices_fair.clock, w_frames, w_args, w_heap, w_applies, trivial, trivial, w_case⟩
end start1
theorem witness_1 : WitnessClaimed_1 := ⟨start1.p0, start1.e0, start1.about1, start1.theMethod, start1.args0, start1.below0, start1.atStart⟩
end Jvm.Pilot.@@N@@
