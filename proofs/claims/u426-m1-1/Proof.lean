import JvmDerived
import JvmDerived.Pilot.@@N@@Statement
import JvmDerived.Pilot.@@N@@Code
set_option linter.unusedVariables false
set_option linter.unusedSimpArgs false
@@BLOCK:LamKit.lean.txt@@
namespace Jvm.RoadKit
open Sem ClassFile Op Lib Jvm.Stand Jvm.Free Jvm.LawKit
section New
variable {p : Program} {l : Launch} {e : Env} {R : Room} {s : State} {m : MethodId} {args : Array Value} {below : List Frame} {meth : Method} {c : Code} {T : State} {locs : List Loc} {cells slots : Nat}
theorem retI (X : Stand p l e R s m args below meth c T locs cells slots) (hx : p.tables.exec = Jvm.exec) {pc : Nat} {Ls : Array Slot} {z : Int32} {rest : List Value} (hret : meth.sig.returnType = some .int) (hd : decode c.code pc = .ok (.ireturn, 1)) {fs : List Frame}
    (hl : ∀ (f : JFrame) (acts : List Action), f.method = m → f.locked = none → f.entered = [] → (doReturn e (T.setTop f) acts (some (.int z))).1 = T.setFrames fs) : Steps p.tables e below (T.setTop (mkF m pc Ls (.int z :: rest))) (T.setFrames fs) := by
  have hm' : T.vm.method? m = some meth := X.method'
  have hn : narrow .int (.int z) = .int z := rfl
  show Steps p.tables e below (T.setTop { method := m, pc := pc, locals := Ls, stack := _ :: rest, locked := none }) _
  jvm_step X.here [X.here.top, hx, hd, hm', hret, hn]
  first | (intro acts; rw [hl _ acts rfl rfl rfl]) | rw [hl _ _ rfl rfl rfl]
  exact Steps.refl _
/-- a run from A that ends in an outcome with P -/
def Gl (tb : Tables) (e : Env) (below : List Frame) (P : Outcome → State → Prop) (A : State) : Prop := ∃ s₂ o, Steps tb e below A s₂ ∧ s₂.status = .running ∧ Ended s₂ below o ∧ P o s₂
theorem Gl.pre {tb : Tables} {e : Env} {below : List Frame} {P : Outcome → State → Prop} {A B : State} (h : ∀ t, Steps tb e below B t → Steps tb e below A t) (g : Gl tb e below P B) : Gl tb e below P A := by
  obtain ⟨s2, o, h1, r⟩ := g; exact ⟨s2, o, h _ h1, r⟩
theorem own_finI (X : Stand p l e R s m args below meth c T locs cells slots) (hx : p.tables.exec = Jvm.exec) (hlk : meth.locks = false) {pc : Nat} {Ls : Array Slot} {z : Int32} {rest : List Value} (hret : meth.sig.returnType = some .int) (hd : decode c.code pc = .ok (.ireturn, 1)) {Q : Option Value → Heap → List Loc → Prop} {C S : Nat}
    (hq : Q (some (.int z)) T.heap locs) (hc : cells ≤ C) (hs : slots ≤ S) : Gl p.tables e below (fun o U' => ∃ v L, o = .returned v ∧ Q v U'.heap L ∧ FrameEnd s o U' L C S) (T.setTop (mkF m pc Ls (.int z :: rest))) := by
  obtain ⟨fs, hr, hrun, hended, hW, hsame⟩ := X.leave (v := some (.int z)) (fun h => by rw [hret] at h; cases h) hlk
  exact ⟨_, _, retI X hx hret hd hr, hrun, hended, _, _, rfl, hq, ⟨_, rfl⟩, hW, hsame.mono hc hs⟩
theorem own_finN (X : Stand p l e R s m args below meth c T locs cells slots) (hx : p.tables.exec = Jvm.exec) (hlk : meth.locks = false) {pc : Nat} {Ls : Array Slot} {z z' : Int32} {rest : List Value} {t : FieldType} (hret : meth.sig.returnType = some t) (ht : t = .boolean ∨ t = .byte ∨ t = .char ∨ t = .short) (hz : nar t z = z') (hd : decode c.code pc = .ok (.ireturn, 1)) {Q : Option Value → Heap → List Loc → Prop} {C S : Nat}
    (hq : Q (some (.int z')) T.heap locs) (hc : cells ≤ C) (hs : slots ≤ S) : Gl p.tables e below (fun o U' => ∃ v L, o = .returned v ∧ Q v U'.heap L ∧ FrameEnd s o U' L C S) (T.setTop (mkF m pc Ls (.int z :: rest))) := by
  subst hz
  obtain ⟨fs, hr, hrun, hended, hW, hsame⟩ := X.leave (v := some (.int (nar t z))) (fun h => by rw [hret] at h; cases h) hlk
  exact ⟨_, _, retN X hx hret ht hd hr, hrun, hended, _, _, rfl, hq, ⟨_, rfl⟩, hW, hsame.mono hc hs⟩
theorem own_finV (X : Stand p l e R s m args below meth c T locs cells slots) (hx : p.tables.exec = Jvm.exec) (hlk : meth.locks = false) {pc : Nat} {Ls : Array Slot} (hret : meth.sig.returnType = none) (hd : decode c.code pc = .ok (.return_, 1)) {Q : Option Value → Heap → List Loc → Prop} {C S : Nat}
    (hq : Q none T.heap locs) (hc : cells ≤ C) (hs : slots ≤ S) : Gl p.tables e below (fun o U' => ∃ v L, o = .returned v ∧ Q v U'.heap L ∧ FrameEnd s o U' L C S) (T.setTop (mkF m pc Ls [])) := by
  obtain ⟨fs, hr, hrun, hended, hW, hsame⟩ := X.leave (v := none) (fun _ => rfl) hlk
  exact ⟨_, _, X.returnOut hx hret hd hr, hrun, hended, _, _, rfl, hq, ⟨_, rfl⟩, hW, hsame.mono hc hs⟩
theorem own_finA (X : Stand p l e R s m args below meth c T locs cells slots) (hx : p.tables.exec = Jvm.exec) (hlk : meth.locks = false) {pc : Nat} {Ls : Array Slot} {w : Value} {rest : List Value} {t : FieldType} (hret : meth.sig.returnType = some t) (hw : w.isRef = true) (ht : t.isReference = true) (hd : decode c.code pc = .ok (.areturn, 1)) {Q : Option Value → Heap → List Loc → Prop} {C S : Nat}
    (hq : Q (some w) T.heap locs) (hc : cells ≤ C) (hs : slots ≤ S) : Gl p.tables e below (fun o U' => ∃ v L, o = .returned v ∧ Q v U'.heap L ∧ FrameEnd s o U' L C S) (T.setTop (mkF m pc Ls (w :: rest))) := by
  obtain ⟨fs, hr, hrun, hended, hW, hsame⟩ := X.leave (v := some w) (fun h => by rw [hret] at h; cases h) hlk
  have hn : narrow t w = w := by rcases ref_cases hw with rfl | ⟨z, rfl⟩ <;> cases t <;> rfl
  exact ⟨_, _, retOut X hx hret hn (Or.inr (Or.inr (Or.inr (Or.inr ⟨rfl, ht, hw⟩)))) hd hr, hrun, hended, _, _, rfl, hq, ⟨_, rfl⟩, hW, hsame.mono hc hs⟩
/-- Java's >>> -/
def own_ushr (x y : Int32) : Int32 := (x.toUInt32 >>> (y &&& 31).toUInt32).toInt32
def own_ushrL (x : Int64) (y : Int32) : Int64 := (x.toUInt64 >>> (y &&& 0x3f).toInt64.toUInt64).toInt64
/-- 1 where P holds, else 0 -/
def own_pi (P : Prop) [Decidable P] : Int32 := if P then 1 else 0
theorem own_pi_t {P : Prop} [Decidable P] (h : P) : own_pi P = 1 := if_pos h
theorem own_pi_f {P : Prop} [Decidable P] (h : ¬ P) : own_pi P = 0 := if_neg h
theorem own_pi_nt {P : Prop} [Decidable P] (h : P) : own_pi (¬ P) = 0 := if_neg (fun q => q h)
theorem own_pi_nf {P : Prop} [Decidable P] (h : ¬ P) : own_pi (¬ P) = 1 := if_pos h
theorem own_pi0 {P : Prop} [Decidable P] : own_pi P = 0 ↔ ¬ P := by unfold own_pi; split <;> simp_all
theorem own_pi_eq {P Q : Prop} [Decidable P] [Decidable Q] (h : P ↔ Q) : own_pi P = own_pi Q := by unfold own_pi; simp [h]
theorem own_nar_pi {P : Prop} [i : Decidable P] : nar .boolean (@own_pi P i) = @own_pi P i := by unfold own_pi; split <;> decide
end New
/-- the array at a (of kind ty) holds the ints xs -/
def Bal (Z : State) (h : Heap) (a : Addr) (ty : FieldType) (xs : List Int32) : Prop := ∃ c : Cell, Arr Z h a c ty ∧ c.slots.size = xs.length ∧ ∀ i, i < xs.length → c.slots[i]? = some (.int (xs.getD i 0))
section Arrays
variable {Z : State} {h h' : Heap} {a b : Addr} {ty : FieldType} {xs : List Int32} {ws : List Addr}
theorem Bal.lt (F : Bal Z h a ty xs) : a < h.size := by obtain ⟨c, A, -⟩ := F; exact A.lt
theorem Bal.ext (F : Bal Z h a ty xs) (E : Ext h h') : Bal Z h' a ty xs := by obtain ⟨c, A, r⟩ := F; exact ⟨c, A.ext E, r⟩
theorem Bal.other {sl : Nat} {v : Value} (F : Bal Z h b ty xs) (W : Wr h h' a sl v) (q : b ≠ a) : Bal Z h' b ty xs := by obtain ⟨c, A, r⟩ := F; exact ⟨c, A.other W q, r⟩
theorem Bal.keep (F : Bal Z h a ty xs) (K : Keep h h' ws) (q : a ∉ ws) : Bal Z h' a ty xs := by obtain ⟨c, A, r⟩ := F; exact ⟨c, ⟨K.2.1 a c A.1 q, A.2⟩, r⟩
theorem Bal.new {k : ClassId} {z : Int32} {n : Nat} (A : Arr Z h a (newA k ty z) ty) (hz : z.toNatClampNeg = n) (hd : defaultValue ty = .int 0) : Bal Z h a ty (List.replicate n 0) := by
  subst hz
  refine ⟨_, A, by rw [sz_new, List.length_replicate], fun i hi => ?_⟩
  rw [List.length_replicate] at hi
  simp [newA, hd, hi, List.getD_eq_getElem?_getD]
theorem Bal.set {i : Nat} {v : Int32} (F : Bal Z h a ty xs) (W : Wr h h' a i (.int v)) (hi : i < xs.length) : Bal Z h' a ty (xs.set i v) := by
  obtain ⟨c, A, S, H⟩ := F
  refine ⟨_, A.same W, by rw [sz_set, S, List.length_set], fun k hk => ?_⟩
  rw [List.length_set] at hk
  show (c.slots.setIfInBounds i (.int v))[k]? = _
  rw [Array.getElem?_setIfInBounds, List.getD_eq_getElem?_getD, List.getElem?_set]
  by_cases q : i = k
  · subst q; simp [S, hk]
  · rw [if_neg q, if_neg q, ← List.getD_eq_getElem?_getD]; exact H k hk
theorem Bal.inb {c : Cell} {j : Int32} {i : Nat} (S : c.slots.size = xs.length) (h0 : ¬ j < 0) (hj : j.toNatClampNeg = i) (hi : i < xs.length) : ¬ (j < 0 ∨ c.slots.size ≤ j.toNatClampNeg) := by
  rintro (q | q)
  · exact h0 q
  · omega
variable {p : Program} {l : Launch} {e : Env} {R : Room} {s : State} {m : MethodId} {args : Array Value} {below : List Frame} {meth : Method} {c : Code} {T : State} {locs : List Loc} {cells slots : Nat}
theorem own_stB (X : Stand p l e R s m args below meth c T locs cells slots) (hx : p.tables.exec = Jvm.exec) (hZ : Z.Warmed39 s.vm) (eT : T.heap = h) (F : Bal Z h a .byte xs) {j x : Int32} {i : Nat} (h0 : ¬ j < 0) (hj : j.toNatClampNeg = i) (hi : i < xs.length) {g : JFrame} (hg : g.method = m) {rest : List Value} (hs : g.stack = .int x :: .int j :: .ref a :: rest) (hd : decode c.code g.pc = .ok (.bastore, 1)) :
    ∃ T' h', Stand p l e R s m args below meth c T' (locs ++ [⟨a, i⟩]) cells slots ∧ T'.heap = h' ∧ Wr h h' a i (.int (nar .byte x)) ∧ Bal Z h' a .byte (xs.set i (nar .byte x)) ∧ ∀ target, Steps p.tables e below (T'.setTop { g with pc := g.pc + 1, stack := rest }) target → Steps p.tables e below (T.setTop g) target := by
  have F' := F
  obtain ⟨cl, A, S, H⟩ := F
  obtain ⟨T', h', X', e', W, st⟩ := stB X hx hZ eT A (j := j) (Bal.inb S h0 hj hi) hg hs hd
  subst hj
  exact ⟨T', h', X', e', W, F'.set W hi, st⟩
theorem own_stC (X : Stand p l e R s m args below meth c T locs cells slots) (hx : p.tables.exec = Jvm.exec) (hZ : Z.Warmed39 s.vm) (eT : T.heap = h) (F : Bal Z h a .char xs) {j x : Int32} {i : Nat} (h0 : ¬ j < 0) (hj : j.toNatClampNeg = i) (hi : i < xs.length) {g : JFrame} (hg : g.method = m) {rest : List Value} (hs : g.stack = .int x :: .int j :: .ref a :: rest) (hd : decode c.code g.pc = .ok (.castore, 1)) :
    ∃ T' h', Stand p l e R s m args below meth c T' (locs ++ [⟨a, i⟩]) cells slots ∧ T'.heap = h' ∧ Wr h h' a i (.int (nar .char x)) ∧ Bal Z h' a .char (xs.set i (nar .char x)) ∧ ∀ target, Steps p.tables e below (T'.setTop { g with pc := g.pc + 1, stack := rest }) target → Steps p.tables e below (T.setTop g) target := by
  have F' := F
  obtain ⟨cl, A, S, H⟩ := F
  obtain ⟨T', h', X', e', W, st⟩ := stC X hx hZ eT A (j := j) (Bal.inb S h0 hj hi) hg hs hd
  subst hj
  exact ⟨T', h', X', e', W, F'.set W hi, st⟩
theorem own_ldB (X : Stand p l e R s m args below meth c T locs cells slots) (hx : p.tables.exec = Jvm.exec) (hZ : Z.Warmed39 s.vm) (eT : T.heap = h) (F : Bal Z h a .byte xs) {j : Int32} {i : Nat} (h0 : ¬ j < 0) (hj : j.toNatClampNeg = i) (hi : i < xs.length) {v : Int32} (hv : xs.getD i 0 = v) {g : JFrame} (hg : g.method = m) {rest : List Value} (hs : g.stack = .int j :: .ref a :: rest) (hd : decode c.code g.pc = .ok (.baload, 1)) (target : State)
    (k : Steps p.tables e below (T.setTop { g with pc := g.pc + 1, stack := .int v :: rest }) target) : Steps p.tables e below (T.setTop g) target := by
  obtain ⟨cl, A, S, H⟩ := F
  subst hv
  exact X.baloadBytes hx (j := j) (v := .int (xs.getD i 0)) (by rw [eT]; exact A.1) (State.isArrayOf_alike hZ.alike A.2.1) A.2.2 (Bal.inb S h0 hj hi) (by rw [hj]; exact H i hi) hg hs hd _ k
theorem own_ldC (X : Stand p l e R s m args below meth c T locs cells slots) (hx : p.tables.exec = Jvm.exec) (hZ : Z.Warmed39 s.vm) (eT : T.heap = h) (F : Bal Z h a .char xs) {j : Int32} {i : Nat} (h0 : ¬ j < 0) (hj : j.toNatClampNeg = i) (hi : i < xs.length) {v : Int32} (hv : xs.getD i 0 = v) {g : JFrame} (hg : g.method = m) {rest : List Value} (hs : g.stack = .int j :: .ref a :: rest) (hd : decode c.code g.pc = .ok (.caload, 1)) (target : State)
    (k : Steps p.tables e below (T.setTop { g with pc := g.pc + 1, stack := .int v :: rest }) target) : Steps p.tables e below (T.setTop g) target := by
  obtain ⟨cl, A, S, H⟩ := F
  subst hv
  exact X.caload hx (j := j) (v := .int (xs.getD i 0)) (by rw [eT]; exact A.1) (State.isArrayOf_alike hZ.alike A.2.1) A.2.2 (Bal.inb S h0 hj hi) (by rw [hj]; exact H i hi) hg hs hd _ k
theorem own_len (X : Stand p l e R s m args below meth c T locs cells slots) (hx : p.tables.exec = Jvm.exec) (hZ : Z.Warmed39 s.vm) (eT : T.heap = h) (F : Bal Z h a ty xs) {v : Int32} (hv : xs.length.toInt32 = v) {g : JFrame} (hg : g.method = m) {rest : List Value} (hs : g.stack = .ref a :: rest) (hd : decode c.code g.pc = .ok (.arraylength, 1)) (target : State)
    (k : Steps p.tables e below (T.setTop { g with pc := g.pc + 1, stack := .int v :: rest }) target) : Steps p.tables e below (T.setTop g) target := by
  obtain ⟨cl, A, S, H⟩ := F
  subst hv
  refine X.arraylength hx (by rw [eT]; exact A.1) (State.isArrayOf_alike hZ.alike A.2.1) hg hs hd _ ?_
  rw [S]; exact k
theorem own_balOf {k : ClassId} {z : Int32} (F : Arv Z h a k .byte z (xs.map Value.int) (.int 0)) (hz : z.toNatClampNeg = xs.length) : Bal Z h a .byte xs := by
  obtain ⟨c, A, -, S, -, H, -⟩ := F
  refine ⟨c, A, by rw [S, hz], fun i hi => ?_⟩
  have q := H i (by rw [S, hz]; exact hi)
  rw [q]
  simp [List.getD_eq_getElem?_getD, List.getElem?_map, List.getElem?_eq_getElem hi]
theorem own_arvC (F : Bal Z h a .char xs) (hf : ∀ x ∈ xs, fits .char (.int x) = true) (hl : xs.length < 2 ^ 31) : ∃ k, Arv Z h a k .char (Int32.ofNat xs.length) (xs.map Value.int) (.int 0) := by
  obtain ⟨c, A, S, H⟩ := F
  have hi : (Int32.ofNat xs.length).toInt = xs.length := Int32.toInt_ofNat_of_lt hl
  refine ⟨c.cls, c, A, rfl, ?_, ?_, ?_, ?_⟩
  · rw [S, Int32.toNatClampNeg, hi]; rfl
  · rw [Int32.lt_iff_toInt_lt, hi, show (0 : Int32).toInt = 0 from rfl]; omega
  · intro i hi'
    rw [S] at hi'
    rw [H i hi']
    simp [List.getD_eq_getElem?_getD, List.getElem?_map, List.getElem?_eq_getElem hi']
  · intro i hi'
    rw [S] at hi'
    have : (xs.map Value.int).getD i (.int 0) = .int xs[i] := by simp [List.getD_eq_getElem?_getD, List.getElem?_map, List.getElem?_eq_getElem hi']
    rw [this]; exact hf _ (List.getElem_mem hi')
theorem own_piN {P : Prop} [Decidable P] : (¬ own_pi P = 0) ↔ P := by unfold own_pi; split <;> simp_all
end Arrays
section Wide
variable {p : Program} {l : Launch} {e : Env} {R : Room} {s Z : State} {EL : List (String × Nat)} {vm0 : Vm} {k0 : Nat} {m : MethodId} {args : Array Value} {below : List Frame} {meth : Method} {c : Code} {T : State} {locs : List Loc} {cells slots : Nat}
theorem own_monoW {t : State} {o : Outcome} {L : List Loc} {k n k' n' : Nat} (h : ReturnedEndW s o t L k n) (hk : k ≤ k') (hn : n ≤ n') : ReturnedEndW s o t L k' n' := ⟨h.1, h.2.1, h.2.2.1, h.2.2.2.mono hk hn⟩
theorem own_finIW (X : Stand p l e R (s.setVm vm0) m args below meth c T locs cells slots) (hx : p.tables.exec = Jvm.exec) (hlk : meth.locks = false) (hS : s.Since vm0 k0) (hk : k0 ≤ T.heap.size) {pc : Nat} {Ls : Array Slot} {z : Int32} {rest : List Value} (hret : meth.sig.returnType = some .int) (hd : decode c.code pc = .ok (.ireturn, 1)) {Q : Option Value → Heap → List Loc → Prop} {C S : Nat}
    (hq : Q (some (.int z)) T.heap locs) (hC : CHr Z EL s.vm s.heap T.vm T.heap) (hc : cells ≤ C) (hs : slots ≤ S) : Gl p.tables e below (fun o U' => ∃ v L, o = .returned v ∧ Q v U'.heap L ∧ CHr Z EL s.vm s.heap U'.vm U'.heap ∧ ReturnedEndW s o U' L C S) (T.setTop (mkF m pc Ls (.int z :: rest))) := by
  obtain ⟨fs, hr, hrun, hended, hW⟩ := X.leaveW hS hk (v := some (.int z)) (fun h => by rw [hret] at h; cases h) hlk
  exact ⟨_, _, retI X hx hret hd hr, hrun, hended, _, _, rfl, hq, hC, own_monoW hW hc hs⟩
theorem own_finNW (X : Stand p l e R (s.setVm vm0) m args below meth c T locs cells slots) (hx : p.tables.exec = Jvm.exec) (hlk : meth.locks = false) (hS : s.Since vm0 k0) (hk : k0 ≤ T.heap.size) {pc : Nat} {Ls : Array Slot} {z z' : Int32} {rest : List Value} {t : FieldType} (hret : meth.sig.returnType = some t) (ht : t = .boolean ∨ t = .byte ∨ t = .char ∨ t = .short) (hz : nar t z = z') (hd : decode c.code pc = .ok (.ireturn, 1)) {Q : Option Value → Heap → List Loc → Prop} {C S : Nat}
    (hq : Q (some (.int z')) T.heap locs) (hC : CHr Z EL s.vm s.heap T.vm T.heap) (hc : cells ≤ C) (hs : slots ≤ S) : Gl p.tables e below (fun o U' => ∃ v L, o = .returned v ∧ Q v U'.heap L ∧ CHr Z EL s.vm s.heap U'.vm U'.heap ∧ ReturnedEndW s o U' L C S) (T.setTop (mkF m pc Ls (.int z :: rest))) := by
  subst hz
  obtain ⟨fs, hr, hrun, hended, hW⟩ := X.leaveW hS hk (v := some (.int (nar t z))) (fun h => by rw [hret] at h; cases h) hlk
  exact ⟨_, _, retN X hx hret ht hd hr, hrun, hended, _, _, rfl, hq, hC, own_monoW hW hc hs⟩
theorem own_finVW (X : Stand p l e R (s.setVm vm0) m args below meth c T locs cells slots) (hx : p.tables.exec = Jvm.exec) (hlk : meth.locks = false) (hS : s.Since vm0 k0) (hk : k0 ≤ T.heap.size) {pc : Nat} {Ls : Array Slot} (hret : meth.sig.returnType = none) (hd : decode c.code pc = .ok (.return_, 1)) {Q : Option Value → Heap → List Loc → Prop} {C S : Nat}
    (hq : Q none T.heap locs) (hC : CHr Z EL s.vm s.heap T.vm T.heap) (hc : cells ≤ C) (hs : slots ≤ S) : Gl p.tables e below (fun o U' => ∃ v L, o = .returned v ∧ Q v U'.heap L ∧ CHr Z EL s.vm s.heap U'.vm U'.heap ∧ ReturnedEndW s o U' L C S) (T.setTop (mkF m pc Ls [])) := by
  obtain ⟨fs, hr, hrun, hended, hW⟩ := X.leaveW hS hk (v := none) (fun _ => rfl) hlk
  exact ⟨_, _, X.returnOut hx hret hd hr, hrun, hended, _, _, rfl, hq, hC, own_monoW hW hc hs⟩
theorem own_finAW (X : Stand p l e R (s.setVm vm0) m args below meth c T locs cells slots) (hx : p.tables.exec = Jvm.exec) (hlk : meth.locks = false) (hS : s.Since vm0 k0) (hk : k0 ≤ T.heap.size) {pc : Nat} {Ls : Array Slot} {w : Value} {rest : List Value} {t : FieldType} (hret : meth.sig.returnType = some t) (hw : w.isRef = true) (ht : t.isReference = true) (hd : decode c.code pc = .ok (.areturn, 1)) {Q : Option Value → Heap → List Loc → Prop} {C S : Nat}
    (hq : Q (some w) T.heap locs) (hC : CHr Z EL s.vm s.heap T.vm T.heap) (hc : cells ≤ C) (hs : slots ≤ S) : Gl p.tables e below (fun o U' => ∃ v L, o = .returned v ∧ Q v U'.heap L ∧ CHr Z EL s.vm s.heap U'.vm U'.heap ∧ ReturnedEndW s o U' L C S) (T.setTop (mkF m pc Ls (w :: rest))) := by
  obtain ⟨fs, hr, hrun, hended, hW⟩ := X.leaveW hS hk (v := some w) (fun h => by rw [hret] at h; cases h) hlk
  have hn : narrow t w = w := by rcases ref_cases hw with rfl | ⟨z, rfl⟩ <;> cases t <;> rfl
  exact ⟨_, _, retOut X hx hret hn (Or.inr (Or.inr (Or.inr (Or.inr ⟨rfl, ht, hw⟩)))) hd hr, hrun, hended, _, _, rfl, hq, hC, own_monoW hW hc hs⟩
/-- a callee that keeps the constants' invariant; SL: objects that it may write, none of them a constant's -/
theorem own_backH {a0 : Array Value} {h : Heap} {y : MethodName} {bytes : ByteArray} {maxL : Nat} {ret : Option FieldType} {rm : Room} {len W : Nat} {as' : Array Value} {Q : Option Value → Heap → List Loc → Prop} {SL : List Addr}
    (hM : MetFree l y (head1 [Cond.code y bytes maxL ret] rm) (fun a U => a = as' ∧ Z.Warmed39 U.vm ∧ U.heap = h ∧ CHv Z EL U.vm h ∧ ∀ x ∈ SL, Safe Z EL U.vm h x) (fun _ _ _ _ _ => True) (fun _ U o U' => ∃ v L, o = .returned v ∧ Q v U'.heap L ∧ CHr Z EL U.vm U.heap U'.vm U'.heap ∧ ReturnedEndW U o U' L rm.cells rm.slots))
    (hZ : Z.Warmed39 vm0) (wc : (Cond.code y bytes maxL ret).before a0 Z = true) (wz : (Cond.initialized y.cls).before a0 Z = true) (hf : rm.frames + 1 ≤ R.frames) (hl : W + (maxL + 11) + rm.locals ≤ R.locals) (hEL : EW Z a0 EL) (H : CHv Z EL vm0 h) (hSL : ∀ x ∈ SL, x < h.size ∧ Safe Z EL vm0 h x) :
    BackS l R p e below (s.setVm vm0) args y len W (fun A a => a = as' ∧ A.U.heap = h ∧ A.cells + rm.cells ≤ R.cells ∧ A.slots + rm.slots ≤ R.slots)
      (fun A _ v B => ∃ L, Q v B.U.heap L ∧ B.locs = A.locs ++ L ∧ B.cells = A.cells + rm.cells ∧ B.slots = A.slots + rm.slots ∧ CHr Z EL vm0 h B.U.vm B.U.heap) := by
  refine BackS.of_freeW (bytes := bytes) (maxL := maxL) (ret := ret) (E := fun _ first o t L k n => k = rm.cells ∧ n = rm.slots ∧ (∃ v, o = .returned v ∧ Q v t.heap L) ∧ CHr Z EL first.vm first.heap t.vm t.heap) hM hf hl ?_ ?_ (fun _ _ _ _ _ _ _ _ _ => trivial) (fun _ _ _ _ ⟨v, L, h1, h2, h3, h4⟩ => ⟨L, _, _, h4, rfl, rfl, ⟨v, h1, h2⟩, h3⟩) ?_
  · intro m meth c A a Y hp
    have hU : Z.Warmed39 A.U.vm := wtrans (s := s.setVm vm0) hZ Y.warmed
    refine ⟨?_, mv hU wc, mv hU wz, hp.2.2.1, hp.2.2.2⟩
    show (Cond.and _ .tt).before a A.U = true
    rw [Cond.before_and, mv hU wc]; rfl
  · intro m meth c A a g mk Y hp
    have q := CHv.at Y hZ hEL H
    exact ⟨hp.1, wtrans (s := s.setVm vm0) hZ Y.warmed, hp.2.1, q.1, fun x hx => q.safe (hSL x hx).1 (hSL x hx).2⟩
  · rintro m meth c A a g mk v t L k n Y hp _ _ ⟨e1, e2, ⟨v', e3, e4⟩, e5⟩
    cases e3; subst e1 e2
    refine ⟨L, e4, rfl, rfl, rfl, (CHv.at Y hZ hEL H).trans ?_⟩
    rw [← hp.2.1]; exact e5
end Wide
theorem own_fits_pi {P : Prop} [i : Decidable P] : fits .boolean (.int (@own_pi P i)) = true := by unfold own_pi; split <;> rfl
/-- the array at a, of the class k over C, holds the values vs -/
def Ral (Z : State) (h : Heap) (a : Addr) (k : ClassId) (C : String) (vs : List Value) : Prop := ∃ c : Cell, Arr Z h a c (.object C) ∧ c.cls = k ∧ c.slots.size = vs.length ∧ ∀ i, i < vs.length → c.slots[i]? = some (vs.getD i .null)
section Refs
variable {Z : State} {h h' : Heap} {a b : Addr} {k : ClassId} {C : String} {vs : List Value} {ws : List Addr}
theorem Ral.lt (F : Ral Z h a k C vs) : a < h.size := by obtain ⟨c, A, -⟩ := F; exact A.lt
theorem Ral.ext (F : Ral Z h a k C vs) (E : Ext h h') : Ral Z h' a k C vs := by obtain ⟨c, A, r⟩ := F; exact ⟨c, A.ext E, r⟩
theorem Ral.other {sl : Nat} {v : Value} (F : Ral Z h b k C vs) (W : Wr h h' a sl v) (q : b ≠ a) : Ral Z h' b k C vs := by obtain ⟨c, A, r⟩ := F; exact ⟨c, A.other W q, r⟩
theorem Ral.keep (F : Ral Z h a k C vs) (K : Keep h h' ws) (q : a ∉ ws) : Ral Z h' a k C vs := by obtain ⟨c, A, r⟩ := F; exact ⟨c, ⟨K.2.1 a c A.1 q, A.2⟩, r⟩
theorem Ral.new {z : Int32} {n : Nat} (A : Arr Z h a (newA k (.object C) z) (.object C)) (hz : z.toNatClampNeg = n) : Ral Z h a k C (List.replicate n .null) := by
  subst hz
  refine ⟨_, A, rfl, by rw [sz_new, List.length_replicate], fun i hi => ?_⟩
  rw [List.length_replicate] at hi
  simp [newA, defaultValue, hi, List.getD_eq_getElem?_getD]
theorem Ral.set {i : Nat} {v : Value} (F : Ral Z h a k C vs) (W : Wr h h' a i v) (hi : i < vs.length) : Ral Z h' a k C (vs.set i v) := by
  obtain ⟨c, A, q0, S, H⟩ := F
  refine ⟨_, A.same W, q0, by rw [sz_set, S, List.length_set], fun k hk => ?_⟩
  rw [List.length_set] at hk
  show (c.slots.setIfInBounds i v)[k]? = _
  rw [Array.getElem?_setIfInBounds, List.getD_eq_getElem?_getD, List.getElem?_set]
  by_cases q : i = k
  · subst q; simp [S, hk]
  · rw [if_neg q, if_neg q, ← List.getD_eq_getElem?_getD]; exact H k hk
variable {p : Program} {l : Launch} {e : Env} {R : Room} {s : State} {m : MethodId} {args : Array Value} {below : List Frame} {meth : Method} {c : Code} {T : State} {locs : List Loc} {cells slots : Nat}
theorem own_stR (X : Stand p l e R s m args below meth c T locs cells slots) (hx : p.tables.exec = Jvm.exec) (hZ : Z.Warmed39 s.vm) (eT : T.heap = h) (F : Ral Z h a k C vs) (O : Ovr Z k C) {y : Addr} (I : Ins Z h y C true) {j : Int32} {i : Nat} (h0 : ¬ j < 0) (hj : j.toNatClampNeg = i) (hi : i < vs.length) {g : JFrame} (hg : g.method = m) {rest : List Value} (hs : g.stack = .ref y :: .int j :: .ref a :: rest) (hd : decode c.code g.pc = .ok (.aastore, 1)) :
    ∃ T' h', Stand p l e R s m args below meth c T' (locs ++ [⟨a, i⟩]) cells slots ∧ T'.heap = h' ∧ Wr h h' a i (.ref y) ∧ Ral Z h' a k C (vs.set i (.ref y)) ∧ ∀ target, Steps p.tables e below (T'.setTop { g with pc := g.pc + 1, stack := rest }) target → Steps p.tables e below (T.setTop g) target := by
  have F' := F
  obtain ⟨cl, A, q0, S, H⟩ := F
  have hin : ¬ (j < 0 ∨ cl.slots.size ≤ j.toNatClampNeg) := by
    rintro (q | q)
    · exact h0 q
    · omega
  subst q0
  obtain ⟨T', h', X', e', W, st⟩ := stR X hx hZ eT A (j := j) hin rfl (Sto.of A O I) hg hs hd
  subst hj
  exact ⟨T', h', X', e', W, F'.set W hi, st⟩
theorem own_ldR (X : Stand p l e R s m args below meth c T locs cells slots) (hx : p.tables.exec = Jvm.exec) (hZ : Z.Warmed39 s.vm) (eT : T.heap = h) (F : Ral Z h a k C vs) {j : Int32} {i : Nat} (h0 : ¬ j < 0) (hj : j.toNatClampNeg = i) (hi : i < vs.length) {v : Value} (hv : vs.getD i .null = v) {g : JFrame} (hg : g.method = m) {rest : List Value} (hs : g.stack = .int j :: .ref a :: rest) (hd : decode c.code g.pc = .ok (.aaload, 1)) (target : State)
    (kk : Steps p.tables e below (T.setTop { g with pc := g.pc + 1, stack := v :: rest }) target) : Steps p.tables e below (T.setTop g) target := by
  obtain ⟨cl, A, q0, S, H⟩ := F
  have hin : ¬ (j < 0 ∨ cl.slots.size ≤ j.toNatClampNeg) := by
    rintro (q | q)
    · exact h0 q
    · omega
  subst hv
  exact X.aaload hx (j := j) (v := vs.getD i .null) (by rw [eT]; exact A.1) (State.isArrayOf_alike hZ.alike A.2.1) rfl A.2.2 hin (by rw [hj]; exact H i hi) hg hs hd _ kk
end Refs
section Starts
variable {s : State} {args : Array Value} {t : Term} {a : Addr} {C n d : String}
theorem own_fldI {z : Int32} (ev : t.eval args s none [] s = some (.ref a)) (h : (Cond.eq (Term.field t C n d) (Term.int z)).value args s none s [] = some true) : Fld s s.heap a C n d (.int z) := by
  refine Fld.start ?_
  rw [← fld_at (args := args) (first := s) (o := none) (idx := []) ev]
  cases hf : (Term.field t C n d).eval args s none [] s with
  | none => simp [Cond.value, hf] at h
  | some x =>
    have hz : (Term.int z).eval args s none [] s = some (.int z) := rfl
    cases x <;> simp [Cond.value, hf, hz] at h
    rw [h]
theorem own_fldN (ev : t.eval args s none [] s = some (.ref a)) (h : (Cond.eq (Term.field t C n d) Term.null).value args s none s [] = some true) : Fld s s.heap a C n d .null := by
  refine Fld.start ?_
  rw [← fld_at (args := args) (first := s) (o := none) (idx := []) ev]
  exact null_v h
theorem own_fldE {K : String} (ev : t.eval args s none [] s = some (.ref a)) (h : (Cond.exactly (Term.field t C n d) K).value args s none s [] = some true) : ∃ y, Fld s s.heap a C n d (.ref y) := by
  obtain ⟨y, hy⟩ := exa_v h
  refine ⟨y, Fld.start ?_⟩
  rw [← fld_at (args := args) (first := s) (o := none) (idx := []) ev]
  exact hy
theorem own_fldS {u : Term} {b : Addr} (ev : t.eval args s none [] s = some (.ref a)) (eu : u.eval args s none [] s = some (.ref b)) (h : (Cond.eq (Term.field t C n d) u).value args s none s [] = some true) : Fld s s.heap a C n d (.ref b) := by
  refine Fld.start ?_
  rw [← fld_at (args := args) (first := s) (o := none) (idx := []) ev]
  cases hf : (Term.field t C n d).eval args s none [] s with
  | none => simp [Cond.value, hf] at h
  | some x =>
    cases x <;> simp [Cond.value, hf, eu] at h
    rw [h]
theorem own_statI {t : Term} {z : Int32} (h : (Cond.eq t (Term.int z)).value args s none s [] = some true) : t.eval args s none [] s = some (.int z) := by
  cases hf : t.eval args s none [] s with
  | none => simp [Cond.value, hf] at h
  | some x =>
    have hz : (Term.int z).eval args s none [] s = some (.int z) := rfl
    cases x <;> simp [Cond.value, hf, hz] at h
    rw [h]
theorem own_empty {cl : Cell} {ty : FieldType} (ev : t.eval args s none [] s = some (.ref a)) (A : Arr s s.heap a cl ty) (h : (Cond.eq (Term.length t) (Term.int 0)).value args s none s [] = some true) : Bal s s.heap a ty [] := by
  have ha : s.arrayAt? a = some cl := A.fin (Vm.Alike.refl _)
  have hsz : cl.slots.size = 0 := by
    by_cases hl : cl.slots.size < 2 ^ 31
    · have hv := len_f (args := args) (first := s) (o := none) (idx := []) ev ha hl
      have hz : (Term.int 0).eval args s none [] s = some (.int 0) := rfl
      simp only [Cond.value, hv, hz] at h
      have q := len_toInt hl
      have q2 : cl.slots.size.toInt32 = 0 := by simpa using h
      rw [q2] at q
      have : (0 : Int32).toInt = 0 := rfl
      omega
    · exfalso
      cases hf : (Term.length t).eval args s none [] s with
      | none => simp [Cond.value, hf] at h
      | some x => simp [Term.eval, ev, ha, hl] at hf
  exact ⟨cl, A, hsz, fun i hi => absurd hi (Nat.not_lt_zero i)⟩
end Starts
end Jvm.RoadKit
namespace Jvm.Pilot.@@N@@
open Jvm Jvm.ClassFile Sem Op Lib Jvm.Free Jvm.Stand Jvm.LawKit Jvm.RoadKit Bundle Jvm.Pilot.@@N@@.Jvm.D
theorem own_wd {Z : State} {a0 : Array Value} (hw : ∀ d ∈ tables_1, d.before a0 Z = true) (i : Nat) {d : Jvm.Cond} (h : tables_1[i]? = some d) : d.before a0 Z = true := hw d (List.mem_of_getElem? h)
theorem Gl.gen {tb : Tables} {e : Env} {below : List Frame} {P : Outcome → State → Prop} {A : State} (h : ∀ Q : Outcome → State → Prop, Q = P → Gl tb e below Q A) : Gl tb e below P A := h P rfl
def own_vr (pp : Int32) (q : Int64) : Int32 := if (q &&& (-128 : Int64)) = (0 : Int64) then (pp + (1 : Int32)) else if ((own_ushrL q (7 : Int32)) &&& (-128 : Int64)) = (0 : Int64) then ((pp + (1 : Int32)) + (1 : Int32)) else if ((own_ushrL (own_ushrL q (7 : Int32)) (7 : Int32)) &&& (-128 : Int64)) = (0 : Int64) then (((pp + (1 : Int32)) + (1 : Int32)) + (1 : Int32)) else if ((own_ushrL (own_ushrL (own_ushrL q (7 : Int32)) (7 : Int32)) (7 : Int32)) &&& (-128 : Int64)) = (0 : Int64) then ((((pp + (1 : Int32)) + (1 : Int32)) + (1 : Int32)) + (1 : Int32)) else if ((own_ushrL (own_ushrL (own_ushrL (own_ushrL q (7 : Int32)) (7 : Int32)) (7 : Int32)) (7 : Int32)) &&& (-128 : Int64)) = (0 : Int64) then (((((pp + (1 : Int32)) + (1 : Int32)) + (1 : Int32)) + (1 : Int32)) + (1 : Int32)) else if ((own_ushrL (own_ushrL (own_ushrL (own_ushrL (own_ushrL q (7 : Int32)) (7 : Int32)) (7 : Int32)) (7 : Int32)) (7 : Int32)) &&& (-128 : Int64)) = (0 : Int64) then ((((((pp + (1 : Int32)) + (1 : Int32)) + (1 : Int32)) + (1 : Int32)) + (1 : Int32)) + (1 : Int32)) else if ((own_ushrL (own_ushrL (own_ushrL (own_ushrL (own_ushrL (own_ushrL q (7 : Int32)) (7 : Int32)) (7 : Int32)) (7 : Int32)) (7 : Int32)) (7 : Int32)) &&& (-128 : Int64)) = (0 : Int64) then (((((((pp + (1 : Int32)) + (1 : Int32)) + (1 : Int32)) + (1 : Int32)) + (1 : Int32)) + (1 : Int32)) + (1 : Int32)) else if ((own_ushrL (own_ushrL (own_ushrL (own_ushrL (own_ushrL (own_ushrL (own_ushrL q (7 : Int32)) (7 : Int32)) (7 : Int32)) (7 : Int32)) (7 : Int32)) (7 : Int32)) (7 : Int32)) &&& (-128 : Int64)) = (0 : Int64) then ((((((((pp + (1 : Int32)) + (1 : Int32)) + (1 : Int32)) + (1 : Int32)) + (1 : Int32)) + (1 : Int32)) + (1 : Int32)) + (1 : Int32)) else if ((own_ushrL (own_ushrL (own_ushrL (own_ushrL (own_ushrL (own_ushrL (own_ushrL (own_ushrL q (7 : Int32)) (7 : Int32)) (7 : Int32)) (7 : Int32)) (7 : Int32)) (7 : Int32)) (7 : Int32)) (7 : Int32)) &&& (-128 : Int64)) = (0 : Int64) then (((((((((pp + (1 : Int32)) + (1 : Int32)) + (1 : Int32)) + (1 : Int32)) + (1 : Int32)) + (1 : Int32)) + (1 : Int32)) + (1 : Int32)) + (1 : Int32)) else ((((((((((pp + (1 : Int32)) + (1 : Int32)) + (1 : Int32)) + (1 : Int32)) + (1 : Int32)) + (1 : Int32)) + (1 : Int32)) + (1 : Int32)) + (1 : Int32)) + (1 : Int32))
def own_vl (xs : List Int32) (pp : Int32) (q : Int64) : List Int32 := if (q &&& (-128 : Int64)) = (0 : Int64) then (xs.set (pp).toNatClampNeg (nar .byte (q.toInt32.toInt8.toInt32))) else if ((own_ushrL q (7 : Int32)) &&& (-128 : Int64)) = (0 : Int64) then ((xs.set (pp).toNatClampNeg (nar .byte (((q &&& (127 : Int64)) ||| (128 : Int64)).toInt32.toInt8.toInt32))).set ((pp + (1 : Int32))).toNatClampNeg (nar .byte ((own_ushrL q (7 : Int32)).toInt32.toInt8.toInt32))) else if ((own_ushrL (own_ushrL q (7 : Int32)) (7 : Int32)) &&& (-128 : Int64)) = (0 : Int64) then (((xs.set (pp).toNatClampNeg (nar .byte (((q &&& (127 : Int64)) ||| (128 : Int64)).toInt32.toInt8.toInt32))).set ((pp + (1 : Int32))).toNatClampNeg (nar .byte ((((own_ushrL q (7 : Int32)) &&& (127 : Int64)) ||| (128 : Int64)).toInt32.toInt8.toInt32))).set (((pp + (1 : Int32)) + (1 : Int32))).toNatClampNeg (nar .byte ((own_ushrL (own_ushrL q (7 : Int32)) (7 : Int32)).toInt32.toInt8.toInt32))) else if ((own_ushrL (own_ushrL (own_ushrL q (7 : Int32)) (7 : Int32)) (7 : Int32)) &&& (-128 : Int64)) = (0 : Int64) then ((((xs.set (pp).toNatClampNeg (nar .byte (((q &&& (127 : Int64)) ||| (128 : Int64)).toInt32.toInt8.toInt32))).set ((pp + (1 : Int32))).toNatClampNeg (nar .byte ((((own_ushrL q (7 : Int32)) &&& (127 : Int64)) ||| (128 : Int64)).toInt32.toInt8.toInt32))).set (((pp + (1 : Int32)) + (1 : Int32))).toNatClampNeg (nar .byte ((((own_ushrL (own_ushrL q (7 : Int32)) (7 : Int32)) &&& (127 : Int64)) ||| (128 : Int64)).toInt32.toInt8.toInt32))).set ((((pp + (1 : Int32)) + (1 : Int32)) + (1 : Int32))).toNatClampNeg (nar .byte ((own_ushrL (own_ushrL (own_ushrL q (7 : Int32)) (7 : Int32)) (7 : Int32)).toInt32.toInt8.toInt32))) else if ((own_ushrL (own_ushrL (own_ushrL (own_ushrL q (7 : Int32)) (7 : Int32)) (7 : Int32)) (7 : Int32)) &&& (-128 : Int64)) = (0 : Int64) then (((((xs.set (pp).toNatClampNeg (nar .byte (((q &&& (127 : Int64)) ||| (128 : Int64)).toInt32.toInt8.toInt32))).set ((pp + (1 : Int32))).toNatClampNeg (nar .byte ((((own_ushrL q (7 : Int32)) &&& (127 : Int64)) ||| (128 : Int64)).toInt32.toInt8.toInt32))).set (((pp + (1 : Int32)) + (1 : Int32))).toNatClampNeg (nar .byte ((((own_ushrL (own_ushrL q (7 : Int32)) (7 : Int32)) &&& (127 : Int64)) ||| (128 : Int64)).toInt32.toInt8.toInt32))).set ((((pp + (1 : Int32)) + (1 : Int32)) + (1 : Int32))).toNatClampNeg (nar .byte ((((own_ushrL (own_ushrL (own_ushrL q (7 : Int32)) (7 : Int32)) (7 : Int32)) &&& (127 : Int64)) ||| (128 : Int64)).toInt32.toInt8.toInt32))).set (((((pp + (1 : Int32)) + (1 : Int32)) + (1 : Int32)) + (1 : Int32))).toNatClampNeg (nar .byte ((own_ushrL (own_ushrL (own_ushrL (own_ushrL q (7 : Int32)) (7 : Int32)) (7 : Int32)) (7 : Int32)).toInt32.toInt8.toInt32))) else if ((own_ushrL (own_ushrL (own_ushrL (own_ushrL (own_ushrL q (7 : Int32)) (7 : Int32)) (7 : Int32)) (7 : Int32)) (7 : Int32)) &&& (-128 : Int64)) = (0 : Int64) then ((((((xs.set (pp).toNatClampNeg (nar .byte (((q &&& (127 : Int64)) ||| (128 : Int64)).toInt32.toInt8.toInt32))).set ((pp + (1 : Int32))).toNatClampNeg (nar .byte ((((own_ushrL q (7 : Int32)) &&& (127 : Int64)) ||| (128 : Int64)).toInt32.toInt8.toInt32))).set (((pp + (1 : Int32)) + (1 : Int32))).toNatClampNeg (nar .byte ((((own_ushrL (own_ushrL q (7 : Int32)) (7 : Int32)) &&& (127 : Int64)) ||| (128 : Int64)).toInt32.toInt8.toInt32))).set ((((pp + (1 : Int32)) + (1 : Int32)) + (1 : Int32))).toNatClampNeg (nar .byte ((((own_ushrL (own_ushrL (own_ushrL q (7 : Int32)) (7 : Int32)) (7 : Int32)) &&& (127 : Int64)) ||| (128 : Int64)).toInt32.toInt8.toInt32))).set (((((pp + (1 : Int32)) + (1 : Int32)) + (1 : Int32)) + (1 : Int32))).toNatClampNeg (nar .byte ((((own_ushrL (own_ushrL (own_ushrL (own_ushrL q (7 : Int32)) (7 : Int32)) (7 : Int32)) (7 : Int32)) &&& (127 : Int64)) ||| (128 : Int64)).toInt32.toInt8.toInt32))).set ((((((pp + (1 : Int32)) + (1 : Int32)) + (1 : Int32)) + (1 : Int32)) + (1 : Int32))).toNatClampNeg (nar .byte ((own_ushrL (own_ushrL (own_ushrL (own_ushrL (own_ushrL q (7 : Int32)) (7 : Int32)) (7 : Int32)) (7 : Int32)) (7 : Int32)).toInt32.toInt8.toInt32))) else if ((own_ushrL (own_ushrL (own_ushrL (own_ushrL (own_ushrL (own_ushrL q (7 : Int32)) (7 : Int32)) (7 : Int32)) (7 : Int32)) (7 : Int32)) (7 : Int32)) &&& (-128 : Int64)) = (0 : Int64) then (((((((xs.set (pp).toNatClampNeg (nar .byte (((q &&& (127 : Int64)) ||| (128 : Int64)).toInt32.toInt8.toInt32))).set ((pp + (1 : Int32))).toNatClampNeg (nar .byte ((((own_ushrL q (7 : Int32)) &&& (127 : Int64)) ||| (128 : Int64)).toInt32.toInt8.toInt32))).set (((pp + (1 : Int32)) + (1 : Int32))).toNatClampNeg (nar .byte ((((own_ushrL (own_ushrL q (7 : Int32)) (7 : Int32)) &&& (127 : Int64)) ||| (128 : Int64)).toInt32.toInt8.toInt32))).set ((((pp + (1 : Int32)) + (1 : Int32)) + (1 : Int32))).toNatClampNeg (nar .byte ((((own_ushrL (own_ushrL (own_ushrL q (7 : Int32)) (7 : Int32)) (7 : Int32)) &&& (127 : Int64)) ||| (128 : Int64)).toInt32.toInt8.toInt32))).set (((((pp + (1 : Int32)) + (1 : Int32)) + (1 : Int32)) + (1 : Int32))).toNatClampNeg (nar .byte ((((own_ushrL (own_ushrL (own_ushrL (own_ushrL q (7 : Int32)) (7 : Int32)) (7 : Int32)) (7 : Int32)) &&& (127 : Int64)) ||| (128 : Int64)).toInt32.toInt8.toInt32))).set ((((((pp + (1 : Int32)) + (1 : Int32)) + (1 : Int32)) + (1 : Int32)) + (1 : Int32))).toNatClampNeg (nar .byte ((((own_ushrL (own_ushrL (own_ushrL (own_ushrL (own_ushrL q (7 : Int32)) (7 : Int32)) (7 : Int32)) (7 : Int32)) (7 : Int32)) &&& (127 : Int64)) ||| (128 : Int64)).toInt32.toInt8.toInt32))).set (((((((pp + (1 : Int32)) + (1 : Int32)) + (1 : Int32)) + (1 : Int32)) + (1 : Int32)) + (1 : Int32))).toNatClampNeg (nar .byte ((own_ushrL (own_ushrL (own_ushrL (own_ushrL (own_ushrL (own_ushrL q (7 : Int32)) (7 : Int32)) (7 : Int32)) (7 : Int32)) (7 : Int32)) (7 : Int32)).toInt32.toInt8.toInt32))) else if ((own_ushrL (own_ushrL (own_ushrL (own_ushrL (own_ushrL (own_ushrL (own_ushrL q (7 : Int32)) (7 : Int32)) (7 : Int32)) (7 : Int32)) (7 : Int32)) (7 : Int32)) (7 : Int32)) &&& (-128 : Int64)) = (0 : Int64) then ((((((((xs.set (pp).toNatClampNeg (nar .byte (((q &&& (127 : Int64)) ||| (128 : Int64)).toInt32.toInt8.toInt32))).set ((pp + (1 : Int32))).toNatClampNeg (nar .byte ((((own_ushrL q (7 : Int32)) &&& (127 : Int64)) ||| (128 : Int64)).toInt32.toInt8.toInt32))).set (((pp + (1 : Int32)) + (1 : Int32))).toNatClampNeg (nar .byte ((((own_ushrL (own_ushrL q (7 : Int32)) (7 : Int32)) &&& (127 : Int64)) ||| (128 : Int64)).toInt32.toInt8.toInt32))).set ((((pp + (1 : Int32)) + (1 : Int32)) + (1 : Int32))).toNatClampNeg (nar .byte ((((own_ushrL (own_ushrL (own_ushrL q (7 : Int32)) (7 : Int32)) (7 : Int32)) &&& (127 : Int64)) ||| (128 : Int64)).toInt32.toInt8.toInt32))).set (((((pp + (1 : Int32)) + (1 : Int32)) + (1 : Int32)) + (1 : Int32))).toNatClampNeg (nar .byte ((((own_ushrL (own_ushrL (own_ushrL (own_ushrL q (7 : Int32)) (7 : Int32)) (7 : Int32)) (7 : Int32)) &&& (127 : Int64)) ||| (128 : Int64)).toInt32.toInt8.toInt32))).set ((((((pp + (1 : Int32)) + (1 : Int32)) + (1 : Int32)) + (1 : Int32)) + (1 : Int32))).toNatClampNeg (nar .byte ((((own_ushrL (own_ushrL (own_ushrL (own_ushrL (own_ushrL q (7 : Int32)) (7 : Int32)) (7 : Int32)) (7 : Int32)) (7 : Int32)) &&& (127 : Int64)) ||| (128 : Int64)).toInt32.toInt8.toInt32))).set (((((((pp + (1 : Int32)) + (1 : Int32)) + (1 : Int32)) + (1 : Int32)) + (1 : Int32)) + (1 : Int32))).toNatClampNeg (nar .byte ((((own_ushrL (own_ushrL (own_ushrL (own_ushrL (own_ushrL (own_ushrL q (7 : Int32)) (7 : Int32)) (7 : Int32)) (7 : Int32)) (7 : Int32)) (7 : Int32)) &&& (127 : Int64)) ||| (128 : Int64)).toInt32.toInt8.toInt32))).set ((((((((pp + (1 : Int32)) + (1 : Int32)) + (1 : Int32)) + (1 : Int32)) + (1 : Int32)) + (1 : Int32)) + (1 : Int32))).toNatClampNeg (nar .byte ((own_ushrL (own_ushrL (own_ushrL (own_ushrL (own_ushrL (own_ushrL (own_ushrL q (7 : Int32)) (7 : Int32)) (7 : Int32)) (7 : Int32)) (7 : Int32)) (7 : Int32)) (7 : Int32)).toInt32.toInt8.toInt32))) else if ((own_ushrL (own_ushrL (own_ushrL (own_ushrL (own_ushrL (own_ushrL (own_ushrL (own_ushrL q (7 : Int32)) (7 : Int32)) (7 : Int32)) (7 : Int32)) (7 : Int32)) (7 : Int32)) (7 : Int32)) (7 : Int32)) &&& (-128 : Int64)) = (0 : Int64) then (((((((((xs.set (pp).toNatClampNeg (nar .byte (((q &&& (127 : Int64)) ||| (128 : Int64)).toInt32.toInt8.toInt32))).set ((pp + (1 : Int32))).toNatClampNeg (nar .byte ((((own_ushrL q (7 : Int32)) &&& (127 : Int64)) ||| (128 : Int64)).toInt32.toInt8.toInt32))).set (((pp + (1 : Int32)) + (1 : Int32))).toNatClampNeg (nar .byte ((((own_ushrL (own_ushrL q (7 : Int32)) (7 : Int32)) &&& (127 : Int64)) ||| (128 : Int64)).toInt32.toInt8.toInt32))).set ((((pp + (1 : Int32)) + (1 : Int32)) + (1 : Int32))).toNatClampNeg (nar .byte ((((own_ushrL (own_ushrL (own_ushrL q (7 : Int32)) (7 : Int32)) (7 : Int32)) &&& (127 : Int64)) ||| (128 : Int64)).toInt32.toInt8.toInt32))).set (((((pp + (1 : Int32)) + (1 : Int32)) + (1 : Int32)) + (1 : Int32))).toNatClampNeg (nar .byte ((((own_ushrL (own_ushrL (own_ushrL (own_ushrL q (7 : Int32)) (7 : Int32)) (7 : Int32)) (7 : Int32)) &&& (127 : Int64)) ||| (128 : Int64)).toInt32.toInt8.toInt32))).set ((((((pp + (1 : Int32)) + (1 : Int32)) + (1 : Int32)) + (1 : Int32)) + (1 : Int32))).toNatClampNeg (nar .byte ((((own_ushrL (own_ushrL (own_ushrL (own_ushrL (own_ushrL q (7 : Int32)) (7 : Int32)) (7 : Int32)) (7 : Int32)) (7 : Int32)) &&& (127 : Int64)) ||| (128 : Int64)).toInt32.toInt8.toInt32))).set (((((((pp + (1 : Int32)) + (1 : Int32)) + (1 : Int32)) + (1 : Int32)) + (1 : Int32)) + (1 : Int32))).toNatClampNeg (nar .byte ((((own_ushrL (own_ushrL (own_ushrL (own_ushrL (own_ushrL (own_ushrL q (7 : Int32)) (7 : Int32)) (7 : Int32)) (7 : Int32)) (7 : Int32)) (7 : Int32)) &&& (127 : Int64)) ||| (128 : Int64)).toInt32.toInt8.toInt32))).set ((((((((pp + (1 : Int32)) + (1 : Int32)) + (1 : Int32)) + (1 : Int32)) + (1 : Int32)) + (1 : Int32)) + (1 : Int32))).toNatClampNeg (nar .byte ((((own_ushrL (own_ushrL (own_ushrL (own_ushrL (own_ushrL (own_ushrL (own_ushrL q (7 : Int32)) (7 : Int32)) (7 : Int32)) (7 : Int32)) (7 : Int32)) (7 : Int32)) (7 : Int32)) &&& (127 : Int64)) ||| (128 : Int64)).toInt32.toInt8.toInt32))).set (((((((((pp + (1 : Int32)) + (1 : Int32)) + (1 : Int32)) + (1 : Int32)) + (1 : Int32)) + (1 : Int32)) + (1 : Int32)) + (1 : Int32))).toNatClampNeg (nar .byte ((own_ushrL (own_ushrL (own_ushrL (own_ushrL (own_ushrL (own_ushrL (own_ushrL (own_ushrL q (7 : Int32)) (7 : Int32)) (7 : Int32)) (7 : Int32)) (7 : Int32)) (7 : Int32)) (7 : Int32)) (7 : Int32)).toInt32.toInt8.toInt32))) else ((((((((((xs.set (pp).toNatClampNeg (nar .byte (((q &&& (127 : Int64)) ||| (128 : Int64)).toInt32.toInt8.toInt32))).set ((pp + (1 : Int32))).toNatClampNeg (nar .byte ((((own_ushrL q (7 : Int32)) &&& (127 : Int64)) ||| (128 : Int64)).toInt32.toInt8.toInt32))).set (((pp + (1 : Int32)) + (1 : Int32))).toNatClampNeg (nar .byte ((((own_ushrL (own_ushrL q (7 : Int32)) (7 : Int32)) &&& (127 : Int64)) ||| (128 : Int64)).toInt32.toInt8.toInt32))).set ((((pp + (1 : Int32)) + (1 : Int32)) + (1 : Int32))).toNatClampNeg (nar .byte ((((own_ushrL (own_ushrL (own_ushrL q (7 : Int32)) (7 : Int32)) (7 : Int32)) &&& (127 : Int64)) ||| (128 : Int64)).toInt32.toInt8.toInt32))).set (((((pp + (1 : Int32)) + (1 : Int32)) + (1 : Int32)) + (1 : Int32))).toNatClampNeg (nar .byte ((((own_ushrL (own_ushrL (own_ushrL (own_ushrL q (7 : Int32)) (7 : Int32)) (7 : Int32)) (7 : Int32)) &&& (127 : Int64)) ||| (128 : Int64)).toInt32.toInt8.toInt32))).set ((((((pp + (1 : Int32)) + (1 : Int32)) + (1 : Int32)) + (1 : Int32)) + (1 : Int32))).toNatClampNeg (nar .byte ((((own_ushrL (own_ushrL (own_ushrL (own_ushrL (own_ushrL q (7 : Int32)) (7 : Int32)) (7 : Int32)) (7 : Int32)) (7 : Int32)) &&& (127 : Int64)) ||| (128 : Int64)).toInt32.toInt8.toInt32))).set (((((((pp + (1 : Int32)) + (1 : Int32)) + (1 : Int32)) + (1 : Int32)) + (1 : Int32)) + (1 : Int32))).toNatClampNeg (nar .byte ((((own_ushrL (own_ushrL (own_ushrL (own_ushrL (own_ushrL (own_ushrL q (7 : Int32)) (7 : Int32)) (7 : Int32)) (7 : Int32)) (7 : Int32)) (7 : Int32)) &&& (127 : Int64)) ||| (128 : Int64)).toInt32.toInt8.toInt32))).set ((((((((pp + (1 : Int32)) + (1 : Int32)) + (1 : Int32)) + (1 : Int32)) + (1 : Int32)) + (1 : Int32)) + (1 : Int32))).toNatClampNeg (nar .byte ((((own_ushrL (own_ushrL (own_ushrL (own_ushrL (own_ushrL (own_ushrL (own_ushrL q (7 : Int32)) (7 : Int32)) (7 : Int32)) (7 : Int32)) (7 : Int32)) (7 : Int32)) (7 : Int32)) &&& (127 : Int64)) ||| (128 : Int64)).toInt32.toInt8.toInt32))).set (((((((((pp + (1 : Int32)) + (1 : Int32)) + (1 : Int32)) + (1 : Int32)) + (1 : Int32)) + (1 : Int32)) + (1 : Int32)) + (1 : Int32))).toNatClampNeg (nar .byte ((((own_ushrL (own_ushrL (own_ushrL (own_ushrL (own_ushrL (own_ushrL (own_ushrL (own_ushrL q (7 : Int32)) (7 : Int32)) (7 : Int32)) (7 : Int32)) (7 : Int32)) (7 : Int32)) (7 : Int32)) (7 : Int32)) &&& (127 : Int64)) ||| (128 : Int64)).toInt32.toInt8.toInt32))).set ((((((((((pp + (1 : Int32)) + (1 : Int32)) + (1 : Int32)) + (1 : Int32)) + (1 : Int32)) + (1 : Int32)) + (1 : Int32)) + (1 : Int32)) + (1 : Int32))).toNatClampNeg (nar .byte ((own_ushrL (own_ushrL (own_ushrL (own_ushrL (own_ushrL (own_ushrL (own_ushrL (own_ushrL (own_ushrL q (7 : Int32)) (7 : Int32)) (7 : Int32)) (7 : Int32)) (7 : Int32)) (7 : Int32)) (7 : Int32)) (7 : Int32)) (7 : Int32)).toInt32.toInt8.toInt32)))
def own_n (q : Int64) : Int32 := ((((((((((1 : Int32) + (own_pi (¬ ((own_ushrL q (7 : Int32)) = (0 : Int64))))) + (own_pi (¬ ((own_ushrL q (14 : Int32)) = (0 : Int64))))) + (own_pi (¬ ((own_ushrL q (21 : Int32)) = (0 : Int64))))) + (own_pi (¬ ((own_ushrL q (28 : Int32)) = (0 : Int64))))) + (own_pi (¬ ((own_ushrL q (35 : Int32)) = (0 : Int64))))) + (own_pi (¬ ((own_ushrL q (42 : Int32)) = (0 : Int64))))) + (own_pi (¬ ((own_ushrL q (49 : Int32)) = (0 : Int64))))) + (own_pi (¬ ((own_ushrL q (56 : Int32)) = (0 : Int64))))) + (own_pi (¬ ((own_ushrL q (63 : Int32)) = (0 : Int64)))))
def own_ei (i pn : Int32) (q : Int64) (s : Int32) : Int32 := if i < (0 : Int32) then s else if i < pn then (if i < (pn - (1 : Int32)) then (((own_ushrL q ((7 : Int32) * i)) ||| (128 : Int64)).toInt32.toInt8.toInt32) else ((own_ushrL q ((7 : Int32) * i)).toInt32.toInt8.toInt32)) else s
def own_v (r : Int64) (s : Int32) : Int64 := own_ushrL r (s &&& (63 : Int32))
def own_fl (f : Int32) : List Int32 := [(nar .byte f), (nar .byte f), (nar .byte f), (nar .byte f), (nar .byte f), (nar .byte f), (nar .byte f), (nar .byte f), (nar .byte f), (nar .byte f), (nar .byte f), (nar .byte f), (nar .byte f), (nar .byte f)]
theorem own_lam {Z s : State} {a0 : Array Value} {x : MethodName} {pc index : Nat} {σ : Lambda.Shape} {m : MethodId} (hcap : σ.captured = []) (hZ : Z.Warmed39 s.vm) (w : (Cond.lambdaSite x pc index σ).before a0 Z = true) (hn : s.methodNamed? x = some m) :
    ∃ (k : Class) (i0 p0 : Nat) (a : Addr), s.vm.classes[m.cls]? = some k ∧ (k.callSites.find? fun y => y.1 == m.idx && y.2.1 == pc) = some (i0, p0, .constant a) := by
  obtain ⟨cK, one, hat⟩ := Cond.lambdaSite_spec (args := a0) (first := Z) (o := none) (s := Z) (idx := []) w
  obtain ⟨m', kS, cfS, i0, p0, lk, hm', hkS, -, -, -, hfind, -, -, hlk⟩ := State.lambdaAt?_spec hat
  have hmm : Z.methodNamed? x = some m := by
    have := State.methodNamed?_setVm (s := Z) hZ.alike x
    rw [← this]; exact hn
  cases hm'.symm.trans hmm
  rcases hlk with ⟨a, cell, h1, -⟩ | ⟨-, -, h3⟩
  · obtain ⟨k', hk', he⟩ := hZ.alike.2.2 _ _ hkS
    refine ⟨k', i0, p0, a, hk', ?_⟩
    rw [he, ← h1]; exact hfind
  · exact absurd hcap h3
theorem own_at4 (p : Int32) : p &&& (3 : Int32) = 0 ∨ p &&& (3 : Int32) = 1 ∨ p &&& (3 : Int32) = 2 ∨ p &&& (3 : Int32) = 3 := by
  have e := c_mask p 3 2 (by decide) (by decide)
  have a0 : (0 : Int32).toInt = 0 := rfl
  have a1 : (1 : Int32).toInt = 1 := rfl
  have a2 : (2 : Int32).toInt = 2 := rfl
  have a3 : (3 : Int32).toInt = 3 := rfl
  simp only [← Int32.toInt_inj, a0, a1, a2, a3]
  omega
theorem own_m128 : ∀ i : Fin 64, (0xffffffffffffff80#64).getLsbD i.val = decide (7 ≤ i.val) := by decide +kernel
theorem own_and128 (x : Int64) : (x &&& (-128 : Int64)).toBitVec = (x.toBitVec >>> 7) <<< 7 := by
  apply BitVec.eq_of_getLsbD_eq
  intro i hi
  have m := own_m128 ⟨i, hi⟩
  rw [Int64.toBitVec_and, BitVec.getLsbD_and, BitVec.getLsbD_shiftLeft, BitVec.getLsbD_ushiftRight]
  rw [show (-128 : Int64).toBitVec = 0xffffffffffffff80#64 from rfl, m]
  by_cases h : 7 ≤ i
  · have : 7 + (i - 7) = i := by omega
    simp [h, hi, this, Nat.not_lt.mpr h]
  · simp [h, hi, Nat.lt_of_not_le h]
theorem own_nat (x : Int64) : x.toInt % 18446744073709551616 = (x.toBitVec.toNat : Int) := by
  rw [show x.toInt = x.toBitVec.toInt from rfl, BitVec.toInt_eq_toNat_bmod]
  have := x.toBitVec.isLt
  have q := bm64 (x.toBitVec.toNat : Int)
  omega
theorem own_c (x : Int64) : ((x &&& (-128 : Int64)) = (0 : Int64)) ↔ x.toInt % 18446744073709551616 < 128 := by
  have hb := own_and128 x
  have hn : ((x.toBitVec >>> 7) <<< 7).toNat = (x.toBitVec.toNat / 128) * 128 := by
    rw [BitVec.toNat_shiftLeft, BitVec.toNat_ushiftRight, Nat.shiftLeft_eq, Nat.shiftRight_eq_div_pow]
    have := x.toBitVec.isLt
    omega
  rw [← Int64.toBitVec_inj, hb, ← BitVec.toNat_inj, hn, own_nat]
  show _ = 0 ↔ _
  omega
theorem own_us (y : Int64) (s : Int32) (k : Nat) (hk : s.toBitVec.toNat % 64 = k) (h0 : 0 < k) : (own_ushrL y s).toInt = (y.toInt % 18446744073709551616) / (2 ^ k : Nat) := c_lushr y s k hk h0
theorem own_us0 (y : Int64) : own_ushrL y ((7 : Int32) * (0 : Int32)) = y := by
  have e : (((7 : Int32) * (0 : Int32)) &&& 0x3f).toInt64.toUInt64 = 0 := by decide
  unfold own_ushrL; rw [e]; simp
theorem own_sh (y : Int64) : (own_ushrL y (7 : Int32)).toInt = (y.toInt % 18446744073709551616) / 128 := own_us y 7 7 (by decide) (by decide)
theorem own_sh9 (q : Int64) : ((own_ushrL (own_ushrL (own_ushrL (own_ushrL (own_ushrL (own_ushrL (own_ushrL (own_ushrL (own_ushrL q (7 : Int32)) (7 : Int32)) (7 : Int32)) (7 : Int32)) (7 : Int32)) (7 : Int32)) (7 : Int32)) (7 : Int32)) (7 : Int32)) &&& (-128 : Int64)) = (0 : Int64) := by
  rw [own_c, own_sh, own_sh, own_sh, own_sh, own_sh, own_sh, own_sh, own_sh, own_sh]; omega
theorem own_eq0 (q : Int64) : own_ushrL q ((7 : Int32) * (0 : Int32)) = q := own_us0 q
theorem own_eq1 (q : Int64) : own_ushrL q ((7 : Int32) * (1 : Int32)) = (own_ushrL q (7 : Int32)) := by
  apply Int64.toInt_inj.mp
  rw [own_us _ _ 7 (by decide) (by decide), own_sh]; omega
theorem own_nz1 (q : Int64) : (own_ushrL q (7 : Int32) = (0 : Int64)) ↔ q.toInt % 18446744073709551616 < 128 := by
  have z : (0 : Int64).toInt = 0 := rfl
  rw [← Int64.toInt_inj, z, own_us _ _ 7 (by decide) (by decide)]; omega
theorem own_cs0 (q : Int64) : ((q &&& (-128 : Int64)) = (0 : Int64)) ↔ q.toInt % 18446744073709551616 < 128 := by
  rw [own_c]
theorem own_eq2 (q : Int64) : own_ushrL q ((7 : Int32) * (2 : Int32)) = (own_ushrL (own_ushrL q (7 : Int32)) (7 : Int32)) := by
  apply Int64.toInt_inj.mp
  rw [own_us _ _ 14 (by decide) (by decide), own_sh, own_sh]; omega
theorem own_nz2 (q : Int64) : (own_ushrL q (14 : Int32) = (0 : Int64)) ↔ q.toInt % 18446744073709551616 < 16384 := by
  have z : (0 : Int64).toInt = 0 := rfl
  rw [← Int64.toInt_inj, z, own_us _ _ 14 (by decide) (by decide)]; omega
theorem own_cs1 (q : Int64) : (((own_ushrL q (7 : Int32)) &&& (-128 : Int64)) = (0 : Int64)) ↔ q.toInt % 18446744073709551616 < 16384 := by
  rw [own_c, own_sh]; omega
theorem own_eq3 (q : Int64) : own_ushrL q ((7 : Int32) * (3 : Int32)) = (own_ushrL (own_ushrL (own_ushrL q (7 : Int32)) (7 : Int32)) (7 : Int32)) := by
  apply Int64.toInt_inj.mp
  rw [own_us _ _ 21 (by decide) (by decide), own_sh, own_sh, own_sh]; omega
theorem own_nz3 (q : Int64) : (own_ushrL q (21 : Int32) = (0 : Int64)) ↔ q.toInt % 18446744073709551616 < 2097152 := by
  have z : (0 : Int64).toInt = 0 := rfl
  rw [← Int64.toInt_inj, z, own_us _ _ 21 (by decide) (by decide)]; omega
theorem own_cs2 (q : Int64) : (((own_ushrL (own_ushrL q (7 : Int32)) (7 : Int32)) &&& (-128 : Int64)) = (0 : Int64)) ↔ q.toInt % 18446744073709551616 < 2097152 := by
  rw [own_c, own_sh, own_sh]; omega
theorem own_eq4 (q : Int64) : own_ushrL q ((7 : Int32) * (4 : Int32)) = (own_ushrL (own_ushrL (own_ushrL (own_ushrL q (7 : Int32)) (7 : Int32)) (7 : Int32)) (7 : Int32)) := by
  apply Int64.toInt_inj.mp
  rw [own_us _ _ 28 (by decide) (by decide), own_sh, own_sh, own_sh, own_sh]; omega
theorem own_nz4 (q : Int64) : (own_ushrL q (28 : Int32) = (0 : Int64)) ↔ q.toInt % 18446744073709551616 < 268435456 := by
  have z : (0 : Int64).toInt = 0 := rfl
  rw [← Int64.toInt_inj, z, own_us _ _ 28 (by decide) (by decide)]; omega
theorem own_cs3 (q : Int64) : (((own_ushrL (own_ushrL (own_ushrL q (7 : Int32)) (7 : Int32)) (7 : Int32)) &&& (-128 : Int64)) = (0 : Int64)) ↔ q.toInt % 18446744073709551616 < 268435456 := by
  rw [own_c, own_sh, own_sh, own_sh]; omega
theorem own_eq5 (q : Int64) : own_ushrL q ((7 : Int32) * (5 : Int32)) = (own_ushrL (own_ushrL (own_ushrL (own_ushrL (own_ushrL q (7 : Int32)) (7 : Int32)) (7 : Int32)) (7 : Int32)) (7 : Int32)) := by
  apply Int64.toInt_inj.mp
  rw [own_us _ _ 35 (by decide) (by decide), own_sh, own_sh, own_sh, own_sh, own_sh]; omega
theorem own_nz5 (q : Int64) : (own_ushrL q (35 : Int32) = (0 : Int64)) ↔ q.toInt % 18446744073709551616 < 34359738368 := by
  have z : (0 : Int64).toInt = 0 := rfl
  rw [← Int64.toInt_inj, z, own_us _ _ 35 (by decide) (by decide)]; omega
theorem own_cs4 (q : Int64) : (((own_ushrL (own_ushrL (own_ushrL (own_ushrL q (7 : Int32)) (7 : Int32)) (7 : Int32)) (7 : Int32)) &&& (-128 : Int64)) = (0 : Int64)) ↔ q.toInt % 18446744073709551616 < 34359738368 := by
  rw [own_c, own_sh, own_sh, own_sh, own_sh]; omega
theorem own_eq6 (q : Int64) : own_ushrL q ((7 : Int32) * (6 : Int32)) = (own_ushrL (own_ushrL (own_ushrL (own_ushrL (own_ushrL (own_ushrL q (7 : Int32)) (7 : Int32)) (7 : Int32)) (7 : Int32)) (7 : Int32)) (7 : Int32)) := by
  apply Int64.toInt_inj.mp
  rw [own_us _ _ 42 (by decide) (by decide), own_sh, own_sh, own_sh, own_sh, own_sh, own_sh]; omega
theorem own_nz6 (q : Int64) : (own_ushrL q (42 : Int32) = (0 : Int64)) ↔ q.toInt % 18446744073709551616 < 4398046511104 := by
  have z : (0 : Int64).toInt = 0 := rfl
  rw [← Int64.toInt_inj, z, own_us _ _ 42 (by decide) (by decide)]; omega
theorem own_cs5 (q : Int64) : (((own_ushrL (own_ushrL (own_ushrL (own_ushrL (own_ushrL q (7 : Int32)) (7 : Int32)) (7 : Int32)) (7 : Int32)) (7 : Int32)) &&& (-128 : Int64)) = (0 : Int64)) ↔ q.toInt % 18446744073709551616 < 4398046511104 := by
  rw [own_c, own_sh, own_sh, own_sh, own_sh, own_sh]; omega
theorem own_eq7 (q : Int64) : own_ushrL q ((7 : Int32) * (7 : Int32)) = (own_ushrL (own_ushrL (own_ushrL (own_ushrL (own_ushrL (own_ushrL (own_ushrL q (7 : Int32)) (7 : Int32)) (7 : Int32)) (7 : Int32)) (7 : Int32)) (7 : Int32)) (7 : Int32)) := by
  apply Int64.toInt_inj.mp
  rw [own_us _ _ 49 (by decide) (by decide), own_sh, own_sh, own_sh, own_sh, own_sh, own_sh, own_sh]; omega
theorem own_nz7 (q : Int64) : (own_ushrL q (49 : Int32) = (0 : Int64)) ↔ q.toInt % 18446744073709551616 < 562949953421312 := by
  have z : (0 : Int64).toInt = 0 := rfl
  rw [← Int64.toInt_inj, z, own_us _ _ 49 (by decide) (by decide)]; omega
theorem own_cs6 (q : Int64) : (((own_ushrL (own_ushrL (own_ushrL (own_ushrL (own_ushrL (own_ushrL q (7 : Int32)) (7 : Int32)) (7 : Int32)) (7 : Int32)) (7 : Int32)) (7 : Int32)) &&& (-128 : Int64)) = (0 : Int64)) ↔ q.toInt % 18446744073709551616 < 562949953421312 := by
  rw [own_c, own_sh, own_sh, own_sh, own_sh, own_sh, own_sh]; omega
theorem own_eq8 (q : Int64) : own_ushrL q ((7 : Int32) * (8 : Int32)) = (own_ushrL (own_ushrL (own_ushrL (own_ushrL (own_ushrL (own_ushrL (own_ushrL (own_ushrL q (7 : Int32)) (7 : Int32)) (7 : Int32)) (7 : Int32)) (7 : Int32)) (7 : Int32)) (7 : Int32)) (7 : Int32)) := by
  apply Int64.toInt_inj.mp
  rw [own_us _ _ 56 (by decide) (by decide), own_sh, own_sh, own_sh, own_sh, own_sh, own_sh, own_sh, own_sh]; omega
theorem own_nz8 (q : Int64) : (own_ushrL q (56 : Int32) = (0 : Int64)) ↔ q.toInt % 18446744073709551616 < 72057594037927936 := by
  have z : (0 : Int64).toInt = 0 := rfl
  rw [← Int64.toInt_inj, z, own_us _ _ 56 (by decide) (by decide)]; omega
theorem own_cs7 (q : Int64) : (((own_ushrL (own_ushrL (own_ushrL (own_ushrL (own_ushrL (own_ushrL (own_ushrL q (7 : Int32)) (7 : Int32)) (7 : Int32)) (7 : Int32)) (7 : Int32)) (7 : Int32)) (7 : Int32)) &&& (-128 : Int64)) = (0 : Int64)) ↔ q.toInt % 18446744073709551616 < 72057594037927936 := by
  rw [own_c, own_sh, own_sh, own_sh, own_sh, own_sh, own_sh, own_sh]; omega
theorem own_eq9 (q : Int64) : own_ushrL q ((7 : Int32) * (9 : Int32)) = (own_ushrL (own_ushrL (own_ushrL (own_ushrL (own_ushrL (own_ushrL (own_ushrL (own_ushrL (own_ushrL q (7 : Int32)) (7 : Int32)) (7 : Int32)) (7 : Int32)) (7 : Int32)) (7 : Int32)) (7 : Int32)) (7 : Int32)) (7 : Int32)) := by
  apply Int64.toInt_inj.mp
  rw [own_us _ _ 63 (by decide) (by decide), own_sh, own_sh, own_sh, own_sh, own_sh, own_sh, own_sh, own_sh, own_sh]; omega
theorem own_nz9 (q : Int64) : (own_ushrL q (63 : Int32) = (0 : Int64)) ↔ q.toInt % 18446744073709551616 < 9223372036854775808 := by
  have z : (0 : Int64).toInt = 0 := rfl
  rw [← Int64.toInt_inj, z, own_us _ _ 63 (by decide) (by decide)]; omega
theorem own_cs8 (q : Int64) : (((own_ushrL (own_ushrL (own_ushrL (own_ushrL (own_ushrL (own_ushrL (own_ushrL (own_ushrL q (7 : Int32)) (7 : Int32)) (7 : Int32)) (7 : Int32)) (7 : Int32)) (7 : Int32)) (7 : Int32)) (7 : Int32)) &&& (-128 : Int64)) = (0 : Int64)) ↔ q.toInt % 18446744073709551616 < 9223372036854775808 := by
  rw [own_c, own_sh, own_sh, own_sh, own_sh, own_sh, own_sh, own_sh, own_sh]; omega
theorem own_b7 : ∀ i : Fin 8, (127#64).getLsbD i.val = decide (i.val < 7) ∧ (128#64).getLsbD i.val = decide (¬ i.val < 7) := by decide +kernel
theorem own_t8 (x : Int64) (i : Nat) (hi : i < 8) : (x.toInt32.toInt8).toBitVec.getLsbD i = x.toBitVec.getLsbD i := by
  rw [show (x.toInt32.toInt8).toBitVec = (x.toBitVec.signExtend 32).signExtend 8 from rfl]
  rw [BitVec.getLsbD_signExtend, BitVec.getLsbD_signExtend]
  simp [hi, show i < 32 by omega, show i < 64 by omega]
theorem own_low8 (x : Int64) : ((x &&& (127 : Int64)) ||| (128 : Int64)).toInt32.toInt8 = (x ||| (128 : Int64)).toInt32.toInt8 := by
  apply Int8.toBitVec_inj.mp
  apply BitVec.eq_of_getLsbD_eq
  intro i hi
  rw [own_t8 _ i hi, own_t8 _ i hi]
  have m := own_b7 ⟨i, hi⟩
  simp only [Int64.toBitVec_or, Int64.toBitVec_and, BitVec.getLsbD_or, BitVec.getLsbD_and]
  rw [show (127 : Int64).toBitVec = 127#64 from rfl, show (128 : Int64).toBitVec = 128#64 from rfl, m.1, m.2]
  by_cases h : i < 7 <;> simp [h]
theorem own_idem (z : Int32) : nar .byte (z.toInt8.toInt32) = z.toInt8.toInt32 := by
  show (z.toInt8.toInt32).toInt8.toInt32 = _
  rw [Int8.toInt8_toInt32]
theorem own_tab (q : Int64) : (own_n q = (1 : Int32) ∧ (q &&& (-128 : Int64)) = (0 : Int64)) ∨ (own_n q = (2 : Int32) ∧ ¬ ((q &&& (-128 : Int64)) = (0 : Int64)) ∧ ((own_ushrL q (7 : Int32)) &&& (-128 : Int64)) = (0 : Int64)) ∨ (own_n q = (3 : Int32) ∧ ¬ ((q &&& (-128 : Int64)) = (0 : Int64)) ∧ ¬ (((own_ushrL q (7 : Int32)) &&& (-128 : Int64)) = (0 : Int64)) ∧ ((own_ushrL (own_ushrL q (7 : Int32)) (7 : Int32)) &&& (-128 : Int64)) = (0 : Int64)) ∨ (own_n q = (4 : Int32) ∧ ¬ ((q &&& (-128 : Int64)) = (0 : Int64)) ∧ ¬ (((own_ushrL q (7 : Int32)) &&& (-128 : Int64)) = (0 : Int64)) ∧ ¬ (((own_ushrL (own_ushrL q (7 : Int32)) (7 : Int32)) &&& (-128 : Int64)) = (0 : Int64)) ∧ ((own_ushrL (own_ushrL (own_ushrL q (7 : Int32)) (7 : Int32)) (7 : Int32)) &&& (-128 : Int64)) = (0 : Int64)) ∨ (own_n q = (5 : Int32) ∧ ¬ ((q &&& (-128 : Int64)) = (0 : Int64)) ∧ ¬ (((own_ushrL q (7 : Int32)) &&& (-128 : Int64)) = (0 : Int64)) ∧ ¬ (((own_ushrL (own_ushrL q (7 : Int32)) (7 : Int32)) &&& (-128 : Int64)) = (0 : Int64)) ∧ ¬ (((own_ushrL (own_ushrL (own_ushrL q (7 : Int32)) (7 : Int32)) (7 : Int32)) &&& (-128 : Int64)) = (0 : Int64)) ∧ ((own_ushrL (own_ushrL (own_ushrL (own_ushrL q (7 : Int32)) (7 : Int32)) (7 : Int32)) (7 : Int32)) &&& (-128 : Int64)) = (0 : Int64)) ∨ (own_n q = (6 : Int32) ∧ ¬ ((q &&& (-128 : Int64)) = (0 : Int64)) ∧ ¬ (((own_ushrL q (7 : Int32)) &&& (-128 : Int64)) = (0 : Int64)) ∧ ¬ (((own_ushrL (own_ushrL q (7 : Int32)) (7 : Int32)) &&& (-128 : Int64)) = (0 : Int64)) ∧ ¬ (((own_ushrL (own_ushrL (own_ushrL q (7 : Int32)) (7 : Int32)) (7 : Int32)) &&& (-128 : Int64)) = (0 : Int64)) ∧ ¬ (((own_ushrL (own_ushrL (own_ushrL (own_ushrL q (7 : Int32)) (7 : Int32)) (7 : Int32)) (7 : Int32)) &&& (-128 : Int64)) = (0 : Int64)) ∧ ((own_ushrL (own_ushrL (own_ushrL (own_ushrL (own_ushrL q (7 : Int32)) (7 : Int32)) (7 : Int32)) (7 : Int32)) (7 : Int32)) &&& (-128 : Int64)) = (0 : Int64)) ∨ (own_n q = (7 : Int32) ∧ ¬ ((q &&& (-128 : Int64)) = (0 : Int64)) ∧ ¬ (((own_ushrL q (7 : Int32)) &&& (-128 : Int64)) = (0 : Int64)) ∧ ¬ (((own_ushrL (own_ushrL q (7 : Int32)) (7 : Int32)) &&& (-128 : Int64)) = (0 : Int64)) ∧ ¬ (((own_ushrL (own_ushrL (own_ushrL q (7 : Int32)) (7 : Int32)) (7 : Int32)) &&& (-128 : Int64)) = (0 : Int64)) ∧ ¬ (((own_ushrL (own_ushrL (own_ushrL (own_ushrL q (7 : Int32)) (7 : Int32)) (7 : Int32)) (7 : Int32)) &&& (-128 : Int64)) = (0 : Int64)) ∧ ¬ (((own_ushrL (own_ushrL (own_ushrL (own_ushrL (own_ushrL q (7 : Int32)) (7 : Int32)) (7 : Int32)) (7 : Int32)) (7 : Int32)) &&& (-128 : Int64)) = (0 : Int64)) ∧ ((own_ushrL (own_ushrL (own_ushrL (own_ushrL (own_ushrL (own_ushrL q (7 : Int32)) (7 : Int32)) (7 : Int32)) (7 : Int32)) (7 : Int32)) (7 : Int32)) &&& (-128 : Int64)) = (0 : Int64)) ∨ (own_n q = (8 : Int32) ∧ ¬ ((q &&& (-128 : Int64)) = (0 : Int64)) ∧ ¬ (((own_ushrL q (7 : Int32)) &&& (-128 : Int64)) = (0 : Int64)) ∧ ¬ (((own_ushrL (own_ushrL q (7 : Int32)) (7 : Int32)) &&& (-128 : Int64)) = (0 : Int64)) ∧ ¬ (((own_ushrL (own_ushrL (own_ushrL q (7 : Int32)) (7 : Int32)) (7 : Int32)) &&& (-128 : Int64)) = (0 : Int64)) ∧ ¬ (((own_ushrL (own_ushrL (own_ushrL (own_ushrL q (7 : Int32)) (7 : Int32)) (7 : Int32)) (7 : Int32)) &&& (-128 : Int64)) = (0 : Int64)) ∧ ¬ (((own_ushrL (own_ushrL (own_ushrL (own_ushrL (own_ushrL q (7 : Int32)) (7 : Int32)) (7 : Int32)) (7 : Int32)) (7 : Int32)) &&& (-128 : Int64)) = (0 : Int64)) ∧ ¬ (((own_ushrL (own_ushrL (own_ushrL (own_ushrL (own_ushrL (own_ushrL q (7 : Int32)) (7 : Int32)) (7 : Int32)) (7 : Int32)) (7 : Int32)) (7 : Int32)) &&& (-128 : Int64)) = (0 : Int64)) ∧ ((own_ushrL (own_ushrL (own_ushrL (own_ushrL (own_ushrL (own_ushrL (own_ushrL q (7 : Int32)) (7 : Int32)) (7 : Int32)) (7 : Int32)) (7 : Int32)) (7 : Int32)) (7 : Int32)) &&& (-128 : Int64)) = (0 : Int64)) ∨ (own_n q = (9 : Int32) ∧ ¬ ((q &&& (-128 : Int64)) = (0 : Int64)) ∧ ¬ (((own_ushrL q (7 : Int32)) &&& (-128 : Int64)) = (0 : Int64)) ∧ ¬ (((own_ushrL (own_ushrL q (7 : Int32)) (7 : Int32)) &&& (-128 : Int64)) = (0 : Int64)) ∧ ¬ (((own_ushrL (own_ushrL (own_ushrL q (7 : Int32)) (7 : Int32)) (7 : Int32)) &&& (-128 : Int64)) = (0 : Int64)) ∧ ¬ (((own_ushrL (own_ushrL (own_ushrL (own_ushrL q (7 : Int32)) (7 : Int32)) (7 : Int32)) (7 : Int32)) &&& (-128 : Int64)) = (0 : Int64)) ∧ ¬ (((own_ushrL (own_ushrL (own_ushrL (own_ushrL (own_ushrL q (7 : Int32)) (7 : Int32)) (7 : Int32)) (7 : Int32)) (7 : Int32)) &&& (-128 : Int64)) = (0 : Int64)) ∧ ¬ (((own_ushrL (own_ushrL (own_ushrL (own_ushrL (own_ushrL (own_ushrL q (7 : Int32)) (7 : Int32)) (7 : Int32)) (7 : Int32)) (7 : Int32)) (7 : Int32)) &&& (-128 : Int64)) = (0 : Int64)) ∧ ¬ (((own_ushrL (own_ushrL (own_ushrL (own_ushrL (own_ushrL (own_ushrL (own_ushrL q (7 : Int32)) (7 : Int32)) (7 : Int32)) (7 : Int32)) (7 : Int32)) (7 : Int32)) (7 : Int32)) &&& (-128 : Int64)) = (0 : Int64)) ∧ ((own_ushrL (own_ushrL (own_ushrL (own_ushrL (own_ushrL (own_ushrL (own_ushrL (own_ushrL q (7 : Int32)) (7 : Int32)) (7 : Int32)) (7 : Int32)) (7 : Int32)) (7 : Int32)) (7 : Int32)) (7 : Int32)) &&& (-128 : Int64)) = (0 : Int64)) ∨ (own_n q = (10 : Int32) ∧ ¬ ((q &&& (-128 : Int64)) = (0 : Int64)) ∧ ¬ (((own_ushrL q (7 : Int32)) &&& (-128 : Int64)) = (0 : Int64)) ∧ ¬ (((own_ushrL (own_ushrL q (7 : Int32)) (7 : Int32)) &&& (-128 : Int64)) = (0 : Int64)) ∧ ¬ (((own_ushrL (own_ushrL (own_ushrL q (7 : Int32)) (7 : Int32)) (7 : Int32)) &&& (-128 : Int64)) = (0 : Int64)) ∧ ¬ (((own_ushrL (own_ushrL (own_ushrL (own_ushrL q (7 : Int32)) (7 : Int32)) (7 : Int32)) (7 : Int32)) &&& (-128 : Int64)) = (0 : Int64)) ∧ ¬ (((own_ushrL (own_ushrL (own_ushrL (own_ushrL (own_ushrL q (7 : Int32)) (7 : Int32)) (7 : Int32)) (7 : Int32)) (7 : Int32)) &&& (-128 : Int64)) = (0 : Int64)) ∧ ¬ (((own_ushrL (own_ushrL (own_ushrL (own_ushrL (own_ushrL (own_ushrL q (7 : Int32)) (7 : Int32)) (7 : Int32)) (7 : Int32)) (7 : Int32)) (7 : Int32)) &&& (-128 : Int64)) = (0 : Int64)) ∧ ¬ (((own_ushrL (own_ushrL (own_ushrL (own_ushrL (own_ushrL (own_ushrL (own_ushrL q (7 : Int32)) (7 : Int32)) (7 : Int32)) (7 : Int32)) (7 : Int32)) (7 : Int32)) (7 : Int32)) &&& (-128 : Int64)) = (0 : Int64)) ∧ ¬ (((own_ushrL (own_ushrL (own_ushrL (own_ushrL (own_ushrL (own_ushrL (own_ushrL (own_ushrL q (7 : Int32)) (7 : Int32)) (7 : Int32)) (7 : Int32)) (7 : Int32)) (7 : Int32)) (7 : Int32)) (7 : Int32)) &&& (-128 : Int64)) = (0 : Int64))) := by
  simp only [own_cs8 q, own_cs7 q, own_cs6 q, own_cs5 q, own_cs4 q, own_cs3 q, own_cs2 q, own_cs1 q, own_cs0 q]
  by_cases h : q.toInt % 18446744073709551616 < 128
  · exact Or.inl ⟨by unfold own_n; rw [own_pi_nt ((own_nz1 q).mpr (by omega)), own_pi_nt ((own_nz2 q).mpr (by omega)), own_pi_nt ((own_nz3 q).mpr (by omega)), own_pi_nt ((own_nz4 q).mpr (by omega)), own_pi_nt ((own_nz5 q).mpr (by omega)), own_pi_nt ((own_nz6 q).mpr (by omega)), own_pi_nt ((own_nz7 q).mpr (by omega)), own_pi_nt ((own_nz8 q).mpr (by omega)), own_pi_nt ((own_nz9 q).mpr (by omega))]; decide, h⟩
  by_cases h1 : q.toInt % 18446744073709551616 < 16384
  · exact Or.inr (Or.inl (⟨by unfold own_n; rw [own_pi_nf (fun z => absurd ((own_nz1 q).mp z) (by omega)), own_pi_nt ((own_nz2 q).mpr (by omega)), own_pi_nt ((own_nz3 q).mpr (by omega)), own_pi_nt ((own_nz4 q).mpr (by omega)), own_pi_nt ((own_nz5 q).mpr (by omega)), own_pi_nt ((own_nz6 q).mpr (by omega)), own_pi_nt ((own_nz7 q).mpr (by omega)), own_pi_nt ((own_nz8 q).mpr (by omega)), own_pi_nt ((own_nz9 q).mpr (by omega))]; decide, by omega, by omega⟩))
  by_cases h2 : q.toInt % 18446744073709551616 < 2097152
  · exact Or.inr (Or.inr (Or.inl (⟨by unfold own_n; rw [own_pi_nf (fun z => absurd ((own_nz1 q).mp z) (by omega)), own_pi_nf (fun z => absurd ((own_nz2 q).mp z) (by omega)), own_pi_nt ((own_nz3 q).mpr (by omega)), own_pi_nt ((own_nz4 q).mpr (by omega)), own_pi_nt ((own_nz5 q).mpr (by omega)), own_pi_nt ((own_nz6 q).mpr (by omega)), own_pi_nt ((own_nz7 q).mpr (by omega)), own_pi_nt ((own_nz8 q).mpr (by omega)), own_pi_nt ((own_nz9 q).mpr (by omega))]; decide, by omega, by omega, by omega⟩)))
  by_cases h3 : q.toInt % 18446744073709551616 < 268435456
  · exact Or.inr (Or.inr (Or.inr (Or.inl (⟨by unfold own_n; rw [own_pi_nf (fun z => absurd ((own_nz1 q).mp z) (by omega)), own_pi_nf (fun z => absurd ((own_nz2 q).mp z) (by omega)), own_pi_nf (fun z => absurd ((own_nz3 q).mp z) (by omega)), own_pi_nt ((own_nz4 q).mpr (by omega)), own_pi_nt ((own_nz5 q).mpr (by omega)), own_pi_nt ((own_nz6 q).mpr (by omega)), own_pi_nt ((own_nz7 q).mpr (by omega)), own_pi_nt ((own_nz8 q).mpr (by omega)), own_pi_nt ((own_nz9 q).mpr (by omega))]; decide, by omega, by omega, by omega, by omega⟩))))
  by_cases h4 : q.toInt % 18446744073709551616 < 34359738368
  · exact Or.inr (Or.inr (Or.inr (Or.inr (Or.inl (⟨by unfold own_n; rw [own_pi_nf (fun z => absurd ((own_nz1 q).mp z) (by omega)), own_pi_nf (fun z => absurd ((own_nz2 q).mp z) (by omega)), own_pi_nf (fun z => absurd ((own_nz3 q).mp z) (by omega)), own_pi_nf (fun z => absurd ((own_nz4 q).mp z) (by omega)), own_pi_nt ((own_nz5 q).mpr (by omega)), own_pi_nt ((own_nz6 q).mpr (by omega)), own_pi_nt ((own_nz7 q).mpr (by omega)), own_pi_nt ((own_nz8 q).mpr (by omega)), own_pi_nt ((own_nz9 q).mpr (by omega))]; decide, by omega, by omega, by omega, by omega, by omega⟩)))))
  by_cases h5 : q.toInt % 18446744073709551616 < 4398046511104
  · exact Or.inr (Or.inr (Or.inr (Or.inr (Or.inr (Or.inl (⟨by unfold own_n; rw [own_pi_nf (fun z => absurd ((own_nz1 q).mp z) (by omega)), own_pi_nf (fun z => absurd ((own_nz2 q).mp z) (by omega)), own_pi_nf (fun z => absurd ((own_nz3 q).mp z) (by omega)), own_pi_nf (fun z => absurd ((own_nz4 q).mp z) (by omega)), own_pi_nf (fun z => absurd ((own_nz5 q).mp z) (by omega)), own_pi_nt ((own_nz6 q).mpr (by omega)), own_pi_nt ((own_nz7 q).mpr (by omega)), own_pi_nt ((own_nz8 q).mpr (by omega)), own_pi_nt ((own_nz9 q).mpr (by omega))]; decide, by omega, by omega, by omega, by omega, by omega, by omega⟩))))))
  by_cases h6 : q.toInt % 18446744073709551616 < 562949953421312
  · exact Or.inr (Or.inr (Or.inr (Or.inr (Or.inr (Or.inr (Or.inl (⟨by unfold own_n; rw [own_pi_nf (fun z => absurd ((own_nz1 q).mp z) (by omega)), own_pi_nf (fun z => absurd ((own_nz2 q).mp z) (by omega)), own_pi_nf (fun z => absurd ((own_nz3 q).mp z) (by omega)), own_pi_nf (fun z => absurd ((own_nz4 q).mp z) (by omega)), own_pi_nf (fun z => absurd ((own_nz5 q).mp z) (by omega)), own_pi_nf (fun z => absurd ((own_nz6 q).mp z) (by omega)), own_pi_nt ((own_nz7 q).mpr (by omega)), own_pi_nt ((own_nz8 q).mpr (by omega)), own_pi_nt ((own_nz9 q).mpr (by omega))]; decide, by omega, by omega, by omega, by omega, by omega, by omega, by omega⟩)))))))
  by_cases h7 : q.toInt % 18446744073709551616 < 72057594037927936
  · exact Or.inr (Or.inr (Or.inr (Or.inr (Or.inr (Or.inr (Or.inr (Or.inl (⟨by unfold own_n; rw [own_pi_nf (fun z => absurd ((own_nz1 q).mp z) (by omega)), own_pi_nf (fun z => absurd ((own_nz2 q).mp z) (by omega)), own_pi_nf (fun z => absurd ((own_nz3 q).mp z) (by omega)), own_pi_nf (fun z => absurd ((own_nz4 q).mp z) (by omega)), own_pi_nf (fun z => absurd ((own_nz5 q).mp z) (by omega)), own_pi_nf (fun z => absurd ((own_nz6 q).mp z) (by omega)), own_pi_nf (fun z => absurd ((own_nz7 q).mp z) (by omega)), own_pi_nt ((own_nz8 q).mpr (by omega)), own_pi_nt ((own_nz9 q).mpr (by omega))]; decide, by omega, by omega, by omega, by omega, by omega, by omega, by omega, by omega⟩))))))))
  by_cases h8 : q.toInt % 18446744073709551616 < 9223372036854775808
  · exact Or.inr (Or.inr (Or.inr (Or.inr (Or.inr (Or.inr (Or.inr (Or.inr (Or.inl (⟨by unfold own_n; rw [own_pi_nf (fun z => absurd ((own_nz1 q).mp z) (by omega)), own_pi_nf (fun z => absurd ((own_nz2 q).mp z) (by omega)), own_pi_nf (fun z => absurd ((own_nz3 q).mp z) (by omega)), own_pi_nf (fun z => absurd ((own_nz4 q).mp z) (by omega)), own_pi_nf (fun z => absurd ((own_nz5 q).mp z) (by omega)), own_pi_nf (fun z => absurd ((own_nz6 q).mp z) (by omega)), own_pi_nf (fun z => absurd ((own_nz7 q).mp z) (by omega)), own_pi_nf (fun z => absurd ((own_nz8 q).mp z) (by omega)), own_pi_nt ((own_nz9 q).mpr (by omega))]; decide, by omega, by omega, by omega, by omega, by omega, by omega, by omega, by omega, by omega⟩)))))))))
  exact Or.inr (Or.inr (Or.inr (Or.inr (Or.inr (Or.inr (Or.inr (Or.inr (Or.inr ((⟨by unfold own_n; rw [own_pi_nf (fun z => absurd ((own_nz1 q).mp z) (by omega)), own_pi_nf (fun z => absurd ((own_nz2 q).mp z) (by omega)), own_pi_nf (fun z => absurd ((own_nz3 q).mp z) (by omega)), own_pi_nf (fun z => absurd ((own_nz4 q).mp z) (by omega)), own_pi_nf (fun z => absurd ((own_nz5 q).mp z) (by omega)), own_pi_nf (fun z => absurd ((own_nz6 q).mp z) (by omega)), own_pi_nf (fun z => absurd ((own_nz7 q).mp z) (by omega)), own_pi_nf (fun z => absurd ((own_nz8 q).mp z) (by omega)), own_pi_nf (fun z => absurd ((own_nz9 q).mp z) (by omega))]; decide, by omega, by omega, by omega, by omega, by omega, by omega, by omega, by omega, by omega⟩))))))))))
theorem own_x0_m3 (q : Int64) (s : Int32) : own_ei (-3 : Int32) (1 : Int32) q s = s := by unfold own_ei; rw [if_pos (by decide)]
theorem own_x0_m2 (q : Int64) (s : Int32) : own_ei (-2 : Int32) (1 : Int32) q s = s := by unfold own_ei; rw [if_pos (by decide)]
theorem own_x0_m1 (q : Int64) (s : Int32) : own_ei (-1 : Int32) (1 : Int32) q s = s := by unfold own_ei; rw [if_pos (by decide)]
theorem own_x0_0 (q : Int64) (s : Int32) : own_ei (0 : Int32) (1 : Int32) q s = q.toInt32.toInt8.toInt32 := by unfold own_ei; rw [if_neg (by decide), if_pos (by decide), if_neg (by decide), own_eq0]
theorem own_x0_1 (q : Int64) (s : Int32) : own_ei (1 : Int32) (1 : Int32) q s = s := by unfold own_ei; rw [if_neg (by decide), if_neg (by decide)]
theorem own_x0_2 (q : Int64) (s : Int32) : own_ei (2 : Int32) (1 : Int32) q s = s := by unfold own_ei; rw [if_neg (by decide), if_neg (by decide)]
theorem own_x0_3 (q : Int64) (s : Int32) : own_ei (3 : Int32) (1 : Int32) q s = s := by unfold own_ei; rw [if_neg (by decide), if_neg (by decide)]
theorem own_x0_4 (q : Int64) (s : Int32) : own_ei (4 : Int32) (1 : Int32) q s = s := by unfold own_ei; rw [if_neg (by decide), if_neg (by decide)]
theorem own_x0_5 (q : Int64) (s : Int32) : own_ei (5 : Int32) (1 : Int32) q s = s := by unfold own_ei; rw [if_neg (by decide), if_neg (by decide)]
theorem own_x0_6 (q : Int64) (s : Int32) : own_ei (6 : Int32) (1 : Int32) q s = s := by unfold own_ei; rw [if_neg (by decide), if_neg (by decide)]
theorem own_x0_7 (q : Int64) (s : Int32) : own_ei (7 : Int32) (1 : Int32) q s = s := by unfold own_ei; rw [if_neg (by decide), if_neg (by decide)]
theorem own_x0_8 (q : Int64) (s : Int32) : own_ei (8 : Int32) (1 : Int32) q s = s := by unfold own_ei; rw [if_neg (by decide), if_neg (by decide)]
theorem own_x0_9 (q : Int64) (s : Int32) : own_ei (9 : Int32) (1 : Int32) q s = s := by unfold own_ei; rw [if_neg (by decide), if_neg (by decide)]
theorem own_x0_10 (q : Int64) (s : Int32) : own_ei (10 : Int32) (1 : Int32) q s = s := by unfold own_ei; rw [if_neg (by decide), if_neg (by decide)]
theorem own_x0_11 (q : Int64) (s : Int32) : own_ei (11 : Int32) (1 : Int32) q s = s := by unfold own_ei; rw [if_neg (by decide), if_neg (by decide)]
theorem own_x0_12 (q : Int64) (s : Int32) : own_ei (12 : Int32) (1 : Int32) q s = s := by unfold own_ei; rw [if_neg (by decide), if_neg (by decide)]
theorem own_x0_13 (q : Int64) (s : Int32) : own_ei (13 : Int32) (1 : Int32) q s = s := by unfold own_ei; rw [if_neg (by decide), if_neg (by decide)]
theorem own_x1_m3 (q : Int64) (s : Int32) : own_ei (-3 : Int32) (2 : Int32) q s = s := by unfold own_ei; rw [if_pos (by decide)]
theorem own_x1_m2 (q : Int64) (s : Int32) : own_ei (-2 : Int32) (2 : Int32) q s = s := by unfold own_ei; rw [if_pos (by decide)]
theorem own_x1_m1 (q : Int64) (s : Int32) : own_ei (-1 : Int32) (2 : Int32) q s = s := by unfold own_ei; rw [if_pos (by decide)]
theorem own_x1_0 (q : Int64) (s : Int32) : own_ei (0 : Int32) (2 : Int32) q s = (q ||| (128 : Int64)).toInt32.toInt8.toInt32 := by unfold own_ei; rw [if_neg (by decide), if_pos (by decide), if_pos (by decide), own_eq0]
theorem own_x1_1 (q : Int64) (s : Int32) : own_ei (1 : Int32) (2 : Int32) q s = (own_ushrL q (7 : Int32)).toInt32.toInt8.toInt32 := by unfold own_ei; rw [if_neg (by decide), if_pos (by decide), if_neg (by decide), own_eq1]
theorem own_x1_2 (q : Int64) (s : Int32) : own_ei (2 : Int32) (2 : Int32) q s = s := by unfold own_ei; rw [if_neg (by decide), if_neg (by decide)]
theorem own_x1_3 (q : Int64) (s : Int32) : own_ei (3 : Int32) (2 : Int32) q s = s := by unfold own_ei; rw [if_neg (by decide), if_neg (by decide)]
theorem own_x1_4 (q : Int64) (s : Int32) : own_ei (4 : Int32) (2 : Int32) q s = s := by unfold own_ei; rw [if_neg (by decide), if_neg (by decide)]
theorem own_x1_5 (q : Int64) (s : Int32) : own_ei (5 : Int32) (2 : Int32) q s = s := by unfold own_ei; rw [if_neg (by decide), if_neg (by decide)]
theorem own_x1_6 (q : Int64) (s : Int32) : own_ei (6 : Int32) (2 : Int32) q s = s := by unfold own_ei; rw [if_neg (by decide), if_neg (by decide)]
theorem own_x1_7 (q : Int64) (s : Int32) : own_ei (7 : Int32) (2 : Int32) q s = s := by unfold own_ei; rw [if_neg (by decide), if_neg (by decide)]
theorem own_x1_8 (q : Int64) (s : Int32) : own_ei (8 : Int32) (2 : Int32) q s = s := by unfold own_ei; rw [if_neg (by decide), if_neg (by decide)]
theorem own_x1_9 (q : Int64) (s : Int32) : own_ei (9 : Int32) (2 : Int32) q s = s := by unfold own_ei; rw [if_neg (by decide), if_neg (by decide)]
theorem own_x1_10 (q : Int64) (s : Int32) : own_ei (10 : Int32) (2 : Int32) q s = s := by unfold own_ei; rw [if_neg (by decide), if_neg (by decide)]
theorem own_x1_11 (q : Int64) (s : Int32) : own_ei (11 : Int32) (2 : Int32) q s = s := by unfold own_ei; rw [if_neg (by decide), if_neg (by decide)]
theorem own_x1_12 (q : Int64) (s : Int32) : own_ei (12 : Int32) (2 : Int32) q s = s := by unfold own_ei; rw [if_neg (by decide), if_neg (by decide)]
theorem own_x1_13 (q : Int64) (s : Int32) : own_ei (13 : Int32) (2 : Int32) q s = s := by unfold own_ei; rw [if_neg (by decide), if_neg (by decide)]
theorem own_x2_m3 (q : Int64) (s : Int32) : own_ei (-3 : Int32) (3 : Int32) q s = s := by unfold own_ei; rw [if_pos (by decide)]
theorem own_x2_m2 (q : Int64) (s : Int32) : own_ei (-2 : Int32) (3 : Int32) q s = s := by unfold own_ei; rw [if_pos (by decide)]
theorem own_x2_m1 (q : Int64) (s : Int32) : own_ei (-1 : Int32) (3 : Int32) q s = s := by unfold own_ei; rw [if_pos (by decide)]
theorem own_x2_0 (q : Int64) (s : Int32) : own_ei (0 : Int32) (3 : Int32) q s = (q ||| (128 : Int64)).toInt32.toInt8.toInt32 := by unfold own_ei; rw [if_neg (by decide), if_pos (by decide), if_pos (by decide), own_eq0]
theorem own_x2_1 (q : Int64) (s : Int32) : own_ei (1 : Int32) (3 : Int32) q s = ((own_ushrL q (7 : Int32)) ||| (128 : Int64)).toInt32.toInt8.toInt32 := by unfold own_ei; rw [if_neg (by decide), if_pos (by decide), if_pos (by decide), own_eq1]
theorem own_x2_2 (q : Int64) (s : Int32) : own_ei (2 : Int32) (3 : Int32) q s = (own_ushrL (own_ushrL q (7 : Int32)) (7 : Int32)).toInt32.toInt8.toInt32 := by unfold own_ei; rw [if_neg (by decide), if_pos (by decide), if_neg (by decide), own_eq2]
theorem own_x2_3 (q : Int64) (s : Int32) : own_ei (3 : Int32) (3 : Int32) q s = s := by unfold own_ei; rw [if_neg (by decide), if_neg (by decide)]
theorem own_x2_4 (q : Int64) (s : Int32) : own_ei (4 : Int32) (3 : Int32) q s = s := by unfold own_ei; rw [if_neg (by decide), if_neg (by decide)]
theorem own_x2_5 (q : Int64) (s : Int32) : own_ei (5 : Int32) (3 : Int32) q s = s := by unfold own_ei; rw [if_neg (by decide), if_neg (by decide)]
theorem own_x2_6 (q : Int64) (s : Int32) : own_ei (6 : Int32) (3 : Int32) q s = s := by unfold own_ei; rw [if_neg (by decide), if_neg (by decide)]
theorem own_x2_7 (q : Int64) (s : Int32) : own_ei (7 : Int32) (3 : Int32) q s = s := by unfold own_ei; rw [if_neg (by decide), if_neg (by decide)]
theorem own_x2_8 (q : Int64) (s : Int32) : own_ei (8 : Int32) (3 : Int32) q s = s := by unfold own_ei; rw [if_neg (by decide), if_neg (by decide)]
theorem own_x2_9 (q : Int64) (s : Int32) : own_ei (9 : Int32) (3 : Int32) q s = s := by unfold own_ei; rw [if_neg (by decide), if_neg (by decide)]
theorem own_x2_10 (q : Int64) (s : Int32) : own_ei (10 : Int32) (3 : Int32) q s = s := by unfold own_ei; rw [if_neg (by decide), if_neg (by decide)]
theorem own_x2_11 (q : Int64) (s : Int32) : own_ei (11 : Int32) (3 : Int32) q s = s := by unfold own_ei; rw [if_neg (by decide), if_neg (by decide)]
theorem own_x2_12 (q : Int64) (s : Int32) : own_ei (12 : Int32) (3 : Int32) q s = s := by unfold own_ei; rw [if_neg (by decide), if_neg (by decide)]
theorem own_x2_13 (q : Int64) (s : Int32) : own_ei (13 : Int32) (3 : Int32) q s = s := by unfold own_ei; rw [if_neg (by decide), if_neg (by decide)]
theorem own_x3_m3 (q : Int64) (s : Int32) : own_ei (-3 : Int32) (4 : Int32) q s = s := by unfold own_ei; rw [if_pos (by decide)]
theorem own_x3_m2 (q : Int64) (s : Int32) : own_ei (-2 : Int32) (4 : Int32) q s = s := by unfold own_ei; rw [if_pos (by decide)]
theorem own_x3_m1 (q : Int64) (s : Int32) : own_ei (-1 : Int32) (4 : Int32) q s = s := by unfold own_ei; rw [if_pos (by decide)]
theorem own_x3_0 (q : Int64) (s : Int32) : own_ei (0 : Int32) (4 : Int32) q s = (q ||| (128 : Int64)).toInt32.toInt8.toInt32 := by unfold own_ei; rw [if_neg (by decide), if_pos (by decide), if_pos (by decide), own_eq0]
theorem own_x3_1 (q : Int64) (s : Int32) : own_ei (1 : Int32) (4 : Int32) q s = ((own_ushrL q (7 : Int32)) ||| (128 : Int64)).toInt32.toInt8.toInt32 := by unfold own_ei; rw [if_neg (by decide), if_pos (by decide), if_pos (by decide), own_eq1]
theorem own_x3_2 (q : Int64) (s : Int32) : own_ei (2 : Int32) (4 : Int32) q s = ((own_ushrL (own_ushrL q (7 : Int32)) (7 : Int32)) ||| (128 : Int64)).toInt32.toInt8.toInt32 := by unfold own_ei; rw [if_neg (by decide), if_pos (by decide), if_pos (by decide), own_eq2]
theorem own_x3_3 (q : Int64) (s : Int32) : own_ei (3 : Int32) (4 : Int32) q s = (own_ushrL (own_ushrL (own_ushrL q (7 : Int32)) (7 : Int32)) (7 : Int32)).toInt32.toInt8.toInt32 := by unfold own_ei; rw [if_neg (by decide), if_pos (by decide), if_neg (by decide), own_eq3]
theorem own_x3_4 (q : Int64) (s : Int32) : own_ei (4 : Int32) (4 : Int32) q s = s := by unfold own_ei; rw [if_neg (by decide), if_neg (by decide)]
theorem own_x3_5 (q : Int64) (s : Int32) : own_ei (5 : Int32) (4 : Int32) q s = s := by unfold own_ei; rw [if_neg (by decide), if_neg (by decide)]
theorem own_x3_6 (q : Int64) (s : Int32) : own_ei (6 : Int32) (4 : Int32) q s = s := by unfold own_ei; rw [if_neg (by decide), if_neg (by decide)]
theorem own_x3_7 (q : Int64) (s : Int32) : own_ei (7 : Int32) (4 : Int32) q s = s := by unfold own_ei; rw [if_neg (by decide), if_neg (by decide)]
theorem own_x3_8 (q : Int64) (s : Int32) : own_ei (8 : Int32) (4 : Int32) q s = s := by unfold own_ei; rw [if_neg (by decide), if_neg (by decide)]
theorem own_x3_9 (q : Int64) (s : Int32) : own_ei (9 : Int32) (4 : Int32) q s = s := by unfold own_ei; rw [if_neg (by decide), if_neg (by decide)]
theorem own_x3_10 (q : Int64) (s : Int32) : own_ei (10 : Int32) (4 : Int32) q s = s := by unfold own_ei; rw [if_neg (by decide), if_neg (by decide)]
theorem own_x3_11 (q : Int64) (s : Int32) : own_ei (11 : Int32) (4 : Int32) q s = s := by unfold own_ei; rw [if_neg (by decide), if_neg (by decide)]
theorem own_x3_12 (q : Int64) (s : Int32) : own_ei (12 : Int32) (4 : Int32) q s = s := by unfold own_ei; rw [if_neg (by decide), if_neg (by decide)]
theorem own_x3_13 (q : Int64) (s : Int32) : own_ei (13 : Int32) (4 : Int32) q s = s := by unfold own_ei; rw [if_neg (by decide), if_neg (by decide)]
theorem own_x4_m3 (q : Int64) (s : Int32) : own_ei (-3 : Int32) (5 : Int32) q s = s := by unfold own_ei; rw [if_pos (by decide)]
theorem own_x4_m2 (q : Int64) (s : Int32) : own_ei (-2 : Int32) (5 : Int32) q s = s := by unfold own_ei; rw [if_pos (by decide)]
theorem own_x4_m1 (q : Int64) (s : Int32) : own_ei (-1 : Int32) (5 : Int32) q s = s := by unfold own_ei; rw [if_pos (by decide)]
theorem own_x4_0 (q : Int64) (s : Int32) : own_ei (0 : Int32) (5 : Int32) q s = (q ||| (128 : Int64)).toInt32.toInt8.toInt32 := by unfold own_ei; rw [if_neg (by decide), if_pos (by decide), if_pos (by decide), own_eq0]
theorem own_x4_1 (q : Int64) (s : Int32) : own_ei (1 : Int32) (5 : Int32) q s = ((own_ushrL q (7 : Int32)) ||| (128 : Int64)).toInt32.toInt8.toInt32 := by unfold own_ei; rw [if_neg (by decide), if_pos (by decide), if_pos (by decide), own_eq1]
theorem own_x4_2 (q : Int64) (s : Int32) : own_ei (2 : Int32) (5 : Int32) q s = ((own_ushrL (own_ushrL q (7 : Int32)) (7 : Int32)) ||| (128 : Int64)).toInt32.toInt8.toInt32 := by unfold own_ei; rw [if_neg (by decide), if_pos (by decide), if_pos (by decide), own_eq2]
theorem own_x4_3 (q : Int64) (s : Int32) : own_ei (3 : Int32) (5 : Int32) q s = ((own_ushrL (own_ushrL (own_ushrL q (7 : Int32)) (7 : Int32)) (7 : Int32)) ||| (128 : Int64)).toInt32.toInt8.toInt32 := by unfold own_ei; rw [if_neg (by decide), if_pos (by decide), if_pos (by decide), own_eq3]
theorem own_x4_4 (q : Int64) (s : Int32) : own_ei (4 : Int32) (5 : Int32) q s = (own_ushrL (own_ushrL (own_ushrL (own_ushrL q (7 : Int32)) (7 : Int32)) (7 : Int32)) (7 : Int32)).toInt32.toInt8.toInt32 := by unfold own_ei; rw [if_neg (by decide), if_pos (by decide), if_neg (by decide), own_eq4]
theorem own_x4_5 (q : Int64) (s : Int32) : own_ei (5 : Int32) (5 : Int32) q s = s := by unfold own_ei; rw [if_neg (by decide), if_neg (by decide)]
theorem own_x4_6 (q : Int64) (s : Int32) : own_ei (6 : Int32) (5 : Int32) q s = s := by unfold own_ei; rw [if_neg (by decide), if_neg (by decide)]
theorem own_x4_7 (q : Int64) (s : Int32) : own_ei (7 : Int32) (5 : Int32) q s = s := by unfold own_ei; rw [if_neg (by decide), if_neg (by decide)]
theorem own_x4_8 (q : Int64) (s : Int32) : own_ei (8 : Int32) (5 : Int32) q s = s := by unfold own_ei; rw [if_neg (by decide), if_neg (by decide)]
theorem own_x4_9 (q : Int64) (s : Int32) : own_ei (9 : Int32) (5 : Int32) q s = s := by unfold own_ei; rw [if_neg (by decide), if_neg (by decide)]
theorem own_x4_10 (q : Int64) (s : Int32) : own_ei (10 : Int32) (5 : Int32) q s = s := by unfold own_ei; rw [if_neg (by decide), if_neg (by decide)]
theorem own_x4_11 (q : Int64) (s : Int32) : own_ei (11 : Int32) (5 : Int32) q s = s := by unfold own_ei; rw [if_neg (by decide), if_neg (by decide)]
theorem own_x4_12 (q : Int64) (s : Int32) : own_ei (12 : Int32) (5 : Int32) q s = s := by unfold own_ei; rw [if_neg (by decide), if_neg (by decide)]
theorem own_x4_13 (q : Int64) (s : Int32) : own_ei (13 : Int32) (5 : Int32) q s = s := by unfold own_ei; rw [if_neg (by decide), if_neg (by decide)]
theorem own_x5_m3 (q : Int64) (s : Int32) : own_ei (-3 : Int32) (6 : Int32) q s = s := by unfold own_ei; rw [if_pos (by decide)]
theorem own_x5_m2 (q : Int64) (s : Int32) : own_ei (-2 : Int32) (6 : Int32) q s = s := by unfold own_ei; rw [if_pos (by decide)]
theorem own_x5_m1 (q : Int64) (s : Int32) : own_ei (-1 : Int32) (6 : Int32) q s = s := by unfold own_ei; rw [if_pos (by decide)]
theorem own_x5_0 (q : Int64) (s : Int32) : own_ei (0 : Int32) (6 : Int32) q s = (q ||| (128 : Int64)).toInt32.toInt8.toInt32 := by unfold own_ei; rw [if_neg (by decide), if_pos (by decide), if_pos (by decide), own_eq0]
theorem own_x5_1 (q : Int64) (s : Int32) : own_ei (1 : Int32) (6 : Int32) q s = ((own_ushrL q (7 : Int32)) ||| (128 : Int64)).toInt32.toInt8.toInt32 := by unfold own_ei; rw [if_neg (by decide), if_pos (by decide), if_pos (by decide), own_eq1]
theorem own_x5_2 (q : Int64) (s : Int32) : own_ei (2 : Int32) (6 : Int32) q s = ((own_ushrL (own_ushrL q (7 : Int32)) (7 : Int32)) ||| (128 : Int64)).toInt32.toInt8.toInt32 := by unfold own_ei; rw [if_neg (by decide), if_pos (by decide), if_pos (by decide), own_eq2]
theorem own_x5_3 (q : Int64) (s : Int32) : own_ei (3 : Int32) (6 : Int32) q s = ((own_ushrL (own_ushrL (own_ushrL q (7 : Int32)) (7 : Int32)) (7 : Int32)) ||| (128 : Int64)).toInt32.toInt8.toInt32 := by unfold own_ei; rw [if_neg (by decide), if_pos (by decide), if_pos (by decide), own_eq3]
theorem own_x5_4 (q : Int64) (s : Int32) : own_ei (4 : Int32) (6 : Int32) q s = ((own_ushrL (own_ushrL (own_ushrL (own_ushrL q (7 : Int32)) (7 : Int32)) (7 : Int32)) (7 : Int32)) ||| (128 : Int64)).toInt32.toInt8.toInt32 := by unfold own_ei; rw [if_neg (by decide), if_pos (by decide), if_pos (by decide), own_eq4]
theorem own_x5_5 (q : Int64) (s : Int32) : own_ei (5 : Int32) (6 : Int32) q s = (own_ushrL (own_ushrL (own_ushrL (own_ushrL (own_ushrL q (7 : Int32)) (7 : Int32)) (7 : Int32)) (7 : Int32)) (7 : Int32)).toInt32.toInt8.toInt32 := by unfold own_ei; rw [if_neg (by decide), if_pos (by decide), if_neg (by decide), own_eq5]
theorem own_x5_6 (q : Int64) (s : Int32) : own_ei (6 : Int32) (6 : Int32) q s = s := by unfold own_ei; rw [if_neg (by decide), if_neg (by decide)]
theorem own_x5_7 (q : Int64) (s : Int32) : own_ei (7 : Int32) (6 : Int32) q s = s := by unfold own_ei; rw [if_neg (by decide), if_neg (by decide)]
theorem own_x5_8 (q : Int64) (s : Int32) : own_ei (8 : Int32) (6 : Int32) q s = s := by unfold own_ei; rw [if_neg (by decide), if_neg (by decide)]
theorem own_x5_9 (q : Int64) (s : Int32) : own_ei (9 : Int32) (6 : Int32) q s = s := by unfold own_ei; rw [if_neg (by decide), if_neg (by decide)]
theorem own_x5_10 (q : Int64) (s : Int32) : own_ei (10 : Int32) (6 : Int32) q s = s := by unfold own_ei; rw [if_neg (by decide), if_neg (by decide)]
theorem own_x5_11 (q : Int64) (s : Int32) : own_ei (11 : Int32) (6 : Int32) q s = s := by unfold own_ei; rw [if_neg (by decide), if_neg (by decide)]
theorem own_x5_12 (q : Int64) (s : Int32) : own_ei (12 : Int32) (6 : Int32) q s = s := by unfold own_ei; rw [if_neg (by decide), if_neg (by decide)]
theorem own_x5_13 (q : Int64) (s : Int32) : own_ei (13 : Int32) (6 : Int32) q s = s := by unfold own_ei; rw [if_neg (by decide), if_neg (by decide)]
theorem own_x6_m3 (q : Int64) (s : Int32) : own_ei (-3 : Int32) (7 : Int32) q s = s := by unfold own_ei; rw [if_pos (by decide)]
theorem own_x6_m2 (q : Int64) (s : Int32) : own_ei (-2 : Int32) (7 : Int32) q s = s := by unfold own_ei; rw [if_pos (by decide)]
theorem own_x6_m1 (q : Int64) (s : Int32) : own_ei (-1 : Int32) (7 : Int32) q s = s := by unfold own_ei; rw [if_pos (by decide)]
theorem own_x6_0 (q : Int64) (s : Int32) : own_ei (0 : Int32) (7 : Int32) q s = (q ||| (128 : Int64)).toInt32.toInt8.toInt32 := by unfold own_ei; rw [if_neg (by decide), if_pos (by decide), if_pos (by decide), own_eq0]
theorem own_x6_1 (q : Int64) (s : Int32) : own_ei (1 : Int32) (7 : Int32) q s = ((own_ushrL q (7 : Int32)) ||| (128 : Int64)).toInt32.toInt8.toInt32 := by unfold own_ei; rw [if_neg (by decide), if_pos (by decide), if_pos (by decide), own_eq1]
theorem own_x6_2 (q : Int64) (s : Int32) : own_ei (2 : Int32) (7 : Int32) q s = ((own_ushrL (own_ushrL q (7 : Int32)) (7 : Int32)) ||| (128 : Int64)).toInt32.toInt8.toInt32 := by unfold own_ei; rw [if_neg (by decide), if_pos (by decide), if_pos (by decide), own_eq2]
theorem own_x6_3 (q : Int64) (s : Int32) : own_ei (3 : Int32) (7 : Int32) q s = ((own_ushrL (own_ushrL (own_ushrL q (7 : Int32)) (7 : Int32)) (7 : Int32)) ||| (128 : Int64)).toInt32.toInt8.toInt32 := by unfold own_ei; rw [if_neg (by decide), if_pos (by decide), if_pos (by decide), own_eq3]
theorem own_x6_4 (q : Int64) (s : Int32) : own_ei (4 : Int32) (7 : Int32) q s = ((own_ushrL (own_ushrL (own_ushrL (own_ushrL q (7 : Int32)) (7 : Int32)) (7 : Int32)) (7 : Int32)) ||| (128 : Int64)).toInt32.toInt8.toInt32 := by unfold own_ei; rw [if_neg (by decide), if_pos (by decide), if_pos (by decide), own_eq4]
theorem own_x6_5 (q : Int64) (s : Int32) : own_ei (5 : Int32) (7 : Int32) q s = ((own_ushrL (own_ushrL (own_ushrL (own_ushrL (own_ushrL q (7 : Int32)) (7 : Int32)) (7 : Int32)) (7 : Int32)) (7 : Int32)) ||| (128 : Int64)).toInt32.toInt8.toInt32 := by unfold own_ei; rw [if_neg (by decide), if_pos (by decide), if_pos (by decide), own_eq5]
theorem own_x6_6 (q : Int64) (s : Int32) : own_ei (6 : Int32) (7 : Int32) q s = (own_ushrL (own_ushrL (own_ushrL (own_ushrL (own_ushrL (own_ushrL q (7 : Int32)) (7 : Int32)) (7 : Int32)) (7 : Int32)) (7 : Int32)) (7 : Int32)).toInt32.toInt8.toInt32 := by unfold own_ei; rw [if_neg (by decide), if_pos (by decide), if_neg (by decide), own_eq6]
theorem own_x6_7 (q : Int64) (s : Int32) : own_ei (7 : Int32) (7 : Int32) q s = s := by unfold own_ei; rw [if_neg (by decide), if_neg (by decide)]
theorem own_x6_8 (q : Int64) (s : Int32) : own_ei (8 : Int32) (7 : Int32) q s = s := by unfold own_ei; rw [if_neg (by decide), if_neg (by decide)]
theorem own_x6_9 (q : Int64) (s : Int32) : own_ei (9 : Int32) (7 : Int32) q s = s := by unfold own_ei; rw [if_neg (by decide), if_neg (by decide)]
theorem own_x6_10 (q : Int64) (s : Int32) : own_ei (10 : Int32) (7 : Int32) q s = s := by unfold own_ei; rw [if_neg (by decide), if_neg (by decide)]
theorem own_x6_11 (q : Int64) (s : Int32) : own_ei (11 : Int32) (7 : Int32) q s = s := by unfold own_ei; rw [if_neg (by decide), if_neg (by decide)]
theorem own_x6_12 (q : Int64) (s : Int32) : own_ei (12 : Int32) (7 : Int32) q s = s := by unfold own_ei; rw [if_neg (by decide), if_neg (by decide)]
theorem own_x6_13 (q : Int64) (s : Int32) : own_ei (13 : Int32) (7 : Int32) q s = s := by unfold own_ei; rw [if_neg (by decide), if_neg (by decide)]
theorem own_x7_m3 (q : Int64) (s : Int32) : own_ei (-3 : Int32) (8 : Int32) q s = s := by unfold own_ei; rw [if_pos (by decide)]
theorem own_x7_m2 (q : Int64) (s : Int32) : own_ei (-2 : Int32) (8 : Int32) q s = s := by unfold own_ei; rw [if_pos (by decide)]
theorem own_x7_m1 (q : Int64) (s : Int32) : own_ei (-1 : Int32) (8 : Int32) q s = s := by unfold own_ei; rw [if_pos (by decide)]
theorem own_x7_0 (q : Int64) (s : Int32) : own_ei (0 : Int32) (8 : Int32) q s = (q ||| (128 : Int64)).toInt32.toInt8.toInt32 := by unfold own_ei; rw [if_neg (by decide), if_pos (by decide), if_pos (by decide), own_eq0]
theorem own_x7_1 (q : Int64) (s : Int32) : own_ei (1 : Int32) (8 : Int32) q s = ((own_ushrL q (7 : Int32)) ||| (128 : Int64)).toInt32.toInt8.toInt32 := by unfold own_ei; rw [if_neg (by decide), if_pos (by decide), if_pos (by decide), own_eq1]
theorem own_x7_2 (q : Int64) (s : Int32) : own_ei (2 : Int32) (8 : Int32) q s = ((own_ushrL (own_ushrL q (7 : Int32)) (7 : Int32)) ||| (128 : Int64)).toInt32.toInt8.toInt32 := by unfold own_ei; rw [if_neg (by decide), if_pos (by decide), if_pos (by decide), own_eq2]
theorem own_x7_3 (q : Int64) (s : Int32) : own_ei (3 : Int32) (8 : Int32) q s = ((own_ushrL (own_ushrL (own_ushrL q (7 : Int32)) (7 : Int32)) (7 : Int32)) ||| (128 : Int64)).toInt32.toInt8.toInt32 := by unfold own_ei; rw [if_neg (by decide), if_pos (by decide), if_pos (by decide), own_eq3]
theorem own_x7_4 (q : Int64) (s : Int32) : own_ei (4 : Int32) (8 : Int32) q s = ((own_ushrL (own_ushrL (own_ushrL (own_ushrL q (7 : Int32)) (7 : Int32)) (7 : Int32)) (7 : Int32)) ||| (128 : Int64)).toInt32.toInt8.toInt32 := by unfold own_ei; rw [if_neg (by decide), if_pos (by decide), if_pos (by decide), own_eq4]
theorem own_x7_5 (q : Int64) (s : Int32) : own_ei (5 : Int32) (8 : Int32) q s = ((own_ushrL (own_ushrL (own_ushrL (own_ushrL (own_ushrL q (7 : Int32)) (7 : Int32)) (7 : Int32)) (7 : Int32)) (7 : Int32)) ||| (128 : Int64)).toInt32.toInt8.toInt32 := by unfold own_ei; rw [if_neg (by decide), if_pos (by decide), if_pos (by decide), own_eq5]
theorem own_x7_6 (q : Int64) (s : Int32) : own_ei (6 : Int32) (8 : Int32) q s = ((own_ushrL (own_ushrL (own_ushrL (own_ushrL (own_ushrL (own_ushrL q (7 : Int32)) (7 : Int32)) (7 : Int32)) (7 : Int32)) (7 : Int32)) (7 : Int32)) ||| (128 : Int64)).toInt32.toInt8.toInt32 := by unfold own_ei; rw [if_neg (by decide), if_pos (by decide), if_pos (by decide), own_eq6]
theorem own_x7_7 (q : Int64) (s : Int32) : own_ei (7 : Int32) (8 : Int32) q s = (own_ushrL (own_ushrL (own_ushrL (own_ushrL (own_ushrL (own_ushrL (own_ushrL q (7 : Int32)) (7 : Int32)) (7 : Int32)) (7 : Int32)) (7 : Int32)) (7 : Int32)) (7 : Int32)).toInt32.toInt8.toInt32 := by unfold own_ei; rw [if_neg (by decide), if_pos (by decide), if_neg (by decide), own_eq7]
theorem own_x7_8 (q : Int64) (s : Int32) : own_ei (8 : Int32) (8 : Int32) q s = s := by unfold own_ei; rw [if_neg (by decide), if_neg (by decide)]
theorem own_x7_9 (q : Int64) (s : Int32) : own_ei (9 : Int32) (8 : Int32) q s = s := by unfold own_ei; rw [if_neg (by decide), if_neg (by decide)]
theorem own_x7_10 (q : Int64) (s : Int32) : own_ei (10 : Int32) (8 : Int32) q s = s := by unfold own_ei; rw [if_neg (by decide), if_neg (by decide)]
theorem own_x7_11 (q : Int64) (s : Int32) : own_ei (11 : Int32) (8 : Int32) q s = s := by unfold own_ei; rw [if_neg (by decide), if_neg (by decide)]
theorem own_x7_12 (q : Int64) (s : Int32) : own_ei (12 : Int32) (8 : Int32) q s = s := by unfold own_ei; rw [if_neg (by decide), if_neg (by decide)]
theorem own_x7_13 (q : Int64) (s : Int32) : own_ei (13 : Int32) (8 : Int32) q s = s := by unfold own_ei; rw [if_neg (by decide), if_neg (by decide)]
theorem own_x8_m3 (q : Int64) (s : Int32) : own_ei (-3 : Int32) (9 : Int32) q s = s := by unfold own_ei; rw [if_pos (by decide)]
theorem own_x8_m2 (q : Int64) (s : Int32) : own_ei (-2 : Int32) (9 : Int32) q s = s := by unfold own_ei; rw [if_pos (by decide)]
theorem own_x8_m1 (q : Int64) (s : Int32) : own_ei (-1 : Int32) (9 : Int32) q s = s := by unfold own_ei; rw [if_pos (by decide)]
theorem own_x8_0 (q : Int64) (s : Int32) : own_ei (0 : Int32) (9 : Int32) q s = (q ||| (128 : Int64)).toInt32.toInt8.toInt32 := by unfold own_ei; rw [if_neg (by decide), if_pos (by decide), if_pos (by decide), own_eq0]
theorem own_x8_1 (q : Int64) (s : Int32) : own_ei (1 : Int32) (9 : Int32) q s = ((own_ushrL q (7 : Int32)) ||| (128 : Int64)).toInt32.toInt8.toInt32 := by unfold own_ei; rw [if_neg (by decide), if_pos (by decide), if_pos (by decide), own_eq1]
theorem own_x8_2 (q : Int64) (s : Int32) : own_ei (2 : Int32) (9 : Int32) q s = ((own_ushrL (own_ushrL q (7 : Int32)) (7 : Int32)) ||| (128 : Int64)).toInt32.toInt8.toInt32 := by unfold own_ei; rw [if_neg (by decide), if_pos (by decide), if_pos (by decide), own_eq2]
theorem own_x8_3 (q : Int64) (s : Int32) : own_ei (3 : Int32) (9 : Int32) q s = ((own_ushrL (own_ushrL (own_ushrL q (7 : Int32)) (7 : Int32)) (7 : Int32)) ||| (128 : Int64)).toInt32.toInt8.toInt32 := by unfold own_ei; rw [if_neg (by decide), if_pos (by decide), if_pos (by decide), own_eq3]
theorem own_x8_4 (q : Int64) (s : Int32) : own_ei (4 : Int32) (9 : Int32) q s = ((own_ushrL (own_ushrL (own_ushrL (own_ushrL q (7 : Int32)) (7 : Int32)) (7 : Int32)) (7 : Int32)) ||| (128 : Int64)).toInt32.toInt8.toInt32 := by unfold own_ei; rw [if_neg (by decide), if_pos (by decide), if_pos (by decide), own_eq4]
theorem own_x8_5 (q : Int64) (s : Int32) : own_ei (5 : Int32) (9 : Int32) q s = ((own_ushrL (own_ushrL (own_ushrL (own_ushrL (own_ushrL q (7 : Int32)) (7 : Int32)) (7 : Int32)) (7 : Int32)) (7 : Int32)) ||| (128 : Int64)).toInt32.toInt8.toInt32 := by unfold own_ei; rw [if_neg (by decide), if_pos (by decide), if_pos (by decide), own_eq5]
theorem own_x8_6 (q : Int64) (s : Int32) : own_ei (6 : Int32) (9 : Int32) q s = ((own_ushrL (own_ushrL (own_ushrL (own_ushrL (own_ushrL (own_ushrL q (7 : Int32)) (7 : Int32)) (7 : Int32)) (7 : Int32)) (7 : Int32)) (7 : Int32)) ||| (128 : Int64)).toInt32.toInt8.toInt32 := by unfold own_ei; rw [if_neg (by decide), if_pos (by decide), if_pos (by decide), own_eq6]
theorem own_x8_7 (q : Int64) (s : Int32) : own_ei (7 : Int32) (9 : Int32) q s = ((own_ushrL (own_ushrL (own_ushrL (own_ushrL (own_ushrL (own_ushrL (own_ushrL q (7 : Int32)) (7 : Int32)) (7 : Int32)) (7 : Int32)) (7 : Int32)) (7 : Int32)) (7 : Int32)) ||| (128 : Int64)).toInt32.toInt8.toInt32 := by unfold own_ei; rw [if_neg (by decide), if_pos (by decide), if_pos (by decide), own_eq7]
theorem own_x8_8 (q : Int64) (s : Int32) : own_ei (8 : Int32) (9 : Int32) q s = (own_ushrL (own_ushrL (own_ushrL (own_ushrL (own_ushrL (own_ushrL (own_ushrL (own_ushrL q (7 : Int32)) (7 : Int32)) (7 : Int32)) (7 : Int32)) (7 : Int32)) (7 : Int32)) (7 : Int32)) (7 : Int32)).toInt32.toInt8.toInt32 := by unfold own_ei; rw [if_neg (by decide), if_pos (by decide), if_neg (by decide), own_eq8]
theorem own_x8_9 (q : Int64) (s : Int32) : own_ei (9 : Int32) (9 : Int32) q s = s := by unfold own_ei; rw [if_neg (by decide), if_neg (by decide)]
theorem own_x8_10 (q : Int64) (s : Int32) : own_ei (10 : Int32) (9 : Int32) q s = s := by unfold own_ei; rw [if_neg (by decide), if_neg (by decide)]
theorem own_x8_11 (q : Int64) (s : Int32) : own_ei (11 : Int32) (9 : Int32) q s = s := by unfold own_ei; rw [if_neg (by decide), if_neg (by decide)]
theorem own_x8_12 (q : Int64) (s : Int32) : own_ei (12 : Int32) (9 : Int32) q s = s := by unfold own_ei; rw [if_neg (by decide), if_neg (by decide)]
theorem own_x8_13 (q : Int64) (s : Int32) : own_ei (13 : Int32) (9 : Int32) q s = s := by unfold own_ei; rw [if_neg (by decide), if_neg (by decide)]
theorem own_x9_m3 (q : Int64) (s : Int32) : own_ei (-3 : Int32) (10 : Int32) q s = s := by unfold own_ei; rw [if_pos (by decide)]
theorem own_x9_m2 (q : Int64) (s : Int32) : own_ei (-2 : Int32) (10 : Int32) q s = s := by unfold own_ei; rw [if_pos (by decide)]
theorem own_x9_m1 (q : Int64) (s : Int32) : own_ei (-1 : Int32) (10 : Int32) q s = s := by unfold own_ei; rw [if_pos (by decide)]
theorem own_x9_0 (q : Int64) (s : Int32) : own_ei (0 : Int32) (10 : Int32) q s = (q ||| (128 : Int64)).toInt32.toInt8.toInt32 := by unfold own_ei; rw [if_neg (by decide), if_pos (by decide), if_pos (by decide), own_eq0]
theorem own_x9_1 (q : Int64) (s : Int32) : own_ei (1 : Int32) (10 : Int32) q s = ((own_ushrL q (7 : Int32)) ||| (128 : Int64)).toInt32.toInt8.toInt32 := by unfold own_ei; rw [if_neg (by decide), if_pos (by decide), if_pos (by decide), own_eq1]
theorem own_x9_2 (q : Int64) (s : Int32) : own_ei (2 : Int32) (10 : Int32) q s = ((own_ushrL (own_ushrL q (7 : Int32)) (7 : Int32)) ||| (128 : Int64)).toInt32.toInt8.toInt32 := by unfold own_ei; rw [if_neg (by decide), if_pos (by decide), if_pos (by decide), own_eq2]
theorem own_x9_3 (q : Int64) (s : Int32) : own_ei (3 : Int32) (10 : Int32) q s = ((own_ushrL (own_ushrL (own_ushrL q (7 : Int32)) (7 : Int32)) (7 : Int32)) ||| (128 : Int64)).toInt32.toInt8.toInt32 := by unfold own_ei; rw [if_neg (by decide), if_pos (by decide), if_pos (by decide), own_eq3]
theorem own_x9_4 (q : Int64) (s : Int32) : own_ei (4 : Int32) (10 : Int32) q s = ((own_ushrL (own_ushrL (own_ushrL (own_ushrL q (7 : Int32)) (7 : Int32)) (7 : Int32)) (7 : Int32)) ||| (128 : Int64)).toInt32.toInt8.toInt32 := by unfold own_ei; rw [if_neg (by decide), if_pos (by decide), if_pos (by decide), own_eq4]
theorem own_x9_5 (q : Int64) (s : Int32) : own_ei (5 : Int32) (10 : Int32) q s = ((own_ushrL (own_ushrL (own_ushrL (own_ushrL (own_ushrL q (7 : Int32)) (7 : Int32)) (7 : Int32)) (7 : Int32)) (7 : Int32)) ||| (128 : Int64)).toInt32.toInt8.toInt32 := by unfold own_ei; rw [if_neg (by decide), if_pos (by decide), if_pos (by decide), own_eq5]
theorem own_x9_6 (q : Int64) (s : Int32) : own_ei (6 : Int32) (10 : Int32) q s = ((own_ushrL (own_ushrL (own_ushrL (own_ushrL (own_ushrL (own_ushrL q (7 : Int32)) (7 : Int32)) (7 : Int32)) (7 : Int32)) (7 : Int32)) (7 : Int32)) ||| (128 : Int64)).toInt32.toInt8.toInt32 := by unfold own_ei; rw [if_neg (by decide), if_pos (by decide), if_pos (by decide), own_eq6]
theorem own_x9_7 (q : Int64) (s : Int32) : own_ei (7 : Int32) (10 : Int32) q s = ((own_ushrL (own_ushrL (own_ushrL (own_ushrL (own_ushrL (own_ushrL (own_ushrL q (7 : Int32)) (7 : Int32)) (7 : Int32)) (7 : Int32)) (7 : Int32)) (7 : Int32)) (7 : Int32)) ||| (128 : Int64)).toInt32.toInt8.toInt32 := by unfold own_ei; rw [if_neg (by decide), if_pos (by decide), if_pos (by decide), own_eq7]
theorem own_x9_8 (q : Int64) (s : Int32) : own_ei (8 : Int32) (10 : Int32) q s = ((own_ushrL (own_ushrL (own_ushrL (own_ushrL (own_ushrL (own_ushrL (own_ushrL (own_ushrL q (7 : Int32)) (7 : Int32)) (7 : Int32)) (7 : Int32)) (7 : Int32)) (7 : Int32)) (7 : Int32)) (7 : Int32)) ||| (128 : Int64)).toInt32.toInt8.toInt32 := by unfold own_ei; rw [if_neg (by decide), if_pos (by decide), if_pos (by decide), own_eq8]
theorem own_x9_9 (q : Int64) (s : Int32) : own_ei (9 : Int32) (10 : Int32) q s = (own_ushrL (own_ushrL (own_ushrL (own_ushrL (own_ushrL (own_ushrL (own_ushrL (own_ushrL (own_ushrL q (7 : Int32)) (7 : Int32)) (7 : Int32)) (7 : Int32)) (7 : Int32)) (7 : Int32)) (7 : Int32)) (7 : Int32)) (7 : Int32)).toInt32.toInt8.toInt32 := by unfold own_ei; rw [if_neg (by decide), if_pos (by decide), if_neg (by decide), own_eq9]
theorem own_x9_10 (q : Int64) (s : Int32) : own_ei (10 : Int32) (10 : Int32) q s = s := by unfold own_ei; rw [if_neg (by decide), if_neg (by decide)]
theorem own_x9_11 (q : Int64) (s : Int32) : own_ei (11 : Int32) (10 : Int32) q s = s := by unfold own_ei; rw [if_neg (by decide), if_neg (by decide)]
theorem own_x9_12 (q : Int64) (s : Int32) : own_ei (12 : Int32) (10 : Int32) q s = s := by unfold own_ei; rw [if_neg (by decide), if_neg (by decide)]
theorem own_x9_13 (q : Int64) (s : Int32) : own_ei (13 : Int32) (10 : Int32) q s = s := by unfold own_ei; rw [if_neg (by decide), if_neg (by decide)]
theorem own_ix0_0 : ((0 : Int32)).toNatClampNeg = 0 := by decide
theorem own_ix0_1 : (((0 : Int32) + (1 : Int32))).toNatClampNeg = 1 := by decide
theorem own_ix0_2 : ((((0 : Int32) + (1 : Int32)) + (1 : Int32))).toNatClampNeg = 2 := by decide
theorem own_ix0_3 : (((((0 : Int32) + (1 : Int32)) + (1 : Int32)) + (1 : Int32))).toNatClampNeg = 3 := by decide
theorem own_ix0_4 : ((((((0 : Int32) + (1 : Int32)) + (1 : Int32)) + (1 : Int32)) + (1 : Int32))).toNatClampNeg = 4 := by decide
theorem own_ix0_5 : (((((((0 : Int32) + (1 : Int32)) + (1 : Int32)) + (1 : Int32)) + (1 : Int32)) + (1 : Int32))).toNatClampNeg = 5 := by decide
theorem own_ix0_6 : ((((((((0 : Int32) + (1 : Int32)) + (1 : Int32)) + (1 : Int32)) + (1 : Int32)) + (1 : Int32)) + (1 : Int32))).toNatClampNeg = 6 := by decide
theorem own_ix0_7 : (((((((((0 : Int32) + (1 : Int32)) + (1 : Int32)) + (1 : Int32)) + (1 : Int32)) + (1 : Int32)) + (1 : Int32)) + (1 : Int32))).toNatClampNeg = 7 := by decide
theorem own_ix0_8 : ((((((((((0 : Int32) + (1 : Int32)) + (1 : Int32)) + (1 : Int32)) + (1 : Int32)) + (1 : Int32)) + (1 : Int32)) + (1 : Int32)) + (1 : Int32))).toNatClampNeg = 8 := by decide
theorem own_ix0_9 : (((((((((((0 : Int32) + (1 : Int32)) + (1 : Int32)) + (1 : Int32)) + (1 : Int32)) + (1 : Int32)) + (1 : Int32)) + (1 : Int32)) + (1 : Int32)) + (1 : Int32))).toNatClampNeg = 9 := by decide
theorem own_l0_0 (s v0 : Int32) : ((own_fl s).set ((0 : Int32)).toNatClampNeg v0) = [v0, (nar .byte s), (nar .byte s), (nar .byte s), (nar .byte s), (nar .byte s), (nar .byte s), (nar .byte s), (nar .byte s), (nar .byte s), (nar .byte s), (nar .byte s), (nar .byte s), (nar .byte s)] := by rw [own_ix0_0]; rfl
theorem own_l1_0 (s v0 v1 : Int32) : (((own_fl s).set ((0 : Int32)).toNatClampNeg v0).set (((0 : Int32) + (1 : Int32))).toNatClampNeg v1) = [v0, v1, (nar .byte s), (nar .byte s), (nar .byte s), (nar .byte s), (nar .byte s), (nar .byte s), (nar .byte s), (nar .byte s), (nar .byte s), (nar .byte s), (nar .byte s), (nar .byte s)] := by rw [own_ix0_0, own_ix0_1]; rfl
theorem own_l2_0 (s v0 v1 v2 : Int32) : ((((own_fl s).set ((0 : Int32)).toNatClampNeg v0).set (((0 : Int32) + (1 : Int32))).toNatClampNeg v1).set ((((0 : Int32) + (1 : Int32)) + (1 : Int32))).toNatClampNeg v2) = [v0, v1, v2, (nar .byte s), (nar .byte s), (nar .byte s), (nar .byte s), (nar .byte s), (nar .byte s), (nar .byte s), (nar .byte s), (nar .byte s), (nar .byte s), (nar .byte s)] := by rw [own_ix0_0, own_ix0_1, own_ix0_2]; rfl
theorem own_l3_0 (s v0 v1 v2 v3 : Int32) : (((((own_fl s).set ((0 : Int32)).toNatClampNeg v0).set (((0 : Int32) + (1 : Int32))).toNatClampNeg v1).set ((((0 : Int32) + (1 : Int32)) + (1 : Int32))).toNatClampNeg v2).set (((((0 : Int32) + (1 : Int32)) + (1 : Int32)) + (1 : Int32))).toNatClampNeg v3) = [v0, v1, v2, v3, (nar .byte s), (nar .byte s), (nar .byte s), (nar .byte s), (nar .byte s), (nar .byte s), (nar .byte s), (nar .byte s), (nar .byte s), (nar .byte s)] := by rw [own_ix0_0, own_ix0_1, own_ix0_2, own_ix0_3]; rfl
theorem own_l4_0 (s v0 v1 v2 v3 v4 : Int32) : ((((((own_fl s).set ((0 : Int32)).toNatClampNeg v0).set (((0 : Int32) + (1 : Int32))).toNatClampNeg v1).set ((((0 : Int32) + (1 : Int32)) + (1 : Int32))).toNatClampNeg v2).set (((((0 : Int32) + (1 : Int32)) + (1 : Int32)) + (1 : Int32))).toNatClampNeg v3).set ((((((0 : Int32) + (1 : Int32)) + (1 : Int32)) + (1 : Int32)) + (1 : Int32))).toNatClampNeg v4) = [v0, v1, v2, v3, v4, (nar .byte s), (nar .byte s), (nar .byte s), (nar .byte s), (nar .byte s), (nar .byte s), (nar .byte s), (nar .byte s), (nar .byte s)] := by rw [own_ix0_0, own_ix0_1, own_ix0_2, own_ix0_3, own_ix0_4]; rfl
theorem own_l5_0 (s v0 v1 v2 v3 v4 v5 : Int32) : (((((((own_fl s).set ((0 : Int32)).toNatClampNeg v0).set (((0 : Int32) + (1 : Int32))).toNatClampNeg v1).set ((((0 : Int32) + (1 : Int32)) + (1 : Int32))).toNatClampNeg v2).set (((((0 : Int32) + (1 : Int32)) + (1 : Int32)) + (1 : Int32))).toNatClampNeg v3).set ((((((0 : Int32) + (1 : Int32)) + (1 : Int32)) + (1 : Int32)) + (1 : Int32))).toNatClampNeg v4).set (((((((0 : Int32) + (1 : Int32)) + (1 : Int32)) + (1 : Int32)) + (1 : Int32)) + (1 : Int32))).toNatClampNeg v5) = [v0, v1, v2, v3, v4, v5, (nar .byte s), (nar .byte s), (nar .byte s), (nar .byte s), (nar .byte s), (nar .byte s), (nar .byte s), (nar .byte s)] := by rw [own_ix0_0, own_ix0_1, own_ix0_2, own_ix0_3, own_ix0_4, own_ix0_5]; rfl
theorem own_l6_0 (s v0 v1 v2 v3 v4 v5 v6 : Int32) : ((((((((own_fl s).set ((0 : Int32)).toNatClampNeg v0).set (((0 : Int32) + (1 : Int32))).toNatClampNeg v1).set ((((0 : Int32) + (1 : Int32)) + (1 : Int32))).toNatClampNeg v2).set (((((0 : Int32) + (1 : Int32)) + (1 : Int32)) + (1 : Int32))).toNatClampNeg v3).set ((((((0 : Int32) + (1 : Int32)) + (1 : Int32)) + (1 : Int32)) + (1 : Int32))).toNatClampNeg v4).set (((((((0 : Int32) + (1 : Int32)) + (1 : Int32)) + (1 : Int32)) + (1 : Int32)) + (1 : Int32))).toNatClampNeg v5).set ((((((((0 : Int32) + (1 : Int32)) + (1 : Int32)) + (1 : Int32)) + (1 : Int32)) + (1 : Int32)) + (1 : Int32))).toNatClampNeg v6) = [v0, v1, v2, v3, v4, v5, v6, (nar .byte s), (nar .byte s), (nar .byte s), (nar .byte s), (nar .byte s), (nar .byte s), (nar .byte s)] := by rw [own_ix0_0, own_ix0_1, own_ix0_2, own_ix0_3, own_ix0_4, own_ix0_5, own_ix0_6]; rfl
theorem own_l7_0 (s v0 v1 v2 v3 v4 v5 v6 v7 : Int32) : (((((((((own_fl s).set ((0 : Int32)).toNatClampNeg v0).set (((0 : Int32) + (1 : Int32))).toNatClampNeg v1).set ((((0 : Int32) + (1 : Int32)) + (1 : Int32))).toNatClampNeg v2).set (((((0 : Int32) + (1 : Int32)) + (1 : Int32)) + (1 : Int32))).toNatClampNeg v3).set ((((((0 : Int32) + (1 : Int32)) + (1 : Int32)) + (1 : Int32)) + (1 : Int32))).toNatClampNeg v4).set (((((((0 : Int32) + (1 : Int32)) + (1 : Int32)) + (1 : Int32)) + (1 : Int32)) + (1 : Int32))).toNatClampNeg v5).set ((((((((0 : Int32) + (1 : Int32)) + (1 : Int32)) + (1 : Int32)) + (1 : Int32)) + (1 : Int32)) + (1 : Int32))).toNatClampNeg v6).set (((((((((0 : Int32) + (1 : Int32)) + (1 : Int32)) + (1 : Int32)) + (1 : Int32)) + (1 : Int32)) + (1 : Int32)) + (1 : Int32))).toNatClampNeg v7) = [v0, v1, v2, v3, v4, v5, v6, v7, (nar .byte s), (nar .byte s), (nar .byte s), (nar .byte s), (nar .byte s), (nar .byte s)] := by rw [own_ix0_0, own_ix0_1, own_ix0_2, own_ix0_3, own_ix0_4, own_ix0_5, own_ix0_6, own_ix0_7]; rfl
theorem own_l8_0 (s v0 v1 v2 v3 v4 v5 v6 v7 v8 : Int32) : ((((((((((own_fl s).set ((0 : Int32)).toNatClampNeg v0).set (((0 : Int32) + (1 : Int32))).toNatClampNeg v1).set ((((0 : Int32) + (1 : Int32)) + (1 : Int32))).toNatClampNeg v2).set (((((0 : Int32) + (1 : Int32)) + (1 : Int32)) + (1 : Int32))).toNatClampNeg v3).set ((((((0 : Int32) + (1 : Int32)) + (1 : Int32)) + (1 : Int32)) + (1 : Int32))).toNatClampNeg v4).set (((((((0 : Int32) + (1 : Int32)) + (1 : Int32)) + (1 : Int32)) + (1 : Int32)) + (1 : Int32))).toNatClampNeg v5).set ((((((((0 : Int32) + (1 : Int32)) + (1 : Int32)) + (1 : Int32)) + (1 : Int32)) + (1 : Int32)) + (1 : Int32))).toNatClampNeg v6).set (((((((((0 : Int32) + (1 : Int32)) + (1 : Int32)) + (1 : Int32)) + (1 : Int32)) + (1 : Int32)) + (1 : Int32)) + (1 : Int32))).toNatClampNeg v7).set ((((((((((0 : Int32) + (1 : Int32)) + (1 : Int32)) + (1 : Int32)) + (1 : Int32)) + (1 : Int32)) + (1 : Int32)) + (1 : Int32)) + (1 : Int32))).toNatClampNeg v8) = [v0, v1, v2, v3, v4, v5, v6, v7, v8, (nar .byte s), (nar .byte s), (nar .byte s), (nar .byte s), (nar .byte s)] := by rw [own_ix0_0, own_ix0_1, own_ix0_2, own_ix0_3, own_ix0_4, own_ix0_5, own_ix0_6, own_ix0_7, own_ix0_8]; rfl
theorem own_l9_0 (s v0 v1 v2 v3 v4 v5 v6 v7 v8 v9 : Int32) : (((((((((((own_fl s).set ((0 : Int32)).toNatClampNeg v0).set (((0 : Int32) + (1 : Int32))).toNatClampNeg v1).set ((((0 : Int32) + (1 : Int32)) + (1 : Int32))).toNatClampNeg v2).set (((((0 : Int32) + (1 : Int32)) + (1 : Int32)) + (1 : Int32))).toNatClampNeg v3).set ((((((0 : Int32) + (1 : Int32)) + (1 : Int32)) + (1 : Int32)) + (1 : Int32))).toNatClampNeg v4).set (((((((0 : Int32) + (1 : Int32)) + (1 : Int32)) + (1 : Int32)) + (1 : Int32)) + (1 : Int32))).toNatClampNeg v5).set ((((((((0 : Int32) + (1 : Int32)) + (1 : Int32)) + (1 : Int32)) + (1 : Int32)) + (1 : Int32)) + (1 : Int32))).toNatClampNeg v6).set (((((((((0 : Int32) + (1 : Int32)) + (1 : Int32)) + (1 : Int32)) + (1 : Int32)) + (1 : Int32)) + (1 : Int32)) + (1 : Int32))).toNatClampNeg v7).set ((((((((((0 : Int32) + (1 : Int32)) + (1 : Int32)) + (1 : Int32)) + (1 : Int32)) + (1 : Int32)) + (1 : Int32)) + (1 : Int32)) + (1 : Int32))).toNatClampNeg v8).set (((((((((((0 : Int32) + (1 : Int32)) + (1 : Int32)) + (1 : Int32)) + (1 : Int32)) + (1 : Int32)) + (1 : Int32)) + (1 : Int32)) + (1 : Int32)) + (1 : Int32))).toNatClampNeg v9) = [v0, v1, v2, v3, v4, v5, v6, v7, v8, v9, (nar .byte s), (nar .byte s), (nar .byte s), (nar .byte s)] := by rw [own_ix0_0, own_ix0_1, own_ix0_2, own_ix0_3, own_ix0_4, own_ix0_5, own_ix0_6, own_ix0_7, own_ix0_8, own_ix0_9]; rfl
theorem own_ix1_0 : ((1 : Int32)).toNatClampNeg = 1 := by decide
theorem own_ix1_1 : (((1 : Int32) + (1 : Int32))).toNatClampNeg = 2 := by decide
theorem own_ix1_2 : ((((1 : Int32) + (1 : Int32)) + (1 : Int32))).toNatClampNeg = 3 := by decide
theorem own_ix1_3 : (((((1 : Int32) + (1 : Int32)) + (1 : Int32)) + (1 : Int32))).toNatClampNeg = 4 := by decide
theorem own_ix1_4 : ((((((1 : Int32) + (1 : Int32)) + (1 : Int32)) + (1 : Int32)) + (1 : Int32))).toNatClampNeg = 5 := by decide
theorem own_ix1_5 : (((((((1 : Int32) + (1 : Int32)) + (1 : Int32)) + (1 : Int32)) + (1 : Int32)) + (1 : Int32))).toNatClampNeg = 6 := by decide
theorem own_ix1_6 : ((((((((1 : Int32) + (1 : Int32)) + (1 : Int32)) + (1 : Int32)) + (1 : Int32)) + (1 : Int32)) + (1 : Int32))).toNatClampNeg = 7 := by decide
theorem own_ix1_7 : (((((((((1 : Int32) + (1 : Int32)) + (1 : Int32)) + (1 : Int32)) + (1 : Int32)) + (1 : Int32)) + (1 : Int32)) + (1 : Int32))).toNatClampNeg = 8 := by decide
theorem own_ix1_8 : ((((((((((1 : Int32) + (1 : Int32)) + (1 : Int32)) + (1 : Int32)) + (1 : Int32)) + (1 : Int32)) + (1 : Int32)) + (1 : Int32)) + (1 : Int32))).toNatClampNeg = 9 := by decide
theorem own_ix1_9 : (((((((((((1 : Int32) + (1 : Int32)) + (1 : Int32)) + (1 : Int32)) + (1 : Int32)) + (1 : Int32)) + (1 : Int32)) + (1 : Int32)) + (1 : Int32)) + (1 : Int32))).toNatClampNeg = 10 := by decide
theorem own_l0_1 (s v0 : Int32) : ((own_fl s).set ((1 : Int32)).toNatClampNeg v0) = [(nar .byte s), v0, (nar .byte s), (nar .byte s), (nar .byte s), (nar .byte s), (nar .byte s), (nar .byte s), (nar .byte s), (nar .byte s), (nar .byte s), (nar .byte s), (nar .byte s), (nar .byte s)] := by rw [own_ix1_0]; rfl
theorem own_l1_1 (s v0 v1 : Int32) : (((own_fl s).set ((1 : Int32)).toNatClampNeg v0).set (((1 : Int32) + (1 : Int32))).toNatClampNeg v1) = [(nar .byte s), v0, v1, (nar .byte s), (nar .byte s), (nar .byte s), (nar .byte s), (nar .byte s), (nar .byte s), (nar .byte s), (nar .byte s), (nar .byte s), (nar .byte s), (nar .byte s)] := by rw [own_ix1_0, own_ix1_1]; rfl
theorem own_l2_1 (s v0 v1 v2 : Int32) : ((((own_fl s).set ((1 : Int32)).toNatClampNeg v0).set (((1 : Int32) + (1 : Int32))).toNatClampNeg v1).set ((((1 : Int32) + (1 : Int32)) + (1 : Int32))).toNatClampNeg v2) = [(nar .byte s), v0, v1, v2, (nar .byte s), (nar .byte s), (nar .byte s), (nar .byte s), (nar .byte s), (nar .byte s), (nar .byte s), (nar .byte s), (nar .byte s), (nar .byte s)] := by rw [own_ix1_0, own_ix1_1, own_ix1_2]; rfl
theorem own_l3_1 (s v0 v1 v2 v3 : Int32) : (((((own_fl s).set ((1 : Int32)).toNatClampNeg v0).set (((1 : Int32) + (1 : Int32))).toNatClampNeg v1).set ((((1 : Int32) + (1 : Int32)) + (1 : Int32))).toNatClampNeg v2).set (((((1 : Int32) + (1 : Int32)) + (1 : Int32)) + (1 : Int32))).toNatClampNeg v3) = [(nar .byte s), v0, v1, v2, v3, (nar .byte s), (nar .byte s), (nar .byte s), (nar .byte s), (nar .byte s), (nar .byte s), (nar .byte s), (nar .byte s), (nar .byte s)] := by rw [own_ix1_0, own_ix1_1, own_ix1_2, own_ix1_3]; rfl
theorem own_l4_1 (s v0 v1 v2 v3 v4 : Int32) : ((((((own_fl s).set ((1 : Int32)).toNatClampNeg v0).set (((1 : Int32) + (1 : Int32))).toNatClampNeg v1).set ((((1 : Int32) + (1 : Int32)) + (1 : Int32))).toNatClampNeg v2).set (((((1 : Int32) + (1 : Int32)) + (1 : Int32)) + (1 : Int32))).toNatClampNeg v3).set ((((((1 : Int32) + (1 : Int32)) + (1 : Int32)) + (1 : Int32)) + (1 : Int32))).toNatClampNeg v4) = [(nar .byte s), v0, v1, v2, v3, v4, (nar .byte s), (nar .byte s), (nar .byte s), (nar .byte s), (nar .byte s), (nar .byte s), (nar .byte s), (nar .byte s)] := by rw [own_ix1_0, own_ix1_1, own_ix1_2, own_ix1_3, own_ix1_4]; rfl
theorem own_l5_1 (s v0 v1 v2 v3 v4 v5 : Int32) : (((((((own_fl s).set ((1 : Int32)).toNatClampNeg v0).set (((1 : Int32) + (1 : Int32))).toNatClampNeg v1).set ((((1 : Int32) + (1 : Int32)) + (1 : Int32))).toNatClampNeg v2).set (((((1 : Int32) + (1 : Int32)) + (1 : Int32)) + (1 : Int32))).toNatClampNeg v3).set ((((((1 : Int32) + (1 : Int32)) + (1 : Int32)) + (1 : Int32)) + (1 : Int32))).toNatClampNeg v4).set (((((((1 : Int32) + (1 : Int32)) + (1 : Int32)) + (1 : Int32)) + (1 : Int32)) + (1 : Int32))).toNatClampNeg v5) = [(nar .byte s), v0, v1, v2, v3, v4, v5, (nar .byte s), (nar .byte s), (nar .byte s), (nar .byte s), (nar .byte s), (nar .byte s), (nar .byte s)] := by rw [own_ix1_0, own_ix1_1, own_ix1_2, own_ix1_3, own_ix1_4, own_ix1_5]; rfl
theorem own_l6_1 (s v0 v1 v2 v3 v4 v5 v6 : Int32) : ((((((((own_fl s).set ((1 : Int32)).toNatClampNeg v0).set (((1 : Int32) + (1 : Int32))).toNatClampNeg v1).set ((((1 : Int32) + (1 : Int32)) + (1 : Int32))).toNatClampNeg v2).set (((((1 : Int32) + (1 : Int32)) + (1 : Int32)) + (1 : Int32))).toNatClampNeg v3).set ((((((1 : Int32) + (1 : Int32)) + (1 : Int32)) + (1 : Int32)) + (1 : Int32))).toNatClampNeg v4).set (((((((1 : Int32) + (1 : Int32)) + (1 : Int32)) + (1 : Int32)) + (1 : Int32)) + (1 : Int32))).toNatClampNeg v5).set ((((((((1 : Int32) + (1 : Int32)) + (1 : Int32)) + (1 : Int32)) + (1 : Int32)) + (1 : Int32)) + (1 : Int32))).toNatClampNeg v6) = [(nar .byte s), v0, v1, v2, v3, v4, v5, v6, (nar .byte s), (nar .byte s), (nar .byte s), (nar .byte s), (nar .byte s), (nar .byte s)] := by rw [own_ix1_0, own_ix1_1, own_ix1_2, own_ix1_3, own_ix1_4, own_ix1_5, own_ix1_6]; rfl
theorem own_l7_1 (s v0 v1 v2 v3 v4 v5 v6 v7 : Int32) : (((((((((own_fl s).set ((1 : Int32)).toNatClampNeg v0).set (((1 : Int32) + (1 : Int32))).toNatClampNeg v1).set ((((1 : Int32) + (1 : Int32)) + (1 : Int32))).toNatClampNeg v2).set (((((1 : Int32) + (1 : Int32)) + (1 : Int32)) + (1 : Int32))).toNatClampNeg v3).set ((((((1 : Int32) + (1 : Int32)) + (1 : Int32)) + (1 : Int32)) + (1 : Int32))).toNatClampNeg v4).set (((((((1 : Int32) + (1 : Int32)) + (1 : Int32)) + (1 : Int32)) + (1 : Int32)) + (1 : Int32))).toNatClampNeg v5).set ((((((((1 : Int32) + (1 : Int32)) + (1 : Int32)) + (1 : Int32)) + (1 : Int32)) + (1 : Int32)) + (1 : Int32))).toNatClampNeg v6).set (((((((((1 : Int32) + (1 : Int32)) + (1 : Int32)) + (1 : Int32)) + (1 : Int32)) + (1 : Int32)) + (1 : Int32)) + (1 : Int32))).toNatClampNeg v7) = [(nar .byte s), v0, v1, v2, v3, v4, v5, v6, v7, (nar .byte s), (nar .byte s), (nar .byte s), (nar .byte s), (nar .byte s)] := by rw [own_ix1_0, own_ix1_1, own_ix1_2, own_ix1_3, own_ix1_4, own_ix1_5, own_ix1_6, own_ix1_7]; rfl
theorem own_l8_1 (s v0 v1 v2 v3 v4 v5 v6 v7 v8 : Int32) : ((((((((((own_fl s).set ((1 : Int32)).toNatClampNeg v0).set (((1 : Int32) + (1 : Int32))).toNatClampNeg v1).set ((((1 : Int32) + (1 : Int32)) + (1 : Int32))).toNatClampNeg v2).set (((((1 : Int32) + (1 : Int32)) + (1 : Int32)) + (1 : Int32))).toNatClampNeg v3).set ((((((1 : Int32) + (1 : Int32)) + (1 : Int32)) + (1 : Int32)) + (1 : Int32))).toNatClampNeg v4).set (((((((1 : Int32) + (1 : Int32)) + (1 : Int32)) + (1 : Int32)) + (1 : Int32)) + (1 : Int32))).toNatClampNeg v5).set ((((((((1 : Int32) + (1 : Int32)) + (1 : Int32)) + (1 : Int32)) + (1 : Int32)) + (1 : Int32)) + (1 : Int32))).toNatClampNeg v6).set (((((((((1 : Int32) + (1 : Int32)) + (1 : Int32)) + (1 : Int32)) + (1 : Int32)) + (1 : Int32)) + (1 : Int32)) + (1 : Int32))).toNatClampNeg v7).set ((((((((((1 : Int32) + (1 : Int32)) + (1 : Int32)) + (1 : Int32)) + (1 : Int32)) + (1 : Int32)) + (1 : Int32)) + (1 : Int32)) + (1 : Int32))).toNatClampNeg v8) = [(nar .byte s), v0, v1, v2, v3, v4, v5, v6, v7, v8, (nar .byte s), (nar .byte s), (nar .byte s), (nar .byte s)] := by rw [own_ix1_0, own_ix1_1, own_ix1_2, own_ix1_3, own_ix1_4, own_ix1_5, own_ix1_6, own_ix1_7, own_ix1_8]; rfl
theorem own_l9_1 (s v0 v1 v2 v3 v4 v5 v6 v7 v8 v9 : Int32) : (((((((((((own_fl s).set ((1 : Int32)).toNatClampNeg v0).set (((1 : Int32) + (1 : Int32))).toNatClampNeg v1).set ((((1 : Int32) + (1 : Int32)) + (1 : Int32))).toNatClampNeg v2).set (((((1 : Int32) + (1 : Int32)) + (1 : Int32)) + (1 : Int32))).toNatClampNeg v3).set ((((((1 : Int32) + (1 : Int32)) + (1 : Int32)) + (1 : Int32)) + (1 : Int32))).toNatClampNeg v4).set (((((((1 : Int32) + (1 : Int32)) + (1 : Int32)) + (1 : Int32)) + (1 : Int32)) + (1 : Int32))).toNatClampNeg v5).set ((((((((1 : Int32) + (1 : Int32)) + (1 : Int32)) + (1 : Int32)) + (1 : Int32)) + (1 : Int32)) + (1 : Int32))).toNatClampNeg v6).set (((((((((1 : Int32) + (1 : Int32)) + (1 : Int32)) + (1 : Int32)) + (1 : Int32)) + (1 : Int32)) + (1 : Int32)) + (1 : Int32))).toNatClampNeg v7).set ((((((((((1 : Int32) + (1 : Int32)) + (1 : Int32)) + (1 : Int32)) + (1 : Int32)) + (1 : Int32)) + (1 : Int32)) + (1 : Int32)) + (1 : Int32))).toNatClampNeg v8).set (((((((((((1 : Int32) + (1 : Int32)) + (1 : Int32)) + (1 : Int32)) + (1 : Int32)) + (1 : Int32)) + (1 : Int32)) + (1 : Int32)) + (1 : Int32)) + (1 : Int32))).toNatClampNeg v9) = [(nar .byte s), v0, v1, v2, v3, v4, v5, v6, v7, v8, v9, (nar .byte s), (nar .byte s), (nar .byte s)] := by rw [own_ix1_0, own_ix1_1, own_ix1_2, own_ix1_3, own_ix1_4, own_ix1_5, own_ix1_6, own_ix1_7, own_ix1_8, own_ix1_9]; rfl
theorem own_ix2_0 : ((2 : Int32)).toNatClampNeg = 2 := by decide
theorem own_ix2_1 : (((2 : Int32) + (1 : Int32))).toNatClampNeg = 3 := by decide
theorem own_ix2_2 : ((((2 : Int32) + (1 : Int32)) + (1 : Int32))).toNatClampNeg = 4 := by decide
theorem own_ix2_3 : (((((2 : Int32) + (1 : Int32)) + (1 : Int32)) + (1 : Int32))).toNatClampNeg = 5 := by decide
theorem own_ix2_4 : ((((((2 : Int32) + (1 : Int32)) + (1 : Int32)) + (1 : Int32)) + (1 : Int32))).toNatClampNeg = 6 := by decide
theorem own_ix2_5 : (((((((2 : Int32) + (1 : Int32)) + (1 : Int32)) + (1 : Int32)) + (1 : Int32)) + (1 : Int32))).toNatClampNeg = 7 := by decide
theorem own_ix2_6 : ((((((((2 : Int32) + (1 : Int32)) + (1 : Int32)) + (1 : Int32)) + (1 : Int32)) + (1 : Int32)) + (1 : Int32))).toNatClampNeg = 8 := by decide
theorem own_ix2_7 : (((((((((2 : Int32) + (1 : Int32)) + (1 : Int32)) + (1 : Int32)) + (1 : Int32)) + (1 : Int32)) + (1 : Int32)) + (1 : Int32))).toNatClampNeg = 9 := by decide
theorem own_ix2_8 : ((((((((((2 : Int32) + (1 : Int32)) + (1 : Int32)) + (1 : Int32)) + (1 : Int32)) + (1 : Int32)) + (1 : Int32)) + (1 : Int32)) + (1 : Int32))).toNatClampNeg = 10 := by decide
theorem own_ix2_9 : (((((((((((2 : Int32) + (1 : Int32)) + (1 : Int32)) + (1 : Int32)) + (1 : Int32)) + (1 : Int32)) + (1 : Int32)) + (1 : Int32)) + (1 : Int32)) + (1 : Int32))).toNatClampNeg = 11 := by decide
theorem own_l0_2 (s v0 : Int32) : ((own_fl s).set ((2 : Int32)).toNatClampNeg v0) = [(nar .byte s), (nar .byte s), v0, (nar .byte s), (nar .byte s), (nar .byte s), (nar .byte s), (nar .byte s), (nar .byte s), (nar .byte s), (nar .byte s), (nar .byte s), (nar .byte s), (nar .byte s)] := by rw [own_ix2_0]; rfl
theorem own_l1_2 (s v0 v1 : Int32) : (((own_fl s).set ((2 : Int32)).toNatClampNeg v0).set (((2 : Int32) + (1 : Int32))).toNatClampNeg v1) = [(nar .byte s), (nar .byte s), v0, v1, (nar .byte s), (nar .byte s), (nar .byte s), (nar .byte s), (nar .byte s), (nar .byte s), (nar .byte s), (nar .byte s), (nar .byte s), (nar .byte s)] := by rw [own_ix2_0, own_ix2_1]; rfl
theorem own_l2_2 (s v0 v1 v2 : Int32) : ((((own_fl s).set ((2 : Int32)).toNatClampNeg v0).set (((2 : Int32) + (1 : Int32))).toNatClampNeg v1).set ((((2 : Int32) + (1 : Int32)) + (1 : Int32))).toNatClampNeg v2) = [(nar .byte s), (nar .byte s), v0, v1, v2, (nar .byte s), (nar .byte s), (nar .byte s), (nar .byte s), (nar .byte s), (nar .byte s), (nar .byte s), (nar .byte s), (nar .byte s)] := by rw [own_ix2_0, own_ix2_1, own_ix2_2]; rfl
theorem own_l3_2 (s v0 v1 v2 v3 : Int32) : (((((own_fl s).set ((2 : Int32)).toNatClampNeg v0).set (((2 : Int32) + (1 : Int32))).toNatClampNeg v1).set ((((2 : Int32) + (1 : Int32)) + (1 : Int32))).toNatClampNeg v2).set (((((2 : Int32) + (1 : Int32)) + (1 : Int32)) + (1 : Int32))).toNatClampNeg v3) = [(nar .byte s), (nar .byte s), v0, v1, v2, v3, (nar .byte s), (nar .byte s), (nar .byte s), (nar .byte s), (nar .byte s), (nar .byte s), (nar .byte s), (nar .byte s)] := by rw [own_ix2_0, own_ix2_1, own_ix2_2, own_ix2_3]; rfl
theorem own_l4_2 (s v0 v1 v2 v3 v4 : Int32) : ((((((own_fl s).set ((2 : Int32)).toNatClampNeg v0).set (((2 : Int32) + (1 : Int32))).toNatClampNeg v1).set ((((2 : Int32) + (1 : Int32)) + (1 : Int32))).toNatClampNeg v2).set (((((2 : Int32) + (1 : Int32)) + (1 : Int32)) + (1 : Int32))).toNatClampNeg v3).set ((((((2 : Int32) + (1 : Int32)) + (1 : Int32)) + (1 : Int32)) + (1 : Int32))).toNatClampNeg v4) = [(nar .byte s), (nar .byte s), v0, v1, v2, v3, v4, (nar .byte s), (nar .byte s), (nar .byte s), (nar .byte s), (nar .byte s), (nar .byte s), (nar .byte s)] := by rw [own_ix2_0, own_ix2_1, own_ix2_2, own_ix2_3, own_ix2_4]; rfl
theorem own_l5_2 (s v0 v1 v2 v3 v4 v5 : Int32) : (((((((own_fl s).set ((2 : Int32)).toNatClampNeg v0).set (((2 : Int32) + (1 : Int32))).toNatClampNeg v1).set ((((2 : Int32) + (1 : Int32)) + (1 : Int32))).toNatClampNeg v2).set (((((2 : Int32) + (1 : Int32)) + (1 : Int32)) + (1 : Int32))).toNatClampNeg v3).set ((((((2 : Int32) + (1 : Int32)) + (1 : Int32)) + (1 : Int32)) + (1 : Int32))).toNatClampNeg v4).set (((((((2 : Int32) + (1 : Int32)) + (1 : Int32)) + (1 : Int32)) + (1 : Int32)) + (1 : Int32))).toNatClampNeg v5) = [(nar .byte s), (nar .byte s), v0, v1, v2, v3, v4, v5, (nar .byte s), (nar .byte s), (nar .byte s), (nar .byte s), (nar .byte s), (nar .byte s)] := by rw [own_ix2_0, own_ix2_1, own_ix2_2, own_ix2_3, own_ix2_4, own_ix2_5]; rfl
theorem own_l6_2 (s v0 v1 v2 v3 v4 v5 v6 : Int32) : ((((((((own_fl s).set ((2 : Int32)).toNatClampNeg v0).set (((2 : Int32) + (1 : Int32))).toNatClampNeg v1).set ((((2 : Int32) + (1 : Int32)) + (1 : Int32))).toNatClampNeg v2).set (((((2 : Int32) + (1 : Int32)) + (1 : Int32)) + (1 : Int32))).toNatClampNeg v3).set ((((((2 : Int32) + (1 : Int32)) + (1 : Int32)) + (1 : Int32)) + (1 : Int32))).toNatClampNeg v4).set (((((((2 : Int32) + (1 : Int32)) + (1 : Int32)) + (1 : Int32)) + (1 : Int32)) + (1 : Int32))).toNatClampNeg v5).set ((((((((2 : Int32) + (1 : Int32)) + (1 : Int32)) + (1 : Int32)) + (1 : Int32)) + (1 : Int32)) + (1 : Int32))).toNatClampNeg v6) = [(nar .byte s), (nar .byte s), v0, v1, v2, v3, v4, v5, v6, (nar .byte s), (nar .byte s), (nar .byte s), (nar .byte s), (nar .byte s)] := by rw [own_ix2_0, own_ix2_1, own_ix2_2, own_ix2_3, own_ix2_4, own_ix2_5, own_ix2_6]; rfl
theorem own_l7_2 (s v0 v1 v2 v3 v4 v5 v6 v7 : Int32) : (((((((((own_fl s).set ((2 : Int32)).toNatClampNeg v0).set (((2 : Int32) + (1 : Int32))).toNatClampNeg v1).set ((((2 : Int32) + (1 : Int32)) + (1 : Int32))).toNatClampNeg v2).set (((((2 : Int32) + (1 : Int32)) + (1 : Int32)) + (1 : Int32))).toNatClampNeg v3).set ((((((2 : Int32) + (1 : Int32)) + (1 : Int32)) + (1 : Int32)) + (1 : Int32))).toNatClampNeg v4).set (((((((2 : Int32) + (1 : Int32)) + (1 : Int32)) + (1 : Int32)) + (1 : Int32)) + (1 : Int32))).toNatClampNeg v5).set ((((((((2 : Int32) + (1 : Int32)) + (1 : Int32)) + (1 : Int32)) + (1 : Int32)) + (1 : Int32)) + (1 : Int32))).toNatClampNeg v6).set (((((((((2 : Int32) + (1 : Int32)) + (1 : Int32)) + (1 : Int32)) + (1 : Int32)) + (1 : Int32)) + (1 : Int32)) + (1 : Int32))).toNatClampNeg v7) = [(nar .byte s), (nar .byte s), v0, v1, v2, v3, v4, v5, v6, v7, (nar .byte s), (nar .byte s), (nar .byte s), (nar .byte s)] := by rw [own_ix2_0, own_ix2_1, own_ix2_2, own_ix2_3, own_ix2_4, own_ix2_5, own_ix2_6, own_ix2_7]; rfl
theorem own_l8_2 (s v0 v1 v2 v3 v4 v5 v6 v7 v8 : Int32) : ((((((((((own_fl s).set ((2 : Int32)).toNatClampNeg v0).set (((2 : Int32) + (1 : Int32))).toNatClampNeg v1).set ((((2 : Int32) + (1 : Int32)) + (1 : Int32))).toNatClampNeg v2).set (((((2 : Int32) + (1 : Int32)) + (1 : Int32)) + (1 : Int32))).toNatClampNeg v3).set ((((((2 : Int32) + (1 : Int32)) + (1 : Int32)) + (1 : Int32)) + (1 : Int32))).toNatClampNeg v4).set (((((((2 : Int32) + (1 : Int32)) + (1 : Int32)) + (1 : Int32)) + (1 : Int32)) + (1 : Int32))).toNatClampNeg v5).set ((((((((2 : Int32) + (1 : Int32)) + (1 : Int32)) + (1 : Int32)) + (1 : Int32)) + (1 : Int32)) + (1 : Int32))).toNatClampNeg v6).set (((((((((2 : Int32) + (1 : Int32)) + (1 : Int32)) + (1 : Int32)) + (1 : Int32)) + (1 : Int32)) + (1 : Int32)) + (1 : Int32))).toNatClampNeg v7).set ((((((((((2 : Int32) + (1 : Int32)) + (1 : Int32)) + (1 : Int32)) + (1 : Int32)) + (1 : Int32)) + (1 : Int32)) + (1 : Int32)) + (1 : Int32))).toNatClampNeg v8) = [(nar .byte s), (nar .byte s), v0, v1, v2, v3, v4, v5, v6, v7, v8, (nar .byte s), (nar .byte s), (nar .byte s)] := by rw [own_ix2_0, own_ix2_1, own_ix2_2, own_ix2_3, own_ix2_4, own_ix2_5, own_ix2_6, own_ix2_7, own_ix2_8]; rfl
theorem own_l9_2 (s v0 v1 v2 v3 v4 v5 v6 v7 v8 v9 : Int32) : (((((((((((own_fl s).set ((2 : Int32)).toNatClampNeg v0).set (((2 : Int32) + (1 : Int32))).toNatClampNeg v1).set ((((2 : Int32) + (1 : Int32)) + (1 : Int32))).toNatClampNeg v2).set (((((2 : Int32) + (1 : Int32)) + (1 : Int32)) + (1 : Int32))).toNatClampNeg v3).set ((((((2 : Int32) + (1 : Int32)) + (1 : Int32)) + (1 : Int32)) + (1 : Int32))).toNatClampNeg v4).set (((((((2 : Int32) + (1 : Int32)) + (1 : Int32)) + (1 : Int32)) + (1 : Int32)) + (1 : Int32))).toNatClampNeg v5).set ((((((((2 : Int32) + (1 : Int32)) + (1 : Int32)) + (1 : Int32)) + (1 : Int32)) + (1 : Int32)) + (1 : Int32))).toNatClampNeg v6).set (((((((((2 : Int32) + (1 : Int32)) + (1 : Int32)) + (1 : Int32)) + (1 : Int32)) + (1 : Int32)) + (1 : Int32)) + (1 : Int32))).toNatClampNeg v7).set ((((((((((2 : Int32) + (1 : Int32)) + (1 : Int32)) + (1 : Int32)) + (1 : Int32)) + (1 : Int32)) + (1 : Int32)) + (1 : Int32)) + (1 : Int32))).toNatClampNeg v8).set (((((((((((2 : Int32) + (1 : Int32)) + (1 : Int32)) + (1 : Int32)) + (1 : Int32)) + (1 : Int32)) + (1 : Int32)) + (1 : Int32)) + (1 : Int32)) + (1 : Int32))).toNatClampNeg v9) = [(nar .byte s), (nar .byte s), v0, v1, v2, v3, v4, v5, v6, v7, v8, v9, (nar .byte s), (nar .byte s)] := by rw [own_ix2_0, own_ix2_1, own_ix2_2, own_ix2_3, own_ix2_4, own_ix2_5, own_ix2_6, own_ix2_7, own_ix2_8, own_ix2_9]; rfl
theorem own_ix3_0 : ((3 : Int32)).toNatClampNeg = 3 := by decide
theorem own_ix3_1 : (((3 : Int32) + (1 : Int32))).toNatClampNeg = 4 := by decide
theorem own_ix3_2 : ((((3 : Int32) + (1 : Int32)) + (1 : Int32))).toNatClampNeg = 5 := by decide
theorem own_ix3_3 : (((((3 : Int32) + (1 : Int32)) + (1 : Int32)) + (1 : Int32))).toNatClampNeg = 6 := by decide
theorem own_ix3_4 : ((((((3 : Int32) + (1 : Int32)) + (1 : Int32)) + (1 : Int32)) + (1 : Int32))).toNatClampNeg = 7 := by decide
theorem own_ix3_5 : (((((((3 : Int32) + (1 : Int32)) + (1 : Int32)) + (1 : Int32)) + (1 : Int32)) + (1 : Int32))).toNatClampNeg = 8 := by decide
theorem own_ix3_6 : ((((((((3 : Int32) + (1 : Int32)) + (1 : Int32)) + (1 : Int32)) + (1 : Int32)) + (1 : Int32)) + (1 : Int32))).toNatClampNeg = 9 := by decide
theorem own_ix3_7 : (((((((((3 : Int32) + (1 : Int32)) + (1 : Int32)) + (1 : Int32)) + (1 : Int32)) + (1 : Int32)) + (1 : Int32)) + (1 : Int32))).toNatClampNeg = 10 := by decide
theorem own_ix3_8 : ((((((((((3 : Int32) + (1 : Int32)) + (1 : Int32)) + (1 : Int32)) + (1 : Int32)) + (1 : Int32)) + (1 : Int32)) + (1 : Int32)) + (1 : Int32))).toNatClampNeg = 11 := by decide
theorem own_ix3_9 : (((((((((((3 : Int32) + (1 : Int32)) + (1 : Int32)) + (1 : Int32)) + (1 : Int32)) + (1 : Int32)) + (1 : Int32)) + (1 : Int32)) + (1 : Int32)) + (1 : Int32))).toNatClampNeg = 12 := by decide
theorem own_l0_3 (s v0 : Int32) : ((own_fl s).set ((3 : Int32)).toNatClampNeg v0) = [(nar .byte s), (nar .byte s), (nar .byte s), v0, (nar .byte s), (nar .byte s), (nar .byte s), (nar .byte s), (nar .byte s), (nar .byte s), (nar .byte s), (nar .byte s), (nar .byte s), (nar .byte s)] := by rw [own_ix3_0]; rfl
theorem own_l1_3 (s v0 v1 : Int32) : (((own_fl s).set ((3 : Int32)).toNatClampNeg v0).set (((3 : Int32) + (1 : Int32))).toNatClampNeg v1) = [(nar .byte s), (nar .byte s), (nar .byte s), v0, v1, (nar .byte s), (nar .byte s), (nar .byte s), (nar .byte s), (nar .byte s), (nar .byte s), (nar .byte s), (nar .byte s), (nar .byte s)] := by rw [own_ix3_0, own_ix3_1]; rfl
theorem own_l2_3 (s v0 v1 v2 : Int32) : ((((own_fl s).set ((3 : Int32)).toNatClampNeg v0).set (((3 : Int32) + (1 : Int32))).toNatClampNeg v1).set ((((3 : Int32) + (1 : Int32)) + (1 : Int32))).toNatClampNeg v2) = [(nar .byte s), (nar .byte s), (nar .byte s), v0, v1, v2, (nar .byte s), (nar .byte s), (nar .byte s), (nar .byte s), (nar .byte s), (nar .byte s), (nar .byte s), (nar .byte s)] := by rw [own_ix3_0, own_ix3_1, own_ix3_2]; rfl
theorem own_l3_3 (s v0 v1 v2 v3 : Int32) : (((((own_fl s).set ((3 : Int32)).toNatClampNeg v0).set (((3 : Int32) + (1 : Int32))).toNatClampNeg v1).set ((((3 : Int32) + (1 : Int32)) + (1 : Int32))).toNatClampNeg v2).set (((((3 : Int32) + (1 : Int32)) + (1 : Int32)) + (1 : Int32))).toNatClampNeg v3) = [(nar .byte s), (nar .byte s), (nar .byte s), v0, v1, v2, v3, (nar .byte s), (nar .byte s), (nar .byte s), (nar .byte s), (nar .byte s), (nar .byte s), (nar .byte s)] := by rw [own_ix3_0, own_ix3_1, own_ix3_2, own_ix3_3]; rfl
theorem own_l4_3 (s v0 v1 v2 v3 v4 : Int32) : ((((((own_fl s).set ((3 : Int32)).toNatClampNeg v0).set (((3 : Int32) + (1 : Int32))).toNatClampNeg v1).set ((((3 : Int32) + (1 : Int32)) + (1 : Int32))).toNatClampNeg v2).set (((((3 : Int32) + (1 : Int32)) + (1 : Int32)) + (1 : Int32))).toNatClampNeg v3).set ((((((3 : Int32) + (1 : Int32)) + (1 : Int32)) + (1 : Int32)) + (1 : Int32))).toNatClampNeg v4) = [(nar .byte s), (nar .byte s), (nar .byte s), v0, v1, v2, v3, v4, (nar .byte s), (nar .byte s), (nar .byte s), (nar .byte s), (nar .byte s), (nar .byte s)] := by rw [own_ix3_0, own_ix3_1, own_ix3_2, own_ix3_3, own_ix3_4]; rfl
theorem own_l5_3 (s v0 v1 v2 v3 v4 v5 : Int32) : (((((((own_fl s).set ((3 : Int32)).toNatClampNeg v0).set (((3 : Int32) + (1 : Int32))).toNatClampNeg v1).set ((((3 : Int32) + (1 : Int32)) + (1 : Int32))).toNatClampNeg v2).set (((((3 : Int32) + (1 : Int32)) + (1 : Int32)) + (1 : Int32))).toNatClampNeg v3).set ((((((3 : Int32) + (1 : Int32)) + (1 : Int32)) + (1 : Int32)) + (1 : Int32))).toNatClampNeg v4).set (((((((3 : Int32) + (1 : Int32)) + (1 : Int32)) + (1 : Int32)) + (1 : Int32)) + (1 : Int32))).toNatClampNeg v5) = [(nar .byte s), (nar .byte s), (nar .byte s), v0, v1, v2, v3, v4, v5, (nar .byte s), (nar .byte s), (nar .byte s), (nar .byte s), (nar .byte s)] := by rw [own_ix3_0, own_ix3_1, own_ix3_2, own_ix3_3, own_ix3_4, own_ix3_5]; rfl
theorem own_l6_3 (s v0 v1 v2 v3 v4 v5 v6 : Int32) : ((((((((own_fl s).set ((3 : Int32)).toNatClampNeg v0).set (((3 : Int32) + (1 : Int32))).toNatClampNeg v1).set ((((3 : Int32) + (1 : Int32)) + (1 : Int32))).toNatClampNeg v2).set (((((3 : Int32) + (1 : Int32)) + (1 : Int32)) + (1 : Int32))).toNatClampNeg v3).set ((((((3 : Int32) + (1 : Int32)) + (1 : Int32)) + (1 : Int32)) + (1 : Int32))).toNatClampNeg v4).set (((((((3 : Int32) + (1 : Int32)) + (1 : Int32)) + (1 : Int32)) + (1 : Int32)) + (1 : Int32))).toNatClampNeg v5).set ((((((((3 : Int32) + (1 : Int32)) + (1 : Int32)) + (1 : Int32)) + (1 : Int32)) + (1 : Int32)) + (1 : Int32))).toNatClampNeg v6) = [(nar .byte s), (nar .byte s), (nar .byte s), v0, v1, v2, v3, v4, v5, v6, (nar .byte s), (nar .byte s), (nar .byte s), (nar .byte s)] := by rw [own_ix3_0, own_ix3_1, own_ix3_2, own_ix3_3, own_ix3_4, own_ix3_5, own_ix3_6]; rfl
theorem own_l7_3 (s v0 v1 v2 v3 v4 v5 v6 v7 : Int32) : (((((((((own_fl s).set ((3 : Int32)).toNatClampNeg v0).set (((3 : Int32) + (1 : Int32))).toNatClampNeg v1).set ((((3 : Int32) + (1 : Int32)) + (1 : Int32))).toNatClampNeg v2).set (((((3 : Int32) + (1 : Int32)) + (1 : Int32)) + (1 : Int32))).toNatClampNeg v3).set ((((((3 : Int32) + (1 : Int32)) + (1 : Int32)) + (1 : Int32)) + (1 : Int32))).toNatClampNeg v4).set (((((((3 : Int32) + (1 : Int32)) + (1 : Int32)) + (1 : Int32)) + (1 : Int32)) + (1 : Int32))).toNatClampNeg v5).set ((((((((3 : Int32) + (1 : Int32)) + (1 : Int32)) + (1 : Int32)) + (1 : Int32)) + (1 : Int32)) + (1 : Int32))).toNatClampNeg v6).set (((((((((3 : Int32) + (1 : Int32)) + (1 : Int32)) + (1 : Int32)) + (1 : Int32)) + (1 : Int32)) + (1 : Int32)) + (1 : Int32))).toNatClampNeg v7) = [(nar .byte s), (nar .byte s), (nar .byte s), v0, v1, v2, v3, v4, v5, v6, v7, (nar .byte s), (nar .byte s), (nar .byte s)] := by rw [own_ix3_0, own_ix3_1, own_ix3_2, own_ix3_3, own_ix3_4, own_ix3_5, own_ix3_6, own_ix3_7]; rfl
theorem own_l8_3 (s v0 v1 v2 v3 v4 v5 v6 v7 v8 : Int32) : ((((((((((own_fl s).set ((3 : Int32)).toNatClampNeg v0).set (((3 : Int32) + (1 : Int32))).toNatClampNeg v1).set ((((3 : Int32) + (1 : Int32)) + (1 : Int32))).toNatClampNeg v2).set (((((3 : Int32) + (1 : Int32)) + (1 : Int32)) + (1 : Int32))).toNatClampNeg v3).set ((((((3 : Int32) + (1 : Int32)) + (1 : Int32)) + (1 : Int32)) + (1 : Int32))).toNatClampNeg v4).set (((((((3 : Int32) + (1 : Int32)) + (1 : Int32)) + (1 : Int32)) + (1 : Int32)) + (1 : Int32))).toNatClampNeg v5).set ((((((((3 : Int32) + (1 : Int32)) + (1 : Int32)) + (1 : Int32)) + (1 : Int32)) + (1 : Int32)) + (1 : Int32))).toNatClampNeg v6).set (((((((((3 : Int32) + (1 : Int32)) + (1 : Int32)) + (1 : Int32)) + (1 : Int32)) + (1 : Int32)) + (1 : Int32)) + (1 : Int32))).toNatClampNeg v7).set ((((((((((3 : Int32) + (1 : Int32)) + (1 : Int32)) + (1 : Int32)) + (1 : Int32)) + (1 : Int32)) + (1 : Int32)) + (1 : Int32)) + (1 : Int32))).toNatClampNeg v8) = [(nar .byte s), (nar .byte s), (nar .byte s), v0, v1, v2, v3, v4, v5, v6, v7, v8, (nar .byte s), (nar .byte s)] := by rw [own_ix3_0, own_ix3_1, own_ix3_2, own_ix3_3, own_ix3_4, own_ix3_5, own_ix3_6, own_ix3_7, own_ix3_8]; rfl
theorem own_l9_3 (s v0 v1 v2 v3 v4 v5 v6 v7 v8 v9 : Int32) : (((((((((((own_fl s).set ((3 : Int32)).toNatClampNeg v0).set (((3 : Int32) + (1 : Int32))).toNatClampNeg v1).set ((((3 : Int32) + (1 : Int32)) + (1 : Int32))).toNatClampNeg v2).set (((((3 : Int32) + (1 : Int32)) + (1 : Int32)) + (1 : Int32))).toNatClampNeg v3).set ((((((3 : Int32) + (1 : Int32)) + (1 : Int32)) + (1 : Int32)) + (1 : Int32))).toNatClampNeg v4).set (((((((3 : Int32) + (1 : Int32)) + (1 : Int32)) + (1 : Int32)) + (1 : Int32)) + (1 : Int32))).toNatClampNeg v5).set ((((((((3 : Int32) + (1 : Int32)) + (1 : Int32)) + (1 : Int32)) + (1 : Int32)) + (1 : Int32)) + (1 : Int32))).toNatClampNeg v6).set (((((((((3 : Int32) + (1 : Int32)) + (1 : Int32)) + (1 : Int32)) + (1 : Int32)) + (1 : Int32)) + (1 : Int32)) + (1 : Int32))).toNatClampNeg v7).set ((((((((((3 : Int32) + (1 : Int32)) + (1 : Int32)) + (1 : Int32)) + (1 : Int32)) + (1 : Int32)) + (1 : Int32)) + (1 : Int32)) + (1 : Int32))).toNatClampNeg v8).set (((((((((((3 : Int32) + (1 : Int32)) + (1 : Int32)) + (1 : Int32)) + (1 : Int32)) + (1 : Int32)) + (1 : Int32)) + (1 : Int32)) + (1 : Int32)) + (1 : Int32))).toNatClampNeg v9) = [(nar .byte s), (nar .byte s), (nar .byte s), v0, v1, v2, v3, v4, v5, v6, v7, v8, v9, (nar .byte s)] := by rw [own_ix3_0, own_ix3_1, own_ix3_2, own_ix3_3, own_ix3_4, own_ix3_5, own_ix3_6, own_ix3_7, own_ix3_8, own_ix3_9]; rfl
theorem own_f0_0 (q : Int64) (f : Int32) (s : Int32) (hs : s = f.toInt8.toInt32)  (c0 : (q &&& (-128 : Int64)) = (0 : Int64)) : own_vr (0 : Int32) q = (0 : Int32) + (1 : Int32) ∧ (own_vl (own_fl s) (0 : Int32) q).getD 0 0 = own_ei ((0 : Int32) - (0 : Int32)) (1 : Int32) q s ∧ (own_vl (own_fl s) (0 : Int32) q).getD 1 0 = own_ei ((1 : Int32) - (0 : Int32)) (1 : Int32) q s ∧ (own_vl (own_fl s) (0 : Int32) q).getD 2 0 = own_ei ((2 : Int32) - (0 : Int32)) (1 : Int32) q s ∧ (own_vl (own_fl s) (0 : Int32) q).getD 3 0 = own_ei ((3 : Int32) - (0 : Int32)) (1 : Int32) q s ∧ (own_vl (own_fl s) (0 : Int32) q).getD 4 0 = own_ei ((4 : Int32) - (0 : Int32)) (1 : Int32) q s ∧ (own_vl (own_fl s) (0 : Int32) q).getD 5 0 = own_ei ((5 : Int32) - (0 : Int32)) (1 : Int32) q s ∧ (own_vl (own_fl s) (0 : Int32) q).getD 6 0 = own_ei ((6 : Int32) - (0 : Int32)) (1 : Int32) q s ∧ (own_vl (own_fl s) (0 : Int32) q).getD 7 0 = own_ei ((7 : Int32) - (0 : Int32)) (1 : Int32) q s ∧ (own_vl (own_fl s) (0 : Int32) q).getD 8 0 = own_ei ((8 : Int32) - (0 : Int32)) (1 : Int32) q s ∧ (own_vl (own_fl s) (0 : Int32) q).getD 9 0 = own_ei ((9 : Int32) - (0 : Int32)) (1 : Int32) q s ∧ (own_vl (own_fl s) (0 : Int32) q).getD 10 0 = own_ei ((10 : Int32) - (0 : Int32)) (1 : Int32) q s ∧ (own_vl (own_fl s) (0 : Int32) q).getD 11 0 = own_ei ((11 : Int32) - (0 : Int32)) (1 : Int32) q s ∧ (own_vl (own_fl s) (0 : Int32) q).getD 12 0 = own_ei ((12 : Int32) - (0 : Int32)) (1 : Int32) q s ∧ (own_vl (own_fl s) (0 : Int32) q).getD 13 0 = own_ei ((13 : Int32) - (0 : Int32)) (1 : Int32) q s := by
  have hf : nar .byte s = s := by rw [hs]; exact own_idem f
  have hl : own_vl (own_fl s) (0 : Int32) q = [(nar .byte (q.toInt32.toInt8.toInt32)), (nar .byte s), (nar .byte s), (nar .byte s), (nar .byte s), (nar .byte s), (nar .byte s), (nar .byte s), (nar .byte s), (nar .byte s), (nar .byte s), (nar .byte s), (nar .byte s), (nar .byte s)] := by rw [own_vl, if_pos c0]; exact own_l0_0 s _
  rw [hl, own_vr, if_pos c0]
  exact ⟨by decide, (own_idem _).trans (own_x0_0 q s).symm, hf.trans (own_x0_1 q s).symm, hf.trans (own_x0_2 q s).symm, hf.trans (own_x0_3 q s).symm, hf.trans (own_x0_4 q s).symm, hf.trans (own_x0_5 q s).symm, hf.trans (own_x0_6 q s).symm, hf.trans (own_x0_7 q s).symm, hf.trans (own_x0_8 q s).symm, hf.trans (own_x0_9 q s).symm, hf.trans (own_x0_10 q s).symm, hf.trans (own_x0_11 q s).symm, hf.trans (own_x0_12 q s).symm, hf.trans (own_x0_13 q s).symm⟩
theorem own_f0_1 (q : Int64) (f : Int32) (s : Int32) (hs : s = f.toInt8.toInt32)  (c0 : (q &&& (-128 : Int64)) = (0 : Int64)) : own_vr (1 : Int32) q = (1 : Int32) + (1 : Int32) ∧ (own_vl (own_fl s) (1 : Int32) q).getD 0 0 = own_ei ((0 : Int32) - (1 : Int32)) (1 : Int32) q s ∧ (own_vl (own_fl s) (1 : Int32) q).getD 1 0 = own_ei ((1 : Int32) - (1 : Int32)) (1 : Int32) q s ∧ (own_vl (own_fl s) (1 : Int32) q).getD 2 0 = own_ei ((2 : Int32) - (1 : Int32)) (1 : Int32) q s ∧ (own_vl (own_fl s) (1 : Int32) q).getD 3 0 = own_ei ((3 : Int32) - (1 : Int32)) (1 : Int32) q s ∧ (own_vl (own_fl s) (1 : Int32) q).getD 4 0 = own_ei ((4 : Int32) - (1 : Int32)) (1 : Int32) q s ∧ (own_vl (own_fl s) (1 : Int32) q).getD 5 0 = own_ei ((5 : Int32) - (1 : Int32)) (1 : Int32) q s ∧ (own_vl (own_fl s) (1 : Int32) q).getD 6 0 = own_ei ((6 : Int32) - (1 : Int32)) (1 : Int32) q s ∧ (own_vl (own_fl s) (1 : Int32) q).getD 7 0 = own_ei ((7 : Int32) - (1 : Int32)) (1 : Int32) q s ∧ (own_vl (own_fl s) (1 : Int32) q).getD 8 0 = own_ei ((8 : Int32) - (1 : Int32)) (1 : Int32) q s ∧ (own_vl (own_fl s) (1 : Int32) q).getD 9 0 = own_ei ((9 : Int32) - (1 : Int32)) (1 : Int32) q s ∧ (own_vl (own_fl s) (1 : Int32) q).getD 10 0 = own_ei ((10 : Int32) - (1 : Int32)) (1 : Int32) q s ∧ (own_vl (own_fl s) (1 : Int32) q).getD 11 0 = own_ei ((11 : Int32) - (1 : Int32)) (1 : Int32) q s ∧ (own_vl (own_fl s) (1 : Int32) q).getD 12 0 = own_ei ((12 : Int32) - (1 : Int32)) (1 : Int32) q s ∧ (own_vl (own_fl s) (1 : Int32) q).getD 13 0 = own_ei ((13 : Int32) - (1 : Int32)) (1 : Int32) q s := by
  have hf : nar .byte s = s := by rw [hs]; exact own_idem f
  have hl : own_vl (own_fl s) (1 : Int32) q = [(nar .byte s), (nar .byte (q.toInt32.toInt8.toInt32)), (nar .byte s), (nar .byte s), (nar .byte s), (nar .byte s), (nar .byte s), (nar .byte s), (nar .byte s), (nar .byte s), (nar .byte s), (nar .byte s), (nar .byte s), (nar .byte s)] := by rw [own_vl, if_pos c0]; exact own_l0_1 s _
  rw [hl, own_vr, if_pos c0]
  exact ⟨by decide, hf.trans (own_x0_m1 q s).symm, (own_idem _).trans (own_x0_0 q s).symm, hf.trans (own_x0_1 q s).symm, hf.trans (own_x0_2 q s).symm, hf.trans (own_x0_3 q s).symm, hf.trans (own_x0_4 q s).symm, hf.trans (own_x0_5 q s).symm, hf.trans (own_x0_6 q s).symm, hf.trans (own_x0_7 q s).symm, hf.trans (own_x0_8 q s).symm, hf.trans (own_x0_9 q s).symm, hf.trans (own_x0_10 q s).symm, hf.trans (own_x0_11 q s).symm, hf.trans (own_x0_12 q s).symm⟩
theorem own_f0_2 (q : Int64) (f : Int32) (s : Int32) (hs : s = f.toInt8.toInt32)  (c0 : (q &&& (-128 : Int64)) = (0 : Int64)) : own_vr (2 : Int32) q = (2 : Int32) + (1 : Int32) ∧ (own_vl (own_fl s) (2 : Int32) q).getD 0 0 = own_ei ((0 : Int32) - (2 : Int32)) (1 : Int32) q s ∧ (own_vl (own_fl s) (2 : Int32) q).getD 1 0 = own_ei ((1 : Int32) - (2 : Int32)) (1 : Int32) q s ∧ (own_vl (own_fl s) (2 : Int32) q).getD 2 0 = own_ei ((2 : Int32) - (2 : Int32)) (1 : Int32) q s ∧ (own_vl (own_fl s) (2 : Int32) q).getD 3 0 = own_ei ((3 : Int32) - (2 : Int32)) (1 : Int32) q s ∧ (own_vl (own_fl s) (2 : Int32) q).getD 4 0 = own_ei ((4 : Int32) - (2 : Int32)) (1 : Int32) q s ∧ (own_vl (own_fl s) (2 : Int32) q).getD 5 0 = own_ei ((5 : Int32) - (2 : Int32)) (1 : Int32) q s ∧ (own_vl (own_fl s) (2 : Int32) q).getD 6 0 = own_ei ((6 : Int32) - (2 : Int32)) (1 : Int32) q s ∧ (own_vl (own_fl s) (2 : Int32) q).getD 7 0 = own_ei ((7 : Int32) - (2 : Int32)) (1 : Int32) q s ∧ (own_vl (own_fl s) (2 : Int32) q).getD 8 0 = own_ei ((8 : Int32) - (2 : Int32)) (1 : Int32) q s ∧ (own_vl (own_fl s) (2 : Int32) q).getD 9 0 = own_ei ((9 : Int32) - (2 : Int32)) (1 : Int32) q s ∧ (own_vl (own_fl s) (2 : Int32) q).getD 10 0 = own_ei ((10 : Int32) - (2 : Int32)) (1 : Int32) q s ∧ (own_vl (own_fl s) (2 : Int32) q).getD 11 0 = own_ei ((11 : Int32) - (2 : Int32)) (1 : Int32) q s ∧ (own_vl (own_fl s) (2 : Int32) q).getD 12 0 = own_ei ((12 : Int32) - (2 : Int32)) (1 : Int32) q s ∧ (own_vl (own_fl s) (2 : Int32) q).getD 13 0 = own_ei ((13 : Int32) - (2 : Int32)) (1 : Int32) q s := by
  have hf : nar .byte s = s := by rw [hs]; exact own_idem f
  have hl : own_vl (own_fl s) (2 : Int32) q = [(nar .byte s), (nar .byte s), (nar .byte (q.toInt32.toInt8.toInt32)), (nar .byte s), (nar .byte s), (nar .byte s), (nar .byte s), (nar .byte s), (nar .byte s), (nar .byte s), (nar .byte s), (nar .byte s), (nar .byte s), (nar .byte s)] := by rw [own_vl, if_pos c0]; exact own_l0_2 s _
  rw [hl, own_vr, if_pos c0]
  exact ⟨by decide, hf.trans (own_x0_m2 q s).symm, hf.trans (own_x0_m1 q s).symm, (own_idem _).trans (own_x0_0 q s).symm, hf.trans (own_x0_1 q s).symm, hf.trans (own_x0_2 q s).symm, hf.trans (own_x0_3 q s).symm, hf.trans (own_x0_4 q s).symm, hf.trans (own_x0_5 q s).symm, hf.trans (own_x0_6 q s).symm, hf.trans (own_x0_7 q s).symm, hf.trans (own_x0_8 q s).symm, hf.trans (own_x0_9 q s).symm, hf.trans (own_x0_10 q s).symm, hf.trans (own_x0_11 q s).symm⟩
theorem own_f0_3 (q : Int64) (f : Int32) (s : Int32) (hs : s = f.toInt8.toInt32)  (c0 : (q &&& (-128 : Int64)) = (0 : Int64)) : own_vr (3 : Int32) q = (3 : Int32) + (1 : Int32) ∧ (own_vl (own_fl s) (3 : Int32) q).getD 0 0 = own_ei ((0 : Int32) - (3 : Int32)) (1 : Int32) q s ∧ (own_vl (own_fl s) (3 : Int32) q).getD 1 0 = own_ei ((1 : Int32) - (3 : Int32)) (1 : Int32) q s ∧ (own_vl (own_fl s) (3 : Int32) q).getD 2 0 = own_ei ((2 : Int32) - (3 : Int32)) (1 : Int32) q s ∧ (own_vl (own_fl s) (3 : Int32) q).getD 3 0 = own_ei ((3 : Int32) - (3 : Int32)) (1 : Int32) q s ∧ (own_vl (own_fl s) (3 : Int32) q).getD 4 0 = own_ei ((4 : Int32) - (3 : Int32)) (1 : Int32) q s ∧ (own_vl (own_fl s) (3 : Int32) q).getD 5 0 = own_ei ((5 : Int32) - (3 : Int32)) (1 : Int32) q s ∧ (own_vl (own_fl s) (3 : Int32) q).getD 6 0 = own_ei ((6 : Int32) - (3 : Int32)) (1 : Int32) q s ∧ (own_vl (own_fl s) (3 : Int32) q).getD 7 0 = own_ei ((7 : Int32) - (3 : Int32)) (1 : Int32) q s ∧ (own_vl (own_fl s) (3 : Int32) q).getD 8 0 = own_ei ((8 : Int32) - (3 : Int32)) (1 : Int32) q s ∧ (own_vl (own_fl s) (3 : Int32) q).getD 9 0 = own_ei ((9 : Int32) - (3 : Int32)) (1 : Int32) q s ∧ (own_vl (own_fl s) (3 : Int32) q).getD 10 0 = own_ei ((10 : Int32) - (3 : Int32)) (1 : Int32) q s ∧ (own_vl (own_fl s) (3 : Int32) q).getD 11 0 = own_ei ((11 : Int32) - (3 : Int32)) (1 : Int32) q s ∧ (own_vl (own_fl s) (3 : Int32) q).getD 12 0 = own_ei ((12 : Int32) - (3 : Int32)) (1 : Int32) q s ∧ (own_vl (own_fl s) (3 : Int32) q).getD 13 0 = own_ei ((13 : Int32) - (3 : Int32)) (1 : Int32) q s := by
  have hf : nar .byte s = s := by rw [hs]; exact own_idem f
  have hl : own_vl (own_fl s) (3 : Int32) q = [(nar .byte s), (nar .byte s), (nar .byte s), (nar .byte (q.toInt32.toInt8.toInt32)), (nar .byte s), (nar .byte s), (nar .byte s), (nar .byte s), (nar .byte s), (nar .byte s), (nar .byte s), (nar .byte s), (nar .byte s), (nar .byte s)] := by rw [own_vl, if_pos c0]; exact own_l0_3 s _
  rw [hl, own_vr, if_pos c0]
  exact ⟨by decide, hf.trans (own_x0_m3 q s).symm, hf.trans (own_x0_m2 q s).symm, hf.trans (own_x0_m1 q s).symm, (own_idem _).trans (own_x0_0 q s).symm, hf.trans (own_x0_1 q s).symm, hf.trans (own_x0_2 q s).symm, hf.trans (own_x0_3 q s).symm, hf.trans (own_x0_4 q s).symm, hf.trans (own_x0_5 q s).symm, hf.trans (own_x0_6 q s).symm, hf.trans (own_x0_7 q s).symm, hf.trans (own_x0_8 q s).symm, hf.trans (own_x0_9 q s).symm, hf.trans (own_x0_10 q s).symm⟩
theorem own_f1_0 (q : Int64) (f : Int32) (s : Int32) (hs : s = f.toInt8.toInt32) (c0 : ¬ ((q &&& (-128 : Int64)) = (0 : Int64))) (c1 : ((own_ushrL q (7 : Int32)) &&& (-128 : Int64)) = (0 : Int64)) : own_vr (0 : Int32) q = (0 : Int32) + (2 : Int32) ∧ (own_vl (own_fl s) (0 : Int32) q).getD 0 0 = own_ei ((0 : Int32) - (0 : Int32)) (2 : Int32) q s ∧ (own_vl (own_fl s) (0 : Int32) q).getD 1 0 = own_ei ((1 : Int32) - (0 : Int32)) (2 : Int32) q s ∧ (own_vl (own_fl s) (0 : Int32) q).getD 2 0 = own_ei ((2 : Int32) - (0 : Int32)) (2 : Int32) q s ∧ (own_vl (own_fl s) (0 : Int32) q).getD 3 0 = own_ei ((3 : Int32) - (0 : Int32)) (2 : Int32) q s ∧ (own_vl (own_fl s) (0 : Int32) q).getD 4 0 = own_ei ((4 : Int32) - (0 : Int32)) (2 : Int32) q s ∧ (own_vl (own_fl s) (0 : Int32) q).getD 5 0 = own_ei ((5 : Int32) - (0 : Int32)) (2 : Int32) q s ∧ (own_vl (own_fl s) (0 : Int32) q).getD 6 0 = own_ei ((6 : Int32) - (0 : Int32)) (2 : Int32) q s ∧ (own_vl (own_fl s) (0 : Int32) q).getD 7 0 = own_ei ((7 : Int32) - (0 : Int32)) (2 : Int32) q s ∧ (own_vl (own_fl s) (0 : Int32) q).getD 8 0 = own_ei ((8 : Int32) - (0 : Int32)) (2 : Int32) q s ∧ (own_vl (own_fl s) (0 : Int32) q).getD 9 0 = own_ei ((9 : Int32) - (0 : Int32)) (2 : Int32) q s ∧ (own_vl (own_fl s) (0 : Int32) q).getD 10 0 = own_ei ((10 : Int32) - (0 : Int32)) (2 : Int32) q s ∧ (own_vl (own_fl s) (0 : Int32) q).getD 11 0 = own_ei ((11 : Int32) - (0 : Int32)) (2 : Int32) q s ∧ (own_vl (own_fl s) (0 : Int32) q).getD 12 0 = own_ei ((12 : Int32) - (0 : Int32)) (2 : Int32) q s ∧ (own_vl (own_fl s) (0 : Int32) q).getD 13 0 = own_ei ((13 : Int32) - (0 : Int32)) (2 : Int32) q s := by
  have hf : nar .byte s = s := by rw [hs]; exact own_idem f
  have hl : own_vl (own_fl s) (0 : Int32) q = [(nar .byte (((q &&& (127 : Int64)) ||| (128 : Int64)).toInt32.toInt8.toInt32)), (nar .byte ((own_ushrL q (7 : Int32)).toInt32.toInt8.toInt32)), (nar .byte s), (nar .byte s), (nar .byte s), (nar .byte s), (nar .byte s), (nar .byte s), (nar .byte s), (nar .byte s), (nar .byte s), (nar .byte s), (nar .byte s), (nar .byte s)] := by rw [own_vl, if_neg c0, if_pos c1]; exact own_l1_0 s _ _
  rw [hl, own_vr, if_neg c0, if_pos c1]
  exact ⟨by decide, ((own_idem _).trans (congrArg Int8.toInt32 (own_low8 _))).trans (own_x1_0 q s).symm, (own_idem _).trans (own_x1_1 q s).symm, hf.trans (own_x1_2 q s).symm, hf.trans (own_x1_3 q s).symm, hf.trans (own_x1_4 q s).symm, hf.trans (own_x1_5 q s).symm, hf.trans (own_x1_6 q s).symm, hf.trans (own_x1_7 q s).symm, hf.trans (own_x1_8 q s).symm, hf.trans (own_x1_9 q s).symm, hf.trans (own_x1_10 q s).symm, hf.trans (own_x1_11 q s).symm, hf.trans (own_x1_12 q s).symm, hf.trans (own_x1_13 q s).symm⟩
theorem own_f1_1 (q : Int64) (f : Int32) (s : Int32) (hs : s = f.toInt8.toInt32) (c0 : ¬ ((q &&& (-128 : Int64)) = (0 : Int64))) (c1 : ((own_ushrL q (7 : Int32)) &&& (-128 : Int64)) = (0 : Int64)) : own_vr (1 : Int32) q = (1 : Int32) + (2 : Int32) ∧ (own_vl (own_fl s) (1 : Int32) q).getD 0 0 = own_ei ((0 : Int32) - (1 : Int32)) (2 : Int32) q s ∧ (own_vl (own_fl s) (1 : Int32) q).getD 1 0 = own_ei ((1 : Int32) - (1 : Int32)) (2 : Int32) q s ∧ (own_vl (own_fl s) (1 : Int32) q).getD 2 0 = own_ei ((2 : Int32) - (1 : Int32)) (2 : Int32) q s ∧ (own_vl (own_fl s) (1 : Int32) q).getD 3 0 = own_ei ((3 : Int32) - (1 : Int32)) (2 : Int32) q s ∧ (own_vl (own_fl s) (1 : Int32) q).getD 4 0 = own_ei ((4 : Int32) - (1 : Int32)) (2 : Int32) q s ∧ (own_vl (own_fl s) (1 : Int32) q).getD 5 0 = own_ei ((5 : Int32) - (1 : Int32)) (2 : Int32) q s ∧ (own_vl (own_fl s) (1 : Int32) q).getD 6 0 = own_ei ((6 : Int32) - (1 : Int32)) (2 : Int32) q s ∧ (own_vl (own_fl s) (1 : Int32) q).getD 7 0 = own_ei ((7 : Int32) - (1 : Int32)) (2 : Int32) q s ∧ (own_vl (own_fl s) (1 : Int32) q).getD 8 0 = own_ei ((8 : Int32) - (1 : Int32)) (2 : Int32) q s ∧ (own_vl (own_fl s) (1 : Int32) q).getD 9 0 = own_ei ((9 : Int32) - (1 : Int32)) (2 : Int32) q s ∧ (own_vl (own_fl s) (1 : Int32) q).getD 10 0 = own_ei ((10 : Int32) - (1 : Int32)) (2 : Int32) q s ∧ (own_vl (own_fl s) (1 : Int32) q).getD 11 0 = own_ei ((11 : Int32) - (1 : Int32)) (2 : Int32) q s ∧ (own_vl (own_fl s) (1 : Int32) q).getD 12 0 = own_ei ((12 : Int32) - (1 : Int32)) (2 : Int32) q s ∧ (own_vl (own_fl s) (1 : Int32) q).getD 13 0 = own_ei ((13 : Int32) - (1 : Int32)) (2 : Int32) q s := by
  have hf : nar .byte s = s := by rw [hs]; exact own_idem f
  have hl : own_vl (own_fl s) (1 : Int32) q = [(nar .byte s), (nar .byte (((q &&& (127 : Int64)) ||| (128 : Int64)).toInt32.toInt8.toInt32)), (nar .byte ((own_ushrL q (7 : Int32)).toInt32.toInt8.toInt32)), (nar .byte s), (nar .byte s), (nar .byte s), (nar .byte s), (nar .byte s), (nar .byte s), (nar .byte s), (nar .byte s), (nar .byte s), (nar .byte s), (nar .byte s)] := by rw [own_vl, if_neg c0, if_pos c1]; exact own_l1_1 s _ _
  rw [hl, own_vr, if_neg c0, if_pos c1]
  exact ⟨by decide, hf.trans (own_x1_m1 q s).symm, ((own_idem _).trans (congrArg Int8.toInt32 (own_low8 _))).trans (own_x1_0 q s).symm, (own_idem _).trans (own_x1_1 q s).symm, hf.trans (own_x1_2 q s).symm, hf.trans (own_x1_3 q s).symm, hf.trans (own_x1_4 q s).symm, hf.trans (own_x1_5 q s).symm, hf.trans (own_x1_6 q s).symm, hf.trans (own_x1_7 q s).symm, hf.trans (own_x1_8 q s).symm, hf.trans (own_x1_9 q s).symm, hf.trans (own_x1_10 q s).symm, hf.trans (own_x1_11 q s).symm, hf.trans (own_x1_12 q s).symm⟩
theorem own_f1_2 (q : Int64) (f : Int32) (s : Int32) (hs : s = f.toInt8.toInt32) (c0 : ¬ ((q &&& (-128 : Int64)) = (0 : Int64))) (c1 : ((own_ushrL q (7 : Int32)) &&& (-128 : Int64)) = (0 : Int64)) : own_vr (2 : Int32) q = (2 : Int32) + (2 : Int32) ∧ (own_vl (own_fl s) (2 : Int32) q).getD 0 0 = own_ei ((0 : Int32) - (2 : Int32)) (2 : Int32) q s ∧ (own_vl (own_fl s) (2 : Int32) q).getD 1 0 = own_ei ((1 : Int32) - (2 : Int32)) (2 : Int32) q s ∧ (own_vl (own_fl s) (2 : Int32) q).getD 2 0 = own_ei ((2 : Int32) - (2 : Int32)) (2 : Int32) q s ∧ (own_vl (own_fl s) (2 : Int32) q).getD 3 0 = own_ei ((3 : Int32) - (2 : Int32)) (2 : Int32) q s ∧ (own_vl (own_fl s) (2 : Int32) q).getD 4 0 = own_ei ((4 : Int32) - (2 : Int32)) (2 : Int32) q s ∧ (own_vl (own_fl s) (2 : Int32) q).getD 5 0 = own_ei ((5 : Int32) - (2 : Int32)) (2 : Int32) q s ∧ (own_vl (own_fl s) (2 : Int32) q).getD 6 0 = own_ei ((6 : Int32) - (2 : Int32)) (2 : Int32) q s ∧ (own_vl (own_fl s) (2 : Int32) q).getD 7 0 = own_ei ((7 : Int32) - (2 : Int32)) (2 : Int32) q s ∧ (own_vl (own_fl s) (2 : Int32) q).getD 8 0 = own_ei ((8 : Int32) - (2 : Int32)) (2 : Int32) q s ∧ (own_vl (own_fl s) (2 : Int32) q).getD 9 0 = own_ei ((9 : Int32) - (2 : Int32)) (2 : Int32) q s ∧ (own_vl (own_fl s) (2 : Int32) q).getD 10 0 = own_ei ((10 : Int32) - (2 : Int32)) (2 : Int32) q s ∧ (own_vl (own_fl s) (2 : Int32) q).getD 11 0 = own_ei ((11 : Int32) - (2 : Int32)) (2 : Int32) q s ∧ (own_vl (own_fl s) (2 : Int32) q).getD 12 0 = own_ei ((12 : Int32) - (2 : Int32)) (2 : Int32) q s ∧ (own_vl (own_fl s) (2 : Int32) q).getD 13 0 = own_ei ((13 : Int32) - (2 : Int32)) (2 : Int32) q s := by
  have hf : nar .byte s = s := by rw [hs]; exact own_idem f
  have hl : own_vl (own_fl s) (2 : Int32) q = [(nar .byte s), (nar .byte s), (nar .byte (((q &&& (127 : Int64)) ||| (128 : Int64)).toInt32.toInt8.toInt32)), (nar .byte ((own_ushrL q (7 : Int32)).toInt32.toInt8.toInt32)), (nar .byte s), (nar .byte s), (nar .byte s), (nar .byte s), (nar .byte s), (nar .byte s), (nar .byte s), (nar .byte s), (nar .byte s), (nar .byte s)] := by rw [own_vl, if_neg c0, if_pos c1]; exact own_l1_2 s _ _
  rw [hl, own_vr, if_neg c0, if_pos c1]
  exact ⟨by decide, hf.trans (own_x1_m2 q s).symm, hf.trans (own_x1_m1 q s).symm, ((own_idem _).trans (congrArg Int8.toInt32 (own_low8 _))).trans (own_x1_0 q s).symm, (own_idem _).trans (own_x1_1 q s).symm, hf.trans (own_x1_2 q s).symm, hf.trans (own_x1_3 q s).symm, hf.trans (own_x1_4 q s).symm, hf.trans (own_x1_5 q s).symm, hf.trans (own_x1_6 q s).symm, hf.trans (own_x1_7 q s).symm, hf.trans (own_x1_8 q s).symm, hf.trans (own_x1_9 q s).symm, hf.trans (own_x1_10 q s).symm, hf.trans (own_x1_11 q s).symm⟩
theorem own_f1_3 (q : Int64) (f : Int32) (s : Int32) (hs : s = f.toInt8.toInt32) (c0 : ¬ ((q &&& (-128 : Int64)) = (0 : Int64))) (c1 : ((own_ushrL q (7 : Int32)) &&& (-128 : Int64)) = (0 : Int64)) : own_vr (3 : Int32) q = (3 : Int32) + (2 : Int32) ∧ (own_vl (own_fl s) (3 : Int32) q).getD 0 0 = own_ei ((0 : Int32) - (3 : Int32)) (2 : Int32) q s ∧ (own_vl (own_fl s) (3 : Int32) q).getD 1 0 = own_ei ((1 : Int32) - (3 : Int32)) (2 : Int32) q s ∧ (own_vl (own_fl s) (3 : Int32) q).getD 2 0 = own_ei ((2 : Int32) - (3 : Int32)) (2 : Int32) q s ∧ (own_vl (own_fl s) (3 : Int32) q).getD 3 0 = own_ei ((3 : Int32) - (3 : Int32)) (2 : Int32) q s ∧ (own_vl (own_fl s) (3 : Int32) q).getD 4 0 = own_ei ((4 : Int32) - (3 : Int32)) (2 : Int32) q s ∧ (own_vl (own_fl s) (3 : Int32) q).getD 5 0 = own_ei ((5 : Int32) - (3 : Int32)) (2 : Int32) q s ∧ (own_vl (own_fl s) (3 : Int32) q).getD 6 0 = own_ei ((6 : Int32) - (3 : Int32)) (2 : Int32) q s ∧ (own_vl (own_fl s) (3 : Int32) q).getD 7 0 = own_ei ((7 : Int32) - (3 : Int32)) (2 : Int32) q s ∧ (own_vl (own_fl s) (3 : Int32) q).getD 8 0 = own_ei ((8 : Int32) - (3 : Int32)) (2 : Int32) q s ∧ (own_vl (own_fl s) (3 : Int32) q).getD 9 0 = own_ei ((9 : Int32) - (3 : Int32)) (2 : Int32) q s ∧ (own_vl (own_fl s) (3 : Int32) q).getD 10 0 = own_ei ((10 : Int32) - (3 : Int32)) (2 : Int32) q s ∧ (own_vl (own_fl s) (3 : Int32) q).getD 11 0 = own_ei ((11 : Int32) - (3 : Int32)) (2 : Int32) q s ∧ (own_vl (own_fl s) (3 : Int32) q).getD 12 0 = own_ei ((12 : Int32) - (3 : Int32)) (2 : Int32) q s ∧ (own_vl (own_fl s) (3 : Int32) q).getD 13 0 = own_ei ((13 : Int32) - (3 : Int32)) (2 : Int32) q s := by
  have hf : nar .byte s = s := by rw [hs]; exact own_idem f
  have hl : own_vl (own_fl s) (3 : Int32) q = [(nar .byte s), (nar .byte s), (nar .byte s), (nar .byte (((q &&& (127 : Int64)) ||| (128 : Int64)).toInt32.toInt8.toInt32)), (nar .byte ((own_ushrL q (7 : Int32)).toInt32.toInt8.toInt32)), (nar .byte s), (nar .byte s), (nar .byte s), (nar .byte s), (nar .byte s), (nar .byte s), (nar .byte s), (nar .byte s), (nar .byte s)] := by rw [own_vl, if_neg c0, if_pos c1]; exact own_l1_3 s _ _
  rw [hl, own_vr, if_neg c0, if_pos c1]
  exact ⟨by decide, hf.trans (own_x1_m3 q s).symm, hf.trans (own_x1_m2 q s).symm, hf.trans (own_x1_m1 q s).symm, ((own_idem _).trans (congrArg Int8.toInt32 (own_low8 _))).trans (own_x1_0 q s).symm, (own_idem _).trans (own_x1_1 q s).symm, hf.trans (own_x1_2 q s).symm, hf.trans (own_x1_3 q s).symm, hf.trans (own_x1_4 q s).symm, hf.trans (own_x1_5 q s).symm, hf.trans (own_x1_6 q s).symm, hf.trans (own_x1_7 q s).symm, hf.trans (own_x1_8 q s).symm, hf.trans (own_x1_9 q s).symm, hf.trans (own_x1_10 q s).symm⟩
theorem own_f2_0 (q : Int64) (f : Int32) (s : Int32) (hs : s = f.toInt8.toInt32) (c0 : ¬ ((q &&& (-128 : Int64)) = (0 : Int64))) (c1 : ¬ (((own_ushrL q (7 : Int32)) &&& (-128 : Int64)) = (0 : Int64))) (c2 : ((own_ushrL (own_ushrL q (7 : Int32)) (7 : Int32)) &&& (-128 : Int64)) = (0 : Int64)) : own_vr (0 : Int32) q = (0 : Int32) + (3 : Int32) ∧ (own_vl (own_fl s) (0 : Int32) q).getD 0 0 = own_ei ((0 : Int32) - (0 : Int32)) (3 : Int32) q s ∧ (own_vl (own_fl s) (0 : Int32) q).getD 1 0 = own_ei ((1 : Int32) - (0 : Int32)) (3 : Int32) q s ∧ (own_vl (own_fl s) (0 : Int32) q).getD 2 0 = own_ei ((2 : Int32) - (0 : Int32)) (3 : Int32) q s ∧ (own_vl (own_fl s) (0 : Int32) q).getD 3 0 = own_ei ((3 : Int32) - (0 : Int32)) (3 : Int32) q s ∧ (own_vl (own_fl s) (0 : Int32) q).getD 4 0 = own_ei ((4 : Int32) - (0 : Int32)) (3 : Int32) q s ∧ (own_vl (own_fl s) (0 : Int32) q).getD 5 0 = own_ei ((5 : Int32) - (0 : Int32)) (3 : Int32) q s ∧ (own_vl (own_fl s) (0 : Int32) q).getD 6 0 = own_ei ((6 : Int32) - (0 : Int32)) (3 : Int32) q s ∧ (own_vl (own_fl s) (0 : Int32) q).getD 7 0 = own_ei ((7 : Int32) - (0 : Int32)) (3 : Int32) q s ∧ (own_vl (own_fl s) (0 : Int32) q).getD 8 0 = own_ei ((8 : Int32) - (0 : Int32)) (3 : Int32) q s ∧ (own_vl (own_fl s) (0 : Int32) q).getD 9 0 = own_ei ((9 : Int32) - (0 : Int32)) (3 : Int32) q s ∧ (own_vl (own_fl s) (0 : Int32) q).getD 10 0 = own_ei ((10 : Int32) - (0 : Int32)) (3 : Int32) q s ∧ (own_vl (own_fl s) (0 : Int32) q).getD 11 0 = own_ei ((11 : Int32) - (0 : Int32)) (3 : Int32) q s ∧ (own_vl (own_fl s) (0 : Int32) q).getD 12 0 = own_ei ((12 : Int32) - (0 : Int32)) (3 : Int32) q s ∧ (own_vl (own_fl s) (0 : Int32) q).getD 13 0 = own_ei ((13 : Int32) - (0 : Int32)) (3 : Int32) q s := by
  have hf : nar .byte s = s := by rw [hs]; exact own_idem f
  have hl : own_vl (own_fl s) (0 : Int32) q = [(nar .byte (((q &&& (127 : Int64)) ||| (128 : Int64)).toInt32.toInt8.toInt32)), (nar .byte ((((own_ushrL q (7 : Int32)) &&& (127 : Int64)) ||| (128 : Int64)).toInt32.toInt8.toInt32)), (nar .byte ((own_ushrL (own_ushrL q (7 : Int32)) (7 : Int32)).toInt32.toInt8.toInt32)), (nar .byte s), (nar .byte s), (nar .byte s), (nar .byte s), (nar .byte s), (nar .byte s), (nar .byte s), (nar .byte s), (nar .byte s), (nar .byte s), (nar .byte s)] := by rw [own_vl, if_neg c0, if_neg c1, if_pos c2]; exact own_l2_0 s _ _ _
  rw [hl, own_vr, if_neg c0, if_neg c1, if_pos c2]
  exact ⟨by decide, ((own_idem _).trans (congrArg Int8.toInt32 (own_low8 _))).trans (own_x2_0 q s).symm, ((own_idem _).trans (congrArg Int8.toInt32 (own_low8 _))).trans (own_x2_1 q s).symm, (own_idem _).trans (own_x2_2 q s).symm, hf.trans (own_x2_3 q s).symm, hf.trans (own_x2_4 q s).symm, hf.trans (own_x2_5 q s).symm, hf.trans (own_x2_6 q s).symm, hf.trans (own_x2_7 q s).symm, hf.trans (own_x2_8 q s).symm, hf.trans (own_x2_9 q s).symm, hf.trans (own_x2_10 q s).symm, hf.trans (own_x2_11 q s).symm, hf.trans (own_x2_12 q s).symm, hf.trans (own_x2_13 q s).symm⟩
theorem own_f2_1 (q : Int64) (f : Int32) (s : Int32) (hs : s = f.toInt8.toInt32) (c0 : ¬ ((q &&& (-128 : Int64)) = (0 : Int64))) (c1 : ¬ (((own_ushrL q (7 : Int32)) &&& (-128 : Int64)) = (0 : Int64))) (c2 : ((own_ushrL (own_ushrL q (7 : Int32)) (7 : Int32)) &&& (-128 : Int64)) = (0 : Int64)) : own_vr (1 : Int32) q = (1 : Int32) + (3 : Int32) ∧ (own_vl (own_fl s) (1 : Int32) q).getD 0 0 = own_ei ((0 : Int32) - (1 : Int32)) (3 : Int32) q s ∧ (own_vl (own_fl s) (1 : Int32) q).getD 1 0 = own_ei ((1 : Int32) - (1 : Int32)) (3 : Int32) q s ∧ (own_vl (own_fl s) (1 : Int32) q).getD 2 0 = own_ei ((2 : Int32) - (1 : Int32)) (3 : Int32) q s ∧ (own_vl (own_fl s) (1 : Int32) q).getD 3 0 = own_ei ((3 : Int32) - (1 : Int32)) (3 : Int32) q s ∧ (own_vl (own_fl s) (1 : Int32) q).getD 4 0 = own_ei ((4 : Int32) - (1 : Int32)) (3 : Int32) q s ∧ (own_vl (own_fl s) (1 : Int32) q).getD 5 0 = own_ei ((5 : Int32) - (1 : Int32)) (3 : Int32) q s ∧ (own_vl (own_fl s) (1 : Int32) q).getD 6 0 = own_ei ((6 : Int32) - (1 : Int32)) (3 : Int32) q s ∧ (own_vl (own_fl s) (1 : Int32) q).getD 7 0 = own_ei ((7 : Int32) - (1 : Int32)) (3 : Int32) q s ∧ (own_vl (own_fl s) (1 : Int32) q).getD 8 0 = own_ei ((8 : Int32) - (1 : Int32)) (3 : Int32) q s ∧ (own_vl (own_fl s) (1 : Int32) q).getD 9 0 = own_ei ((9 : Int32) - (1 : Int32)) (3 : Int32) q s ∧ (own_vl (own_fl s) (1 : Int32) q).getD 10 0 = own_ei ((10 : Int32) - (1 : Int32)) (3 : Int32) q s ∧ (own_vl (own_fl s) (1 : Int32) q).getD 11 0 = own_ei ((11 : Int32) - (1 : Int32)) (3 : Int32) q s ∧ (own_vl (own_fl s) (1 : Int32) q).getD 12 0 = own_ei ((12 : Int32) - (1 : Int32)) (3 : Int32) q s ∧ (own_vl (own_fl s) (1 : Int32) q).getD 13 0 = own_ei ((13 : Int32) - (1 : Int32)) (3 : Int32) q s := by
  have hf : nar .byte s = s := by rw [hs]; exact own_idem f
  have hl : own_vl (own_fl s) (1 : Int32) q = [(nar .byte s), (nar .byte (((q &&& (127 : Int64)) ||| (128 : Int64)).toInt32.toInt8.toInt32)), (nar .byte ((((own_ushrL q (7 : Int32)) &&& (127 : Int64)) ||| (128 : Int64)).toInt32.toInt8.toInt32)), (nar .byte ((own_ushrL (own_ushrL q (7 : Int32)) (7 : Int32)).toInt32.toInt8.toInt32)), (nar .byte s), (nar .byte s), (nar .byte s), (nar .byte s), (nar .byte s), (nar .byte s), (nar .byte s), (nar .byte s), (nar .byte s), (nar .byte s)] := by rw [own_vl, if_neg c0, if_neg c1, if_pos c2]; exact own_l2_1 s _ _ _
  rw [hl, own_vr, if_neg c0, if_neg c1, if_pos c2]
  exact ⟨by decide, hf.trans (own_x2_m1 q s).symm, ((own_idem _).trans (congrArg Int8.toInt32 (own_low8 _))).trans (own_x2_0 q s).symm, ((own_idem _).trans (congrArg Int8.toInt32 (own_low8 _))).trans (own_x2_1 q s).symm, (own_idem _).trans (own_x2_2 q s).symm, hf.trans (own_x2_3 q s).symm, hf.trans (own_x2_4 q s).symm, hf.trans (own_x2_5 q s).symm, hf.trans (own_x2_6 q s).symm, hf.trans (own_x2_7 q s).symm, hf.trans (own_x2_8 q s).symm, hf.trans (own_x2_9 q s).symm, hf.trans (own_x2_10 q s).symm, hf.trans (own_x2_11 q s).symm, hf.trans (own_x2_12 q s).symm⟩
theorem own_f2_2 (q : Int64) (f : Int32) (s : Int32) (hs : s = f.toInt8.toInt32) (c0 : ¬ ((q &&& (-128 : Int64)) = (0 : Int64))) (c1 : ¬ (((own_ushrL q (7 : Int32)) &&& (-128 : Int64)) = (0 : Int64))) (c2 : ((own_ushrL (own_ushrL q (7 : Int32)) (7 : Int32)) &&& (-128 : Int64)) = (0 : Int64)) : own_vr (2 : Int32) q = (2 : Int32) + (3 : Int32) ∧ (own_vl (own_fl s) (2 : Int32) q).getD 0 0 = own_ei ((0 : Int32) - (2 : Int32)) (3 : Int32) q s ∧ (own_vl (own_fl s) (2 : Int32) q).getD 1 0 = own_ei ((1 : Int32) - (2 : Int32)) (3 : Int32) q s ∧ (own_vl (own_fl s) (2 : Int32) q).getD 2 0 = own_ei ((2 : Int32) - (2 : Int32)) (3 : Int32) q s ∧ (own_vl (own_fl s) (2 : Int32) q).getD 3 0 = own_ei ((3 : Int32) - (2 : Int32)) (3 : Int32) q s ∧ (own_vl (own_fl s) (2 : Int32) q).getD 4 0 = own_ei ((4 : Int32) - (2 : Int32)) (3 : Int32) q s ∧ (own_vl (own_fl s) (2 : Int32) q).getD 5 0 = own_ei ((5 : Int32) - (2 : Int32)) (3 : Int32) q s ∧ (own_vl (own_fl s) (2 : Int32) q).getD 6 0 = own_ei ((6 : Int32) - (2 : Int32)) (3 : Int32) q s ∧ (own_vl (own_fl s) (2 : Int32) q).getD 7 0 = own_ei ((7 : Int32) - (2 : Int32)) (3 : Int32) q s ∧ (own_vl (own_fl s) (2 : Int32) q).getD 8 0 = own_ei ((8 : Int32) - (2 : Int32)) (3 : Int32) q s ∧ (own_vl (own_fl s) (2 : Int32) q).getD 9 0 = own_ei ((9 : Int32) - (2 : Int32)) (3 : Int32) q s ∧ (own_vl (own_fl s) (2 : Int32) q).getD 10 0 = own_ei ((10 : Int32) - (2 : Int32)) (3 : Int32) q s ∧ (own_vl (own_fl s) (2 : Int32) q).getD 11 0 = own_ei ((11 : Int32) - (2 : Int32)) (3 : Int32) q s ∧ (own_vl (own_fl s) (2 : Int32) q).getD 12 0 = own_ei ((12 : Int32) - (2 : Int32)) (3 : Int32) q s ∧ (own_vl (own_fl s) (2 : Int32) q).getD 13 0 = own_ei ((13 : Int32) - (2 : Int32)) (3 : Int32) q s := by
  have hf : nar .byte s = s := by rw [hs]; exact own_idem f
  have hl : own_vl (own_fl s) (2 : Int32) q = [(nar .byte s), (nar .byte s), (nar .byte (((q &&& (127 : Int64)) ||| (128 : Int64)).toInt32.toInt8.toInt32)), (nar .byte ((((own_ushrL q (7 : Int32)) &&& (127 : Int64)) ||| (128 : Int64)).toInt32.toInt8.toInt32)), (nar .byte ((own_ushrL (own_ushrL q (7 : Int32)) (7 : Int32)).toInt32.toInt8.toInt32)), (nar .byte s), (nar .byte s), (nar .byte s), (nar .byte s), (nar .byte s), (nar .byte s), (nar .byte s), (nar .byte s), (nar .byte s)] := by rw [own_vl, if_neg c0, if_neg c1, if_pos c2]; exact own_l2_2 s _ _ _
  rw [hl, own_vr, if_neg c0, if_neg c1, if_pos c2]
  exact ⟨by decide, hf.trans (own_x2_m2 q s).symm, hf.trans (own_x2_m1 q s).symm, ((own_idem _).trans (congrArg Int8.toInt32 (own_low8 _))).trans (own_x2_0 q s).symm, ((own_idem _).trans (congrArg Int8.toInt32 (own_low8 _))).trans (own_x2_1 q s).symm, (own_idem _).trans (own_x2_2 q s).symm, hf.trans (own_x2_3 q s).symm, hf.trans (own_x2_4 q s).symm, hf.trans (own_x2_5 q s).symm, hf.trans (own_x2_6 q s).symm, hf.trans (own_x2_7 q s).symm, hf.trans (own_x2_8 q s).symm, hf.trans (own_x2_9 q s).symm, hf.trans (own_x2_10 q s).symm, hf.trans (own_x2_11 q s).symm⟩
theorem own_f2_3 (q : Int64) (f : Int32) (s : Int32) (hs : s = f.toInt8.toInt32) (c0 : ¬ ((q &&& (-128 : Int64)) = (0 : Int64))) (c1 : ¬ (((own_ushrL q (7 : Int32)) &&& (-128 : Int64)) = (0 : Int64))) (c2 : ((own_ushrL (own_ushrL q (7 : Int32)) (7 : Int32)) &&& (-128 : Int64)) = (0 : Int64)) : own_vr (3 : Int32) q = (3 : Int32) + (3 : Int32) ∧ (own_vl (own_fl s) (3 : Int32) q).getD 0 0 = own_ei ((0 : Int32) - (3 : Int32)) (3 : Int32) q s ∧ (own_vl (own_fl s) (3 : Int32) q).getD 1 0 = own_ei ((1 : Int32) - (3 : Int32)) (3 : Int32) q s ∧ (own_vl (own_fl s) (3 : Int32) q).getD 2 0 = own_ei ((2 : Int32) - (3 : Int32)) (3 : Int32) q s ∧ (own_vl (own_fl s) (3 : Int32) q).getD 3 0 = own_ei ((3 : Int32) - (3 : Int32)) (3 : Int32) q s ∧ (own_vl (own_fl s) (3 : Int32) q).getD 4 0 = own_ei ((4 : Int32) - (3 : Int32)) (3 : Int32) q s ∧ (own_vl (own_fl s) (3 : Int32) q).getD 5 0 = own_ei ((5 : Int32) - (3 : Int32)) (3 : Int32) q s ∧ (own_vl (own_fl s) (3 : Int32) q).getD 6 0 = own_ei ((6 : Int32) - (3 : Int32)) (3 : Int32) q s ∧ (own_vl (own_fl s) (3 : Int32) q).getD 7 0 = own_ei ((7 : Int32) - (3 : Int32)) (3 : Int32) q s ∧ (own_vl (own_fl s) (3 : Int32) q).getD 8 0 = own_ei ((8 : Int32) - (3 : Int32)) (3 : Int32) q s ∧ (own_vl (own_fl s) (3 : Int32) q).getD 9 0 = own_ei ((9 : Int32) - (3 : Int32)) (3 : Int32) q s ∧ (own_vl (own_fl s) (3 : Int32) q).getD 10 0 = own_ei ((10 : Int32) - (3 : Int32)) (3 : Int32) q s ∧ (own_vl (own_fl s) (3 : Int32) q).getD 11 0 = own_ei ((11 : Int32) - (3 : Int32)) (3 : Int32) q s ∧ (own_vl (own_fl s) (3 : Int32) q).getD 12 0 = own_ei ((12 : Int32) - (3 : Int32)) (3 : Int32) q s ∧ (own_vl (own_fl s) (3 : Int32) q).getD 13 0 = own_ei ((13 : Int32) - (3 : Int32)) (3 : Int32) q s := by
  have hf : nar .byte s = s := by rw [hs]; exact own_idem f
  have hl : own_vl (own_fl s) (3 : Int32) q = [(nar .byte s), (nar .byte s), (nar .byte s), (nar .byte (((q &&& (127 : Int64)) ||| (128 : Int64)).toInt32.toInt8.toInt32)), (nar .byte ((((own_ushrL q (7 : Int32)) &&& (127 : Int64)) ||| (128 : Int64)).toInt32.toInt8.toInt32)), (nar .byte ((own_ushrL (own_ushrL q (7 : Int32)) (7 : Int32)).toInt32.toInt8.toInt32)), (nar .byte s), (nar .byte s), (nar .byte s), (nar .byte s), (nar .byte s), (nar .byte s), (nar .byte s), (nar .byte s)] := by rw [own_vl, if_neg c0, if_neg c1, if_pos c2]; exact own_l2_3 s _ _ _
  rw [hl, own_vr, if_neg c0, if_neg c1, if_pos c2]
  exact ⟨by decide, hf.trans (own_x2_m3 q s).symm, hf.trans (own_x2_m2 q s).symm, hf.trans (own_x2_m1 q s).symm, ((own_idem _).trans (congrArg Int8.toInt32 (own_low8 _))).trans (own_x2_0 q s).symm, ((own_idem _).trans (congrArg Int8.toInt32 (own_low8 _))).trans (own_x2_1 q s).symm, (own_idem _).trans (own_x2_2 q s).symm, hf.trans (own_x2_3 q s).symm, hf.trans (own_x2_4 q s).symm, hf.trans (own_x2_5 q s).symm, hf.trans (own_x2_6 q s).symm, hf.trans (own_x2_7 q s).symm, hf.trans (own_x2_8 q s).symm, hf.trans (own_x2_9 q s).symm, hf.trans (own_x2_10 q s).symm⟩
theorem own_f3_0 (q : Int64) (f : Int32) (s : Int32) (hs : s = f.toInt8.toInt32) (c0 : ¬ ((q &&& (-128 : Int64)) = (0 : Int64))) (c1 : ¬ (((own_ushrL q (7 : Int32)) &&& (-128 : Int64)) = (0 : Int64))) (c2 : ¬ (((own_ushrL (own_ushrL q (7 : Int32)) (7 : Int32)) &&& (-128 : Int64)) = (0 : Int64))) (c3 : ((own_ushrL (own_ushrL (own_ushrL q (7 : Int32)) (7 : Int32)) (7 : Int32)) &&& (-128 : Int64)) = (0 : Int64)) : own_vr (0 : Int32) q = (0 : Int32) + (4 : Int32) ∧ (own_vl (own_fl s) (0 : Int32) q).getD 0 0 = own_ei ((0 : Int32) - (0 : Int32)) (4 : Int32) q s ∧ (own_vl (own_fl s) (0 : Int32) q).getD 1 0 = own_ei ((1 : Int32) - (0 : Int32)) (4 : Int32) q s ∧ (own_vl (own_fl s) (0 : Int32) q).getD 2 0 = own_ei ((2 : Int32) - (0 : Int32)) (4 : Int32) q s ∧ (own_vl (own_fl s) (0 : Int32) q).getD 3 0 = own_ei ((3 : Int32) - (0 : Int32)) (4 : Int32) q s ∧ (own_vl (own_fl s) (0 : Int32) q).getD 4 0 = own_ei ((4 : Int32) - (0 : Int32)) (4 : Int32) q s ∧ (own_vl (own_fl s) (0 : Int32) q).getD 5 0 = own_ei ((5 : Int32) - (0 : Int32)) (4 : Int32) q s ∧ (own_vl (own_fl s) (0 : Int32) q).getD 6 0 = own_ei ((6 : Int32) - (0 : Int32)) (4 : Int32) q s ∧ (own_vl (own_fl s) (0 : Int32) q).getD 7 0 = own_ei ((7 : Int32) - (0 : Int32)) (4 : Int32) q s ∧ (own_vl (own_fl s) (0 : Int32) q).getD 8 0 = own_ei ((8 : Int32) - (0 : Int32)) (4 : Int32) q s ∧ (own_vl (own_fl s) (0 : Int32) q).getD 9 0 = own_ei ((9 : Int32) - (0 : Int32)) (4 : Int32) q s ∧ (own_vl (own_fl s) (0 : Int32) q).getD 10 0 = own_ei ((10 : Int32) - (0 : Int32)) (4 : Int32) q s ∧ (own_vl (own_fl s) (0 : Int32) q).getD 11 0 = own_ei ((11 : Int32) - (0 : Int32)) (4 : Int32) q s ∧ (own_vl (own_fl s) (0 : Int32) q).getD 12 0 = own_ei ((12 : Int32) - (0 : Int32)) (4 : Int32) q s ∧ (own_vl (own_fl s) (0 : Int32) q).getD 13 0 = own_ei ((13 : Int32) - (0 : Int32)) (4 : Int32) q s := by
  have hf : nar .byte s = s := by rw [hs]; exact own_idem f
  have hl : own_vl (own_fl s) (0 : Int32) q = [(nar .byte (((q &&& (127 : Int64)) ||| (128 : Int64)).toInt32.toInt8.toInt32)), (nar .byte ((((own_ushrL q (7 : Int32)) &&& (127 : Int64)) ||| (128 : Int64)).toInt32.toInt8.toInt32)), (nar .byte ((((own_ushrL (own_ushrL q (7 : Int32)) (7 : Int32)) &&& (127 : Int64)) ||| (128 : Int64)).toInt32.toInt8.toInt32)), (nar .byte ((own_ushrL (own_ushrL (own_ushrL q (7 : Int32)) (7 : Int32)) (7 : Int32)).toInt32.toInt8.toInt32)), (nar .byte s), (nar .byte s), (nar .byte s), (nar .byte s), (nar .byte s), (nar .byte s), (nar .byte s), (nar .byte s), (nar .byte s), (nar .byte s)] := by rw [own_vl, if_neg c0, if_neg c1, if_neg c2, if_pos c3]; exact own_l3_0 s _ _ _ _
  rw [hl, own_vr, if_neg c0, if_neg c1, if_neg c2, if_pos c3]
  exact ⟨by decide, ((own_idem _).trans (congrArg Int8.toInt32 (own_low8 _))).trans (own_x3_0 q s).symm, ((own_idem _).trans (congrArg Int8.toInt32 (own_low8 _))).trans (own_x3_1 q s).symm, ((own_idem _).trans (congrArg Int8.toInt32 (own_low8 _))).trans (own_x3_2 q s).symm, (own_idem _).trans (own_x3_3 q s).symm, hf.trans (own_x3_4 q s).symm, hf.trans (own_x3_5 q s).symm, hf.trans (own_x3_6 q s).symm, hf.trans (own_x3_7 q s).symm, hf.trans (own_x3_8 q s).symm, hf.trans (own_x3_9 q s).symm, hf.trans (own_x3_10 q s).symm, hf.trans (own_x3_11 q s).symm, hf.trans (own_x3_12 q s).symm, hf.trans (own_x3_13 q s).symm⟩
theorem own_f3_1 (q : Int64) (f : Int32) (s : Int32) (hs : s = f.toInt8.toInt32) (c0 : ¬ ((q &&& (-128 : Int64)) = (0 : Int64))) (c1 : ¬ (((own_ushrL q (7 : Int32)) &&& (-128 : Int64)) = (0 : Int64))) (c2 : ¬ (((own_ushrL (own_ushrL q (7 : Int32)) (7 : Int32)) &&& (-128 : Int64)) = (0 : Int64))) (c3 : ((own_ushrL (own_ushrL (own_ushrL q (7 : Int32)) (7 : Int32)) (7 : Int32)) &&& (-128 : Int64)) = (0 : Int64)) : own_vr (1 : Int32) q = (1 : Int32) + (4 : Int32) ∧ (own_vl (own_fl s) (1 : Int32) q).getD 0 0 = own_ei ((0 : Int32) - (1 : Int32)) (4 : Int32) q s ∧ (own_vl (own_fl s) (1 : Int32) q).getD 1 0 = own_ei ((1 : Int32) - (1 : Int32)) (4 : Int32) q s ∧ (own_vl (own_fl s) (1 : Int32) q).getD 2 0 = own_ei ((2 : Int32) - (1 : Int32)) (4 : Int32) q s ∧ (own_vl (own_fl s) (1 : Int32) q).getD 3 0 = own_ei ((3 : Int32) - (1 : Int32)) (4 : Int32) q s ∧ (own_vl (own_fl s) (1 : Int32) q).getD 4 0 = own_ei ((4 : Int32) - (1 : Int32)) (4 : Int32) q s ∧ (own_vl (own_fl s) (1 : Int32) q).getD 5 0 = own_ei ((5 : Int32) - (1 : Int32)) (4 : Int32) q s ∧ (own_vl (own_fl s) (1 : Int32) q).getD 6 0 = own_ei ((6 : Int32) - (1 : Int32)) (4 : Int32) q s ∧ (own_vl (own_fl s) (1 : Int32) q).getD 7 0 = own_ei ((7 : Int32) - (1 : Int32)) (4 : Int32) q s ∧ (own_vl (own_fl s) (1 : Int32) q).getD 8 0 = own_ei ((8 : Int32) - (1 : Int32)) (4 : Int32) q s ∧ (own_vl (own_fl s) (1 : Int32) q).getD 9 0 = own_ei ((9 : Int32) - (1 : Int32)) (4 : Int32) q s ∧ (own_vl (own_fl s) (1 : Int32) q).getD 10 0 = own_ei ((10 : Int32) - (1 : Int32)) (4 : Int32) q s ∧ (own_vl (own_fl s) (1 : Int32) q).getD 11 0 = own_ei ((11 : Int32) - (1 : Int32)) (4 : Int32) q s ∧ (own_vl (own_fl s) (1 : Int32) q).getD 12 0 = own_ei ((12 : Int32) - (1 : Int32)) (4 : Int32) q s ∧ (own_vl (own_fl s) (1 : Int32) q).getD 13 0 = own_ei ((13 : Int32) - (1 : Int32)) (4 : Int32) q s := by
  have hf : nar .byte s = s := by rw [hs]; exact own_idem f
  have hl : own_vl (own_fl s) (1 : Int32) q = [(nar .byte s), (nar .byte (((q &&& (127 : Int64)) ||| (128 : Int64)).toInt32.toInt8.toInt32)), (nar .byte ((((own_ushrL q (7 : Int32)) &&& (127 : Int64)) ||| (128 : Int64)).toInt32.toInt8.toInt32)), (nar .byte ((((own_ushrL (own_ushrL q (7 : Int32)) (7 : Int32)) &&& (127 : Int64)) ||| (128 : Int64)).toInt32.toInt8.toInt32)), (nar .byte ((own_ushrL (own_ushrL (own_ushrL q (7 : Int32)) (7 : Int32)) (7 : Int32)).toInt32.toInt8.toInt32)), (nar .byte s), (nar .byte s), (nar .byte s), (nar .byte s), (nar .byte s), (nar .byte s), (nar .byte s), (nar .byte s), (nar .byte s)] := by rw [own_vl, if_neg c0, if_neg c1, if_neg c2, if_pos c3]; exact own_l3_1 s _ _ _ _
  rw [hl, own_vr, if_neg c0, if_neg c1, if_neg c2, if_pos c3]
  exact ⟨by decide, hf.trans (own_x3_m1 q s).symm, ((own_idem _).trans (congrArg Int8.toInt32 (own_low8 _))).trans (own_x3_0 q s).symm, ((own_idem _).trans (congrArg Int8.toInt32 (own_low8 _))).trans (own_x3_1 q s).symm, ((own_idem _).trans (congrArg Int8.toInt32 (own_low8 _))).trans (own_x3_2 q s).symm, (own_idem _).trans (own_x3_3 q s).symm, hf.trans (own_x3_4 q s).symm, hf.trans (own_x3_5 q s).symm, hf.trans (own_x3_6 q s).symm, hf.trans (own_x3_7 q s).symm, hf.trans (own_x3_8 q s).symm, hf.trans (own_x3_9 q s).symm, hf.trans (own_x3_10 q s).symm, hf.trans (own_x3_11 q s).symm, hf.trans (own_x3_12 q s).symm⟩
theorem own_f3_2 (q : Int64) (f : Int32) (s : Int32) (hs : s = f.toInt8.toInt32) (c0 : ¬ ((q &&& (-128 : Int64)) = (0 : Int64))) (c1 : ¬ (((own_ushrL q (7 : Int32)) &&& (-128 : Int64)) = (0 : Int64))) (c2 : ¬ (((own_ushrL (own_ushrL q (7 : Int32)) (7 : Int32)) &&& (-128 : Int64)) = (0 : Int64))) (c3 : ((own_ushrL (own_ushrL (own_ushrL q (7 : Int32)) (7 : Int32)) (7 : Int32)) &&& (-128 : Int64)) = (0 : Int64)) : own_vr (2 : Int32) q = (2 : Int32) + (4 : Int32) ∧ (own_vl (own_fl s) (2 : Int32) q).getD 0 0 = own_ei ((0 : Int32) - (2 : Int32)) (4 : Int32) q s ∧ (own_vl (own_fl s) (2 : Int32) q).getD 1 0 = own_ei ((1 : Int32) - (2 : Int32)) (4 : Int32) q s ∧ (own_vl (own_fl s) (2 : Int32) q).getD 2 0 = own_ei ((2 : Int32) - (2 : Int32)) (4 : Int32) q s ∧ (own_vl (own_fl s) (2 : Int32) q).getD 3 0 = own_ei ((3 : Int32) - (2 : Int32)) (4 : Int32) q s ∧ (own_vl (own_fl s) (2 : Int32) q).getD 4 0 = own_ei ((4 : Int32) - (2 : Int32)) (4 : Int32) q s ∧ (own_vl (own_fl s) (2 : Int32) q).getD 5 0 = own_ei ((5 : Int32) - (2 : Int32)) (4 : Int32) q s ∧ (own_vl (own_fl s) (2 : Int32) q).getD 6 0 = own_ei ((6 : Int32) - (2 : Int32)) (4 : Int32) q s ∧ (own_vl (own_fl s) (2 : Int32) q).getD 7 0 = own_ei ((7 : Int32) - (2 : Int32)) (4 : Int32) q s ∧ (own_vl (own_fl s) (2 : Int32) q).getD 8 0 = own_ei ((8 : Int32) - (2 : Int32)) (4 : Int32) q s ∧ (own_vl (own_fl s) (2 : Int32) q).getD 9 0 = own_ei ((9 : Int32) - (2 : Int32)) (4 : Int32) q s ∧ (own_vl (own_fl s) (2 : Int32) q).getD 10 0 = own_ei ((10 : Int32) - (2 : Int32)) (4 : Int32) q s ∧ (own_vl (own_fl s) (2 : Int32) q).getD 11 0 = own_ei ((11 : Int32) - (2 : Int32)) (4 : Int32) q s ∧ (own_vl (own_fl s) (2 : Int32) q).getD 12 0 = own_ei ((12 : Int32) - (2 : Int32)) (4 : Int32) q s ∧ (own_vl (own_fl s) (2 : Int32) q).getD 13 0 = own_ei ((13 : Int32) - (2 : Int32)) (4 : Int32) q s := by
  have hf : nar .byte s = s := by rw [hs]; exact own_idem f
  have hl : own_vl (own_fl s) (2 : Int32) q = [(nar .byte s), (nar .byte s), (nar .byte (((q &&& (127 : Int64)) ||| (128 : Int64)).toInt32.toInt8.toInt32)), (nar .byte ((((own_ushrL q (7 : Int32)) &&& (127 : Int64)) ||| (128 : Int64)).toInt32.toInt8.toInt32)), (nar .byte ((((own_ushrL (own_ushrL q (7 : Int32)) (7 : Int32)) &&& (127 : Int64)) ||| (128 : Int64)).toInt32.toInt8.toInt32)), (nar .byte ((own_ushrL (own_ushrL (own_ushrL q (7 : Int32)) (7 : Int32)) (7 : Int32)).toInt32.toInt8.toInt32)), (nar .byte s), (nar .byte s), (nar .byte s), (nar .byte s), (nar .byte s), (nar .byte s), (nar .byte s), (nar .byte s)] := by rw [own_vl, if_neg c0, if_neg c1, if_neg c2, if_pos c3]; exact own_l3_2 s _ _ _ _
  rw [hl, own_vr, if_neg c0, if_neg c1, if_neg c2, if_pos c3]
  exact ⟨by decide, hf.trans (own_x3_m2 q s).symm, hf.trans (own_x3_m1 q s).symm, ((own_idem _).trans (congrArg Int8.toInt32 (own_low8 _))).trans (own_x3_0 q s).symm, ((own_idem _).trans (congrArg Int8.toInt32 (own_low8 _))).trans (own_x3_1 q s).symm, ((own_idem _).trans (congrArg Int8.toInt32 (own_low8 _))).trans (own_x3_2 q s).symm, (own_idem _).trans (own_x3_3 q s).symm, hf.trans (own_x3_4 q s).symm, hf.trans (own_x3_5 q s).symm, hf.trans (own_x3_6 q s).symm, hf.trans (own_x3_7 q s).symm, hf.trans (own_x3_8 q s).symm, hf.trans (own_x3_9 q s).symm, hf.trans (own_x3_10 q s).symm, hf.trans (own_x3_11 q s).symm⟩
theorem own_f3_3 (q : Int64) (f : Int32) (s : Int32) (hs : s = f.toInt8.toInt32) (c0 : ¬ ((q &&& (-128 : Int64)) = (0 : Int64))) (c1 : ¬ (((own_ushrL q (7 : Int32)) &&& (-128 : Int64)) = (0 : Int64))) (c2 : ¬ (((own_ushrL (own_ushrL q (7 : Int32)) (7 : Int32)) &&& (-128 : Int64)) = (0 : Int64))) (c3 : ((own_ushrL (own_ushrL (own_ushrL q (7 : Int32)) (7 : Int32)) (7 : Int32)) &&& (-128 : Int64)) = (0 : Int64)) : own_vr (3 : Int32) q = (3 : Int32) + (4 : Int32) ∧ (own_vl (own_fl s) (3 : Int32) q).getD 0 0 = own_ei ((0 : Int32) - (3 : Int32)) (4 : Int32) q s ∧ (own_vl (own_fl s) (3 : Int32) q).getD 1 0 = own_ei ((1 : Int32) - (3 : Int32)) (4 : Int32) q s ∧ (own_vl (own_fl s) (3 : Int32) q).getD 2 0 = own_ei ((2 : Int32) - (3 : Int32)) (4 : Int32) q s ∧ (own_vl (own_fl s) (3 : Int32) q).getD 3 0 = own_ei ((3 : Int32) - (3 : Int32)) (4 : Int32) q s ∧ (own_vl (own_fl s) (3 : Int32) q).getD 4 0 = own_ei ((4 : Int32) - (3 : Int32)) (4 : Int32) q s ∧ (own_vl (own_fl s) (3 : Int32) q).getD 5 0 = own_ei ((5 : Int32) - (3 : Int32)) (4 : Int32) q s ∧ (own_vl (own_fl s) (3 : Int32) q).getD 6 0 = own_ei ((6 : Int32) - (3 : Int32)) (4 : Int32) q s ∧ (own_vl (own_fl s) (3 : Int32) q).getD 7 0 = own_ei ((7 : Int32) - (3 : Int32)) (4 : Int32) q s ∧ (own_vl (own_fl s) (3 : Int32) q).getD 8 0 = own_ei ((8 : Int32) - (3 : Int32)) (4 : Int32) q s ∧ (own_vl (own_fl s) (3 : Int32) q).getD 9 0 = own_ei ((9 : Int32) - (3 : Int32)) (4 : Int32) q s ∧ (own_vl (own_fl s) (3 : Int32) q).getD 10 0 = own_ei ((10 : Int32) - (3 : Int32)) (4 : Int32) q s ∧ (own_vl (own_fl s) (3 : Int32) q).getD 11 0 = own_ei ((11 : Int32) - (3 : Int32)) (4 : Int32) q s ∧ (own_vl (own_fl s) (3 : Int32) q).getD 12 0 = own_ei ((12 : Int32) - (3 : Int32)) (4 : Int32) q s ∧ (own_vl (own_fl s) (3 : Int32) q).getD 13 0 = own_ei ((13 : Int32) - (3 : Int32)) (4 : Int32) q s := by
  have hf : nar .byte s = s := by rw [hs]; exact own_idem f
  have hl : own_vl (own_fl s) (3 : Int32) q = [(nar .byte s), (nar .byte s), (nar .byte s), (nar .byte (((q &&& (127 : Int64)) ||| (128 : Int64)).toInt32.toInt8.toInt32)), (nar .byte ((((own_ushrL q (7 : Int32)) &&& (127 : Int64)) ||| (128 : Int64)).toInt32.toInt8.toInt32)), (nar .byte ((((own_ushrL (own_ushrL q (7 : Int32)) (7 : Int32)) &&& (127 : Int64)) ||| (128 : Int64)).toInt32.toInt8.toInt32)), (nar .byte ((own_ushrL (own_ushrL (own_ushrL q (7 : Int32)) (7 : Int32)) (7 : Int32)).toInt32.toInt8.toInt32)), (nar .byte s), (nar .byte s), (nar .byte s), (nar .byte s), (nar .byte s), (nar .byte s), (nar .byte s)] := by rw [own_vl, if_neg c0, if_neg c1, if_neg c2, if_pos c3]; exact own_l3_3 s _ _ _ _
  rw [hl, own_vr, if_neg c0, if_neg c1, if_neg c2, if_pos c3]
  exact ⟨by decide, hf.trans (own_x3_m3 q s).symm, hf.trans (own_x3_m2 q s).symm, hf.trans (own_x3_m1 q s).symm, ((own_idem _).trans (congrArg Int8.toInt32 (own_low8 _))).trans (own_x3_0 q s).symm, ((own_idem _).trans (congrArg Int8.toInt32 (own_low8 _))).trans (own_x3_1 q s).symm, ((own_idem _).trans (congrArg Int8.toInt32 (own_low8 _))).trans (own_x3_2 q s).symm, (own_idem _).trans (own_x3_3 q s).symm, hf.trans (own_x3_4 q s).symm, hf.trans (own_x3_5 q s).symm, hf.trans (own_x3_6 q s).symm, hf.trans (own_x3_7 q s).symm, hf.trans (own_x3_8 q s).symm, hf.trans (own_x3_9 q s).symm, hf.trans (own_x3_10 q s).symm⟩
theorem own_f4_0 (q : Int64) (f : Int32) (s : Int32) (hs : s = f.toInt8.toInt32) (c0 : ¬ ((q &&& (-128 : Int64)) = (0 : Int64))) (c1 : ¬ (((own_ushrL q (7 : Int32)) &&& (-128 : Int64)) = (0 : Int64))) (c2 : ¬ (((own_ushrL (own_ushrL q (7 : Int32)) (7 : Int32)) &&& (-128 : Int64)) = (0 : Int64))) (c3 : ¬ (((own_ushrL (own_ushrL (own_ushrL q (7 : Int32)) (7 : Int32)) (7 : Int32)) &&& (-128 : Int64)) = (0 : Int64))) (c4 : ((own_ushrL (own_ushrL (own_ushrL (own_ushrL q (7 : Int32)) (7 : Int32)) (7 : Int32)) (7 : Int32)) &&& (-128 : Int64)) = (0 : Int64)) : own_vr (0 : Int32) q = (0 : Int32) + (5 : Int32) ∧ (own_vl (own_fl s) (0 : Int32) q).getD 0 0 = own_ei ((0 : Int32) - (0 : Int32)) (5 : Int32) q s ∧ (own_vl (own_fl s) (0 : Int32) q).getD 1 0 = own_ei ((1 : Int32) - (0 : Int32)) (5 : Int32) q s ∧ (own_vl (own_fl s) (0 : Int32) q).getD 2 0 = own_ei ((2 : Int32) - (0 : Int32)) (5 : Int32) q s ∧ (own_vl (own_fl s) (0 : Int32) q).getD 3 0 = own_ei ((3 : Int32) - (0 : Int32)) (5 : Int32) q s ∧ (own_vl (own_fl s) (0 : Int32) q).getD 4 0 = own_ei ((4 : Int32) - (0 : Int32)) (5 : Int32) q s ∧ (own_vl (own_fl s) (0 : Int32) q).getD 5 0 = own_ei ((5 : Int32) - (0 : Int32)) (5 : Int32) q s ∧ (own_vl (own_fl s) (0 : Int32) q).getD 6 0 = own_ei ((6 : Int32) - (0 : Int32)) (5 : Int32) q s ∧ (own_vl (own_fl s) (0 : Int32) q).getD 7 0 = own_ei ((7 : Int32) - (0 : Int32)) (5 : Int32) q s ∧ (own_vl (own_fl s) (0 : Int32) q).getD 8 0 = own_ei ((8 : Int32) - (0 : Int32)) (5 : Int32) q s ∧ (own_vl (own_fl s) (0 : Int32) q).getD 9 0 = own_ei ((9 : Int32) - (0 : Int32)) (5 : Int32) q s ∧ (own_vl (own_fl s) (0 : Int32) q).getD 10 0 = own_ei ((10 : Int32) - (0 : Int32)) (5 : Int32) q s ∧ (own_vl (own_fl s) (0 : Int32) q).getD 11 0 = own_ei ((11 : Int32) - (0 : Int32)) (5 : Int32) q s ∧ (own_vl (own_fl s) (0 : Int32) q).getD 12 0 = own_ei ((12 : Int32) - (0 : Int32)) (5 : Int32) q s ∧ (own_vl (own_fl s) (0 : Int32) q).getD 13 0 = own_ei ((13 : Int32) - (0 : Int32)) (5 : Int32) q s := by
  have hf : nar .byte s = s := by rw [hs]; exact own_idem f
  have hl : own_vl (own_fl s) (0 : Int32) q = [(nar .byte (((q &&& (127 : Int64)) ||| (128 : Int64)).toInt32.toInt8.toInt32)), (nar .byte ((((own_ushrL q (7 : Int32)) &&& (127 : Int64)) ||| (128 : Int64)).toInt32.toInt8.toInt32)), (nar .byte ((((own_ushrL (own_ushrL q (7 : Int32)) (7 : Int32)) &&& (127 : Int64)) ||| (128 : Int64)).toInt32.toInt8.toInt32)), (nar .byte ((((own_ushrL (own_ushrL (own_ushrL q (7 : Int32)) (7 : Int32)) (7 : Int32)) &&& (127 : Int64)) ||| (128 : Int64)).toInt32.toInt8.toInt32)), (nar .byte ((own_ushrL (own_ushrL (own_ushrL (own_ushrL q (7 : Int32)) (7 : Int32)) (7 : Int32)) (7 : Int32)).toInt32.toInt8.toInt32)), (nar .byte s), (nar .byte s), (nar .byte s), (nar .byte s), (nar .byte s), (nar .byte s), (nar .byte s), (nar .byte s), (nar .byte s)] := by rw [own_vl, if_neg c0, if_neg c1, if_neg c2, if_neg c3, if_pos c4]; exact own_l4_0 s _ _ _ _ _
  rw [hl, own_vr, if_neg c0, if_neg c1, if_neg c2, if_neg c3, if_pos c4]
  exact ⟨by decide, ((own_idem _).trans (congrArg Int8.toInt32 (own_low8 _))).trans (own_x4_0 q s).symm, ((own_idem _).trans (congrArg Int8.toInt32 (own_low8 _))).trans (own_x4_1 q s).symm, ((own_idem _).trans (congrArg Int8.toInt32 (own_low8 _))).trans (own_x4_2 q s).symm, ((own_idem _).trans (congrArg Int8.toInt32 (own_low8 _))).trans (own_x4_3 q s).symm, (own_idem _).trans (own_x4_4 q s).symm, hf.trans (own_x4_5 q s).symm, hf.trans (own_x4_6 q s).symm, hf.trans (own_x4_7 q s).symm, hf.trans (own_x4_8 q s).symm, hf.trans (own_x4_9 q s).symm, hf.trans (own_x4_10 q s).symm, hf.trans (own_x4_11 q s).symm, hf.trans (own_x4_12 q s).symm, hf.trans (own_x4_13 q s).symm⟩
theorem own_f4_1 (q : Int64) (f : Int32) (s : Int32) (hs : s = f.toInt8.toInt32) (c0 : ¬ ((q &&& (-128 : Int64)) = (0 : Int64))) (c1 : ¬ (((own_ushrL q (7 : Int32)) &&& (-128 : Int64)) = (0 : Int64))) (c2 : ¬ (((own_ushrL (own_ushrL q (7 : Int32)) (7 : Int32)) &&& (-128 : Int64)) = (0 : Int64))) (c3 : ¬ (((own_ushrL (own_ushrL (own_ushrL q (7 : Int32)) (7 : Int32)) (7 : Int32)) &&& (-128 : Int64)) = (0 : Int64))) (c4 : ((own_ushrL (own_ushrL (own_ushrL (own_ushrL q (7 : Int32)) (7 : Int32)) (7 : Int32)) (7 : Int32)) &&& (-128 : Int64)) = (0 : Int64)) : own_vr (1 : Int32) q = (1 : Int32) + (5 : Int32) ∧ (own_vl (own_fl s) (1 : Int32) q).getD 0 0 = own_ei ((0 : Int32) - (1 : Int32)) (5 : Int32) q s ∧ (own_vl (own_fl s) (1 : Int32) q).getD 1 0 = own_ei ((1 : Int32) - (1 : Int32)) (5 : Int32) q s ∧ (own_vl (own_fl s) (1 : Int32) q).getD 2 0 = own_ei ((2 : Int32) - (1 : Int32)) (5 : Int32) q s ∧ (own_vl (own_fl s) (1 : Int32) q).getD 3 0 = own_ei ((3 : Int32) - (1 : Int32)) (5 : Int32) q s ∧ (own_vl (own_fl s) (1 : Int32) q).getD 4 0 = own_ei ((4 : Int32) - (1 : Int32)) (5 : Int32) q s ∧ (own_vl (own_fl s) (1 : Int32) q).getD 5 0 = own_ei ((5 : Int32) - (1 : Int32)) (5 : Int32) q s ∧ (own_vl (own_fl s) (1 : Int32) q).getD 6 0 = own_ei ((6 : Int32) - (1 : Int32)) (5 : Int32) q s ∧ (own_vl (own_fl s) (1 : Int32) q).getD 7 0 = own_ei ((7 : Int32) - (1 : Int32)) (5 : Int32) q s ∧ (own_vl (own_fl s) (1 : Int32) q).getD 8 0 = own_ei ((8 : Int32) - (1 : Int32)) (5 : Int32) q s ∧ (own_vl (own_fl s) (1 : Int32) q).getD 9 0 = own_ei ((9 : Int32) - (1 : Int32)) (5 : Int32) q s ∧ (own_vl (own_fl s) (1 : Int32) q).getD 10 0 = own_ei ((10 : Int32) - (1 : Int32)) (5 : Int32) q s ∧ (own_vl (own_fl s) (1 : Int32) q).getD 11 0 = own_ei ((11 : Int32) - (1 : Int32)) (5 : Int32) q s ∧ (own_vl (own_fl s) (1 : Int32) q).getD 12 0 = own_ei ((12 : Int32) - (1 : Int32)) (5 : Int32) q s ∧ (own_vl (own_fl s) (1 : Int32) q).getD 13 0 = own_ei ((13 : Int32) - (1 : Int32)) (5 : Int32) q s := by
  have hf : nar .byte s = s := by rw [hs]; exact own_idem f
  have hl : own_vl (own_fl s) (1 : Int32) q = [(nar .byte s), (nar .byte (((q &&& (127 : Int64)) ||| (128 : Int64)).toInt32.toInt8.toInt32)), (nar .byte ((((own_ushrL q (7 : Int32)) &&& (127 : Int64)) ||| (128 : Int64)).toInt32.toInt8.toInt32)), (nar .byte ((((own_ushrL (own_ushrL q (7 : Int32)) (7 : Int32)) &&& (127 : Int64)) ||| (128 : Int64)).toInt32.toInt8.toInt32)), (nar .byte ((((own_ushrL (own_ushrL (own_ushrL q (7 : Int32)) (7 : Int32)) (7 : Int32)) &&& (127 : Int64)) ||| (128 : Int64)).toInt32.toInt8.toInt32)), (nar .byte ((own_ushrL (own_ushrL (own_ushrL (own_ushrL q (7 : Int32)) (7 : Int32)) (7 : Int32)) (7 : Int32)).toInt32.toInt8.toInt32)), (nar .byte s), (nar .byte s), (nar .byte s), (nar .byte s), (nar .byte s), (nar .byte s), (nar .byte s), (nar .byte s)] := by rw [own_vl, if_neg c0, if_neg c1, if_neg c2, if_neg c3, if_pos c4]; exact own_l4_1 s _ _ _ _ _
  rw [hl, own_vr, if_neg c0, if_neg c1, if_neg c2, if_neg c3, if_pos c4]
  exact ⟨by decide, hf.trans (own_x4_m1 q s).symm, ((own_idem _).trans (congrArg Int8.toInt32 (own_low8 _))).trans (own_x4_0 q s).symm, ((own_idem _).trans (congrArg Int8.toInt32 (own_low8 _))).trans (own_x4_1 q s).symm, ((own_idem _).trans (congrArg Int8.toInt32 (own_low8 _))).trans (own_x4_2 q s).symm, ((own_idem _).trans (congrArg Int8.toInt32 (own_low8 _))).trans (own_x4_3 q s).symm, (own_idem _).trans (own_x4_4 q s).symm, hf.trans (own_x4_5 q s).symm, hf.trans (own_x4_6 q s).symm, hf.trans (own_x4_7 q s).symm, hf.trans (own_x4_8 q s).symm, hf.trans (own_x4_9 q s).symm, hf.trans (own_x4_10 q s).symm, hf.trans (own_x4_11 q s).symm, hf.trans (own_x4_12 q s).symm⟩
theorem own_f4_2 (q : Int64) (f : Int32) (s : Int32) (hs : s = f.toInt8.toInt32) (c0 : ¬ ((q &&& (-128 : Int64)) = (0 : Int64))) (c1 : ¬ (((own_ushrL q (7 : Int32)) &&& (-128 : Int64)) = (0 : Int64))) (c2 : ¬ (((own_ushrL (own_ushrL q (7 : Int32)) (7 : Int32)) &&& (-128 : Int64)) = (0 : Int64))) (c3 : ¬ (((own_ushrL (own_ushrL (own_ushrL q (7 : Int32)) (7 : Int32)) (7 : Int32)) &&& (-128 : Int64)) = (0 : Int64))) (c4 : ((own_ushrL (own_ushrL (own_ushrL (own_ushrL q (7 : Int32)) (7 : Int32)) (7 : Int32)) (7 : Int32)) &&& (-128 : Int64)) = (0 : Int64)) : own_vr (2 : Int32) q = (2 : Int32) + (5 : Int32) ∧ (own_vl (own_fl s) (2 : Int32) q).getD 0 0 = own_ei ((0 : Int32) - (2 : Int32)) (5 : Int32) q s ∧ (own_vl (own_fl s) (2 : Int32) q).getD 1 0 = own_ei ((1 : Int32) - (2 : Int32)) (5 : Int32) q s ∧ (own_vl (own_fl s) (2 : Int32) q).getD 2 0 = own_ei ((2 : Int32) - (2 : Int32)) (5 : Int32) q s ∧ (own_vl (own_fl s) (2 : Int32) q).getD 3 0 = own_ei ((3 : Int32) - (2 : Int32)) (5 : Int32) q s ∧ (own_vl (own_fl s) (2 : Int32) q).getD 4 0 = own_ei ((4 : Int32) - (2 : Int32)) (5 : Int32) q s ∧ (own_vl (own_fl s) (2 : Int32) q).getD 5 0 = own_ei ((5 : Int32) - (2 : Int32)) (5 : Int32) q s ∧ (own_vl (own_fl s) (2 : Int32) q).getD 6 0 = own_ei ((6 : Int32) - (2 : Int32)) (5 : Int32) q s ∧ (own_vl (own_fl s) (2 : Int32) q).getD 7 0 = own_ei ((7 : Int32) - (2 : Int32)) (5 : Int32) q s ∧ (own_vl (own_fl s) (2 : Int32) q).getD 8 0 = own_ei ((8 : Int32) - (2 : Int32)) (5 : Int32) q s ∧ (own_vl (own_fl s) (2 : Int32) q).getD 9 0 = own_ei ((9 : Int32) - (2 : Int32)) (5 : Int32) q s ∧ (own_vl (own_fl s) (2 : Int32) q).getD 10 0 = own_ei ((10 : Int32) - (2 : Int32)) (5 : Int32) q s ∧ (own_vl (own_fl s) (2 : Int32) q).getD 11 0 = own_ei ((11 : Int32) - (2 : Int32)) (5 : Int32) q s ∧ (own_vl (own_fl s) (2 : Int32) q).getD 12 0 = own_ei ((12 : Int32) - (2 : Int32)) (5 : Int32) q s ∧ (own_vl (own_fl s) (2 : Int32) q).getD 13 0 = own_ei ((13 : Int32) - (2 : Int32)) (5 : Int32) q s := by
  have hf : nar .byte s = s := by rw [hs]; exact own_idem f
  have hl : own_vl (own_fl s) (2 : Int32) q = [(nar .byte s), (nar .byte s), (nar .byte (((q &&& (127 : Int64)) ||| (128 : Int64)).toInt32.toInt8.toInt32)), (nar .byte ((((own_ushrL q (7 : Int32)) &&& (127 : Int64)) ||| (128 : Int64)).toInt32.toInt8.toInt32)), (nar .byte ((((own_ushrL (own_ushrL q (7 : Int32)) (7 : Int32)) &&& (127 : Int64)) ||| (128 : Int64)).toInt32.toInt8.toInt32)), (nar .byte ((((own_ushrL (own_ushrL (own_ushrL q (7 : Int32)) (7 : Int32)) (7 : Int32)) &&& (127 : Int64)) ||| (128 : Int64)).toInt32.toInt8.toInt32)), (nar .byte ((own_ushrL (own_ushrL (own_ushrL (own_ushrL q (7 : Int32)) (7 : Int32)) (7 : Int32)) (7 : Int32)).toInt32.toInt8.toInt32)), (nar .byte s), (nar .byte s), (nar .byte s), (nar .byte s), (nar .byte s), (nar .byte s), (nar .byte s)] := by rw [own_vl, if_neg c0, if_neg c1, if_neg c2, if_neg c3, if_pos c4]; exact own_l4_2 s _ _ _ _ _
  rw [hl, own_vr, if_neg c0, if_neg c1, if_neg c2, if_neg c3, if_pos c4]
  exact ⟨by decide, hf.trans (own_x4_m2 q s).symm, hf.trans (own_x4_m1 q s).symm, ((own_idem _).trans (congrArg Int8.toInt32 (own_low8 _))).trans (own_x4_0 q s).symm, ((own_idem _).trans (congrArg Int8.toInt32 (own_low8 _))).trans (own_x4_1 q s).symm, ((own_idem _).trans (congrArg Int8.toInt32 (own_low8 _))).trans (own_x4_2 q s).symm, ((own_idem _).trans (congrArg Int8.toInt32 (own_low8 _))).trans (own_x4_3 q s).symm, (own_idem _).trans (own_x4_4 q s).symm, hf.trans (own_x4_5 q s).symm, hf.trans (own_x4_6 q s).symm, hf.trans (own_x4_7 q s).symm, hf.trans (own_x4_8 q s).symm, hf.trans (own_x4_9 q s).symm, hf.trans (own_x4_10 q s).symm, hf.trans (own_x4_11 q s).symm⟩
theorem own_f4_3 (q : Int64) (f : Int32) (s : Int32) (hs : s = f.toInt8.toInt32) (c0 : ¬ ((q &&& (-128 : Int64)) = (0 : Int64))) (c1 : ¬ (((own_ushrL q (7 : Int32)) &&& (-128 : Int64)) = (0 : Int64))) (c2 : ¬ (((own_ushrL (own_ushrL q (7 : Int32)) (7 : Int32)) &&& (-128 : Int64)) = (0 : Int64))) (c3 : ¬ (((own_ushrL (own_ushrL (own_ushrL q (7 : Int32)) (7 : Int32)) (7 : Int32)) &&& (-128 : Int64)) = (0 : Int64))) (c4 : ((own_ushrL (own_ushrL (own_ushrL (own_ushrL q (7 : Int32)) (7 : Int32)) (7 : Int32)) (7 : Int32)) &&& (-128 : Int64)) = (0 : Int64)) : own_vr (3 : Int32) q = (3 : Int32) + (5 : Int32) ∧ (own_vl (own_fl s) (3 : Int32) q).getD 0 0 = own_ei ((0 : Int32) - (3 : Int32)) (5 : Int32) q s ∧ (own_vl (own_fl s) (3 : Int32) q).getD 1 0 = own_ei ((1 : Int32) - (3 : Int32)) (5 : Int32) q s ∧ (own_vl (own_fl s) (3 : Int32) q).getD 2 0 = own_ei ((2 : Int32) - (3 : Int32)) (5 : Int32) q s ∧ (own_vl (own_fl s) (3 : Int32) q).getD 3 0 = own_ei ((3 : Int32) - (3 : Int32)) (5 : Int32) q s ∧ (own_vl (own_fl s) (3 : Int32) q).getD 4 0 = own_ei ((4 : Int32) - (3 : Int32)) (5 : Int32) q s ∧ (own_vl (own_fl s) (3 : Int32) q).getD 5 0 = own_ei ((5 : Int32) - (3 : Int32)) (5 : Int32) q s ∧ (own_vl (own_fl s) (3 : Int32) q).getD 6 0 = own_ei ((6 : Int32) - (3 : Int32)) (5 : Int32) q s ∧ (own_vl (own_fl s) (3 : Int32) q).getD 7 0 = own_ei ((7 : Int32) - (3 : Int32)) (5 : Int32) q s ∧ (own_vl (own_fl s) (3 : Int32) q).getD 8 0 = own_ei ((8 : Int32) - (3 : Int32)) (5 : Int32) q s ∧ (own_vl (own_fl s) (3 : Int32) q).getD 9 0 = own_ei ((9 : Int32) - (3 : Int32)) (5 : Int32) q s ∧ (own_vl (own_fl s) (3 : Int32) q).getD 10 0 = own_ei ((10 : Int32) - (3 : Int32)) (5 : Int32) q s ∧ (own_vl (own_fl s) (3 : Int32) q).getD 11 0 = own_ei ((11 : Int32) - (3 : Int32)) (5 : Int32) q s ∧ (own_vl (own_fl s) (3 : Int32) q).getD 12 0 = own_ei ((12 : Int32) - (3 : Int32)) (5 : Int32) q s ∧ (own_vl (own_fl s) (3 : Int32) q).getD 13 0 = own_ei ((13 : Int32) - (3 : Int32)) (5 : Int32) q s := by
  have hf : nar .byte s = s := by rw [hs]; exact own_idem f
  have hl : own_vl (own_fl s) (3 : Int32) q = [(nar .byte s), (nar .byte s), (nar .byte s), (nar .byte (((q &&& (127 : Int64)) ||| (128 : Int64)).toInt32.toInt8.toInt32)), (nar .byte ((((own_ushrL q (7 : Int32)) &&& (127 : Int64)) ||| (128 : Int64)).toInt32.toInt8.toInt32)), (nar .byte ((((own_ushrL (own_ushrL q (7 : Int32)) (7 : Int32)) &&& (127 : Int64)) ||| (128 : Int64)).toInt32.toInt8.toInt32)), (nar .byte ((((own_ushrL (own_ushrL (own_ushrL q (7 : Int32)) (7 : Int32)) (7 : Int32)) &&& (127 : Int64)) ||| (128 : Int64)).toInt32.toInt8.toInt32)), (nar .byte ((own_ushrL (own_ushrL (own_ushrL (own_ushrL q (7 : Int32)) (7 : Int32)) (7 : Int32)) (7 : Int32)).toInt32.toInt8.toInt32)), (nar .byte s), (nar .byte s), (nar .byte s), (nar .byte s), (nar .byte s), (nar .byte s)] := by rw [own_vl, if_neg c0, if_neg c1, if_neg c2, if_neg c3, if_pos c4]; exact own_l4_3 s _ _ _ _ _
  rw [hl, own_vr, if_neg c0, if_neg c1, if_neg c2, if_neg c3, if_pos c4]
  exact ⟨by decide, hf.trans (own_x4_m3 q s).symm, hf.trans (own_x4_m2 q s).symm, hf.trans (own_x4_m1 q s).symm, ((own_idem _).trans (congrArg Int8.toInt32 (own_low8 _))).trans (own_x4_0 q s).symm, ((own_idem _).trans (congrArg Int8.toInt32 (own_low8 _))).trans (own_x4_1 q s).symm, ((own_idem _).trans (congrArg Int8.toInt32 (own_low8 _))).trans (own_x4_2 q s).symm, ((own_idem _).trans (congrArg Int8.toInt32 (own_low8 _))).trans (own_x4_3 q s).symm, (own_idem _).trans (own_x4_4 q s).symm, hf.trans (own_x4_5 q s).symm, hf.trans (own_x4_6 q s).symm, hf.trans (own_x4_7 q s).symm, hf.trans (own_x4_8 q s).symm, hf.trans (own_x4_9 q s).symm, hf.trans (own_x4_10 q s).symm⟩
theorem own_f5_0 (q : Int64) (f : Int32) (s : Int32) (hs : s = f.toInt8.toInt32) (c0 : ¬ ((q &&& (-128 : Int64)) = (0 : Int64))) (c1 : ¬ (((own_ushrL q (7 : Int32)) &&& (-128 : Int64)) = (0 : Int64))) (c2 : ¬ (((own_ushrL (own_ushrL q (7 : Int32)) (7 : Int32)) &&& (-128 : Int64)) = (0 : Int64))) (c3 : ¬ (((own_ushrL (own_ushrL (own_ushrL q (7 : Int32)) (7 : Int32)) (7 : Int32)) &&& (-128 : Int64)) = (0 : Int64))) (c4 : ¬ (((own_ushrL (own_ushrL (own_ushrL (own_ushrL q (7 : Int32)) (7 : Int32)) (7 : Int32)) (7 : Int32)) &&& (-128 : Int64)) = (0 : Int64))) (c5 : ((own_ushrL (own_ushrL (own_ushrL (own_ushrL (own_ushrL q (7 : Int32)) (7 : Int32)) (7 : Int32)) (7 : Int32)) (7 : Int32)) &&& (-128 : Int64)) = (0 : Int64)) : own_vr (0 : Int32) q = (0 : Int32) + (6 : Int32) ∧ (own_vl (own_fl s) (0 : Int32) q).getD 0 0 = own_ei ((0 : Int32) - (0 : Int32)) (6 : Int32) q s ∧ (own_vl (own_fl s) (0 : Int32) q).getD 1 0 = own_ei ((1 : Int32) - (0 : Int32)) (6 : Int32) q s ∧ (own_vl (own_fl s) (0 : Int32) q).getD 2 0 = own_ei ((2 : Int32) - (0 : Int32)) (6 : Int32) q s ∧ (own_vl (own_fl s) (0 : Int32) q).getD 3 0 = own_ei ((3 : Int32) - (0 : Int32)) (6 : Int32) q s ∧ (own_vl (own_fl s) (0 : Int32) q).getD 4 0 = own_ei ((4 : Int32) - (0 : Int32)) (6 : Int32) q s ∧ (own_vl (own_fl s) (0 : Int32) q).getD 5 0 = own_ei ((5 : Int32) - (0 : Int32)) (6 : Int32) q s ∧ (own_vl (own_fl s) (0 : Int32) q).getD 6 0 = own_ei ((6 : Int32) - (0 : Int32)) (6 : Int32) q s ∧ (own_vl (own_fl s) (0 : Int32) q).getD 7 0 = own_ei ((7 : Int32) - (0 : Int32)) (6 : Int32) q s ∧ (own_vl (own_fl s) (0 : Int32) q).getD 8 0 = own_ei ((8 : Int32) - (0 : Int32)) (6 : Int32) q s ∧ (own_vl (own_fl s) (0 : Int32) q).getD 9 0 = own_ei ((9 : Int32) - (0 : Int32)) (6 : Int32) q s ∧ (own_vl (own_fl s) (0 : Int32) q).getD 10 0 = own_ei ((10 : Int32) - (0 : Int32)) (6 : Int32) q s ∧ (own_vl (own_fl s) (0 : Int32) q).getD 11 0 = own_ei ((11 : Int32) - (0 : Int32)) (6 : Int32) q s ∧ (own_vl (own_fl s) (0 : Int32) q).getD 12 0 = own_ei ((12 : Int32) - (0 : Int32)) (6 : Int32) q s ∧ (own_vl (own_fl s) (0 : Int32) q).getD 13 0 = own_ei ((13 : Int32) - (0 : Int32)) (6 : Int32) q s := by
  have hf : nar .byte s = s := by rw [hs]; exact own_idem f
  have hl : own_vl (own_fl s) (0 : Int32) q = [(nar .byte (((q &&& (127 : Int64)) ||| (128 : Int64)).toInt32.toInt8.toInt32)), (nar .byte ((((own_ushrL q (7 : Int32)) &&& (127 : Int64)) ||| (128 : Int64)).toInt32.toInt8.toInt32)), (nar .byte ((((own_ushrL (own_ushrL q (7 : Int32)) (7 : Int32)) &&& (127 : Int64)) ||| (128 : Int64)).toInt32.toInt8.toInt32)), (nar .byte ((((own_ushrL (own_ushrL (own_ushrL q (7 : Int32)) (7 : Int32)) (7 : Int32)) &&& (127 : Int64)) ||| (128 : Int64)).toInt32.toInt8.toInt32)), (nar .byte ((((own_ushrL (own_ushrL (own_ushrL (own_ushrL q (7 : Int32)) (7 : Int32)) (7 : Int32)) (7 : Int32)) &&& (127 : Int64)) ||| (128 : Int64)).toInt32.toInt8.toInt32)), (nar .byte ((own_ushrL (own_ushrL (own_ushrL (own_ushrL (own_ushrL q (7 : Int32)) (7 : Int32)) (7 : Int32)) (7 : Int32)) (7 : Int32)).toInt32.toInt8.toInt32)), (nar .byte s), (nar .byte s), (nar .byte s), (nar .byte s), (nar .byte s), (nar .byte s), (nar .byte s), (nar .byte s)] := by rw [own_vl, if_neg c0, if_neg c1, if_neg c2, if_neg c3, if_neg c4, if_pos c5]; exact own_l5_0 s _ _ _ _ _ _
  rw [hl, own_vr, if_neg c0, if_neg c1, if_neg c2, if_neg c3, if_neg c4, if_pos c5]
  exact ⟨by decide, ((own_idem _).trans (congrArg Int8.toInt32 (own_low8 _))).trans (own_x5_0 q s).symm, ((own_idem _).trans (congrArg Int8.toInt32 (own_low8 _))).trans (own_x5_1 q s).symm, ((own_idem _).trans (congrArg Int8.toInt32 (own_low8 _))).trans (own_x5_2 q s).symm, ((own_idem _).trans (congrArg Int8.toInt32 (own_low8 _))).trans (own_x5_3 q s).symm, ((own_idem _).trans (congrArg Int8.toInt32 (own_low8 _))).trans (own_x5_4 q s).symm, (own_idem _).trans (own_x5_5 q s).symm, hf.trans (own_x5_6 q s).symm, hf.trans (own_x5_7 q s).symm, hf.trans (own_x5_8 q s).symm, hf.trans (own_x5_9 q s).symm, hf.trans (own_x5_10 q s).symm, hf.trans (own_x5_11 q s).symm, hf.trans (own_x5_12 q s).symm, hf.trans (own_x5_13 q s).symm⟩
theorem own_f5_1 (q : Int64) (f : Int32) (s : Int32) (hs : s = f.toInt8.toInt32) (c0 : ¬ ((q &&& (-128 : Int64)) = (0 : Int64))) (c1 : ¬ (((own_ushrL q (7 : Int32)) &&& (-128 : Int64)) = (0 : Int64))) (c2 : ¬ (((own_ushrL (own_ushrL q (7 : Int32)) (7 : Int32)) &&& (-128 : Int64)) = (0 : Int64))) (c3 : ¬ (((own_ushrL (own_ushrL (own_ushrL q (7 : Int32)) (7 : Int32)) (7 : Int32)) &&& (-128 : Int64)) = (0 : Int64))) (c4 : ¬ (((own_ushrL (own_ushrL (own_ushrL (own_ushrL q (7 : Int32)) (7 : Int32)) (7 : Int32)) (7 : Int32)) &&& (-128 : Int64)) = (0 : Int64))) (c5 : ((own_ushrL (own_ushrL (own_ushrL (own_ushrL (own_ushrL q (7 : Int32)) (7 : Int32)) (7 : Int32)) (7 : Int32)) (7 : Int32)) &&& (-128 : Int64)) = (0 : Int64)) : own_vr (1 : Int32) q = (1 : Int32) + (6 : Int32) ∧ (own_vl (own_fl s) (1 : Int32) q).getD 0 0 = own_ei ((0 : Int32) - (1 : Int32)) (6 : Int32) q s ∧ (own_vl (own_fl s) (1 : Int32) q).getD 1 0 = own_ei ((1 : Int32) - (1 : Int32)) (6 : Int32) q s ∧ (own_vl (own_fl s) (1 : Int32) q).getD 2 0 = own_ei ((2 : Int32) - (1 : Int32)) (6 : Int32) q s ∧ (own_vl (own_fl s) (1 : Int32) q).getD 3 0 = own_ei ((3 : Int32) - (1 : Int32)) (6 : Int32) q s ∧ (own_vl (own_fl s) (1 : Int32) q).getD 4 0 = own_ei ((4 : Int32) - (1 : Int32)) (6 : Int32) q s ∧ (own_vl (own_fl s) (1 : Int32) q).getD 5 0 = own_ei ((5 : Int32) - (1 : Int32)) (6 : Int32) q s ∧ (own_vl (own_fl s) (1 : Int32) q).getD 6 0 = own_ei ((6 : Int32) - (1 : Int32)) (6 : Int32) q s ∧ (own_vl (own_fl s) (1 : Int32) q).getD 7 0 = own_ei ((7 : Int32) - (1 : Int32)) (6 : Int32) q s ∧ (own_vl (own_fl s) (1 : Int32) q).getD 8 0 = own_ei ((8 : Int32) - (1 : Int32)) (6 : Int32) q s ∧ (own_vl (own_fl s) (1 : Int32) q).getD 9 0 = own_ei ((9 : Int32) - (1 : Int32)) (6 : Int32) q s ∧ (own_vl (own_fl s) (1 : Int32) q).getD 10 0 = own_ei ((10 : Int32) - (1 : Int32)) (6 : Int32) q s ∧ (own_vl (own_fl s) (1 : Int32) q).getD 11 0 = own_ei ((11 : Int32) - (1 : Int32)) (6 : Int32) q s ∧ (own_vl (own_fl s) (1 : Int32) q).getD 12 0 = own_ei ((12 : Int32) - (1 : Int32)) (6 : Int32) q s ∧ (own_vl (own_fl s) (1 : Int32) q).getD 13 0 = own_ei ((13 : Int32) - (1 : Int32)) (6 : Int32) q s := by
  have hf : nar .byte s = s := by rw [hs]; exact own_idem f
  have hl : own_vl (own_fl s) (1 : Int32) q = [(nar .byte s), (nar .byte (((q &&& (127 : Int64)) ||| (128 : Int64)).toInt32.toInt8.toInt32)), (nar .byte ((((own_ushrL q (7 : Int32)) &&& (127 : Int64)) ||| (128 : Int64)).toInt32.toInt8.toInt32)), (nar .byte ((((own_ushrL (own_ushrL q (7 : Int32)) (7 : Int32)) &&& (127 : Int64)) ||| (128 : Int64)).toInt32.toInt8.toInt32)), (nar .byte ((((own_ushrL (own_ushrL (own_ushrL q (7 : Int32)) (7 : Int32)) (7 : Int32)) &&& (127 : Int64)) ||| (128 : Int64)).toInt32.toInt8.toInt32)), (nar .byte ((((own_ushrL (own_ushrL (own_ushrL (own_ushrL q (7 : Int32)) (7 : Int32)) (7 : Int32)) (7 : Int32)) &&& (127 : Int64)) ||| (128 : Int64)).toInt32.toInt8.toInt32)), (nar .byte ((own_ushrL (own_ushrL (own_ushrL (own_ushrL (own_ushrL q (7 : Int32)) (7 : Int32)) (7 : Int32)) (7 : Int32)) (7 : Int32)).toInt32.toInt8.toInt32)), (nar .byte s), (nar .byte s), (nar .byte s), (nar .byte s), (nar .byte s), (nar .byte s), (nar .byte s)] := by rw [own_vl, if_neg c0, if_neg c1, if_neg c2, if_neg c3, if_neg c4, if_pos c5]; exact own_l5_1 s _ _ _ _ _ _
  rw [hl, own_vr, if_neg c0, if_neg c1, if_neg c2, if_neg c3, if_neg c4, if_pos c5]
  exact ⟨by decide, hf.trans (own_x5_m1 q s).symm, ((own_idem _).trans (congrArg Int8.toInt32 (own_low8 _))).trans (own_x5_0 q s).symm, ((own_idem _).trans (congrArg Int8.toInt32 (own_low8 _))).trans (own_x5_1 q s).symm, ((own_idem _).trans (congrArg Int8.toInt32 (own_low8 _))).trans (own_x5_2 q s).symm, ((own_idem _).trans (congrArg Int8.toInt32 (own_low8 _))).trans (own_x5_3 q s).symm, ((own_idem _).trans (congrArg Int8.toInt32 (own_low8 _))).trans (own_x5_4 q s).symm, (own_idem _).trans (own_x5_5 q s).symm, hf.trans (own_x5_6 q s).symm, hf.trans (own_x5_7 q s).symm, hf.trans (own_x5_8 q s).symm, hf.trans (own_x5_9 q s).symm, hf.trans (own_x5_10 q s).symm, hf.trans (own_x5_11 q s).symm, hf.trans (own_x5_12 q s).symm⟩
theorem own_f5_2 (q : Int64) (f : Int32) (s : Int32) (hs : s = f.toInt8.toInt32) (c0 : ¬ ((q &&& (-128 : Int64)) = (0 : Int64))) (c1 : ¬ (((own_ushrL q (7 : Int32)) &&& (-128 : Int64)) = (0 : Int64))) (c2 : ¬ (((own_ushrL (own_ushrL q (7 : Int32)) (7 : Int32)) &&& (-128 : Int64)) = (0 : Int64))) (c3 : ¬ (((own_ushrL (own_ushrL (own_ushrL q (7 : Int32)) (7 : Int32)) (7 : Int32)) &&& (-128 : Int64)) = (0 : Int64))) (c4 : ¬ (((own_ushrL (own_ushrL (own_ushrL (own_ushrL q (7 : Int32)) (7 : Int32)) (7 : Int32)) (7 : Int32)) &&& (-128 : Int64)) = (0 : Int64))) (c5 : ((own_ushrL (own_ushrL (own_ushrL (own_ushrL (own_ushrL q (7 : Int32)) (7 : Int32)) (7 : Int32)) (7 : Int32)) (7 : Int32)) &&& (-128 : Int64)) = (0 : Int64)) : own_vr (2 : Int32) q = (2 : Int32) + (6 : Int32) ∧ (own_vl (own_fl s) (2 : Int32) q).getD 0 0 = own_ei ((0 : Int32) - (2 : Int32)) (6 : Int32) q s ∧ (own_vl (own_fl s) (2 : Int32) q).getD 1 0 = own_ei ((1 : Int32) - (2 : Int32)) (6 : Int32) q s ∧ (own_vl (own_fl s) (2 : Int32) q).getD 2 0 = own_ei ((2 : Int32) - (2 : Int32)) (6 : Int32) q s ∧ (own_vl (own_fl s) (2 : Int32) q).getD 3 0 = own_ei ((3 : Int32) - (2 : Int32)) (6 : Int32) q s ∧ (own_vl (own_fl s) (2 : Int32) q).getD 4 0 = own_ei ((4 : Int32) - (2 : Int32)) (6 : Int32) q s ∧ (own_vl (own_fl s) (2 : Int32) q).getD 5 0 = own_ei ((5 : Int32) - (2 : Int32)) (6 : Int32) q s ∧ (own_vl (own_fl s) (2 : Int32) q).getD 6 0 = own_ei ((6 : Int32) - (2 : Int32)) (6 : Int32) q s ∧ (own_vl (own_fl s) (2 : Int32) q).getD 7 0 = own_ei ((7 : Int32) - (2 : Int32)) (6 : Int32) q s ∧ (own_vl (own_fl s) (2 : Int32) q).getD 8 0 = own_ei ((8 : Int32) - (2 : Int32)) (6 : Int32) q s ∧ (own_vl (own_fl s) (2 : Int32) q).getD 9 0 = own_ei ((9 : Int32) - (2 : Int32)) (6 : Int32) q s ∧ (own_vl (own_fl s) (2 : Int32) q).getD 10 0 = own_ei ((10 : Int32) - (2 : Int32)) (6 : Int32) q s ∧ (own_vl (own_fl s) (2 : Int32) q).getD 11 0 = own_ei ((11 : Int32) - (2 : Int32)) (6 : Int32) q s ∧ (own_vl (own_fl s) (2 : Int32) q).getD 12 0 = own_ei ((12 : Int32) - (2 : Int32)) (6 : Int32) q s ∧ (own_vl (own_fl s) (2 : Int32) q).getD 13 0 = own_ei ((13 : Int32) - (2 : Int32)) (6 : Int32) q s := by
  have hf : nar .byte s = s := by rw [hs]; exact own_idem f
  have hl : own_vl (own_fl s) (2 : Int32) q = [(nar .byte s), (nar .byte s), (nar .byte (((q &&& (127 : Int64)) ||| (128 : Int64)).toInt32.toInt8.toInt32)), (nar .byte ((((own_ushrL q (7 : Int32)) &&& (127 : Int64)) ||| (128 : Int64)).toInt32.toInt8.toInt32)), (nar .byte ((((own_ushrL (own_ushrL q (7 : Int32)) (7 : Int32)) &&& (127 : Int64)) ||| (128 : Int64)).toInt32.toInt8.toInt32)), (nar .byte ((((own_ushrL (own_ushrL (own_ushrL q (7 : Int32)) (7 : Int32)) (7 : Int32)) &&& (127 : Int64)) ||| (128 : Int64)).toInt32.toInt8.toInt32)), (nar .byte ((((own_ushrL (own_ushrL (own_ushrL (own_ushrL q (7 : Int32)) (7 : Int32)) (7 : Int32)) (7 : Int32)) &&& (127 : Int64)) ||| (128 : Int64)).toInt32.toInt8.toInt32)), (nar .byte ((own_ushrL (own_ushrL (own_ushrL (own_ushrL (own_ushrL q (7 : Int32)) (7 : Int32)) (7 : Int32)) (7 : Int32)) (7 : Int32)).toInt32.toInt8.toInt32)), (nar .byte s), (nar .byte s), (nar .byte s), (nar .byte s), (nar .byte s), (nar .byte s)] := by rw [own_vl, if_neg c0, if_neg c1, if_neg c2, if_neg c3, if_neg c4, if_pos c5]; exact own_l5_2 s _ _ _ _ _ _
  rw [hl, own_vr, if_neg c0, if_neg c1, if_neg c2, if_neg c3, if_neg c4, if_pos c5]
  exact ⟨by decide, hf.trans (own_x5_m2 q s).symm, hf.trans (own_x5_m1 q s).symm, ((own_idem _).trans (congrArg Int8.toInt32 (own_low8 _))).trans (own_x5_0 q s).symm, ((own_idem _).trans (congrArg Int8.toInt32 (own_low8 _))).trans (own_x5_1 q s).symm, ((own_idem _).trans (congrArg Int8.toInt32 (own_low8 _))).trans (own_x5_2 q s).symm, ((own_idem _).trans (congrArg Int8.toInt32 (own_low8 _))).trans (own_x5_3 q s).symm, ((own_idem _).trans (congrArg Int8.toInt32 (own_low8 _))).trans (own_x5_4 q s).symm, (own_idem _).trans (own_x5_5 q s).symm, hf.trans (own_x5_6 q s).symm, hf.trans (own_x5_7 q s).symm, hf.trans (own_x5_8 q s).symm, hf.trans (own_x5_9 q s).symm, hf.trans (own_x5_10 q s).symm, hf.trans (own_x5_11 q s).symm⟩
theorem own_f5_3 (q : Int64) (f : Int32) (s : Int32) (hs : s = f.toInt8.toInt32) (c0 : ¬ ((q &&& (-128 : Int64)) = (0 : Int64))) (c1 : ¬ (((own_ushrL q (7 : Int32)) &&& (-128 : Int64)) = (0 : Int64))) (c2 : ¬ (((own_ushrL (own_ushrL q (7 : Int32)) (7 : Int32)) &&& (-128 : Int64)) = (0 : Int64))) (c3 : ¬ (((own_ushrL (own_ushrL (own_ushrL q (7 : Int32)) (7 : Int32)) (7 : Int32)) &&& (-128 : Int64)) = (0 : Int64))) (c4 : ¬ (((own_ushrL (own_ushrL (own_ushrL (own_ushrL q (7 : Int32)) (7 : Int32)) (7 : Int32)) (7 : Int32)) &&& (-128 : Int64)) = (0 : Int64))) (c5 : ((own_ushrL (own_ushrL (own_ushrL (own_ushrL (own_ushrL q (7 : Int32)) (7 : Int32)) (7 : Int32)) (7 : Int32)) (7 : Int32)) &&& (-128 : Int64)) = (0 : Int64)) : own_vr (3 : Int32) q = (3 : Int32) + (6 : Int32) ∧ (own_vl (own_fl s) (3 : Int32) q).getD 0 0 = own_ei ((0 : Int32) - (3 : Int32)) (6 : Int32) q s ∧ (own_vl (own_fl s) (3 : Int32) q).getD 1 0 = own_ei ((1 : Int32) - (3 : Int32)) (6 : Int32) q s ∧ (own_vl (own_fl s) (3 : Int32) q).getD 2 0 = own_ei ((2 : Int32) - (3 : Int32)) (6 : Int32) q s ∧ (own_vl (own_fl s) (3 : Int32) q).getD 3 0 = own_ei ((3 : Int32) - (3 : Int32)) (6 : Int32) q s ∧ (own_vl (own_fl s) (3 : Int32) q).getD 4 0 = own_ei ((4 : Int32) - (3 : Int32)) (6 : Int32) q s ∧ (own_vl (own_fl s) (3 : Int32) q).getD 5 0 = own_ei ((5 : Int32) - (3 : Int32)) (6 : Int32) q s ∧ (own_vl (own_fl s) (3 : Int32) q).getD 6 0 = own_ei ((6 : Int32) - (3 : Int32)) (6 : Int32) q s ∧ (own_vl (own_fl s) (3 : Int32) q).getD 7 0 = own_ei ((7 : Int32) - (3 : Int32)) (6 : Int32) q s ∧ (own_vl (own_fl s) (3 : Int32) q).getD 8 0 = own_ei ((8 : Int32) - (3 : Int32)) (6 : Int32) q s ∧ (own_vl (own_fl s) (3 : Int32) q).getD 9 0 = own_ei ((9 : Int32) - (3 : Int32)) (6 : Int32) q s ∧ (own_vl (own_fl s) (3 : Int32) q).getD 10 0 = own_ei ((10 : Int32) - (3 : Int32)) (6 : Int32) q s ∧ (own_vl (own_fl s) (3 : Int32) q).getD 11 0 = own_ei ((11 : Int32) - (3 : Int32)) (6 : Int32) q s ∧ (own_vl (own_fl s) (3 : Int32) q).getD 12 0 = own_ei ((12 : Int32) - (3 : Int32)) (6 : Int32) q s ∧ (own_vl (own_fl s) (3 : Int32) q).getD 13 0 = own_ei ((13 : Int32) - (3 : Int32)) (6 : Int32) q s := by
  have hf : nar .byte s = s := by rw [hs]; exact own_idem f
  have hl : own_vl (own_fl s) (3 : Int32) q = [(nar .byte s), (nar .byte s), (nar .byte s), (nar .byte (((q &&& (127 : Int64)) ||| (128 : Int64)).toInt32.toInt8.toInt32)), (nar .byte ((((own_ushrL q (7 : Int32)) &&& (127 : Int64)) ||| (128 : Int64)).toInt32.toInt8.toInt32)), (nar .byte ((((own_ushrL (own_ushrL q (7 : Int32)) (7 : Int32)) &&& (127 : Int64)) ||| (128 : Int64)).toInt32.toInt8.toInt32)), (nar .byte ((((own_ushrL (own_ushrL (own_ushrL q (7 : Int32)) (7 : Int32)) (7 : Int32)) &&& (127 : Int64)) ||| (128 : Int64)).toInt32.toInt8.toInt32)), (nar .byte ((((own_ushrL (own_ushrL (own_ushrL (own_ushrL q (7 : Int32)) (7 : Int32)) (7 : Int32)) (7 : Int32)) &&& (127 : Int64)) ||| (128 : Int64)).toInt32.toInt8.toInt32)), (nar .byte ((own_ushrL (own_ushrL (own_ushrL (own_ushrL (own_ushrL q (7 : Int32)) (7 : Int32)) (7 : Int32)) (7 : Int32)) (7 : Int32)).toInt32.toInt8.toInt32)), (nar .byte s), (nar .byte s), (nar .byte s), (nar .byte s), (nar .byte s)] := by rw [own_vl, if_neg c0, if_neg c1, if_neg c2, if_neg c3, if_neg c4, if_pos c5]; exact own_l5_3 s _ _ _ _ _ _
  rw [hl, own_vr, if_neg c0, if_neg c1, if_neg c2, if_neg c3, if_neg c4, if_pos c5]
  exact ⟨by decide, hf.trans (own_x5_m3 q s).symm, hf.trans (own_x5_m2 q s).symm, hf.trans (own_x5_m1 q s).symm, ((own_idem _).trans (congrArg Int8.toInt32 (own_low8 _))).trans (own_x5_0 q s).symm, ((own_idem _).trans (congrArg Int8.toInt32 (own_low8 _))).trans (own_x5_1 q s).symm, ((own_idem _).trans (congrArg Int8.toInt32 (own_low8 _))).trans (own_x5_2 q s).symm, ((own_idem _).trans (congrArg Int8.toInt32 (own_low8 _))).trans (own_x5_3 q s).symm, ((own_idem _).trans (congrArg Int8.toInt32 (own_low8 _))).trans (own_x5_4 q s).symm, (own_idem _).trans (own_x5_5 q s).symm, hf.trans (own_x5_6 q s).symm, hf.trans (own_x5_7 q s).symm, hf.trans (own_x5_8 q s).symm, hf.trans (own_x5_9 q s).symm, hf.trans (own_x5_10 q s).symm⟩
theorem own_f6_0 (q : Int64) (f : Int32) (s : Int32) (hs : s = f.toInt8.toInt32) (c0 : ¬ ((q &&& (-128 : Int64)) = (0 : Int64))) (c1 : ¬ (((own_ushrL q (7 : Int32)) &&& (-128 : Int64)) = (0 : Int64))) (c2 : ¬ (((own_ushrL (own_ushrL q (7 : Int32)) (7 : Int32)) &&& (-128 : Int64)) = (0 : Int64))) (c3 : ¬ (((own_ushrL (own_ushrL (own_ushrL q (7 : Int32)) (7 : Int32)) (7 : Int32)) &&& (-128 : Int64)) = (0 : Int64))) (c4 : ¬ (((own_ushrL (own_ushrL (own_ushrL (own_ushrL q (7 : Int32)) (7 : Int32)) (7 : Int32)) (7 : Int32)) &&& (-128 : Int64)) = (0 : Int64))) (c5 : ¬ (((own_ushrL (own_ushrL (own_ushrL (own_ushrL (own_ushrL q (7 : Int32)) (7 : Int32)) (7 : Int32)) (7 : Int32)) (7 : Int32)) &&& (-128 : Int64)) = (0 : Int64))) (c6 : ((own_ushrL (own_ushrL (own_ushrL (own_ushrL (own_ushrL (own_ushrL q (7 : Int32)) (7 : Int32)) (7 : Int32)) (7 : Int32)) (7 : Int32)) (7 : Int32)) &&& (-128 : Int64)) = (0 : Int64)) : own_vr (0 : Int32) q = (0 : Int32) + (7 : Int32) ∧ (own_vl (own_fl s) (0 : Int32) q).getD 0 0 = own_ei ((0 : Int32) - (0 : Int32)) (7 : Int32) q s ∧ (own_vl (own_fl s) (0 : Int32) q).getD 1 0 = own_ei ((1 : Int32) - (0 : Int32)) (7 : Int32) q s ∧ (own_vl (own_fl s) (0 : Int32) q).getD 2 0 = own_ei ((2 : Int32) - (0 : Int32)) (7 : Int32) q s ∧ (own_vl (own_fl s) (0 : Int32) q).getD 3 0 = own_ei ((3 : Int32) - (0 : Int32)) (7 : Int32) q s ∧ (own_vl (own_fl s) (0 : Int32) q).getD 4 0 = own_ei ((4 : Int32) - (0 : Int32)) (7 : Int32) q s ∧ (own_vl (own_fl s) (0 : Int32) q).getD 5 0 = own_ei ((5 : Int32) - (0 : Int32)) (7 : Int32) q s ∧ (own_vl (own_fl s) (0 : Int32) q).getD 6 0 = own_ei ((6 : Int32) - (0 : Int32)) (7 : Int32) q s ∧ (own_vl (own_fl s) (0 : Int32) q).getD 7 0 = own_ei ((7 : Int32) - (0 : Int32)) (7 : Int32) q s ∧ (own_vl (own_fl s) (0 : Int32) q).getD 8 0 = own_ei ((8 : Int32) - (0 : Int32)) (7 : Int32) q s ∧ (own_vl (own_fl s) (0 : Int32) q).getD 9 0 = own_ei ((9 : Int32) - (0 : Int32)) (7 : Int32) q s ∧ (own_vl (own_fl s) (0 : Int32) q).getD 10 0 = own_ei ((10 : Int32) - (0 : Int32)) (7 : Int32) q s ∧ (own_vl (own_fl s) (0 : Int32) q).getD 11 0 = own_ei ((11 : Int32) - (0 : Int32)) (7 : Int32) q s ∧ (own_vl (own_fl s) (0 : Int32) q).getD 12 0 = own_ei ((12 : Int32) - (0 : Int32)) (7 : Int32) q s ∧ (own_vl (own_fl s) (0 : Int32) q).getD 13 0 = own_ei ((13 : Int32) - (0 : Int32)) (7 : Int32) q s := by
  have hf : nar .byte s = s := by rw [hs]; exact own_idem f
  have hl : own_vl (own_fl s) (0 : Int32) q = [(nar .byte (((q &&& (127 : Int64)) ||| (128 : Int64)).toInt32.toInt8.toInt32)), (nar .byte ((((own_ushrL q (7 : Int32)) &&& (127 : Int64)) ||| (128 : Int64)).toInt32.toInt8.toInt32)), (nar .byte ((((own_ushrL (own_ushrL q (7 : Int32)) (7 : Int32)) &&& (127 : Int64)) ||| (128 : Int64)).toInt32.toInt8.toInt32)), (nar .byte ((((own_ushrL (own_ushrL (own_ushrL q (7 : Int32)) (7 : Int32)) (7 : Int32)) &&& (127 : Int64)) ||| (128 : Int64)).toInt32.toInt8.toInt32)), (nar .byte ((((own_ushrL (own_ushrL (own_ushrL (own_ushrL q (7 : Int32)) (7 : Int32)) (7 : Int32)) (7 : Int32)) &&& (127 : Int64)) ||| (128 : Int64)).toInt32.toInt8.toInt32)), (nar .byte ((((own_ushrL (own_ushrL (own_ushrL (own_ushrL (own_ushrL q (7 : Int32)) (7 : Int32)) (7 : Int32)) (7 : Int32)) (7 : Int32)) &&& (127 : Int64)) ||| (128 : Int64)).toInt32.toInt8.toInt32)), (nar .byte ((own_ushrL (own_ushrL (own_ushrL (own_ushrL (own_ushrL (own_ushrL q (7 : Int32)) (7 : Int32)) (7 : Int32)) (7 : Int32)) (7 : Int32)) (7 : Int32)).toInt32.toInt8.toInt32)), (nar .byte s), (nar .byte s), (nar .byte s), (nar .byte s), (nar .byte s), (nar .byte s), (nar .byte s)] := by rw [own_vl, if_neg c0, if_neg c1, if_neg c2, if_neg c3, if_neg c4, if_neg c5, if_pos c6]; exact own_l6_0 s _ _ _ _ _ _ _
  rw [hl, own_vr, if_neg c0, if_neg c1, if_neg c2, if_neg c3, if_neg c4, if_neg c5, if_pos c6]
  exact ⟨by decide, ((own_idem _).trans (congrArg Int8.toInt32 (own_low8 _))).trans (own_x6_0 q s).symm, ((own_idem _).trans (congrArg Int8.toInt32 (own_low8 _))).trans (own_x6_1 q s).symm, ((own_idem _).trans (congrArg Int8.toInt32 (own_low8 _))).trans (own_x6_2 q s).symm, ((own_idem _).trans (congrArg Int8.toInt32 (own_low8 _))).trans (own_x6_3 q s).symm, ((own_idem _).trans (congrArg Int8.toInt32 (own_low8 _))).trans (own_x6_4 q s).symm, ((own_idem _).trans (congrArg Int8.toInt32 (own_low8 _))).trans (own_x6_5 q s).symm, (own_idem _).trans (own_x6_6 q s).symm, hf.trans (own_x6_7 q s).symm, hf.trans (own_x6_8 q s).symm, hf.trans (own_x6_9 q s).symm, hf.trans (own_x6_10 q s).symm, hf.trans (own_x6_11 q s).symm, hf.trans (own_x6_12 q s).symm, hf.trans (own_x6_13 q s).symm⟩
theorem own_f6_1 (q : Int64) (f : Int32) (s : Int32) (hs : s = f.toInt8.toInt32) (c0 : ¬ ((q &&& (-128 : Int64)) = (0 : Int64))) (c1 : ¬ (((own_ushrL q (7 : Int32)) &&& (-128 : Int64)) = (0 : Int64))) (c2 : ¬ (((own_ushrL (own_ushrL q (7 : Int32)) (7 : Int32)) &&& (-128 : Int64)) = (0 : Int64))) (c3 : ¬ (((own_ushrL (own_ushrL (own_ushrL q (7 : Int32)) (7 : Int32)) (7 : Int32)) &&& (-128 : Int64)) = (0 : Int64))) (c4 : ¬ (((own_ushrL (own_ushrL (own_ushrL (own_ushrL q (7 : Int32)) (7 : Int32)) (7 : Int32)) (7 : Int32)) &&& (-128 : Int64)) = (0 : Int64))) (c5 : ¬ (((own_ushrL (own_ushrL (own_ushrL (own_ushrL (own_ushrL q (7 : Int32)) (7 : Int32)) (7 : Int32)) (7 : Int32)) (7 : Int32)) &&& (-128 : Int64)) = (0 : Int64))) (c6 : ((own_ushrL (own_ushrL (own_ushrL (own_ushrL (own_ushrL (own_ushrL q (7 : Int32)) (7 : Int32)) (7 : Int32)) (7 : Int32)) (7 : Int32)) (7 : Int32)) &&& (-128 : Int64)) = (0 : Int64)) : own_vr (1 : Int32) q = (1 : Int32) + (7 : Int32) ∧ (own_vl (own_fl s) (1 : Int32) q).getD 0 0 = own_ei ((0 : Int32) - (1 : Int32)) (7 : Int32) q s ∧ (own_vl (own_fl s) (1 : Int32) q).getD 1 0 = own_ei ((1 : Int32) - (1 : Int32)) (7 : Int32) q s ∧ (own_vl (own_fl s) (1 : Int32) q).getD 2 0 = own_ei ((2 : Int32) - (1 : Int32)) (7 : Int32) q s ∧ (own_vl (own_fl s) (1 : Int32) q).getD 3 0 = own_ei ((3 : Int32) - (1 : Int32)) (7 : Int32) q s ∧ (own_vl (own_fl s) (1 : Int32) q).getD 4 0 = own_ei ((4 : Int32) - (1 : Int32)) (7 : Int32) q s ∧ (own_vl (own_fl s) (1 : Int32) q).getD 5 0 = own_ei ((5 : Int32) - (1 : Int32)) (7 : Int32) q s ∧ (own_vl (own_fl s) (1 : Int32) q).getD 6 0 = own_ei ((6 : Int32) - (1 : Int32)) (7 : Int32) q s ∧ (own_vl (own_fl s) (1 : Int32) q).getD 7 0 = own_ei ((7 : Int32) - (1 : Int32)) (7 : Int32) q s ∧ (own_vl (own_fl s) (1 : Int32) q).getD 8 0 = own_ei ((8 : Int32) - (1 : Int32)) (7 : Int32) q s ∧ (own_vl (own_fl s) (1 : Int32) q).getD 9 0 = own_ei ((9 : Int32) - (1 : Int32)) (7 : Int32) q s ∧ (own_vl (own_fl s) (1 : Int32) q).getD 10 0 = own_ei ((10 : Int32) - (1 : Int32)) (7 : Int32) q s ∧ (own_vl (own_fl s) (1 : Int32) q).getD 11 0 = own_ei ((11 : Int32) - (1 : Int32)) (7 : Int32) q s ∧ (own_vl (own_fl s) (1 : Int32) q).getD 12 0 = own_ei ((12 : Int32) - (1 : Int32)) (7 : Int32) q s ∧ (own_vl (own_fl s) (1 : Int32) q).getD 13 0 = own_ei ((13 : Int32) - (1 : Int32)) (7 : Int32) q s := by
  have hf : nar .byte s = s := by rw [hs]; exact own_idem f
  have hl : own_vl (own_fl s) (1 : Int32) q = [(nar .byte s), (nar .byte (((q &&& (127 : Int64)) ||| (128 : Int64)).toInt32.toInt8.toInt32)), (nar .byte ((((own_ushrL q (7 : Int32)) &&& (127 : Int64)) ||| (128 : Int64)).toInt32.toInt8.toInt32)), (nar .byte ((((own_ushrL (own_ushrL q (7 : Int32)) (7 : Int32)) &&& (127 : Int64)) ||| (128 : Int64)).toInt32.toInt8.toInt32)), (nar .byte ((((own_ushrL (own_ushrL (own_ushrL q (7 : Int32)) (7 : Int32)) (7 : Int32)) &&& (127 : Int64)) ||| (128 : Int64)).toInt32.toInt8.toInt32)), (nar .byte ((((own_ushrL (own_ushrL (own_ushrL (own_ushrL q (7 : Int32)) (7 : Int32)) (7 : Int32)) (7 : Int32)) &&& (127 : Int64)) ||| (128 : Int64)).toInt32.toInt8.toInt32)), (nar .byte ((((own_ushrL (own_ushrL (own_ushrL (own_ushrL (own_ushrL q (7 : Int32)) (7 : Int32)) (7 : Int32)) (7 : Int32)) (7 : Int32)) &&& (127 : Int64)) ||| (128 : Int64)).toInt32.toInt8.toInt32)), (nar .byte ((own_ushrL (own_ushrL (own_ushrL (own_ushrL (own_ushrL (own_ushrL q (7 : Int32)) (7 : Int32)) (7 : Int32)) (7 : Int32)) (7 : Int32)) (7 : Int32)).toInt32.toInt8.toInt32)), (nar .byte s), (nar .byte s), (nar .byte s), (nar .byte s), (nar .byte s), (nar .byte s)] := by rw [own_vl, if_neg c0, if_neg c1, if_neg c2, if_neg c3, if_neg c4, if_neg c5, if_pos c6]; exact own_l6_1 s _ _ _ _ _ _ _
  rw [hl, own_vr, if_neg c0, if_neg c1, if_neg c2, if_neg c3, if_neg c4, if_neg c5, if_pos c6]
  exact ⟨by decide, hf.trans (own_x6_m1 q s).symm, ((own_idem _).trans (congrArg Int8.toInt32 (own_low8 _))).trans (own_x6_0 q s).symm, ((own_idem _).trans (congrArg Int8.toInt32 (own_low8 _))).trans (own_x6_1 q s).symm, ((own_idem _).trans (congrArg Int8.toInt32 (own_low8 _))).trans (own_x6_2 q s).symm, ((own_idem _).trans (congrArg Int8.toInt32 (own_low8 _))).trans (own_x6_3 q s).symm, ((own_idem _).trans (congrArg Int8.toInt32 (own_low8 _))).trans (own_x6_4 q s).symm, ((own_idem _).trans (congrArg Int8.toInt32 (own_low8 _))).trans (own_x6_5 q s).symm, (own_idem _).trans (own_x6_6 q s).symm, hf.trans (own_x6_7 q s).symm, hf.trans (own_x6_8 q s).symm, hf.trans (own_x6_9 q s).symm, hf.trans (own_x6_10 q s).symm, hf.trans (own_x6_11 q s).symm, hf.trans (own_x6_12 q s).symm⟩
theorem own_f6_2 (q : Int64) (f : Int32) (s : Int32) (hs : s = f.toInt8.toInt32) (c0 : ¬ ((q &&& (-128 : Int64)) = (0 : Int64))) (c1 : ¬ (((own_ushrL q (7 : Int32)) &&& (-128 : Int64)) = (0 : Int64))) (c2 : ¬ (((own_ushrL (own_ushrL q (7 : Int32)) (7 : Int32)) &&& (-128 : Int64)) = (0 : Int64))) (c3 : ¬ (((own_ushrL (own_ushrL (own_ushrL q (7 : Int32)) (7 : Int32)) (7 : Int32)) &&& (-128 : Int64)) = (0 : Int64))) (c4 : ¬ (((own_ushrL (own_ushrL (own_ushrL (own_ushrL q (7 : Int32)) (7 : Int32)) (7 : Int32)) (7 : Int32)) &&& (-128 : Int64)) = (0 : Int64))) (c5 : ¬ (((own_ushrL (own_ushrL (own_ushrL (own_ushrL (own_ushrL q (7 : Int32)) (7 : Int32)) (7 : Int32)) (7 : Int32)) (7 : Int32)) &&& (-128 : Int64)) = (0 : Int64))) (c6 : ((own_ushrL (own_ushrL (own_ushrL (own_ushrL (own_ushrL (own_ushrL q (7 : Int32)) (7 : Int32)) (7 : Int32)) (7 : Int32)) (7 : Int32)) (7 : Int32)) &&& (-128 : Int64)) = (0 : Int64)) : own_vr (2 : Int32) q = (2 : Int32) + (7 : Int32) ∧ (own_vl (own_fl s) (2 : Int32) q).getD 0 0 = own_ei ((0 : Int32) - (2 : Int32)) (7 : Int32) q s ∧ (own_vl (own_fl s) (2 : Int32) q).getD 1 0 = own_ei ((1 : Int32) - (2 : Int32)) (7 : Int32) q s ∧ (own_vl (own_fl s) (2 : Int32) q).getD 2 0 = own_ei ((2 : Int32) - (2 : Int32)) (7 : Int32) q s ∧ (own_vl (own_fl s) (2 : Int32) q).getD 3 0 = own_ei ((3 : Int32) - (2 : Int32)) (7 : Int32) q s ∧ (own_vl (own_fl s) (2 : Int32) q).getD 4 0 = own_ei ((4 : Int32) - (2 : Int32)) (7 : Int32) q s ∧ (own_vl (own_fl s) (2 : Int32) q).getD 5 0 = own_ei ((5 : Int32) - (2 : Int32)) (7 : Int32) q s ∧ (own_vl (own_fl s) (2 : Int32) q).getD 6 0 = own_ei ((6 : Int32) - (2 : Int32)) (7 : Int32) q s ∧ (own_vl (own_fl s) (2 : Int32) q).getD 7 0 = own_ei ((7 : Int32) - (2 : Int32)) (7 : Int32) q s ∧ (own_vl (own_fl s) (2 : Int32) q).getD 8 0 = own_ei ((8 : Int32) - (2 : Int32)) (7 : Int32) q s ∧ (own_vl (own_fl s) (2 : Int32) q).getD 9 0 = own_ei ((9 : Int32) - (2 : Int32)) (7 : Int32) q s ∧ (own_vl (own_fl s) (2 : Int32) q).getD 10 0 = own_ei ((10 : Int32) - (2 : Int32)) (7 : Int32) q s ∧ (own_vl (own_fl s) (2 : Int32) q).getD 11 0 = own_ei ((11 : Int32) - (2 : Int32)) (7 : Int32) q s ∧ (own_vl (own_fl s) (2 : Int32) q).getD 12 0 = own_ei ((12 : Int32) - (2 : Int32)) (7 : Int32) q s ∧ (own_vl (own_fl s) (2 : Int32) q).getD 13 0 = own_ei ((13 : Int32) - (2 : Int32)) (7 : Int32) q s := by
  have hf : nar .byte s = s := by rw [hs]; exact own_idem f
  have hl : own_vl (own_fl s) (2 : Int32) q = [(nar .byte s), (nar .byte s), (nar .byte (((q &&& (127 : Int64)) ||| (128 : Int64)).toInt32.toInt8.toInt32)), (nar .byte ((((own_ushrL q (7 : Int32)) &&& (127 : Int64)) ||| (128 : Int64)).toInt32.toInt8.toInt32)), (nar .byte ((((own_ushrL (own_ushrL q (7 : Int32)) (7 : Int32)) &&& (127 : Int64)) ||| (128 : Int64)).toInt32.toInt8.toInt32)), (nar .byte ((((own_ushrL (own_ushrL (own_ushrL q (7 : Int32)) (7 : Int32)) (7 : Int32)) &&& (127 : Int64)) ||| (128 : Int64)).toInt32.toInt8.toInt32)), (nar .byte ((((own_ushrL (own_ushrL (own_ushrL (own_ushrL q (7 : Int32)) (7 : Int32)) (7 : Int32)) (7 : Int32)) &&& (127 : Int64)) ||| (128 : Int64)).toInt32.toInt8.toInt32)), (nar .byte ((((own_ushrL (own_ushrL (own_ushrL (own_ushrL (own_ushrL q (7 : Int32)) (7 : Int32)) (7 : Int32)) (7 : Int32)) (7 : Int32)) &&& (127 : Int64)) ||| (128 : Int64)).toInt32.toInt8.toInt32)), (nar .byte ((own_ushrL (own_ushrL (own_ushrL (own_ushrL (own_ushrL (own_ushrL q (7 : Int32)) (7 : Int32)) (7 : Int32)) (7 : Int32)) (7 : Int32)) (7 : Int32)).toInt32.toInt8.toInt32)), (nar .byte s), (nar .byte s), (nar .byte s), (nar .byte s), (nar .byte s)] := by rw [own_vl, if_neg c0, if_neg c1, if_neg c2, if_neg c3, if_neg c4, if_neg c5, if_pos c6]; exact own_l6_2 s _ _ _ _ _ _ _
  rw [hl, own_vr, if_neg c0, if_neg c1, if_neg c2, if_neg c3, if_neg c4, if_neg c5, if_pos c6]
  exact ⟨by decide, hf.trans (own_x6_m2 q s).symm, hf.trans (own_x6_m1 q s).symm, ((own_idem _).trans (congrArg Int8.toInt32 (own_low8 _))).trans (own_x6_0 q s).symm, ((own_idem _).trans (congrArg Int8.toInt32 (own_low8 _))).trans (own_x6_1 q s).symm, ((own_idem _).trans (congrArg Int8.toInt32 (own_low8 _))).trans (own_x6_2 q s).symm, ((own_idem _).trans (congrArg Int8.toInt32 (own_low8 _))).trans (own_x6_3 q s).symm, ((own_idem _).trans (congrArg Int8.toInt32 (own_low8 _))).trans (own_x6_4 q s).symm, ((own_idem _).trans (congrArg Int8.toInt32 (own_low8 _))).trans (own_x6_5 q s).symm, (own_idem _).trans (own_x6_6 q s).symm, hf.trans (own_x6_7 q s).symm, hf.trans (own_x6_8 q s).symm, hf.trans (own_x6_9 q s).symm, hf.trans (own_x6_10 q s).symm, hf.trans (own_x6_11 q s).symm⟩
theorem own_f6_3 (q : Int64) (f : Int32) (s : Int32) (hs : s = f.toInt8.toInt32) (c0 : ¬ ((q &&& (-128 : Int64)) = (0 : Int64))) (c1 : ¬ (((own_ushrL q (7 : Int32)) &&& (-128 : Int64)) = (0 : Int64))) (c2 : ¬ (((own_ushrL (own_ushrL q (7 : Int32)) (7 : Int32)) &&& (-128 : Int64)) = (0 : Int64))) (c3 : ¬ (((own_ushrL (own_ushrL (own_ushrL q (7 : Int32)) (7 : Int32)) (7 : Int32)) &&& (-128 : Int64)) = (0 : Int64))) (c4 : ¬ (((own_ushrL (own_ushrL (own_ushrL (own_ushrL q (7 : Int32)) (7 : Int32)) (7 : Int32)) (7 : Int32)) &&& (-128 : Int64)) = (0 : Int64))) (c5 : ¬ (((own_ushrL (own_ushrL (own_ushrL (own_ushrL (own_ushrL q (7 : Int32)) (7 : Int32)) (7 : Int32)) (7 : Int32)) (7 : Int32)) &&& (-128 : Int64)) = (0 : Int64))) (c6 : ((own_ushrL (own_ushrL (own_ushrL (own_ushrL (own_ushrL (own_ushrL q (7 : Int32)) (7 : Int32)) (7 : Int32)) (7 : Int32)) (7 : Int32)) (7 : Int32)) &&& (-128 : Int64)) = (0 : Int64)) : own_vr (3 : Int32) q = (3 : Int32) + (7 : Int32) ∧ (own_vl (own_fl s) (3 : Int32) q).getD 0 0 = own_ei ((0 : Int32) - (3 : Int32)) (7 : Int32) q s ∧ (own_vl (own_fl s) (3 : Int32) q).getD 1 0 = own_ei ((1 : Int32) - (3 : Int32)) (7 : Int32) q s ∧ (own_vl (own_fl s) (3 : Int32) q).getD 2 0 = own_ei ((2 : Int32) - (3 : Int32)) (7 : Int32) q s ∧ (own_vl (own_fl s) (3 : Int32) q).getD 3 0 = own_ei ((3 : Int32) - (3 : Int32)) (7 : Int32) q s ∧ (own_vl (own_fl s) (3 : Int32) q).getD 4 0 = own_ei ((4 : Int32) - (3 : Int32)) (7 : Int32) q s ∧ (own_vl (own_fl s) (3 : Int32) q).getD 5 0 = own_ei ((5 : Int32) - (3 : Int32)) (7 : Int32) q s ∧ (own_vl (own_fl s) (3 : Int32) q).getD 6 0 = own_ei ((6 : Int32) - (3 : Int32)) (7 : Int32) q s ∧ (own_vl (own_fl s) (3 : Int32) q).getD 7 0 = own_ei ((7 : Int32) - (3 : Int32)) (7 : Int32) q s ∧ (own_vl (own_fl s) (3 : Int32) q).getD 8 0 = own_ei ((8 : Int32) - (3 : Int32)) (7 : Int32) q s ∧ (own_vl (own_fl s) (3 : Int32) q).getD 9 0 = own_ei ((9 : Int32) - (3 : Int32)) (7 : Int32) q s ∧ (own_vl (own_fl s) (3 : Int32) q).getD 10 0 = own_ei ((10 : Int32) - (3 : Int32)) (7 : Int32) q s ∧ (own_vl (own_fl s) (3 : Int32) q).getD 11 0 = own_ei ((11 : Int32) - (3 : Int32)) (7 : Int32) q s ∧ (own_vl (own_fl s) (3 : Int32) q).getD 12 0 = own_ei ((12 : Int32) - (3 : Int32)) (7 : Int32) q s ∧ (own_vl (own_fl s) (3 : Int32) q).getD 13 0 = own_ei ((13 : Int32) - (3 : Int32)) (7 : Int32) q s := by
  have hf : nar .byte s = s := by rw [hs]; exact own_idem f
  have hl : own_vl (own_fl s) (3 : Int32) q = [(nar .byte s), (nar .byte s), (nar .byte s), (nar .byte (((q &&& (127 : Int64)) ||| (128 : Int64)).toInt32.toInt8.toInt32)), (nar .byte ((((own_ushrL q (7 : Int32)) &&& (127 : Int64)) ||| (128 : Int64)).toInt32.toInt8.toInt32)), (nar .byte ((((own_ushrL (own_ushrL q (7 : Int32)) (7 : Int32)) &&& (127 : Int64)) ||| (128 : Int64)).toInt32.toInt8.toInt32)), (nar .byte ((((own_ushrL (own_ushrL (own_ushrL q (7 : Int32)) (7 : Int32)) (7 : Int32)) &&& (127 : Int64)) ||| (128 : Int64)).toInt32.toInt8.toInt32)), (nar .byte ((((own_ushrL (own_ushrL (own_ushrL (own_ushrL q (7 : Int32)) (7 : Int32)) (7 : Int32)) (7 : Int32)) &&& (127 : Int64)) ||| (128 : Int64)).toInt32.toInt8.toInt32)), (nar .byte ((((own_ushrL (own_ushrL (own_ushrL (own_ushrL (own_ushrL q (7 : Int32)) (7 : Int32)) (7 : Int32)) (7 : Int32)) (7 : Int32)) &&& (127 : Int64)) ||| (128 : Int64)).toInt32.toInt8.toInt32)), (nar .byte ((own_ushrL (own_ushrL (own_ushrL (own_ushrL (own_ushrL (own_ushrL q (7 : Int32)) (7 : Int32)) (7 : Int32)) (7 : Int32)) (7 : Int32)) (7 : Int32)).toInt32.toInt8.toInt32)), (nar .byte s), (nar .byte s), (nar .byte s), (nar .byte s)] := by rw [own_vl, if_neg c0, if_neg c1, if_neg c2, if_neg c3, if_neg c4, if_neg c5, if_pos c6]; exact own_l6_3 s _ _ _ _ _ _ _
  rw [hl, own_vr, if_neg c0, if_neg c1, if_neg c2, if_neg c3, if_neg c4, if_neg c5, if_pos c6]
  exact ⟨by decide, hf.trans (own_x6_m3 q s).symm, hf.trans (own_x6_m2 q s).symm, hf.trans (own_x6_m1 q s).symm, ((own_idem _).trans (congrArg Int8.toInt32 (own_low8 _))).trans (own_x6_0 q s).symm, ((own_idem _).trans (congrArg Int8.toInt32 (own_low8 _))).trans (own_x6_1 q s).symm, ((own_idem _).trans (congrArg Int8.toInt32 (own_low8 _))).trans (own_x6_2 q s).symm, ((own_idem _).trans (congrArg Int8.toInt32 (own_low8 _))).trans (own_x6_3 q s).symm, ((own_idem _).trans (congrArg Int8.toInt32 (own_low8 _))).trans (own_x6_4 q s).symm, ((own_idem _).trans (congrArg Int8.toInt32 (own_low8 _))).trans (own_x6_5 q s).symm, (own_idem _).trans (own_x6_6 q s).symm, hf.trans (own_x6_7 q s).symm, hf.trans (own_x6_8 q s).symm, hf.trans (own_x6_9 q s).symm, hf.trans (own_x6_10 q s).symm⟩
theorem own_f7_0 (q : Int64) (f : Int32) (s : Int32) (hs : s = f.toInt8.toInt32) (c0 : ¬ ((q &&& (-128 : Int64)) = (0 : Int64))) (c1 : ¬ (((own_ushrL q (7 : Int32)) &&& (-128 : Int64)) = (0 : Int64))) (c2 : ¬ (((own_ushrL (own_ushrL q (7 : Int32)) (7 : Int32)) &&& (-128 : Int64)) = (0 : Int64))) (c3 : ¬ (((own_ushrL (own_ushrL (own_ushrL q (7 : Int32)) (7 : Int32)) (7 : Int32)) &&& (-128 : Int64)) = (0 : Int64))) (c4 : ¬ (((own_ushrL (own_ushrL (own_ushrL (own_ushrL q (7 : Int32)) (7 : Int32)) (7 : Int32)) (7 : Int32)) &&& (-128 : Int64)) = (0 : Int64))) (c5 : ¬ (((own_ushrL (own_ushrL (own_ushrL (own_ushrL (own_ushrL q (7 : Int32)) (7 : Int32)) (7 : Int32)) (7 : Int32)) (7 : Int32)) &&& (-128 : Int64)) = (0 : Int64))) (c6 : ¬ (((own_ushrL (own_ushrL (own_ushrL (own_ushrL (own_ushrL (own_ushrL q (7 : Int32)) (7 : Int32)) (7 : Int32)) (7 : Int32)) (7 : Int32)) (7 : Int32)) &&& (-128 : Int64)) = (0 : Int64))) (c7 : ((own_ushrL (own_ushrL (own_ushrL (own_ushrL (own_ushrL (own_ushrL (own_ushrL q (7 : Int32)) (7 : Int32)) (7 : Int32)) (7 : Int32)) (7 : Int32)) (7 : Int32)) (7 : Int32)) &&& (-128 : Int64)) = (0 : Int64)) : own_vr (0 : Int32) q = (0 : Int32) + (8 : Int32) ∧ (own_vl (own_fl s) (0 : Int32) q).getD 0 0 = own_ei ((0 : Int32) - (0 : Int32)) (8 : Int32) q s ∧ (own_vl (own_fl s) (0 : Int32) q).getD 1 0 = own_ei ((1 : Int32) - (0 : Int32)) (8 : Int32) q s ∧ (own_vl (own_fl s) (0 : Int32) q).getD 2 0 = own_ei ((2 : Int32) - (0 : Int32)) (8 : Int32) q s ∧ (own_vl (own_fl s) (0 : Int32) q).getD 3 0 = own_ei ((3 : Int32) - (0 : Int32)) (8 : Int32) q s ∧ (own_vl (own_fl s) (0 : Int32) q).getD 4 0 = own_ei ((4 : Int32) - (0 : Int32)) (8 : Int32) q s ∧ (own_vl (own_fl s) (0 : Int32) q).getD 5 0 = own_ei ((5 : Int32) - (0 : Int32)) (8 : Int32) q s ∧ (own_vl (own_fl s) (0 : Int32) q).getD 6 0 = own_ei ((6 : Int32) - (0 : Int32)) (8 : Int32) q s ∧ (own_vl (own_fl s) (0 : Int32) q).getD 7 0 = own_ei ((7 : Int32) - (0 : Int32)) (8 : Int32) q s ∧ (own_vl (own_fl s) (0 : Int32) q).getD 8 0 = own_ei ((8 : Int32) - (0 : Int32)) (8 : Int32) q s ∧ (own_vl (own_fl s) (0 : Int32) q).getD 9 0 = own_ei ((9 : Int32) - (0 : Int32)) (8 : Int32) q s ∧ (own_vl (own_fl s) (0 : Int32) q).getD 10 0 = own_ei ((10 : Int32) - (0 : Int32)) (8 : Int32) q s ∧ (own_vl (own_fl s) (0 : Int32) q).getD 11 0 = own_ei ((11 : Int32) - (0 : Int32)) (8 : Int32) q s ∧ (own_vl (own_fl s) (0 : Int32) q).getD 12 0 = own_ei ((12 : Int32) - (0 : Int32)) (8 : Int32) q s ∧ (own_vl (own_fl s) (0 : Int32) q).getD 13 0 = own_ei ((13 : Int32) - (0 : Int32)) (8 : Int32) q s := by
  have hf : nar .byte s = s := by rw [hs]; exact own_idem f
  have hl : own_vl (own_fl s) (0 : Int32) q = [(nar .byte (((q &&& (127 : Int64)) ||| (128 : Int64)).toInt32.toInt8.toInt32)), (nar .byte ((((own_ushrL q (7 : Int32)) &&& (127 : Int64)) ||| (128 : Int64)).toInt32.toInt8.toInt32)), (nar .byte ((((own_ushrL (own_ushrL q (7 : Int32)) (7 : Int32)) &&& (127 : Int64)) ||| (128 : Int64)).toInt32.toInt8.toInt32)), (nar .byte ((((own_ushrL (own_ushrL (own_ushrL q (7 : Int32)) (7 : Int32)) (7 : Int32)) &&& (127 : Int64)) ||| (128 : Int64)).toInt32.toInt8.toInt32)), (nar .byte ((((own_ushrL (own_ushrL (own_ushrL (own_ushrL q (7 : Int32)) (7 : Int32)) (7 : Int32)) (7 : Int32)) &&& (127 : Int64)) ||| (128 : Int64)).toInt32.toInt8.toInt32)), (nar .byte ((((own_ushrL (own_ushrL (own_ushrL (own_ushrL (own_ushrL q (7 : Int32)) (7 : Int32)) (7 : Int32)) (7 : Int32)) (7 : Int32)) &&& (127 : Int64)) ||| (128 : Int64)).toInt32.toInt8.toInt32)), (nar .byte ((((own_ushrL (own_ushrL (own_ushrL (own_ushrL (own_ushrL (own_ushrL q (7 : Int32)) (7 : Int32)) (7 : Int32)) (7 : Int32)) (7 : Int32)) (7 : Int32)) &&& (127 : Int64)) ||| (128 : Int64)).toInt32.toInt8.toInt32)), (nar .byte ((own_ushrL (own_ushrL (own_ushrL (own_ushrL (own_ushrL (own_ushrL (own_ushrL q (7 : Int32)) (7 : Int32)) (7 : Int32)) (7 : Int32)) (7 : Int32)) (7 : Int32)) (7 : Int32)).toInt32.toInt8.toInt32)), (nar .byte s), (nar .byte s), (nar .byte s), (nar .byte s), (nar .byte s), (nar .byte s)] := by rw [own_vl, if_neg c0, if_neg c1, if_neg c2, if_neg c3, if_neg c4, if_neg c5, if_neg c6, if_pos c7]; exact own_l7_0 s _ _ _ _ _ _ _ _
  rw [hl, own_vr, if_neg c0, if_neg c1, if_neg c2, if_neg c3, if_neg c4, if_neg c5, if_neg c6, if_pos c7]
  exact ⟨by decide, ((own_idem _).trans (congrArg Int8.toInt32 (own_low8 _))).trans (own_x7_0 q s).symm, ((own_idem _).trans (congrArg Int8.toInt32 (own_low8 _))).trans (own_x7_1 q s).symm, ((own_idem _).trans (congrArg Int8.toInt32 (own_low8 _))).trans (own_x7_2 q s).symm, ((own_idem _).trans (congrArg Int8.toInt32 (own_low8 _))).trans (own_x7_3 q s).symm, ((own_idem _).trans (congrArg Int8.toInt32 (own_low8 _))).trans (own_x7_4 q s).symm, ((own_idem _).trans (congrArg Int8.toInt32 (own_low8 _))).trans (own_x7_5 q s).symm, ((own_idem _).trans (congrArg Int8.toInt32 (own_low8 _))).trans (own_x7_6 q s).symm, (own_idem _).trans (own_x7_7 q s).symm, hf.trans (own_x7_8 q s).symm, hf.trans (own_x7_9 q s).symm, hf.trans (own_x7_10 q s).symm, hf.trans (own_x7_11 q s).symm, hf.trans (own_x7_12 q s).symm, hf.trans (own_x7_13 q s).symm⟩
theorem own_f7_1 (q : Int64) (f : Int32) (s : Int32) (hs : s = f.toInt8.toInt32) (c0 : ¬ ((q &&& (-128 : Int64)) = (0 : Int64))) (c1 : ¬ (((own_ushrL q (7 : Int32)) &&& (-128 : Int64)) = (0 : Int64))) (c2 : ¬ (((own_ushrL (own_ushrL q (7 : Int32)) (7 : Int32)) &&& (-128 : Int64)) = (0 : Int64))) (c3 : ¬ (((own_ushrL (own_ushrL (own_ushrL q (7 : Int32)) (7 : Int32)) (7 : Int32)) &&& (-128 : Int64)) = (0 : Int64))) (c4 : ¬ (((own_ushrL (own_ushrL (own_ushrL (own_ushrL q (7 : Int32)) (7 : Int32)) (7 : Int32)) (7 : Int32)) &&& (-128 : Int64)) = (0 : Int64))) (c5 : ¬ (((own_ushrL (own_ushrL (own_ushrL (own_ushrL (own_ushrL q (7 : Int32)) (7 : Int32)) (7 : Int32)) (7 : Int32)) (7 : Int32)) &&& (-128 : Int64)) = (0 : Int64))) (c6 : ¬ (((own_ushrL (own_ushrL (own_ushrL (own_ushrL (own_ushrL (own_ushrL q (7 : Int32)) (7 : Int32)) (7 : Int32)) (7 : Int32)) (7 : Int32)) (7 : Int32)) &&& (-128 : Int64)) = (0 : Int64))) (c7 : ((own_ushrL (own_ushrL (own_ushrL (own_ushrL (own_ushrL (own_ushrL (own_ushrL q (7 : Int32)) (7 : Int32)) (7 : Int32)) (7 : Int32)) (7 : Int32)) (7 : Int32)) (7 : Int32)) &&& (-128 : Int64)) = (0 : Int64)) : own_vr (1 : Int32) q = (1 : Int32) + (8 : Int32) ∧ (own_vl (own_fl s) (1 : Int32) q).getD 0 0 = own_ei ((0 : Int32) - (1 : Int32)) (8 : Int32) q s ∧ (own_vl (own_fl s) (1 : Int32) q).getD 1 0 = own_ei ((1 : Int32) - (1 : Int32)) (8 : Int32) q s ∧ (own_vl (own_fl s) (1 : Int32) q).getD 2 0 = own_ei ((2 : Int32) - (1 : Int32)) (8 : Int32) q s ∧ (own_vl (own_fl s) (1 : Int32) q).getD 3 0 = own_ei ((3 : Int32) - (1 : Int32)) (8 : Int32) q s ∧ (own_vl (own_fl s) (1 : Int32) q).getD 4 0 = own_ei ((4 : Int32) - (1 : Int32)) (8 : Int32) q s ∧ (own_vl (own_fl s) (1 : Int32) q).getD 5 0 = own_ei ((5 : Int32) - (1 : Int32)) (8 : Int32) q s ∧ (own_vl (own_fl s) (1 : Int32) q).getD 6 0 = own_ei ((6 : Int32) - (1 : Int32)) (8 : Int32) q s ∧ (own_vl (own_fl s) (1 : Int32) q).getD 7 0 = own_ei ((7 : Int32) - (1 : Int32)) (8 : Int32) q s ∧ (own_vl (own_fl s) (1 : Int32) q).getD 8 0 = own_ei ((8 : Int32) - (1 : Int32)) (8 : Int32) q s ∧ (own_vl (own_fl s) (1 : Int32) q).getD 9 0 = own_ei ((9 : Int32) - (1 : Int32)) (8 : Int32) q s ∧ (own_vl (own_fl s) (1 : Int32) q).getD 10 0 = own_ei ((10 : Int32) - (1 : Int32)) (8 : Int32) q s ∧ (own_vl (own_fl s) (1 : Int32) q).getD 11 0 = own_ei ((11 : Int32) - (1 : Int32)) (8 : Int32) q s ∧ (own_vl (own_fl s) (1 : Int32) q).getD 12 0 = own_ei ((12 : Int32) - (1 : Int32)) (8 : Int32) q s ∧ (own_vl (own_fl s) (1 : Int32) q).getD 13 0 = own_ei ((13 : Int32) - (1 : Int32)) (8 : Int32) q s := by
  have hf : nar .byte s = s := by rw [hs]; exact own_idem f
  have hl : own_vl (own_fl s) (1 : Int32) q = [(nar .byte s), (nar .byte (((q &&& (127 : Int64)) ||| (128 : Int64)).toInt32.toInt8.toInt32)), (nar .byte ((((own_ushrL q (7 : Int32)) &&& (127 : Int64)) ||| (128 : Int64)).toInt32.toInt8.toInt32)), (nar .byte ((((own_ushrL (own_ushrL q (7 : Int32)) (7 : Int32)) &&& (127 : Int64)) ||| (128 : Int64)).toInt32.toInt8.toInt32)), (nar .byte ((((own_ushrL (own_ushrL (own_ushrL q (7 : Int32)) (7 : Int32)) (7 : Int32)) &&& (127 : Int64)) ||| (128 : Int64)).toInt32.toInt8.toInt32)), (nar .byte ((((own_ushrL (own_ushrL (own_ushrL (own_ushrL q (7 : Int32)) (7 : Int32)) (7 : Int32)) (7 : Int32)) &&& (127 : Int64)) ||| (128 : Int64)).toInt32.toInt8.toInt32)), (nar .byte ((((own_ushrL (own_ushrL (own_ushrL (own_ushrL (own_ushrL q (7 : Int32)) (7 : Int32)) (7 : Int32)) (7 : Int32)) (7 : Int32)) &&& (127 : Int64)) ||| (128 : Int64)).toInt32.toInt8.toInt32)), (nar .byte ((((own_ushrL (own_ushrL (own_ushrL (own_ushrL (own_ushrL (own_ushrL q (7 : Int32)) (7 : Int32)) (7 : Int32)) (7 : Int32)) (7 : Int32)) (7 : Int32)) &&& (127 : Int64)) ||| (128 : Int64)).toInt32.toInt8.toInt32)), (nar .byte ((own_ushrL (own_ushrL (own_ushrL (own_ushrL (own_ushrL (own_ushrL (own_ushrL q (7 : Int32)) (7 : Int32)) (7 : Int32)) (7 : Int32)) (7 : Int32)) (7 : Int32)) (7 : Int32)).toInt32.toInt8.toInt32)), (nar .byte s), (nar .byte s), (nar .byte s), (nar .byte s), (nar .byte s)] := by rw [own_vl, if_neg c0, if_neg c1, if_neg c2, if_neg c3, if_neg c4, if_neg c5, if_neg c6, if_pos c7]; exact own_l7_1 s _ _ _ _ _ _ _ _
  rw [hl, own_vr, if_neg c0, if_neg c1, if_neg c2, if_neg c3, if_neg c4, if_neg c5, if_neg c6, if_pos c7]
  exact ⟨by decide, hf.trans (own_x7_m1 q s).symm, ((own_idem _).trans (congrArg Int8.toInt32 (own_low8 _))).trans (own_x7_0 q s).symm, ((own_idem _).trans (congrArg Int8.toInt32 (own_low8 _))).trans (own_x7_1 q s).symm, ((own_idem _).trans (congrArg Int8.toInt32 (own_low8 _))).trans (own_x7_2 q s).symm, ((own_idem _).trans (congrArg Int8.toInt32 (own_low8 _))).trans (own_x7_3 q s).symm, ((own_idem _).trans (congrArg Int8.toInt32 (own_low8 _))).trans (own_x7_4 q s).symm, ((own_idem _).trans (congrArg Int8.toInt32 (own_low8 _))).trans (own_x7_5 q s).symm, ((own_idem _).trans (congrArg Int8.toInt32 (own_low8 _))).trans (own_x7_6 q s).symm, (own_idem _).trans (own_x7_7 q s).symm, hf.trans (own_x7_8 q s).symm, hf.trans (own_x7_9 q s).symm, hf.trans (own_x7_10 q s).symm, hf.trans (own_x7_11 q s).symm, hf.trans (own_x7_12 q s).symm⟩
theorem own_f7_2 (q : Int64) (f : Int32) (s : Int32) (hs : s = f.toInt8.toInt32) (c0 : ¬ ((q &&& (-128 : Int64)) = (0 : Int64))) (c1 : ¬ (((own_ushrL q (7 : Int32)) &&& (-128 : Int64)) = (0 : Int64))) (c2 : ¬ (((own_ushrL (own_ushrL q (7 : Int32)) (7 : Int32)) &&& (-128 : Int64)) = (0 : Int64))) (c3 : ¬ (((own_ushrL (own_ushrL (own_ushrL q (7 : Int32)) (7 : Int32)) (7 : Int32)) &&& (-128 : Int64)) = (0 : Int64))) (c4 : ¬ (((own_ushrL (own_ushrL (own_ushrL (own_ushrL q (7 : Int32)) (7 : Int32)) (7 : Int32)) (7 : Int32)) &&& (-128 : Int64)) = (0 : Int64))) (c5 : ¬ (((own_ushrL (own_ushrL (own_ushrL (own_ushrL (own_ushrL q (7 : Int32)) (7 : Int32)) (7 : Int32)) (7 : Int32)) (7 : Int32)) &&& (-128 : Int64)) = (0 : Int64))) (c6 : ¬ (((own_ushrL (own_ushrL (own_ushrL (own_ushrL (own_ushrL (own_ushrL q (7 : Int32)) (7 : Int32)) (7 : Int32)) (7 : Int32)) (7 : Int32)) (7 : Int32)) &&& (-128 : Int64)) = (0 : Int64))) (c7 : ((own_ushrL (own_ushrL (own_ushrL (own_ushrL (own_ushrL (own_ushrL (own_ushrL q (7 : Int32)) (7 : Int32)) (7 : Int32)) (7 : Int32)) (7 : Int32)) (7 : Int32)) (7 : Int32)) &&& (-128 : Int64)) = (0 : Int64)) : own_vr (2 : Int32) q = (2 : Int32) + (8 : Int32) ∧ (own_vl (own_fl s) (2 : Int32) q).getD 0 0 = own_ei ((0 : Int32) - (2 : Int32)) (8 : Int32) q s ∧ (own_vl (own_fl s) (2 : Int32) q).getD 1 0 = own_ei ((1 : Int32) - (2 : Int32)) (8 : Int32) q s ∧ (own_vl (own_fl s) (2 : Int32) q).getD 2 0 = own_ei ((2 : Int32) - (2 : Int32)) (8 : Int32) q s ∧ (own_vl (own_fl s) (2 : Int32) q).getD 3 0 = own_ei ((3 : Int32) - (2 : Int32)) (8 : Int32) q s ∧ (own_vl (own_fl s) (2 : Int32) q).getD 4 0 = own_ei ((4 : Int32) - (2 : Int32)) (8 : Int32) q s ∧ (own_vl (own_fl s) (2 : Int32) q).getD 5 0 = own_ei ((5 : Int32) - (2 : Int32)) (8 : Int32) q s ∧ (own_vl (own_fl s) (2 : Int32) q).getD 6 0 = own_ei ((6 : Int32) - (2 : Int32)) (8 : Int32) q s ∧ (own_vl (own_fl s) (2 : Int32) q).getD 7 0 = own_ei ((7 : Int32) - (2 : Int32)) (8 : Int32) q s ∧ (own_vl (own_fl s) (2 : Int32) q).getD 8 0 = own_ei ((8 : Int32) - (2 : Int32)) (8 : Int32) q s ∧ (own_vl (own_fl s) (2 : Int32) q).getD 9 0 = own_ei ((9 : Int32) - (2 : Int32)) (8 : Int32) q s ∧ (own_vl (own_fl s) (2 : Int32) q).getD 10 0 = own_ei ((10 : Int32) - (2 : Int32)) (8 : Int32) q s ∧ (own_vl (own_fl s) (2 : Int32) q).getD 11 0 = own_ei ((11 : Int32) - (2 : Int32)) (8 : Int32) q s ∧ (own_vl (own_fl s) (2 : Int32) q).getD 12 0 = own_ei ((12 : Int32) - (2 : Int32)) (8 : Int32) q s ∧ (own_vl (own_fl s) (2 : Int32) q).getD 13 0 = own_ei ((13 : Int32) - (2 : Int32)) (8 : Int32) q s := by
  have hf : nar .byte s = s := by rw [hs]; exact own_idem f
  have hl : own_vl (own_fl s) (2 : Int32) q = [(nar .byte s), (nar .byte s), (nar .byte (((q &&& (127 : Int64)) ||| (128 : Int64)).toInt32.toInt8.toInt32)), (nar .byte ((((own_ushrL q (7 : Int32)) &&& (127 : Int64)) ||| (128 : Int64)).toInt32.toInt8.toInt32)), (nar .byte ((((own_ushrL (own_ushrL q (7 : Int32)) (7 : Int32)) &&& (127 : Int64)) ||| (128 : Int64)).toInt32.toInt8.toInt32)), (nar .byte ((((own_ushrL (own_ushrL (own_ushrL q (7 : Int32)) (7 : Int32)) (7 : Int32)) &&& (127 : Int64)) ||| (128 : Int64)).toInt32.toInt8.toInt32)), (nar .byte ((((own_ushrL (own_ushrL (own_ushrL (own_ushrL q (7 : Int32)) (7 : Int32)) (7 : Int32)) (7 : Int32)) &&& (127 : Int64)) ||| (128 : Int64)).toInt32.toInt8.toInt32)), (nar .byte ((((own_ushrL (own_ushrL (own_ushrL (own_ushrL (own_ushrL q (7 : Int32)) (7 : Int32)) (7 : Int32)) (7 : Int32)) (7 : Int32)) &&& (127 : Int64)) ||| (128 : Int64)).toInt32.toInt8.toInt32)), (nar .byte ((((own_ushrL (own_ushrL (own_ushrL (own_ushrL (own_ushrL (own_ushrL q (7 : Int32)) (7 : Int32)) (7 : Int32)) (7 : Int32)) (7 : Int32)) (7 : Int32)) &&& (127 : Int64)) ||| (128 : Int64)).toInt32.toInt8.toInt32)), (nar .byte ((own_ushrL (own_ushrL (own_ushrL (own_ushrL (own_ushrL (own_ushrL (own_ushrL q (7 : Int32)) (7 : Int32)) (7 : Int32)) (7 : Int32)) (7 : Int32)) (7 : Int32)) (7 : Int32)).toInt32.toInt8.toInt32)), (nar .byte s), (nar .byte s), (nar .byte s), (nar .byte s)] := by rw [own_vl, if_neg c0, if_neg c1, if_neg c2, if_neg c3, if_neg c4, if_neg c5, if_neg c6, if_pos c7]; exact own_l7_2 s _ _ _ _ _ _ _ _
  rw [hl, own_vr, if_neg c0, if_neg c1, if_neg c2, if_neg c3, if_neg c4, if_neg c5, if_neg c6, if_pos c7]
  exact ⟨by decide, hf.trans (own_x7_m2 q s).symm, hf.trans (own_x7_m1 q s).symm, ((own_idem _).trans (congrArg Int8.toInt32 (own_low8 _))).trans (own_x7_0 q s).symm, ((own_idem _).trans (congrArg Int8.toInt32 (own_low8 _))).trans (own_x7_1 q s).symm, ((own_idem _).trans (congrArg Int8.toInt32 (own_low8 _))).trans (own_x7_2 q s).symm, ((own_idem _).trans (congrArg Int8.toInt32 (own_low8 _))).trans (own_x7_3 q s).symm, ((own_idem _).trans (congrArg Int8.toInt32 (own_low8 _))).trans (own_x7_4 q s).symm, ((own_idem _).trans (congrArg Int8.toInt32 (own_low8 _))).trans (own_x7_5 q s).symm, ((own_idem _).trans (congrArg Int8.toInt32 (own_low8 _))).trans (own_x7_6 q s).symm, (own_idem _).trans (own_x7_7 q s).symm, hf.trans (own_x7_8 q s).symm, hf.trans (own_x7_9 q s).symm, hf.trans (own_x7_10 q s).symm, hf.trans (own_x7_11 q s).symm⟩
theorem own_f7_3 (q : Int64) (f : Int32) (s : Int32) (hs : s = f.toInt8.toInt32) (c0 : ¬ ((q &&& (-128 : Int64)) = (0 : Int64))) (c1 : ¬ (((own_ushrL q (7 : Int32)) &&& (-128 : Int64)) = (0 : Int64))) (c2 : ¬ (((own_ushrL (own_ushrL q (7 : Int32)) (7 : Int32)) &&& (-128 : Int64)) = (0 : Int64))) (c3 : ¬ (((own_ushrL (own_ushrL (own_ushrL q (7 : Int32)) (7 : Int32)) (7 : Int32)) &&& (-128 : Int64)) = (0 : Int64))) (c4 : ¬ (((own_ushrL (own_ushrL (own_ushrL (own_ushrL q (7 : Int32)) (7 : Int32)) (7 : Int32)) (7 : Int32)) &&& (-128 : Int64)) = (0 : Int64))) (c5 : ¬ (((own_ushrL (own_ushrL (own_ushrL (own_ushrL (own_ushrL q (7 : Int32)) (7 : Int32)) (7 : Int32)) (7 : Int32)) (7 : Int32)) &&& (-128 : Int64)) = (0 : Int64))) (c6 : ¬ (((own_ushrL (own_ushrL (own_ushrL (own_ushrL (own_ushrL (own_ushrL q (7 : Int32)) (7 : Int32)) (7 : Int32)) (7 : Int32)) (7 : Int32)) (7 : Int32)) &&& (-128 : Int64)) = (0 : Int64))) (c7 : ((own_ushrL (own_ushrL (own_ushrL (own_ushrL (own_ushrL (own_ushrL (own_ushrL q (7 : Int32)) (7 : Int32)) (7 : Int32)) (7 : Int32)) (7 : Int32)) (7 : Int32)) (7 : Int32)) &&& (-128 : Int64)) = (0 : Int64)) : own_vr (3 : Int32) q = (3 : Int32) + (8 : Int32) ∧ (own_vl (own_fl s) (3 : Int32) q).getD 0 0 = own_ei ((0 : Int32) - (3 : Int32)) (8 : Int32) q s ∧ (own_vl (own_fl s) (3 : Int32) q).getD 1 0 = own_ei ((1 : Int32) - (3 : Int32)) (8 : Int32) q s ∧ (own_vl (own_fl s) (3 : Int32) q).getD 2 0 = own_ei ((2 : Int32) - (3 : Int32)) (8 : Int32) q s ∧ (own_vl (own_fl s) (3 : Int32) q).getD 3 0 = own_ei ((3 : Int32) - (3 : Int32)) (8 : Int32) q s ∧ (own_vl (own_fl s) (3 : Int32) q).getD 4 0 = own_ei ((4 : Int32) - (3 : Int32)) (8 : Int32) q s ∧ (own_vl (own_fl s) (3 : Int32) q).getD 5 0 = own_ei ((5 : Int32) - (3 : Int32)) (8 : Int32) q s ∧ (own_vl (own_fl s) (3 : Int32) q).getD 6 0 = own_ei ((6 : Int32) - (3 : Int32)) (8 : Int32) q s ∧ (own_vl (own_fl s) (3 : Int32) q).getD 7 0 = own_ei ((7 : Int32) - (3 : Int32)) (8 : Int32) q s ∧ (own_vl (own_fl s) (3 : Int32) q).getD 8 0 = own_ei ((8 : Int32) - (3 : Int32)) (8 : Int32) q s ∧ (own_vl (own_fl s) (3 : Int32) q).getD 9 0 = own_ei ((9 : Int32) - (3 : Int32)) (8 : Int32) q s ∧ (own_vl (own_fl s) (3 : Int32) q).getD 10 0 = own_ei ((10 : Int32) - (3 : Int32)) (8 : Int32) q s ∧ (own_vl (own_fl s) (3 : Int32) q).getD 11 0 = own_ei ((11 : Int32) - (3 : Int32)) (8 : Int32) q s ∧ (own_vl (own_fl s) (3 : Int32) q).getD 12 0 = own_ei ((12 : Int32) - (3 : Int32)) (8 : Int32) q s ∧ (own_vl (own_fl s) (3 : Int32) q).getD 13 0 = own_ei ((13 : Int32) - (3 : Int32)) (8 : Int32) q s := by
  have hf : nar .byte s = s := by rw [hs]; exact own_idem f
  have hl : own_vl (own_fl s) (3 : Int32) q = [(nar .byte s), (nar .byte s), (nar .byte s), (nar .byte (((q &&& (127 : Int64)) ||| (128 : Int64)).toInt32.toInt8.toInt32)), (nar .byte ((((own_ushrL q (7 : Int32)) &&& (127 : Int64)) ||| (128 : Int64)).toInt32.toInt8.toInt32)), (nar .byte ((((own_ushrL (own_ushrL q (7 : Int32)) (7 : Int32)) &&& (127 : Int64)) ||| (128 : Int64)).toInt32.toInt8.toInt32)), (nar .byte ((((own_ushrL (own_ushrL (own_ushrL q (7 : Int32)) (7 : Int32)) (7 : Int32)) &&& (127 : Int64)) ||| (128 : Int64)).toInt32.toInt8.toInt32)), (nar .byte ((((own_ushrL (own_ushrL (own_ushrL (own_ushrL q (7 : Int32)) (7 : Int32)) (7 : Int32)) (7 : Int32)) &&& (127 : Int64)) ||| (128 : Int64)).toInt32.toInt8.toInt32)), (nar .byte ((((own_ushrL (own_ushrL (own_ushrL (own_ushrL (own_ushrL q (7 : Int32)) (7 : Int32)) (7 : Int32)) (7 : Int32)) (7 : Int32)) &&& (127 : Int64)) ||| (128 : Int64)).toInt32.toInt8.toInt32)), (nar .byte ((((own_ushrL (own_ushrL (own_ushrL (own_ushrL (own_ushrL (own_ushrL q (7 : Int32)) (7 : Int32)) (7 : Int32)) (7 : Int32)) (7 : Int32)) (7 : Int32)) &&& (127 : Int64)) ||| (128 : Int64)).toInt32.toInt8.toInt32)), (nar .byte ((own_ushrL (own_ushrL (own_ushrL (own_ushrL (own_ushrL (own_ushrL (own_ushrL q (7 : Int32)) (7 : Int32)) (7 : Int32)) (7 : Int32)) (7 : Int32)) (7 : Int32)) (7 : Int32)).toInt32.toInt8.toInt32)), (nar .byte s), (nar .byte s), (nar .byte s)] := by rw [own_vl, if_neg c0, if_neg c1, if_neg c2, if_neg c3, if_neg c4, if_neg c5, if_neg c6, if_pos c7]; exact own_l7_3 s _ _ _ _ _ _ _ _
  rw [hl, own_vr, if_neg c0, if_neg c1, if_neg c2, if_neg c3, if_neg c4, if_neg c5, if_neg c6, if_pos c7]
  exact ⟨by decide, hf.trans (own_x7_m3 q s).symm, hf.trans (own_x7_m2 q s).symm, hf.trans (own_x7_m1 q s).symm, ((own_idem _).trans (congrArg Int8.toInt32 (own_low8 _))).trans (own_x7_0 q s).symm, ((own_idem _).trans (congrArg Int8.toInt32 (own_low8 _))).trans (own_x7_1 q s).symm, ((own_idem _).trans (congrArg Int8.toInt32 (own_low8 _))).trans (own_x7_2 q s).symm, ((own_idem _).trans (congrArg Int8.toInt32 (own_low8 _))).trans (own_x7_3 q s).symm, ((own_idem _).trans (congrArg Int8.toInt32 (own_low8 _))).trans (own_x7_4 q s).symm, ((own_idem _).trans (congrArg Int8.toInt32 (own_low8 _))).trans (own_x7_5 q s).symm, ((own_idem _).trans (congrArg Int8.toInt32 (own_low8 _))).trans (own_x7_6 q s).symm, (own_idem _).trans (own_x7_7 q s).symm, hf.trans (own_x7_8 q s).symm, hf.trans (own_x7_9 q s).symm, hf.trans (own_x7_10 q s).symm⟩
theorem own_f8_0 (q : Int64) (f : Int32) (s : Int32) (hs : s = f.toInt8.toInt32) (c0 : ¬ ((q &&& (-128 : Int64)) = (0 : Int64))) (c1 : ¬ (((own_ushrL q (7 : Int32)) &&& (-128 : Int64)) = (0 : Int64))) (c2 : ¬ (((own_ushrL (own_ushrL q (7 : Int32)) (7 : Int32)) &&& (-128 : Int64)) = (0 : Int64))) (c3 : ¬ (((own_ushrL (own_ushrL (own_ushrL q (7 : Int32)) (7 : Int32)) (7 : Int32)) &&& (-128 : Int64)) = (0 : Int64))) (c4 : ¬ (((own_ushrL (own_ushrL (own_ushrL (own_ushrL q (7 : Int32)) (7 : Int32)) (7 : Int32)) (7 : Int32)) &&& (-128 : Int64)) = (0 : Int64))) (c5 : ¬ (((own_ushrL (own_ushrL (own_ushrL (own_ushrL (own_ushrL q (7 : Int32)) (7 : Int32)) (7 : Int32)) (7 : Int32)) (7 : Int32)) &&& (-128 : Int64)) = (0 : Int64))) (c6 : ¬ (((own_ushrL (own_ushrL (own_ushrL (own_ushrL (own_ushrL (own_ushrL q (7 : Int32)) (7 : Int32)) (7 : Int32)) (7 : Int32)) (7 : Int32)) (7 : Int32)) &&& (-128 : Int64)) = (0 : Int64))) (c7 : ¬ (((own_ushrL (own_ushrL (own_ushrL (own_ushrL (own_ushrL (own_ushrL (own_ushrL q (7 : Int32)) (7 : Int32)) (7 : Int32)) (7 : Int32)) (7 : Int32)) (7 : Int32)) (7 : Int32)) &&& (-128 : Int64)) = (0 : Int64))) (c8 : ((own_ushrL (own_ushrL (own_ushrL (own_ushrL (own_ushrL (own_ushrL (own_ushrL (own_ushrL q (7 : Int32)) (7 : Int32)) (7 : Int32)) (7 : Int32)) (7 : Int32)) (7 : Int32)) (7 : Int32)) (7 : Int32)) &&& (-128 : Int64)) = (0 : Int64)) : own_vr (0 : Int32) q = (0 : Int32) + (9 : Int32) ∧ (own_vl (own_fl s) (0 : Int32) q).getD 0 0 = own_ei ((0 : Int32) - (0 : Int32)) (9 : Int32) q s ∧ (own_vl (own_fl s) (0 : Int32) q).getD 1 0 = own_ei ((1 : Int32) - (0 : Int32)) (9 : Int32) q s ∧ (own_vl (own_fl s) (0 : Int32) q).getD 2 0 = own_ei ((2 : Int32) - (0 : Int32)) (9 : Int32) q s ∧ (own_vl (own_fl s) (0 : Int32) q).getD 3 0 = own_ei ((3 : Int32) - (0 : Int32)) (9 : Int32) q s ∧ (own_vl (own_fl s) (0 : Int32) q).getD 4 0 = own_ei ((4 : Int32) - (0 : Int32)) (9 : Int32) q s ∧ (own_vl (own_fl s) (0 : Int32) q).getD 5 0 = own_ei ((5 : Int32) - (0 : Int32)) (9 : Int32) q s ∧ (own_vl (own_fl s) (0 : Int32) q).getD 6 0 = own_ei ((6 : Int32) - (0 : Int32)) (9 : Int32) q s ∧ (own_vl (own_fl s) (0 : Int32) q).getD 7 0 = own_ei ((7 : Int32) - (0 : Int32)) (9 : Int32) q s ∧ (own_vl (own_fl s) (0 : Int32) q).getD 8 0 = own_ei ((8 : Int32) - (0 : Int32)) (9 : Int32) q s ∧ (own_vl (own_fl s) (0 : Int32) q).getD 9 0 = own_ei ((9 : Int32) - (0 : Int32)) (9 : Int32) q s ∧ (own_vl (own_fl s) (0 : Int32) q).getD 10 0 = own_ei ((10 : Int32) - (0 : Int32)) (9 : Int32) q s ∧ (own_vl (own_fl s) (0 : Int32) q).getD 11 0 = own_ei ((11 : Int32) - (0 : Int32)) (9 : Int32) q s ∧ (own_vl (own_fl s) (0 : Int32) q).getD 12 0 = own_ei ((12 : Int32) - (0 : Int32)) (9 : Int32) q s ∧ (own_vl (own_fl s) (0 : Int32) q).getD 13 0 = own_ei ((13 : Int32) - (0 : Int32)) (9 : Int32) q s := by
  have hf : nar .byte s = s := by rw [hs]; exact own_idem f
  have hl : own_vl (own_fl s) (0 : Int32) q = [(nar .byte (((q &&& (127 : Int64)) ||| (128 : Int64)).toInt32.toInt8.toInt32)), (nar .byte ((((own_ushrL q (7 : Int32)) &&& (127 : Int64)) ||| (128 : Int64)).toInt32.toInt8.toInt32)), (nar .byte ((((own_ushrL (own_ushrL q (7 : Int32)) (7 : Int32)) &&& (127 : Int64)) ||| (128 : Int64)).toInt32.toInt8.toInt32)), (nar .byte ((((own_ushrL (own_ushrL (own_ushrL q (7 : Int32)) (7 : Int32)) (7 : Int32)) &&& (127 : Int64)) ||| (128 : Int64)).toInt32.toInt8.toInt32)), (nar .byte ((((own_ushrL (own_ushrL (own_ushrL (own_ushrL q (7 : Int32)) (7 : Int32)) (7 : Int32)) (7 : Int32)) &&& (127 : Int64)) ||| (128 : Int64)).toInt32.toInt8.toInt32)), (nar .byte ((((own_ushrL (own_ushrL (own_ushrL (own_ushrL (own_ushrL q (7 : Int32)) (7 : Int32)) (7 : Int32)) (7 : Int32)) (7 : Int32)) &&& (127 : Int64)) ||| (128 : Int64)).toInt32.toInt8.toInt32)), (nar .byte ((((own_ushrL (own_ushrL (own_ushrL (own_ushrL (own_ushrL (own_ushrL q (7 : Int32)) (7 : Int32)) (7 : Int32)) (7 : Int32)) (7 : Int32)) (7 : Int32)) &&& (127 : Int64)) ||| (128 : Int64)).toInt32.toInt8.toInt32)), (nar .byte ((((own_ushrL (own_ushrL (own_ushrL (own_ushrL (own_ushrL (own_ushrL (own_ushrL q (7 : Int32)) (7 : Int32)) (7 : Int32)) (7 : Int32)) (7 : Int32)) (7 : Int32)) (7 : Int32)) &&& (127 : Int64)) ||| (128 : Int64)).toInt32.toInt8.toInt32)), (nar .byte ((own_ushrL (own_ushrL (own_ushrL (own_ushrL (own_ushrL (own_ushrL (own_ushrL (own_ushrL q (7 : Int32)) (7 : Int32)) (7 : Int32)) (7 : Int32)) (7 : Int32)) (7 : Int32)) (7 : Int32)) (7 : Int32)).toInt32.toInt8.toInt32)), (nar .byte s), (nar .byte s), (nar .byte s), (nar .byte s), (nar .byte s)] := by rw [own_vl, if_neg c0, if_neg c1, if_neg c2, if_neg c3, if_neg c4, if_neg c5, if_neg c6, if_neg c7, if_pos c8]; exact own_l8_0 s _ _ _ _ _ _ _ _ _
  rw [hl, own_vr, if_neg c0, if_neg c1, if_neg c2, if_neg c3, if_neg c4, if_neg c5, if_neg c6, if_neg c7, if_pos c8]
  exact ⟨by decide, ((own_idem _).trans (congrArg Int8.toInt32 (own_low8 _))).trans (own_x8_0 q s).symm, ((own_idem _).trans (congrArg Int8.toInt32 (own_low8 _))).trans (own_x8_1 q s).symm, ((own_idem _).trans (congrArg Int8.toInt32 (own_low8 _))).trans (own_x8_2 q s).symm, ((own_idem _).trans (congrArg Int8.toInt32 (own_low8 _))).trans (own_x8_3 q s).symm, ((own_idem _).trans (congrArg Int8.toInt32 (own_low8 _))).trans (own_x8_4 q s).symm, ((own_idem _).trans (congrArg Int8.toInt32 (own_low8 _))).trans (own_x8_5 q s).symm, ((own_idem _).trans (congrArg Int8.toInt32 (own_low8 _))).trans (own_x8_6 q s).symm, ((own_idem _).trans (congrArg Int8.toInt32 (own_low8 _))).trans (own_x8_7 q s).symm, (own_idem _).trans (own_x8_8 q s).symm, hf.trans (own_x8_9 q s).symm, hf.trans (own_x8_10 q s).symm, hf.trans (own_x8_11 q s).symm, hf.trans (own_x8_12 q s).symm, hf.trans (own_x8_13 q s).symm⟩
theorem own_f8_1 (q : Int64) (f : Int32) (s : Int32) (hs : s = f.toInt8.toInt32) (c0 : ¬ ((q &&& (-128 : Int64)) = (0 : Int64))) (c1 : ¬ (((own_ushrL q (7 : Int32)) &&& (-128 : Int64)) = (0 : Int64))) (c2 : ¬ (((own_ushrL (own_ushrL q (7 : Int32)) (7 : Int32)) &&& (-128 : Int64)) = (0 : Int64))) (c3 : ¬ (((own_ushrL (own_ushrL (own_ushrL q (7 : Int32)) (7 : Int32)) (7 : Int32)) &&& (-128 : Int64)) = (0 : Int64))) (c4 : ¬ (((own_ushrL (own_ushrL (own_ushrL (own_ushrL q (7 : Int32)) (7 : Int32)) (7 : Int32)) (7 : Int32)) &&& (-128 : Int64)) = (0 : Int64))) (c5 : ¬ (((own_ushrL (own_ushrL (own_ushrL (own_ushrL (own_ushrL q (7 : Int32)) (7 : Int32)) (7 : Int32)) (7 : Int32)) (7 : Int32)) &&& (-128 : Int64)) = (0 : Int64))) (c6 : ¬ (((own_ushrL (own_ushrL (own_ushrL (own_ushrL (own_ushrL (own_ushrL q (7 : Int32)) (7 : Int32)) (7 : Int32)) (7 : Int32)) (7 : Int32)) (7 : Int32)) &&& (-128 : Int64)) = (0 : Int64))) (c7 : ¬ (((own_ushrL (own_ushrL (own_ushrL (own_ushrL (own_ushrL (own_ushrL (own_ushrL q (7 : Int32)) (7 : Int32)) (7 : Int32)) (7 : Int32)) (7 : Int32)) (7 : Int32)) (7 : Int32)) &&& (-128 : Int64)) = (0 : Int64))) (c8 : ((own_ushrL (own_ushrL (own_ushrL (own_ushrL (own_ushrL (own_ushrL (own_ushrL (own_ushrL q (7 : Int32)) (7 : Int32)) (7 : Int32)) (7 : Int32)) (7 : Int32)) (7 : Int32)) (7 : Int32)) (7 : Int32)) &&& (-128 : Int64)) = (0 : Int64)) : own_vr (1 : Int32) q = (1 : Int32) + (9 : Int32) ∧ (own_vl (own_fl s) (1 : Int32) q).getD 0 0 = own_ei ((0 : Int32) - (1 : Int32)) (9 : Int32) q s ∧ (own_vl (own_fl s) (1 : Int32) q).getD 1 0 = own_ei ((1 : Int32) - (1 : Int32)) (9 : Int32) q s ∧ (own_vl (own_fl s) (1 : Int32) q).getD 2 0 = own_ei ((2 : Int32) - (1 : Int32)) (9 : Int32) q s ∧ (own_vl (own_fl s) (1 : Int32) q).getD 3 0 = own_ei ((3 : Int32) - (1 : Int32)) (9 : Int32) q s ∧ (own_vl (own_fl s) (1 : Int32) q).getD 4 0 = own_ei ((4 : Int32) - (1 : Int32)) (9 : Int32) q s ∧ (own_vl (own_fl s) (1 : Int32) q).getD 5 0 = own_ei ((5 : Int32) - (1 : Int32)) (9 : Int32) q s ∧ (own_vl (own_fl s) (1 : Int32) q).getD 6 0 = own_ei ((6 : Int32) - (1 : Int32)) (9 : Int32) q s ∧ (own_vl (own_fl s) (1 : Int32) q).getD 7 0 = own_ei ((7 : Int32) - (1 : Int32)) (9 : Int32) q s ∧ (own_vl (own_fl s) (1 : Int32) q).getD 8 0 = own_ei ((8 : Int32) - (1 : Int32)) (9 : Int32) q s ∧ (own_vl (own_fl s) (1 : Int32) q).getD 9 0 = own_ei ((9 : Int32) - (1 : Int32)) (9 : Int32) q s ∧ (own_vl (own_fl s) (1 : Int32) q).getD 10 0 = own_ei ((10 : Int32) - (1 : Int32)) (9 : Int32) q s ∧ (own_vl (own_fl s) (1 : Int32) q).getD 11 0 = own_ei ((11 : Int32) - (1 : Int32)) (9 : Int32) q s ∧ (own_vl (own_fl s) (1 : Int32) q).getD 12 0 = own_ei ((12 : Int32) - (1 : Int32)) (9 : Int32) q s ∧ (own_vl (own_fl s) (1 : Int32) q).getD 13 0 = own_ei ((13 : Int32) - (1 : Int32)) (9 : Int32) q s := by
  have hf : nar .byte s = s := by rw [hs]; exact own_idem f
  have hl : own_vl (own_fl s) (1 : Int32) q = [(nar .byte s), (nar .byte (((q &&& (127 : Int64)) ||| (128 : Int64)).toInt32.toInt8.toInt32)), (nar .byte ((((own_ushrL q (7 : Int32)) &&& (127 : Int64)) ||| (128 : Int64)).toInt32.toInt8.toInt32)), (nar .byte ((((own_ushrL (own_ushrL q (7 : Int32)) (7 : Int32)) &&& (127 : Int64)) ||| (128 : Int64)).toInt32.toInt8.toInt32)), (nar .byte ((((own_ushrL (own_ushrL (own_ushrL q (7 : Int32)) (7 : Int32)) (7 : Int32)) &&& (127 : Int64)) ||| (128 : Int64)).toInt32.toInt8.toInt32)), (nar .byte ((((own_ushrL (own_ushrL (own_ushrL (own_ushrL q (7 : Int32)) (7 : Int32)) (7 : Int32)) (7 : Int32)) &&& (127 : Int64)) ||| (128 : Int64)).toInt32.toInt8.toInt32)), (nar .byte ((((own_ushrL (own_ushrL (own_ushrL (own_ushrL (own_ushrL q (7 : Int32)) (7 : Int32)) (7 : Int32)) (7 : Int32)) (7 : Int32)) &&& (127 : Int64)) ||| (128 : Int64)).toInt32.toInt8.toInt32)), (nar .byte ((((own_ushrL (own_ushrL (own_ushrL (own_ushrL (own_ushrL (own_ushrL q (7 : Int32)) (7 : Int32)) (7 : Int32)) (7 : Int32)) (7 : Int32)) (7 : Int32)) &&& (127 : Int64)) ||| (128 : Int64)).toInt32.toInt8.toInt32)), (nar .byte ((((own_ushrL (own_ushrL (own_ushrL (own_ushrL (own_ushrL (own_ushrL (own_ushrL q (7 : Int32)) (7 : Int32)) (7 : Int32)) (7 : Int32)) (7 : Int32)) (7 : Int32)) (7 : Int32)) &&& (127 : Int64)) ||| (128 : Int64)).toInt32.toInt8.toInt32)), (nar .byte ((own_ushrL (own_ushrL (own_ushrL (own_ushrL (own_ushrL (own_ushrL (own_ushrL (own_ushrL q (7 : Int32)) (7 : Int32)) (7 : Int32)) (7 : Int32)) (7 : Int32)) (7 : Int32)) (7 : Int32)) (7 : Int32)).toInt32.toInt8.toInt32)), (nar .byte s), (nar .byte s), (nar .byte s), (nar .byte s)] := by rw [own_vl, if_neg c0, if_neg c1, if_neg c2, if_neg c3, if_neg c4, if_neg c5, if_neg c6, if_neg c7, if_pos c8]; exact own_l8_1 s _ _ _ _ _ _ _ _ _
  rw [hl, own_vr, if_neg c0, if_neg c1, if_neg c2, if_neg c3, if_neg c4, if_neg c5, if_neg c6, if_neg c7, if_pos c8]
  exact ⟨by decide, hf.trans (own_x8_m1 q s).symm, ((own_idem _).trans (congrArg Int8.toInt32 (own_low8 _))).trans (own_x8_0 q s).symm, ((own_idem _).trans (congrArg Int8.toInt32 (own_low8 _))).trans (own_x8_1 q s).symm, ((own_idem _).trans (congrArg Int8.toInt32 (own_low8 _))).trans (own_x8_2 q s).symm, ((own_idem _).trans (congrArg Int8.toInt32 (own_low8 _))).trans (own_x8_3 q s).symm, ((own_idem _).trans (congrArg Int8.toInt32 (own_low8 _))).trans (own_x8_4 q s).symm, ((own_idem _).trans (congrArg Int8.toInt32 (own_low8 _))).trans (own_x8_5 q s).symm, ((own_idem _).trans (congrArg Int8.toInt32 (own_low8 _))).trans (own_x8_6 q s).symm, ((own_idem _).trans (congrArg Int8.toInt32 (own_low8 _))).trans (own_x8_7 q s).symm, (own_idem _).trans (own_x8_8 q s).symm, hf.trans (own_x8_9 q s).symm, hf.trans (own_x8_10 q s).symm, hf.trans (own_x8_11 q s).symm, hf.trans (own_x8_12 q s).symm⟩
theorem own_f8_2 (q : Int64) (f : Int32) (s : Int32) (hs : s = f.toInt8.toInt32) (c0 : ¬ ((q &&& (-128 : Int64)) = (0 : Int64))) (c1 : ¬ (((own_ushrL q (7 : Int32)) &&& (-128 : Int64)) = (0 : Int64))) (c2 : ¬ (((own_ushrL (own_ushrL q (7 : Int32)) (7 : Int32)) &&& (-128 : Int64)) = (0 : Int64))) (c3 : ¬ (((own_ushrL (own_ushrL (own_ushrL q (7 : Int32)) (7 : Int32)) (7 : Int32)) &&& (-128 : Int64)) = (0 : Int64))) (c4 : ¬ (((own_ushrL (own_ushrL (own_ushrL (own_ushrL q (7 : Int32)) (7 : Int32)) (7 : Int32)) (7 : Int32)) &&& (-128 : Int64)) = (0 : Int64))) (c5 : ¬ (((own_ushrL (own_ushrL (own_ushrL (own_ushrL (own_ushrL q (7 : Int32)) (7 : Int32)) (7 : Int32)) (7 : Int32)) (7 : Int32)) &&& (-128 : Int64)) = (0 : Int64))) (c6 : ¬ (((own_ushrL (own_ushrL (own_ushrL (own_ushrL (own_ushrL (own_ushrL q (7 : Int32)) (7 : Int32)) (7 : Int32)) (7 : Int32)) (7 : Int32)) (7 : Int32)) &&& (-128 : Int64)) = (0 : Int64))) (c7 : ¬ (((own_ushrL (own_ushrL (own_ushrL (own_ushrL (own_ushrL (own_ushrL (own_ushrL q (7 : Int32)) (7 : Int32)) (7 : Int32)) (7 : Int32)) (7 : Int32)) (7 : Int32)) (7 : Int32)) &&& (-128 : Int64)) = (0 : Int64))) (c8 : ((own_ushrL (own_ushrL (own_ushrL (own_ushrL (own_ushrL (own_ushrL (own_ushrL (own_ushrL q (7 : Int32)) (7 : Int32)) (7 : Int32)) (7 : Int32)) (7 : Int32)) (7 : Int32)) (7 : Int32)) (7 : Int32)) &&& (-128 : Int64)) = (0 : Int64)) : own_vr (2 : Int32) q = (2 : Int32) + (9 : Int32) ∧ (own_vl (own_fl s) (2 : Int32) q).getD 0 0 = own_ei ((0 : Int32) - (2 : Int32)) (9 : Int32) q s ∧ (own_vl (own_fl s) (2 : Int32) q).getD 1 0 = own_ei ((1 : Int32) - (2 : Int32)) (9 : Int32) q s ∧ (own_vl (own_fl s) (2 : Int32) q).getD 2 0 = own_ei ((2 : Int32) - (2 : Int32)) (9 : Int32) q s ∧ (own_vl (own_fl s) (2 : Int32) q).getD 3 0 = own_ei ((3 : Int32) - (2 : Int32)) (9 : Int32) q s ∧ (own_vl (own_fl s) (2 : Int32) q).getD 4 0 = own_ei ((4 : Int32) - (2 : Int32)) (9 : Int32) q s ∧ (own_vl (own_fl s) (2 : Int32) q).getD 5 0 = own_ei ((5 : Int32) - (2 : Int32)) (9 : Int32) q s ∧ (own_vl (own_fl s) (2 : Int32) q).getD 6 0 = own_ei ((6 : Int32) - (2 : Int32)) (9 : Int32) q s ∧ (own_vl (own_fl s) (2 : Int32) q).getD 7 0 = own_ei ((7 : Int32) - (2 : Int32)) (9 : Int32) q s ∧ (own_vl (own_fl s) (2 : Int32) q).getD 8 0 = own_ei ((8 : Int32) - (2 : Int32)) (9 : Int32) q s ∧ (own_vl (own_fl s) (2 : Int32) q).getD 9 0 = own_ei ((9 : Int32) - (2 : Int32)) (9 : Int32) q s ∧ (own_vl (own_fl s) (2 : Int32) q).getD 10 0 = own_ei ((10 : Int32) - (2 : Int32)) (9 : Int32) q s ∧ (own_vl (own_fl s) (2 : Int32) q).getD 11 0 = own_ei ((11 : Int32) - (2 : Int32)) (9 : Int32) q s ∧ (own_vl (own_fl s) (2 : Int32) q).getD 12 0 = own_ei ((12 : Int32) - (2 : Int32)) (9 : Int32) q s ∧ (own_vl (own_fl s) (2 : Int32) q).getD 13 0 = own_ei ((13 : Int32) - (2 : Int32)) (9 : Int32) q s := by
  have hf : nar .byte s = s := by rw [hs]; exact own_idem f
  have hl : own_vl (own_fl s) (2 : Int32) q = [(nar .byte s), (nar .byte s), (nar .byte (((q &&& (127 : Int64)) ||| (128 : Int64)).toInt32.toInt8.toInt32)), (nar .byte ((((own_ushrL q (7 : Int32)) &&& (127 : Int64)) ||| (128 : Int64)).toInt32.toInt8.toInt32)), (nar .byte ((((own_ushrL (own_ushrL q (7 : Int32)) (7 : Int32)) &&& (127 : Int64)) ||| (128 : Int64)).toInt32.toInt8.toInt32)), (nar .byte ((((own_ushrL (own_ushrL (own_ushrL q (7 : Int32)) (7 : Int32)) (7 : Int32)) &&& (127 : Int64)) ||| (128 : Int64)).toInt32.toInt8.toInt32)), (nar .byte ((((own_ushrL (own_ushrL (own_ushrL (own_ushrL q (7 : Int32)) (7 : Int32)) (7 : Int32)) (7 : Int32)) &&& (127 : Int64)) ||| (128 : Int64)).toInt32.toInt8.toInt32)), (nar .byte ((((own_ushrL (own_ushrL (own_ushrL (own_ushrL (own_ushrL q (7 : Int32)) (7 : Int32)) (7 : Int32)) (7 : Int32)) (7 : Int32)) &&& (127 : Int64)) ||| (128 : Int64)).toInt32.toInt8.toInt32)), (nar .byte ((((own_ushrL (own_ushrL (own_ushrL (own_ushrL (own_ushrL (own_ushrL q (7 : Int32)) (7 : Int32)) (7 : Int32)) (7 : Int32)) (7 : Int32)) (7 : Int32)) &&& (127 : Int64)) ||| (128 : Int64)).toInt32.toInt8.toInt32)), (nar .byte ((((own_ushrL (own_ushrL (own_ushrL (own_ushrL (own_ushrL (own_ushrL (own_ushrL q (7 : Int32)) (7 : Int32)) (7 : Int32)) (7 : Int32)) (7 : Int32)) (7 : Int32)) (7 : Int32)) &&& (127 : Int64)) ||| (128 : Int64)).toInt32.toInt8.toInt32)), (nar .byte ((own_ushrL (own_ushrL (own_ushrL (own_ushrL (own_ushrL (own_ushrL (own_ushrL (own_ushrL q (7 : Int32)) (7 : Int32)) (7 : Int32)) (7 : Int32)) (7 : Int32)) (7 : Int32)) (7 : Int32)) (7 : Int32)).toInt32.toInt8.toInt32)), (nar .byte s), (nar .byte s), (nar .byte s)] := by rw [own_vl, if_neg c0, if_neg c1, if_neg c2, if_neg c3, if_neg c4, if_neg c5, if_neg c6, if_neg c7, if_pos c8]; exact own_l8_2 s _ _ _ _ _ _ _ _ _
  rw [hl, own_vr, if_neg c0, if_neg c1, if_neg c2, if_neg c3, if_neg c4, if_neg c5, if_neg c6, if_neg c7, if_pos c8]
  exact ⟨by decide, hf.trans (own_x8_m2 q s).symm, hf.trans (own_x8_m1 q s).symm, ((own_idem _).trans (congrArg Int8.toInt32 (own_low8 _))).trans (own_x8_0 q s).symm, ((own_idem _).trans (congrArg Int8.toInt32 (own_low8 _))).trans (own_x8_1 q s).symm, ((own_idem _).trans (congrArg Int8.toInt32 (own_low8 _))).trans (own_x8_2 q s).symm, ((own_idem _).trans (congrArg Int8.toInt32 (own_low8 _))).trans (own_x8_3 q s).symm, ((own_idem _).trans (congrArg Int8.toInt32 (own_low8 _))).trans (own_x8_4 q s).symm, ((own_idem _).trans (congrArg Int8.toInt32 (own_low8 _))).trans (own_x8_5 q s).symm, ((own_idem _).trans (congrArg Int8.toInt32 (own_low8 _))).trans (own_x8_6 q s).symm, ((own_idem _).trans (congrArg Int8.toInt32 (own_low8 _))).trans (own_x8_7 q s).symm, (own_idem _).trans (own_x8_8 q s).symm, hf.trans (own_x8_9 q s).symm, hf.trans (own_x8_10 q s).symm, hf.trans (own_x8_11 q s).symm⟩
theorem own_f8_3 (q : Int64) (f : Int32) (s : Int32) (hs : s = f.toInt8.toInt32) (c0 : ¬ ((q &&& (-128 : Int64)) = (0 : Int64))) (c1 : ¬ (((own_ushrL q (7 : Int32)) &&& (-128 : Int64)) = (0 : Int64))) (c2 : ¬ (((own_ushrL (own_ushrL q (7 : Int32)) (7 : Int32)) &&& (-128 : Int64)) = (0 : Int64))) (c3 : ¬ (((own_ushrL (own_ushrL (own_ushrL q (7 : Int32)) (7 : Int32)) (7 : Int32)) &&& (-128 : Int64)) = (0 : Int64))) (c4 : ¬ (((own_ushrL (own_ushrL (own_ushrL (own_ushrL q (7 : Int32)) (7 : Int32)) (7 : Int32)) (7 : Int32)) &&& (-128 : Int64)) = (0 : Int64))) (c5 : ¬ (((own_ushrL (own_ushrL (own_ushrL (own_ushrL (own_ushrL q (7 : Int32)) (7 : Int32)) (7 : Int32)) (7 : Int32)) (7 : Int32)) &&& (-128 : Int64)) = (0 : Int64))) (c6 : ¬ (((own_ushrL (own_ushrL (own_ushrL (own_ushrL (own_ushrL (own_ushrL q (7 : Int32)) (7 : Int32)) (7 : Int32)) (7 : Int32)) (7 : Int32)) (7 : Int32)) &&& (-128 : Int64)) = (0 : Int64))) (c7 : ¬ (((own_ushrL (own_ushrL (own_ushrL (own_ushrL (own_ushrL (own_ushrL (own_ushrL q (7 : Int32)) (7 : Int32)) (7 : Int32)) (7 : Int32)) (7 : Int32)) (7 : Int32)) (7 : Int32)) &&& (-128 : Int64)) = (0 : Int64))) (c8 : ((own_ushrL (own_ushrL (own_ushrL (own_ushrL (own_ushrL (own_ushrL (own_ushrL (own_ushrL q (7 : Int32)) (7 : Int32)) (7 : Int32)) (7 : Int32)) (7 : Int32)) (7 : Int32)) (7 : Int32)) (7 : Int32)) &&& (-128 : Int64)) = (0 : Int64)) : own_vr (3 : Int32) q = (3 : Int32) + (9 : Int32) ∧ (own_vl (own_fl s) (3 : Int32) q).getD 0 0 = own_ei ((0 : Int32) - (3 : Int32)) (9 : Int32) q s ∧ (own_vl (own_fl s) (3 : Int32) q).getD 1 0 = own_ei ((1 : Int32) - (3 : Int32)) (9 : Int32) q s ∧ (own_vl (own_fl s) (3 : Int32) q).getD 2 0 = own_ei ((2 : Int32) - (3 : Int32)) (9 : Int32) q s ∧ (own_vl (own_fl s) (3 : Int32) q).getD 3 0 = own_ei ((3 : Int32) - (3 : Int32)) (9 : Int32) q s ∧ (own_vl (own_fl s) (3 : Int32) q).getD 4 0 = own_ei ((4 : Int32) - (3 : Int32)) (9 : Int32) q s ∧ (own_vl (own_fl s) (3 : Int32) q).getD 5 0 = own_ei ((5 : Int32) - (3 : Int32)) (9 : Int32) q s ∧ (own_vl (own_fl s) (3 : Int32) q).getD 6 0 = own_ei ((6 : Int32) - (3 : Int32)) (9 : Int32) q s ∧ (own_vl (own_fl s) (3 : Int32) q).getD 7 0 = own_ei ((7 : Int32) - (3 : Int32)) (9 : Int32) q s ∧ (own_vl (own_fl s) (3 : Int32) q).getD 8 0 = own_ei ((8 : Int32) - (3 : Int32)) (9 : Int32) q s ∧ (own_vl (own_fl s) (3 : Int32) q).getD 9 0 = own_ei ((9 : Int32) - (3 : Int32)) (9 : Int32) q s ∧ (own_vl (own_fl s) (3 : Int32) q).getD 10 0 = own_ei ((10 : Int32) - (3 : Int32)) (9 : Int32) q s ∧ (own_vl (own_fl s) (3 : Int32) q).getD 11 0 = own_ei ((11 : Int32) - (3 : Int32)) (9 : Int32) q s ∧ (own_vl (own_fl s) (3 : Int32) q).getD 12 0 = own_ei ((12 : Int32) - (3 : Int32)) (9 : Int32) q s ∧ (own_vl (own_fl s) (3 : Int32) q).getD 13 0 = own_ei ((13 : Int32) - (3 : Int32)) (9 : Int32) q s := by
  have hf : nar .byte s = s := by rw [hs]; exact own_idem f
  have hl : own_vl (own_fl s) (3 : Int32) q = [(nar .byte s), (nar .byte s), (nar .byte s), (nar .byte (((q &&& (127 : Int64)) ||| (128 : Int64)).toInt32.toInt8.toInt32)), (nar .byte ((((own_ushrL q (7 : Int32)) &&& (127 : Int64)) ||| (128 : Int64)).toInt32.toInt8.toInt32)), (nar .byte ((((own_ushrL (own_ushrL q (7 : Int32)) (7 : Int32)) &&& (127 : Int64)) ||| (128 : Int64)).toInt32.toInt8.toInt32)), (nar .byte ((((own_ushrL (own_ushrL (own_ushrL q (7 : Int32)) (7 : Int32)) (7 : Int32)) &&& (127 : Int64)) ||| (128 : Int64)).toInt32.toInt8.toInt32)), (nar .byte ((((own_ushrL (own_ushrL (own_ushrL (own_ushrL q (7 : Int32)) (7 : Int32)) (7 : Int32)) (7 : Int32)) &&& (127 : Int64)) ||| (128 : Int64)).toInt32.toInt8.toInt32)), (nar .byte ((((own_ushrL (own_ushrL (own_ushrL (own_ushrL (own_ushrL q (7 : Int32)) (7 : Int32)) (7 : Int32)) (7 : Int32)) (7 : Int32)) &&& (127 : Int64)) ||| (128 : Int64)).toInt32.toInt8.toInt32)), (nar .byte ((((own_ushrL (own_ushrL (own_ushrL (own_ushrL (own_ushrL (own_ushrL q (7 : Int32)) (7 : Int32)) (7 : Int32)) (7 : Int32)) (7 : Int32)) (7 : Int32)) &&& (127 : Int64)) ||| (128 : Int64)).toInt32.toInt8.toInt32)), (nar .byte ((((own_ushrL (own_ushrL (own_ushrL (own_ushrL (own_ushrL (own_ushrL (own_ushrL q (7 : Int32)) (7 : Int32)) (7 : Int32)) (7 : Int32)) (7 : Int32)) (7 : Int32)) (7 : Int32)) &&& (127 : Int64)) ||| (128 : Int64)).toInt32.toInt8.toInt32)), (nar .byte ((own_ushrL (own_ushrL (own_ushrL (own_ushrL (own_ushrL (own_ushrL (own_ushrL (own_ushrL q (7 : Int32)) (7 : Int32)) (7 : Int32)) (7 : Int32)) (7 : Int32)) (7 : Int32)) (7 : Int32)) (7 : Int32)).toInt32.toInt8.toInt32)), (nar .byte s), (nar .byte s)] := by rw [own_vl, if_neg c0, if_neg c1, if_neg c2, if_neg c3, if_neg c4, if_neg c5, if_neg c6, if_neg c7, if_pos c8]; exact own_l8_3 s _ _ _ _ _ _ _ _ _
  rw [hl, own_vr, if_neg c0, if_neg c1, if_neg c2, if_neg c3, if_neg c4, if_neg c5, if_neg c6, if_neg c7, if_pos c8]
  exact ⟨by decide, hf.trans (own_x8_m3 q s).symm, hf.trans (own_x8_m2 q s).symm, hf.trans (own_x8_m1 q s).symm, ((own_idem _).trans (congrArg Int8.toInt32 (own_low8 _))).trans (own_x8_0 q s).symm, ((own_idem _).trans (congrArg Int8.toInt32 (own_low8 _))).trans (own_x8_1 q s).symm, ((own_idem _).trans (congrArg Int8.toInt32 (own_low8 _))).trans (own_x8_2 q s).symm, ((own_idem _).trans (congrArg Int8.toInt32 (own_low8 _))).trans (own_x8_3 q s).symm, ((own_idem _).trans (congrArg Int8.toInt32 (own_low8 _))).trans (own_x8_4 q s).symm, ((own_idem _).trans (congrArg Int8.toInt32 (own_low8 _))).trans (own_x8_5 q s).symm, ((own_idem _).trans (congrArg Int8.toInt32 (own_low8 _))).trans (own_x8_6 q s).symm, ((own_idem _).trans (congrArg Int8.toInt32 (own_low8 _))).trans (own_x8_7 q s).symm, (own_idem _).trans (own_x8_8 q s).symm, hf.trans (own_x8_9 q s).symm, hf.trans (own_x8_10 q s).symm⟩
theorem own_f9_0 (q : Int64) (f : Int32) (s : Int32) (hs : s = f.toInt8.toInt32) (c0 : ¬ ((q &&& (-128 : Int64)) = (0 : Int64))) (c1 : ¬ (((own_ushrL q (7 : Int32)) &&& (-128 : Int64)) = (0 : Int64))) (c2 : ¬ (((own_ushrL (own_ushrL q (7 : Int32)) (7 : Int32)) &&& (-128 : Int64)) = (0 : Int64))) (c3 : ¬ (((own_ushrL (own_ushrL (own_ushrL q (7 : Int32)) (7 : Int32)) (7 : Int32)) &&& (-128 : Int64)) = (0 : Int64))) (c4 : ¬ (((own_ushrL (own_ushrL (own_ushrL (own_ushrL q (7 : Int32)) (7 : Int32)) (7 : Int32)) (7 : Int32)) &&& (-128 : Int64)) = (0 : Int64))) (c5 : ¬ (((own_ushrL (own_ushrL (own_ushrL (own_ushrL (own_ushrL q (7 : Int32)) (7 : Int32)) (7 : Int32)) (7 : Int32)) (7 : Int32)) &&& (-128 : Int64)) = (0 : Int64))) (c6 : ¬ (((own_ushrL (own_ushrL (own_ushrL (own_ushrL (own_ushrL (own_ushrL q (7 : Int32)) (7 : Int32)) (7 : Int32)) (7 : Int32)) (7 : Int32)) (7 : Int32)) &&& (-128 : Int64)) = (0 : Int64))) (c7 : ¬ (((own_ushrL (own_ushrL (own_ushrL (own_ushrL (own_ushrL (own_ushrL (own_ushrL q (7 : Int32)) (7 : Int32)) (7 : Int32)) (7 : Int32)) (7 : Int32)) (7 : Int32)) (7 : Int32)) &&& (-128 : Int64)) = (0 : Int64))) (c8 : ¬ (((own_ushrL (own_ushrL (own_ushrL (own_ushrL (own_ushrL (own_ushrL (own_ushrL (own_ushrL q (7 : Int32)) (7 : Int32)) (7 : Int32)) (7 : Int32)) (7 : Int32)) (7 : Int32)) (7 : Int32)) (7 : Int32)) &&& (-128 : Int64)) = (0 : Int64))) : own_vr (0 : Int32) q = (0 : Int32) + (10 : Int32) ∧ (own_vl (own_fl s) (0 : Int32) q).getD 0 0 = own_ei ((0 : Int32) - (0 : Int32)) (10 : Int32) q s ∧ (own_vl (own_fl s) (0 : Int32) q).getD 1 0 = own_ei ((1 : Int32) - (0 : Int32)) (10 : Int32) q s ∧ (own_vl (own_fl s) (0 : Int32) q).getD 2 0 = own_ei ((2 : Int32) - (0 : Int32)) (10 : Int32) q s ∧ (own_vl (own_fl s) (0 : Int32) q).getD 3 0 = own_ei ((3 : Int32) - (0 : Int32)) (10 : Int32) q s ∧ (own_vl (own_fl s) (0 : Int32) q).getD 4 0 = own_ei ((4 : Int32) - (0 : Int32)) (10 : Int32) q s ∧ (own_vl (own_fl s) (0 : Int32) q).getD 5 0 = own_ei ((5 : Int32) - (0 : Int32)) (10 : Int32) q s ∧ (own_vl (own_fl s) (0 : Int32) q).getD 6 0 = own_ei ((6 : Int32) - (0 : Int32)) (10 : Int32) q s ∧ (own_vl (own_fl s) (0 : Int32) q).getD 7 0 = own_ei ((7 : Int32) - (0 : Int32)) (10 : Int32) q s ∧ (own_vl (own_fl s) (0 : Int32) q).getD 8 0 = own_ei ((8 : Int32) - (0 : Int32)) (10 : Int32) q s ∧ (own_vl (own_fl s) (0 : Int32) q).getD 9 0 = own_ei ((9 : Int32) - (0 : Int32)) (10 : Int32) q s ∧ (own_vl (own_fl s) (0 : Int32) q).getD 10 0 = own_ei ((10 : Int32) - (0 : Int32)) (10 : Int32) q s ∧ (own_vl (own_fl s) (0 : Int32) q).getD 11 0 = own_ei ((11 : Int32) - (0 : Int32)) (10 : Int32) q s ∧ (own_vl (own_fl s) (0 : Int32) q).getD 12 0 = own_ei ((12 : Int32) - (0 : Int32)) (10 : Int32) q s ∧ (own_vl (own_fl s) (0 : Int32) q).getD 13 0 = own_ei ((13 : Int32) - (0 : Int32)) (10 : Int32) q s := by
  have hf : nar .byte s = s := by rw [hs]; exact own_idem f
  have hl : own_vl (own_fl s) (0 : Int32) q = [(nar .byte (((q &&& (127 : Int64)) ||| (128 : Int64)).toInt32.toInt8.toInt32)), (nar .byte ((((own_ushrL q (7 : Int32)) &&& (127 : Int64)) ||| (128 : Int64)).toInt32.toInt8.toInt32)), (nar .byte ((((own_ushrL (own_ushrL q (7 : Int32)) (7 : Int32)) &&& (127 : Int64)) ||| (128 : Int64)).toInt32.toInt8.toInt32)), (nar .byte ((((own_ushrL (own_ushrL (own_ushrL q (7 : Int32)) (7 : Int32)) (7 : Int32)) &&& (127 : Int64)) ||| (128 : Int64)).toInt32.toInt8.toInt32)), (nar .byte ((((own_ushrL (own_ushrL (own_ushrL (own_ushrL q (7 : Int32)) (7 : Int32)) (7 : Int32)) (7 : Int32)) &&& (127 : Int64)) ||| (128 : Int64)).toInt32.toInt8.toInt32)), (nar .byte ((((own_ushrL (own_ushrL (own_ushrL (own_ushrL (own_ushrL q (7 : Int32)) (7 : Int32)) (7 : Int32)) (7 : Int32)) (7 : Int32)) &&& (127 : Int64)) ||| (128 : Int64)).toInt32.toInt8.toInt32)), (nar .byte ((((own_ushrL (own_ushrL (own_ushrL (own_ushrL (own_ushrL (own_ushrL q (7 : Int32)) (7 : Int32)) (7 : Int32)) (7 : Int32)) (7 : Int32)) (7 : Int32)) &&& (127 : Int64)) ||| (128 : Int64)).toInt32.toInt8.toInt32)), (nar .byte ((((own_ushrL (own_ushrL (own_ushrL (own_ushrL (own_ushrL (own_ushrL (own_ushrL q (7 : Int32)) (7 : Int32)) (7 : Int32)) (7 : Int32)) (7 : Int32)) (7 : Int32)) (7 : Int32)) &&& (127 : Int64)) ||| (128 : Int64)).toInt32.toInt8.toInt32)), (nar .byte ((((own_ushrL (own_ushrL (own_ushrL (own_ushrL (own_ushrL (own_ushrL (own_ushrL (own_ushrL q (7 : Int32)) (7 : Int32)) (7 : Int32)) (7 : Int32)) (7 : Int32)) (7 : Int32)) (7 : Int32)) (7 : Int32)) &&& (127 : Int64)) ||| (128 : Int64)).toInt32.toInt8.toInt32)), (nar .byte ((own_ushrL (own_ushrL (own_ushrL (own_ushrL (own_ushrL (own_ushrL (own_ushrL (own_ushrL (own_ushrL q (7 : Int32)) (7 : Int32)) (7 : Int32)) (7 : Int32)) (7 : Int32)) (7 : Int32)) (7 : Int32)) (7 : Int32)) (7 : Int32)).toInt32.toInt8.toInt32)), (nar .byte s), (nar .byte s), (nar .byte s), (nar .byte s)] := by rw [own_vl, if_neg c0, if_neg c1, if_neg c2, if_neg c3, if_neg c4, if_neg c5, if_neg c6, if_neg c7, if_neg c8]; exact own_l9_0 s _ _ _ _ _ _ _ _ _ _
  rw [hl, own_vr, if_neg c0, if_neg c1, if_neg c2, if_neg c3, if_neg c4, if_neg c5, if_neg c6, if_neg c7, if_neg c8]
  exact ⟨by decide, ((own_idem _).trans (congrArg Int8.toInt32 (own_low8 _))).trans (own_x9_0 q s).symm, ((own_idem _).trans (congrArg Int8.toInt32 (own_low8 _))).trans (own_x9_1 q s).symm, ((own_idem _).trans (congrArg Int8.toInt32 (own_low8 _))).trans (own_x9_2 q s).symm, ((own_idem _).trans (congrArg Int8.toInt32 (own_low8 _))).trans (own_x9_3 q s).symm, ((own_idem _).trans (congrArg Int8.toInt32 (own_low8 _))).trans (own_x9_4 q s).symm, ((own_idem _).trans (congrArg Int8.toInt32 (own_low8 _))).trans (own_x9_5 q s).symm, ((own_idem _).trans (congrArg Int8.toInt32 (own_low8 _))).trans (own_x9_6 q s).symm, ((own_idem _).trans (congrArg Int8.toInt32 (own_low8 _))).trans (own_x9_7 q s).symm, ((own_idem _).trans (congrArg Int8.toInt32 (own_low8 _))).trans (own_x9_8 q s).symm, (own_idem _).trans (own_x9_9 q s).symm, hf.trans (own_x9_10 q s).symm, hf.trans (own_x9_11 q s).symm, hf.trans (own_x9_12 q s).symm, hf.trans (own_x9_13 q s).symm⟩
theorem own_f9_1 (q : Int64) (f : Int32) (s : Int32) (hs : s = f.toInt8.toInt32) (c0 : ¬ ((q &&& (-128 : Int64)) = (0 : Int64))) (c1 : ¬ (((own_ushrL q (7 : Int32)) &&& (-128 : Int64)) = (0 : Int64))) (c2 : ¬ (((own_ushrL (own_ushrL q (7 : Int32)) (7 : Int32)) &&& (-128 : Int64)) = (0 : Int64))) (c3 : ¬ (((own_ushrL (own_ushrL (own_ushrL q (7 : Int32)) (7 : Int32)) (7 : Int32)) &&& (-128 : Int64)) = (0 : Int64))) (c4 : ¬ (((own_ushrL (own_ushrL (own_ushrL (own_ushrL q (7 : Int32)) (7 : Int32)) (7 : Int32)) (7 : Int32)) &&& (-128 : Int64)) = (0 : Int64))) (c5 : ¬ (((own_ushrL (own_ushrL (own_ushrL (own_ushrL (own_ushrL q (7 : Int32)) (7 : Int32)) (7 : Int32)) (7 : Int32)) (7 : Int32)) &&& (-128 : Int64)) = (0 : Int64))) (c6 : ¬ (((own_ushrL (own_ushrL (own_ushrL (own_ushrL (own_ushrL (own_ushrL q (7 : Int32)) (7 : Int32)) (7 : Int32)) (7 : Int32)) (7 : Int32)) (7 : Int32)) &&& (-128 : Int64)) = (0 : Int64))) (c7 : ¬ (((own_ushrL (own_ushrL (own_ushrL (own_ushrL (own_ushrL (own_ushrL (own_ushrL q (7 : Int32)) (7 : Int32)) (7 : Int32)) (7 : Int32)) (7 : Int32)) (7 : Int32)) (7 : Int32)) &&& (-128 : Int64)) = (0 : Int64))) (c8 : ¬ (((own_ushrL (own_ushrL (own_ushrL (own_ushrL (own_ushrL (own_ushrL (own_ushrL (own_ushrL q (7 : Int32)) (7 : Int32)) (7 : Int32)) (7 : Int32)) (7 : Int32)) (7 : Int32)) (7 : Int32)) (7 : Int32)) &&& (-128 : Int64)) = (0 : Int64))) : own_vr (1 : Int32) q = (1 : Int32) + (10 : Int32) ∧ (own_vl (own_fl s) (1 : Int32) q).getD 0 0 = own_ei ((0 : Int32) - (1 : Int32)) (10 : Int32) q s ∧ (own_vl (own_fl s) (1 : Int32) q).getD 1 0 = own_ei ((1 : Int32) - (1 : Int32)) (10 : Int32) q s ∧ (own_vl (own_fl s) (1 : Int32) q).getD 2 0 = own_ei ((2 : Int32) - (1 : Int32)) (10 : Int32) q s ∧ (own_vl (own_fl s) (1 : Int32) q).getD 3 0 = own_ei ((3 : Int32) - (1 : Int32)) (10 : Int32) q s ∧ (own_vl (own_fl s) (1 : Int32) q).getD 4 0 = own_ei ((4 : Int32) - (1 : Int32)) (10 : Int32) q s ∧ (own_vl (own_fl s) (1 : Int32) q).getD 5 0 = own_ei ((5 : Int32) - (1 : Int32)) (10 : Int32) q s ∧ (own_vl (own_fl s) (1 : Int32) q).getD 6 0 = own_ei ((6 : Int32) - (1 : Int32)) (10 : Int32) q s ∧ (own_vl (own_fl s) (1 : Int32) q).getD 7 0 = own_ei ((7 : Int32) - (1 : Int32)) (10 : Int32) q s ∧ (own_vl (own_fl s) (1 : Int32) q).getD 8 0 = own_ei ((8 : Int32) - (1 : Int32)) (10 : Int32) q s ∧ (own_vl (own_fl s) (1 : Int32) q).getD 9 0 = own_ei ((9 : Int32) - (1 : Int32)) (10 : Int32) q s ∧ (own_vl (own_fl s) (1 : Int32) q).getD 10 0 = own_ei ((10 : Int32) - (1 : Int32)) (10 : Int32) q s ∧ (own_vl (own_fl s) (1 : Int32) q).getD 11 0 = own_ei ((11 : Int32) - (1 : Int32)) (10 : Int32) q s ∧ (own_vl (own_fl s) (1 : Int32) q).getD 12 0 = own_ei ((12 : Int32) - (1 : Int32)) (10 : Int32) q s ∧ (own_vl (own_fl s) (1 : Int32) q).getD 13 0 = own_ei ((13 : Int32) - (1 : Int32)) (10 : Int32) q s := by
  have hf : nar .byte s = s := by rw [hs]; exact own_idem f
  have hl : own_vl (own_fl s) (1 : Int32) q = [(nar .byte s), (nar .byte (((q &&& (127 : Int64)) ||| (128 : Int64)).toInt32.toInt8.toInt32)), (nar .byte ((((own_ushrL q (7 : Int32)) &&& (127 : Int64)) ||| (128 : Int64)).toInt32.toInt8.toInt32)), (nar .byte ((((own_ushrL (own_ushrL q (7 : Int32)) (7 : Int32)) &&& (127 : Int64)) ||| (128 : Int64)).toInt32.toInt8.toInt32)), (nar .byte ((((own_ushrL (own_ushrL (own_ushrL q (7 : Int32)) (7 : Int32)) (7 : Int32)) &&& (127 : Int64)) ||| (128 : Int64)).toInt32.toInt8.toInt32)), (nar .byte ((((own_ushrL (own_ushrL (own_ushrL (own_ushrL q (7 : Int32)) (7 : Int32)) (7 : Int32)) (7 : Int32)) &&& (127 : Int64)) ||| (128 : Int64)).toInt32.toInt8.toInt32)), (nar .byte ((((own_ushrL (own_ushrL (own_ushrL (own_ushrL (own_ushrL q (7 : Int32)) (7 : Int32)) (7 : Int32)) (7 : Int32)) (7 : Int32)) &&& (127 : Int64)) ||| (128 : Int64)).toInt32.toInt8.toInt32)), (nar .byte ((((own_ushrL (own_ushrL (own_ushrL (own_ushrL (own_ushrL (own_ushrL q (7 : Int32)) (7 : Int32)) (7 : Int32)) (7 : Int32)) (7 : Int32)) (7 : Int32)) &&& (127 : Int64)) ||| (128 : Int64)).toInt32.toInt8.toInt32)), (nar .byte ((((own_ushrL (own_ushrL (own_ushrL (own_ushrL (own_ushrL (own_ushrL (own_ushrL q (7 : Int32)) (7 : Int32)) (7 : Int32)) (7 : Int32)) (7 : Int32)) (7 : Int32)) (7 : Int32)) &&& (127 : Int64)) ||| (128 : Int64)).toInt32.toInt8.toInt32)), (nar .byte ((((own_ushrL (own_ushrL (own_ushrL (own_ushrL (own_ushrL (own_ushrL (own_ushrL (own_ushrL q (7 : Int32)) (7 : Int32)) (7 : Int32)) (7 : Int32)) (7 : Int32)) (7 : Int32)) (7 : Int32)) (7 : Int32)) &&& (127 : Int64)) ||| (128 : Int64)).toInt32.toInt8.toInt32)), (nar .byte ((own_ushrL (own_ushrL (own_ushrL (own_ushrL (own_ushrL (own_ushrL (own_ushrL (own_ushrL (own_ushrL q (7 : Int32)) (7 : Int32)) (7 : Int32)) (7 : Int32)) (7 : Int32)) (7 : Int32)) (7 : Int32)) (7 : Int32)) (7 : Int32)).toInt32.toInt8.toInt32)), (nar .byte s), (nar .byte s), (nar .byte s)] := by rw [own_vl, if_neg c0, if_neg c1, if_neg c2, if_neg c3, if_neg c4, if_neg c5, if_neg c6, if_neg c7, if_neg c8]; exact own_l9_1 s _ _ _ _ _ _ _ _ _ _
  rw [hl, own_vr, if_neg c0, if_neg c1, if_neg c2, if_neg c3, if_neg c4, if_neg c5, if_neg c6, if_neg c7, if_neg c8]
  exact ⟨by decide, hf.trans (own_x9_m1 q s).symm, ((own_idem _).trans (congrArg Int8.toInt32 (own_low8 _))).trans (own_x9_0 q s).symm, ((own_idem _).trans (congrArg Int8.toInt32 (own_low8 _))).trans (own_x9_1 q s).symm, ((own_idem _).trans (congrArg Int8.toInt32 (own_low8 _))).trans (own_x9_2 q s).symm, ((own_idem _).trans (congrArg Int8.toInt32 (own_low8 _))).trans (own_x9_3 q s).symm, ((own_idem _).trans (congrArg Int8.toInt32 (own_low8 _))).trans (own_x9_4 q s).symm, ((own_idem _).trans (congrArg Int8.toInt32 (own_low8 _))).trans (own_x9_5 q s).symm, ((own_idem _).trans (congrArg Int8.toInt32 (own_low8 _))).trans (own_x9_6 q s).symm, ((own_idem _).trans (congrArg Int8.toInt32 (own_low8 _))).trans (own_x9_7 q s).symm, ((own_idem _).trans (congrArg Int8.toInt32 (own_low8 _))).trans (own_x9_8 q s).symm, (own_idem _).trans (own_x9_9 q s).symm, hf.trans (own_x9_10 q s).symm, hf.trans (own_x9_11 q s).symm, hf.trans (own_x9_12 q s).symm⟩
theorem own_f9_2 (q : Int64) (f : Int32) (s : Int32) (hs : s = f.toInt8.toInt32) (c0 : ¬ ((q &&& (-128 : Int64)) = (0 : Int64))) (c1 : ¬ (((own_ushrL q (7 : Int32)) &&& (-128 : Int64)) = (0 : Int64))) (c2 : ¬ (((own_ushrL (own_ushrL q (7 : Int32)) (7 : Int32)) &&& (-128 : Int64)) = (0 : Int64))) (c3 : ¬ (((own_ushrL (own_ushrL (own_ushrL q (7 : Int32)) (7 : Int32)) (7 : Int32)) &&& (-128 : Int64)) = (0 : Int64))) (c4 : ¬ (((own_ushrL (own_ushrL (own_ushrL (own_ushrL q (7 : Int32)) (7 : Int32)) (7 : Int32)) (7 : Int32)) &&& (-128 : Int64)) = (0 : Int64))) (c5 : ¬ (((own_ushrL (own_ushrL (own_ushrL (own_ushrL (own_ushrL q (7 : Int32)) (7 : Int32)) (7 : Int32)) (7 : Int32)) (7 : Int32)) &&& (-128 : Int64)) = (0 : Int64))) (c6 : ¬ (((own_ushrL (own_ushrL (own_ushrL (own_ushrL (own_ushrL (own_ushrL q (7 : Int32)) (7 : Int32)) (7 : Int32)) (7 : Int32)) (7 : Int32)) (7 : Int32)) &&& (-128 : Int64)) = (0 : Int64))) (c7 : ¬ (((own_ushrL (own_ushrL (own_ushrL (own_ushrL (own_ushrL (own_ushrL (own_ushrL q (7 : Int32)) (7 : Int32)) (7 : Int32)) (7 : Int32)) (7 : Int32)) (7 : Int32)) (7 : Int32)) &&& (-128 : Int64)) = (0 : Int64))) (c8 : ¬ (((own_ushrL (own_ushrL (own_ushrL (own_ushrL (own_ushrL (own_ushrL (own_ushrL (own_ushrL q (7 : Int32)) (7 : Int32)) (7 : Int32)) (7 : Int32)) (7 : Int32)) (7 : Int32)) (7 : Int32)) (7 : Int32)) &&& (-128 : Int64)) = (0 : Int64))) : own_vr (2 : Int32) q = (2 : Int32) + (10 : Int32) ∧ (own_vl (own_fl s) (2 : Int32) q).getD 0 0 = own_ei ((0 : Int32) - (2 : Int32)) (10 : Int32) q s ∧ (own_vl (own_fl s) (2 : Int32) q).getD 1 0 = own_ei ((1 : Int32) - (2 : Int32)) (10 : Int32) q s ∧ (own_vl (own_fl s) (2 : Int32) q).getD 2 0 = own_ei ((2 : Int32) - (2 : Int32)) (10 : Int32) q s ∧ (own_vl (own_fl s) (2 : Int32) q).getD 3 0 = own_ei ((3 : Int32) - (2 : Int32)) (10 : Int32) q s ∧ (own_vl (own_fl s) (2 : Int32) q).getD 4 0 = own_ei ((4 : Int32) - (2 : Int32)) (10 : Int32) q s ∧ (own_vl (own_fl s) (2 : Int32) q).getD 5 0 = own_ei ((5 : Int32) - (2 : Int32)) (10 : Int32) q s ∧ (own_vl (own_fl s) (2 : Int32) q).getD 6 0 = own_ei ((6 : Int32) - (2 : Int32)) (10 : Int32) q s ∧ (own_vl (own_fl s) (2 : Int32) q).getD 7 0 = own_ei ((7 : Int32) - (2 : Int32)) (10 : Int32) q s ∧ (own_vl (own_fl s) (2 : Int32) q).getD 8 0 = own_ei ((8 : Int32) - (2 : Int32)) (10 : Int32) q s ∧ (own_vl (own_fl s) (2 : Int32) q).getD 9 0 = own_ei ((9 : Int32) - (2 : Int32)) (10 : Int32) q s ∧ (own_vl (own_fl s) (2 : Int32) q).getD 10 0 = own_ei ((10 : Int32) - (2 : Int32)) (10 : Int32) q s ∧ (own_vl (own_fl s) (2 : Int32) q).getD 11 0 = own_ei ((11 : Int32) - (2 : Int32)) (10 : Int32) q s ∧ (own_vl (own_fl s) (2 : Int32) q).getD 12 0 = own_ei ((12 : Int32) - (2 : Int32)) (10 : Int32) q s ∧ (own_vl (own_fl s) (2 : Int32) q).getD 13 0 = own_ei ((13 : Int32) - (2 : Int32)) (10 : Int32) q s := by
  have hf : nar .byte s = s := by rw [hs]; exact own_idem f
  have hl : own_vl (own_fl s) (2 : Int32) q = [(nar .byte s), (nar .byte s), (nar .byte (((q &&& (127 : Int64)) ||| (128 : Int64)).toInt32.toInt8.toInt32)), (nar .byte ((((own_ushrL q (7 : Int32)) &&& (127 : Int64)) ||| (128 : Int64)).toInt32.toInt8.toInt32)), (nar .byte ((((own_ushrL (own_ushrL q (7 : Int32)) (7 : Int32)) &&& (127 : Int64)) ||| (128 : Int64)).toInt32.toInt8.toInt32)), (nar .byte ((((own_ushrL (own_ushrL (own_ushrL q (7 : Int32)) (7 : Int32)) (7 : Int32)) &&& (127 : Int64)) ||| (128 : Int64)).toInt32.toInt8.toInt32)), (nar .byte ((((own_ushrL (own_ushrL (own_ushrL (own_ushrL q (7 : Int32)) (7 : Int32)) (7 : Int32)) (7 : Int32)) &&& (127 : Int64)) ||| (128 : Int64)).toInt32.toInt8.toInt32)), (nar .byte ((((own_ushrL (own_ushrL (own_ushrL (own_ushrL (own_ushrL q (7 : Int32)) (7 : Int32)) (7 : Int32)) (7 : Int32)) (7 : Int32)) &&& (127 : Int64)) ||| (128 : Int64)).toInt32.toInt8.toInt32)), (nar .byte ((((own_ushrL (own_ushrL (own_ushrL (own_ushrL (own_ushrL (own_ushrL q (7 : Int32)) (7 : Int32)) (7 : Int32)) (7 : Int32)) (7 : Int32)) (7 : Int32)) &&& (127 : Int64)) ||| (128 : Int64)).toInt32.toInt8.toInt32)), (nar .byte ((((own_ushrL (own_ushrL (own_ushrL (own_ushrL (own_ushrL (own_ushrL (own_ushrL q (7 : Int32)) (7 : Int32)) (7 : Int32)) (7 : Int32)) (7 : Int32)) (7 : Int32)) (7 : Int32)) &&& (127 : Int64)) ||| (128 : Int64)).toInt32.toInt8.toInt32)), (nar .byte ((((own_ushrL (own_ushrL (own_ushrL (own_ushrL (own_ushrL (own_ushrL (own_ushrL (own_ushrL q (7 : Int32)) (7 : Int32)) (7 : Int32)) (7 : Int32)) (7 : Int32)) (7 : Int32)) (7 : Int32)) (7 : Int32)) &&& (127 : Int64)) ||| (128 : Int64)).toInt32.toInt8.toInt32)), (nar .byte ((own_ushrL (own_ushrL (own_ushrL (own_ushrL (own_ushrL (own_ushrL (own_ushrL (own_ushrL (own_ushrL q (7 : Int32)) (7 : Int32)) (7 : Int32)) (7 : Int32)) (7 : Int32)) (7 : Int32)) (7 : Int32)) (7 : Int32)) (7 : Int32)).toInt32.toInt8.toInt32)), (nar .byte s), (nar .byte s)] := by rw [own_vl, if_neg c0, if_neg c1, if_neg c2, if_neg c3, if_neg c4, if_neg c5, if_neg c6, if_neg c7, if_neg c8]; exact own_l9_2 s _ _ _ _ _ _ _ _ _ _
  rw [hl, own_vr, if_neg c0, if_neg c1, if_neg c2, if_neg c3, if_neg c4, if_neg c5, if_neg c6, if_neg c7, if_neg c8]
  exact ⟨by decide, hf.trans (own_x9_m2 q s).symm, hf.trans (own_x9_m1 q s).symm, ((own_idem _).trans (congrArg Int8.toInt32 (own_low8 _))).trans (own_x9_0 q s).symm, ((own_idem _).trans (congrArg Int8.toInt32 (own_low8 _))).trans (own_x9_1 q s).symm, ((own_idem _).trans (congrArg Int8.toInt32 (own_low8 _))).trans (own_x9_2 q s).symm, ((own_idem _).trans (congrArg Int8.toInt32 (own_low8 _))).trans (own_x9_3 q s).symm, ((own_idem _).trans (congrArg Int8.toInt32 (own_low8 _))).trans (own_x9_4 q s).symm, ((own_idem _).trans (congrArg Int8.toInt32 (own_low8 _))).trans (own_x9_5 q s).symm, ((own_idem _).trans (congrArg Int8.toInt32 (own_low8 _))).trans (own_x9_6 q s).symm, ((own_idem _).trans (congrArg Int8.toInt32 (own_low8 _))).trans (own_x9_7 q s).symm, ((own_idem _).trans (congrArg Int8.toInt32 (own_low8 _))).trans (own_x9_8 q s).symm, (own_idem _).trans (own_x9_9 q s).symm, hf.trans (own_x9_10 q s).symm, hf.trans (own_x9_11 q s).symm⟩
theorem own_f9_3 (q : Int64) (f : Int32) (s : Int32) (hs : s = f.toInt8.toInt32) (c0 : ¬ ((q &&& (-128 : Int64)) = (0 : Int64))) (c1 : ¬ (((own_ushrL q (7 : Int32)) &&& (-128 : Int64)) = (0 : Int64))) (c2 : ¬ (((own_ushrL (own_ushrL q (7 : Int32)) (7 : Int32)) &&& (-128 : Int64)) = (0 : Int64))) (c3 : ¬ (((own_ushrL (own_ushrL (own_ushrL q (7 : Int32)) (7 : Int32)) (7 : Int32)) &&& (-128 : Int64)) = (0 : Int64))) (c4 : ¬ (((own_ushrL (own_ushrL (own_ushrL (own_ushrL q (7 : Int32)) (7 : Int32)) (7 : Int32)) (7 : Int32)) &&& (-128 : Int64)) = (0 : Int64))) (c5 : ¬ (((own_ushrL (own_ushrL (own_ushrL (own_ushrL (own_ushrL q (7 : Int32)) (7 : Int32)) (7 : Int32)) (7 : Int32)) (7 : Int32)) &&& (-128 : Int64)) = (0 : Int64))) (c6 : ¬ (((own_ushrL (own_ushrL (own_ushrL (own_ushrL (own_ushrL (own_ushrL q (7 : Int32)) (7 : Int32)) (7 : Int32)) (7 : Int32)) (7 : Int32)) (7 : Int32)) &&& (-128 : Int64)) = (0 : Int64))) (c7 : ¬ (((own_ushrL (own_ushrL (own_ushrL (own_ushrL (own_ushrL (own_ushrL (own_ushrL q (7 : Int32)) (7 : Int32)) (7 : Int32)) (7 : Int32)) (7 : Int32)) (7 : Int32)) (7 : Int32)) &&& (-128 : Int64)) = (0 : Int64))) (c8 : ¬ (((own_ushrL (own_ushrL (own_ushrL (own_ushrL (own_ushrL (own_ushrL (own_ushrL (own_ushrL q (7 : Int32)) (7 : Int32)) (7 : Int32)) (7 : Int32)) (7 : Int32)) (7 : Int32)) (7 : Int32)) (7 : Int32)) &&& (-128 : Int64)) = (0 : Int64))) : own_vr (3 : Int32) q = (3 : Int32) + (10 : Int32) ∧ (own_vl (own_fl s) (3 : Int32) q).getD 0 0 = own_ei ((0 : Int32) - (3 : Int32)) (10 : Int32) q s ∧ (own_vl (own_fl s) (3 : Int32) q).getD 1 0 = own_ei ((1 : Int32) - (3 : Int32)) (10 : Int32) q s ∧ (own_vl (own_fl s) (3 : Int32) q).getD 2 0 = own_ei ((2 : Int32) - (3 : Int32)) (10 : Int32) q s ∧ (own_vl (own_fl s) (3 : Int32) q).getD 3 0 = own_ei ((3 : Int32) - (3 : Int32)) (10 : Int32) q s ∧ (own_vl (own_fl s) (3 : Int32) q).getD 4 0 = own_ei ((4 : Int32) - (3 : Int32)) (10 : Int32) q s ∧ (own_vl (own_fl s) (3 : Int32) q).getD 5 0 = own_ei ((5 : Int32) - (3 : Int32)) (10 : Int32) q s ∧ (own_vl (own_fl s) (3 : Int32) q).getD 6 0 = own_ei ((6 : Int32) - (3 : Int32)) (10 : Int32) q s ∧ (own_vl (own_fl s) (3 : Int32) q).getD 7 0 = own_ei ((7 : Int32) - (3 : Int32)) (10 : Int32) q s ∧ (own_vl (own_fl s) (3 : Int32) q).getD 8 0 = own_ei ((8 : Int32) - (3 : Int32)) (10 : Int32) q s ∧ (own_vl (own_fl s) (3 : Int32) q).getD 9 0 = own_ei ((9 : Int32) - (3 : Int32)) (10 : Int32) q s ∧ (own_vl (own_fl s) (3 : Int32) q).getD 10 0 = own_ei ((10 : Int32) - (3 : Int32)) (10 : Int32) q s ∧ (own_vl (own_fl s) (3 : Int32) q).getD 11 0 = own_ei ((11 : Int32) - (3 : Int32)) (10 : Int32) q s ∧ (own_vl (own_fl s) (3 : Int32) q).getD 12 0 = own_ei ((12 : Int32) - (3 : Int32)) (10 : Int32) q s ∧ (own_vl (own_fl s) (3 : Int32) q).getD 13 0 = own_ei ((13 : Int32) - (3 : Int32)) (10 : Int32) q s := by
  have hf : nar .byte s = s := by rw [hs]; exact own_idem f
  have hl : own_vl (own_fl s) (3 : Int32) q = [(nar .byte s), (nar .byte s), (nar .byte s), (nar .byte (((q &&& (127 : Int64)) ||| (128 : Int64)).toInt32.toInt8.toInt32)), (nar .byte ((((own_ushrL q (7 : Int32)) &&& (127 : Int64)) ||| (128 : Int64)).toInt32.toInt8.toInt32)), (nar .byte ((((own_ushrL (own_ushrL q (7 : Int32)) (7 : Int32)) &&& (127 : Int64)) ||| (128 : Int64)).toInt32.toInt8.toInt32)), (nar .byte ((((own_ushrL (own_ushrL (own_ushrL q (7 : Int32)) (7 : Int32)) (7 : Int32)) &&& (127 : Int64)) ||| (128 : Int64)).toInt32.toInt8.toInt32)), (nar .byte ((((own_ushrL (own_ushrL (own_ushrL (own_ushrL q (7 : Int32)) (7 : Int32)) (7 : Int32)) (7 : Int32)) &&& (127 : Int64)) ||| (128 : Int64)).toInt32.toInt8.toInt32)), (nar .byte ((((own_ushrL (own_ushrL (own_ushrL (own_ushrL (own_ushrL q (7 : Int32)) (7 : Int32)) (7 : Int32)) (7 : Int32)) (7 : Int32)) &&& (127 : Int64)) ||| (128 : Int64)).toInt32.toInt8.toInt32)), (nar .byte ((((own_ushrL (own_ushrL (own_ushrL (own_ushrL (own_ushrL (own_ushrL q (7 : Int32)) (7 : Int32)) (7 : Int32)) (7 : Int32)) (7 : Int32)) (7 : Int32)) &&& (127 : Int64)) ||| (128 : Int64)).toInt32.toInt8.toInt32)), (nar .byte ((((own_ushrL (own_ushrL (own_ushrL (own_ushrL (own_ushrL (own_ushrL (own_ushrL q (7 : Int32)) (7 : Int32)) (7 : Int32)) (7 : Int32)) (7 : Int32)) (7 : Int32)) (7 : Int32)) &&& (127 : Int64)) ||| (128 : Int64)).toInt32.toInt8.toInt32)), (nar .byte ((((own_ushrL (own_ushrL (own_ushrL (own_ushrL (own_ushrL (own_ushrL (own_ushrL (own_ushrL q (7 : Int32)) (7 : Int32)) (7 : Int32)) (7 : Int32)) (7 : Int32)) (7 : Int32)) (7 : Int32)) (7 : Int32)) &&& (127 : Int64)) ||| (128 : Int64)).toInt32.toInt8.toInt32)), (nar .byte ((own_ushrL (own_ushrL (own_ushrL (own_ushrL (own_ushrL (own_ushrL (own_ushrL (own_ushrL (own_ushrL q (7 : Int32)) (7 : Int32)) (7 : Int32)) (7 : Int32)) (7 : Int32)) (7 : Int32)) (7 : Int32)) (7 : Int32)) (7 : Int32)).toInt32.toInt8.toInt32)), (nar .byte s)] := by rw [own_vl, if_neg c0, if_neg c1, if_neg c2, if_neg c3, if_neg c4, if_neg c5, if_neg c6, if_neg c7, if_neg c8]; exact own_l9_3 s _ _ _ _ _ _ _ _ _ _
  rw [hl, own_vr, if_neg c0, if_neg c1, if_neg c2, if_neg c3, if_neg c4, if_neg c5, if_neg c6, if_neg c7, if_neg c8]
  exact ⟨by decide, hf.trans (own_x9_m3 q s).symm, hf.trans (own_x9_m2 q s).symm, hf.trans (own_x9_m1 q s).symm, ((own_idem _).trans (congrArg Int8.toInt32 (own_low8 _))).trans (own_x9_0 q s).symm, ((own_idem _).trans (congrArg Int8.toInt32 (own_low8 _))).trans (own_x9_1 q s).symm, ((own_idem _).trans (congrArg Int8.toInt32 (own_low8 _))).trans (own_x9_2 q s).symm, ((own_idem _).trans (congrArg Int8.toInt32 (own_low8 _))).trans (own_x9_3 q s).symm, ((own_idem _).trans (congrArg Int8.toInt32 (own_low8 _))).trans (own_x9_4 q s).symm, ((own_idem _).trans (congrArg Int8.toInt32 (own_low8 _))).trans (own_x9_5 q s).symm, ((own_idem _).trans (congrArg Int8.toInt32 (own_low8 _))).trans (own_x9_6 q s).symm, ((own_idem _).trans (congrArg Int8.toInt32 (own_low8 _))).trans (own_x9_7 q s).symm, ((own_idem _).trans (congrArg Int8.toInt32 (own_low8 _))).trans (own_x9_8 q s).symm, (own_idem _).trans (own_x9_9 q s).symm, hf.trans (own_x9_10 q s).symm⟩
theorem own_final (q : Int64) (pp f s : Int32) (hs : s = f.toInt8.toInt32) (hp : pp = 0 ∨ pp = 1 ∨ pp = 2 ∨ pp = 3) : own_vr pp q = pp + own_n q ∧ (own_vl (own_fl s) pp q).getD 0 0 = own_ei ((0 : Int32) - pp) (own_n q) q s ∧ (own_vl (own_fl s) pp q).getD 1 0 = own_ei ((1 : Int32) - pp) (own_n q) q s ∧ (own_vl (own_fl s) pp q).getD 2 0 = own_ei ((2 : Int32) - pp) (own_n q) q s ∧ (own_vl (own_fl s) pp q).getD 3 0 = own_ei ((3 : Int32) - pp) (own_n q) q s ∧ (own_vl (own_fl s) pp q).getD 4 0 = own_ei ((4 : Int32) - pp) (own_n q) q s ∧ (own_vl (own_fl s) pp q).getD 5 0 = own_ei ((5 : Int32) - pp) (own_n q) q s ∧ (own_vl (own_fl s) pp q).getD 6 0 = own_ei ((6 : Int32) - pp) (own_n q) q s ∧ (own_vl (own_fl s) pp q).getD 7 0 = own_ei ((7 : Int32) - pp) (own_n q) q s ∧ (own_vl (own_fl s) pp q).getD 8 0 = own_ei ((8 : Int32) - pp) (own_n q) q s ∧ (own_vl (own_fl s) pp q).getD 9 0 = own_ei ((9 : Int32) - pp) (own_n q) q s ∧ (own_vl (own_fl s) pp q).getD 10 0 = own_ei ((10 : Int32) - pp) (own_n q) q s ∧ (own_vl (own_fl s) pp q).getD 11 0 = own_ei ((11 : Int32) - pp) (own_n q) q s ∧ (own_vl (own_fl s) pp q).getD 12 0 = own_ei ((12 : Int32) - pp) (own_n q) q s ∧ (own_vl (own_fl s) pp q).getD 13 0 = own_ei ((13 : Int32) - pp) (own_n q) q s := by
  rcases own_tab q with ⟨hn, c0⟩ | ⟨hn, c0, c1⟩ | ⟨hn, c0, c1, c2⟩ | ⟨hn, c0, c1, c2, c3⟩ | ⟨hn, c0, c1, c2, c3, c4⟩ | ⟨hn, c0, c1, c2, c3, c4, c5⟩ | ⟨hn, c0, c1, c2, c3, c4, c5, c6⟩ | ⟨hn, c0, c1, c2, c3, c4, c5, c6, c7⟩ | ⟨hn, c0, c1, c2, c3, c4, c5, c6, c7, c8⟩ | ⟨hn, c0, c1, c2, c3, c4, c5, c6, c7, c8⟩
  · rw [hn]; rcases hp with rfl | rfl | rfl | rfl
    · exact own_f0_0 q f s hs c0
    · exact own_f0_1 q f s hs c0
    · exact own_f0_2 q f s hs c0
    · exact own_f0_3 q f s hs c0
  · rw [hn]; rcases hp with rfl | rfl | rfl | rfl
    · exact own_f1_0 q f s hs c0 c1
    · exact own_f1_1 q f s hs c0 c1
    · exact own_f1_2 q f s hs c0 c1
    · exact own_f1_3 q f s hs c0 c1
  · rw [hn]; rcases hp with rfl | rfl | rfl | rfl
    · exact own_f2_0 q f s hs c0 c1 c2
    · exact own_f2_1 q f s hs c0 c1 c2
    · exact own_f2_2 q f s hs c0 c1 c2
    · exact own_f2_3 q f s hs c0 c1 c2
  · rw [hn]; rcases hp with rfl | rfl | rfl | rfl
    · exact own_f3_0 q f s hs c0 c1 c2 c3
    · exact own_f3_1 q f s hs c0 c1 c2 c3
    · exact own_f3_2 q f s hs c0 c1 c2 c3
    · exact own_f3_3 q f s hs c0 c1 c2 c3
  · rw [hn]; rcases hp with rfl | rfl | rfl | rfl
    · exact own_f4_0 q f s hs c0 c1 c2 c3 c4
    · exact own_f4_1 q f s hs c0 c1 c2 c3 c4
    · exact own_f4_2 q f s hs c0 c1 c2 c3 c4
    · exact own_f4_3 q f s hs c0 c1 c2 c3 c4
  · rw [hn]; rcases hp with rfl | rfl | rfl | rfl
    · exact own_f5_0 q f s hs c0 c1 c2 c3 c4 c5
    · exact own_f5_1 q f s hs c0 c1 c2 c3 c4 c5
    · exact own_f5_2 q f s hs c0 c1 c2 c3 c4 c5
    · exact own_f5_3 q f s hs c0 c1 c2 c3 c4 c5
  · rw [hn]; rcases hp with rfl | rfl | rfl | rfl
    · exact own_f6_0 q f s hs c0 c1 c2 c3 c4 c5 c6
    · exact own_f6_1 q f s hs c0 c1 c2 c3 c4 c5 c6
    · exact own_f6_2 q f s hs c0 c1 c2 c3 c4 c5 c6
    · exact own_f6_3 q f s hs c0 c1 c2 c3 c4 c5 c6
  · rw [hn]; rcases hp with rfl | rfl | rfl | rfl
    · exact own_f7_0 q f s hs c0 c1 c2 c3 c4 c5 c6 c7
    · exact own_f7_1 q f s hs c0 c1 c2 c3 c4 c5 c6 c7
    · exact own_f7_2 q f s hs c0 c1 c2 c3 c4 c5 c6 c7
    · exact own_f7_3 q f s hs c0 c1 c2 c3 c4 c5 c6 c7
  · rw [hn]; rcases hp with rfl | rfl | rfl | rfl
    · exact own_f8_0 q f s hs c0 c1 c2 c3 c4 c5 c6 c7 c8
    · exact own_f8_1 q f s hs c0 c1 c2 c3 c4 c5 c6 c7 c8
    · exact own_f8_2 q f s hs c0 c1 c2 c3 c4 c5 c6 c7 c8
    · exact own_f8_3 q f s hs c0 c1 c2 c3 c4 c5 c6 c7 c8
  · rw [hn]; rcases hp with rfl | rfl | rfl | rfl
    · exact own_f9_0 q f s hs c0 c1 c2 c3 c4 c5 c6 c7 c8
    · exact own_f9_1 q f s hs c0 c1 c2 c3 c4 c5 c6 c7 c8
    · exact own_f9_2 q f s hs c0 c1 c2 c3 c4 c5 c6 c7 c8
    · exact own_f9_3 q f s hs c0 c1 c2 c3 c4 c5 c6 c7 c8
theorem own_nn0 {pp : Int32} (hp : pp = 0 ∨ pp = 1 ∨ pp = 2 ∨ pp = 3) : ¬ pp < 0 := by rcases hp with rfl | rfl | rfl | rfl <;> decide
theorem own_lt0 {pp : Int32} (hp : pp = 0 ∨ pp = 1 ∨ pp = 2 ∨ pp = 3) : (pp).toNatClampNeg < 14 := by rcases hp with rfl | rfl | rfl | rfl <;> decide
theorem own_nn1 {pp : Int32} (hp : pp = 0 ∨ pp = 1 ∨ pp = 2 ∨ pp = 3) : ¬ (pp + (1 : Int32)) < 0 := by rcases hp with rfl | rfl | rfl | rfl <;> decide
theorem own_lt1 {pp : Int32} (hp : pp = 0 ∨ pp = 1 ∨ pp = 2 ∨ pp = 3) : ((pp + (1 : Int32))).toNatClampNeg < 14 := by rcases hp with rfl | rfl | rfl | rfl <;> decide
theorem own_nn2 {pp : Int32} (hp : pp = 0 ∨ pp = 1 ∨ pp = 2 ∨ pp = 3) : ¬ ((pp + (1 : Int32)) + (1 : Int32)) < 0 := by rcases hp with rfl | rfl | rfl | rfl <;> decide
theorem own_lt2 {pp : Int32} (hp : pp = 0 ∨ pp = 1 ∨ pp = 2 ∨ pp = 3) : (((pp + (1 : Int32)) + (1 : Int32))).toNatClampNeg < 14 := by rcases hp with rfl | rfl | rfl | rfl <;> decide
theorem own_nn3 {pp : Int32} (hp : pp = 0 ∨ pp = 1 ∨ pp = 2 ∨ pp = 3) : ¬ (((pp + (1 : Int32)) + (1 : Int32)) + (1 : Int32)) < 0 := by rcases hp with rfl | rfl | rfl | rfl <;> decide
theorem own_lt3 {pp : Int32} (hp : pp = 0 ∨ pp = 1 ∨ pp = 2 ∨ pp = 3) : ((((pp + (1 : Int32)) + (1 : Int32)) + (1 : Int32))).toNatClampNeg < 14 := by rcases hp with rfl | rfl | rfl | rfl <;> decide
theorem own_nn4 {pp : Int32} (hp : pp = 0 ∨ pp = 1 ∨ pp = 2 ∨ pp = 3) : ¬ ((((pp + (1 : Int32)) + (1 : Int32)) + (1 : Int32)) + (1 : Int32)) < 0 := by rcases hp with rfl | rfl | rfl | rfl <;> decide
theorem own_lt4 {pp : Int32} (hp : pp = 0 ∨ pp = 1 ∨ pp = 2 ∨ pp = 3) : (((((pp + (1 : Int32)) + (1 : Int32)) + (1 : Int32)) + (1 : Int32))).toNatClampNeg < 14 := by rcases hp with rfl | rfl | rfl | rfl <;> decide
theorem own_nn5 {pp : Int32} (hp : pp = 0 ∨ pp = 1 ∨ pp = 2 ∨ pp = 3) : ¬ (((((pp + (1 : Int32)) + (1 : Int32)) + (1 : Int32)) + (1 : Int32)) + (1 : Int32)) < 0 := by rcases hp with rfl | rfl | rfl | rfl <;> decide
theorem own_lt5 {pp : Int32} (hp : pp = 0 ∨ pp = 1 ∨ pp = 2 ∨ pp = 3) : ((((((pp + (1 : Int32)) + (1 : Int32)) + (1 : Int32)) + (1 : Int32)) + (1 : Int32))).toNatClampNeg < 14 := by rcases hp with rfl | rfl | rfl | rfl <;> decide
theorem own_nn6 {pp : Int32} (hp : pp = 0 ∨ pp = 1 ∨ pp = 2 ∨ pp = 3) : ¬ ((((((pp + (1 : Int32)) + (1 : Int32)) + (1 : Int32)) + (1 : Int32)) + (1 : Int32)) + (1 : Int32)) < 0 := by rcases hp with rfl | rfl | rfl | rfl <;> decide
theorem own_lt6 {pp : Int32} (hp : pp = 0 ∨ pp = 1 ∨ pp = 2 ∨ pp = 3) : (((((((pp + (1 : Int32)) + (1 : Int32)) + (1 : Int32)) + (1 : Int32)) + (1 : Int32)) + (1 : Int32))).toNatClampNeg < 14 := by rcases hp with rfl | rfl | rfl | rfl <;> decide
theorem own_nn7 {pp : Int32} (hp : pp = 0 ∨ pp = 1 ∨ pp = 2 ∨ pp = 3) : ¬ (((((((pp + (1 : Int32)) + (1 : Int32)) + (1 : Int32)) + (1 : Int32)) + (1 : Int32)) + (1 : Int32)) + (1 : Int32)) < 0 := by rcases hp with rfl | rfl | rfl | rfl <;> decide
theorem own_lt7 {pp : Int32} (hp : pp = 0 ∨ pp = 1 ∨ pp = 2 ∨ pp = 3) : ((((((((pp + (1 : Int32)) + (1 : Int32)) + (1 : Int32)) + (1 : Int32)) + (1 : Int32)) + (1 : Int32)) + (1 : Int32))).toNatClampNeg < 14 := by rcases hp with rfl | rfl | rfl | rfl <;> decide
theorem own_nn8 {pp : Int32} (hp : pp = 0 ∨ pp = 1 ∨ pp = 2 ∨ pp = 3) : ¬ ((((((((pp + (1 : Int32)) + (1 : Int32)) + (1 : Int32)) + (1 : Int32)) + (1 : Int32)) + (1 : Int32)) + (1 : Int32)) + (1 : Int32)) < 0 := by rcases hp with rfl | rfl | rfl | rfl <;> decide
theorem own_lt8 {pp : Int32} (hp : pp = 0 ∨ pp = 1 ∨ pp = 2 ∨ pp = 3) : (((((((((pp + (1 : Int32)) + (1 : Int32)) + (1 : Int32)) + (1 : Int32)) + (1 : Int32)) + (1 : Int32)) + (1 : Int32)) + (1 : Int32))).toNatClampNeg < 14 := by rcases hp with rfl | rfl | rfl | rfl <;> decide
theorem own_nn9 {pp : Int32} (hp : pp = 0 ∨ pp = 1 ∨ pp = 2 ∨ pp = 3) : ¬ (((((((((pp + (1 : Int32)) + (1 : Int32)) + (1 : Int32)) + (1 : Int32)) + (1 : Int32)) + (1 : Int32)) + (1 : Int32)) + (1 : Int32)) + (1 : Int32)) < 0 := by rcases hp with rfl | rfl | rfl | rfl <;> decide
theorem own_lt9 {pp : Int32} (hp : pp = 0 ∨ pp = 1 ∨ pp = 2 ∨ pp = 3) : ((((((((((pp + (1 : Int32)) + (1 : Int32)) + (1 : Int32)) + (1 : Int32)) + (1 : Int32)) + (1 : Int32)) + (1 : Int32)) + (1 : Int32)) + (1 : Int32))).toNatClampNeg < 14 := by rcases hp with rfl | rfl | rfl | rfl <;> decide
theorem own_vlen (xs : List Int32) (pp : Int32) (q : Int64) (h : xs.length = 14) : (own_vl xs pp q).length = 14 := by
  rcases own_tab q with ⟨hn, c0⟩ | ⟨hn, c0, c1⟩ | ⟨hn, c0, c1, c2⟩ | ⟨hn, c0, c1, c2, c3⟩ | ⟨hn, c0, c1, c2, c3, c4⟩ | ⟨hn, c0, c1, c2, c3, c4, c5⟩ | ⟨hn, c0, c1, c2, c3, c4, c5, c6⟩ | ⟨hn, c0, c1, c2, c3, c4, c5, c6, c7⟩ | ⟨hn, c0, c1, c2, c3, c4, c5, c6, c7, c8⟩ | ⟨hn, c0, c1, c2, c3, c4, c5, c6, c7, c8⟩
  · rw [own_vl, if_pos c0]; simp only [List.length_set]; exact h
  · rw [own_vl, if_neg c0, if_pos c1]; simp only [List.length_set]; exact h
  · rw [own_vl, if_neg c0, if_neg c1, if_pos c2]; simp only [List.length_set]; exact h
  · rw [own_vl, if_neg c0, if_neg c1, if_neg c2, if_pos c3]; simp only [List.length_set]; exact h
  · rw [own_vl, if_neg c0, if_neg c1, if_neg c2, if_neg c3, if_pos c4]; simp only [List.length_set]; exact h
  · rw [own_vl, if_neg c0, if_neg c1, if_neg c2, if_neg c3, if_neg c4, if_pos c5]; simp only [List.length_set]; exact h
  · rw [own_vl, if_neg c0, if_neg c1, if_neg c2, if_neg c3, if_neg c4, if_neg c5, if_pos c6]; simp only [List.length_set]; exact h
  · rw [own_vl, if_neg c0, if_neg c1, if_neg c2, if_neg c3, if_neg c4, if_neg c5, if_neg c6, if_pos c7]; simp only [List.length_set]; exact h
  · rw [own_vl, if_neg c0, if_neg c1, if_neg c2, if_neg c3, if_neg c4, if_neg c5, if_neg c6, if_neg c7, if_pos c8]; simp only [List.length_set]; exact h
  · rw [own_vl, if_neg c0, if_neg c1, if_neg c2, if_neg c3, if_neg c4, if_neg c5, if_neg c6, if_neg c7, if_neg c8]; simp only [List.length_set]; exact h
section YSteps
variable {p : Program} {l : Launch} {e : Env} {R : Room} {s : State} {m : MethodId} {args : Array Value} {below : List Frame} {meth : Method} {c : Code} {T : State} {locs : List Loc} {cells slots : Nat} {P : Outcome → State → Prop} {pc : Nat} {Ls : Array Slot} {S : List Value}
theorem Y.aload (X : Stand p l e R s m args below meth c T locs cells slots) (hx : p.tables.exec = Jvm.exec) {k : Nat} {v : Value} (hd : decode c.code pc = .ok (.aload k, 2)) (hl : Ls[k]? = some (.val v)) (hv : v.isRef = true) (gl : Gl p.tables e below P (T.setTop (mkF m (pc + 2) (Ls) (v :: S)))) : Gl p.tables e below P (T.setTop (mkF m pc Ls S)) := Gl.pre (fun _ k => XS.aload X.here hx rfl hd hl hv k) gl
theorem Y.aloadN (X : Stand p l e R s m args below meth c T locs cells slots) (hx : p.tables.exec = Jvm.exec) {k : Fin 4} {v : Value} (hd : decode c.code pc = .ok (.aload_n k, 1)) (hl : Ls[k.val]? = some (.val v)) (hv : v.isRef = true) (gl : Gl p.tables e below P (T.setTop (mkF m (pc + 1) (Ls) (v :: S)))) : Gl p.tables e below P (T.setTop (mkF m pc Ls S)) := Gl.pre (fun _ k => XS.aloadN X.here hx rfl hd hl hv k) gl
theorem Y.astore (X : Stand p l e R s m args below meth c T locs cells slots) (hx : p.tables.exec = Jvm.exec) {k : Nat} {x : Value} {rest : List Value} {l' : Array Slot} (hd : decode c.code pc = .ok (.astore k, 2)) (hs : S = x :: rest) (hv : x.isRef = true) (hl : storeLocals Ls k x = some l') (gl : Gl p.tables e below P (T.setTop (mkF m (pc + 2) (l') (rest)))) : Gl p.tables e below P (T.setTop (mkF m pc Ls S)) := Gl.pre (fun _ k => XS.astore X.here hx rfl hd hs hv hl k) gl
theorem Y.bipush (X : Stand p l e R s m args below meth c T locs cells slots) (hx : p.tables.exec = Jvm.exec) {i : Int} (hd : decode c.code pc = .ok (.bipush i, 2)) (gl : Gl p.tables e below P (T.setTop (mkF m (pc + 2) (Ls) (.int (Int8.ofInt i).toInt32 :: S)))) : Gl p.tables e below P (T.setTop (mkF m pc Ls S)) := Gl.pre (fun _ k => XS.bipush X.here hx rfl hd k) gl
theorem Y.dup (X : Stand p l e R s m args below meth c T locs cells slots) (hx : p.tables.exec = Jvm.exec) {x : Value} {rest : List Value} (hd : decode c.code pc = .ok (.dup, 1)) (hs : S = x :: rest) (hc : x.category = 1) (gl : Gl p.tables e below P (T.setTop (mkF m (pc + 1) (Ls) (x :: x :: rest)))) : Gl p.tables e below P (T.setTop (mkF m pc Ls S)) := Gl.pre (fun _ k => XS.dup X.here hx rfl hd hs hc k) gl
theorem Y.dupX1 (X : Stand p l e R s m args below meth c T locs cells slots) (hx : p.tables.exec = Jvm.exec) {x y : Value} {rest : List Value} (hd : decode c.code pc = .ok (.dup_x1, 1)) (hs : S = x :: y :: rest) (hc : x.category = 1) (hc2 : y.category = 1) (gl : Gl p.tables e below P (T.setTop (mkF m (pc + 1) (Ls) (x :: y :: x :: rest)))) : Gl p.tables e below P (T.setTop (mkF m pc Ls S)) := Gl.pre (fun _ k => XS.dupX1 X.here hx rfl hd hs hc hc2 k) gl
theorem Y.goto (X : Stand p l e R s m args below meth c T locs cells slots) (hx : p.tables.exec = Jvm.exec) {o : Int} {pc0 pc' : Nat} (hpc : pc = pc0) (hd : decode c.code pc = .ok (.goto o, 3)) (ho : 0 ≤ (pc0 : Int) + o) (hp : ((pc0 : Int) + o).toNat = pc') (gl : Gl p.tables e below P (T.setTop (mkF m (pc') (Ls) (S)))) : Gl p.tables e below P (T.setTop (mkF m pc Ls S)) := Gl.pre (fun _ k => XS.goto X.here hx rfl hpc hd ho hp k) gl
theorem Y.i2b (X : Stand p l e R s m args below meth c T locs cells slots) (hx : p.tables.exec = Jvm.exec) {v : Int32} {rest : List Value} (hd : decode c.code pc = .ok (.i2b, 1)) (hs : S = .int v :: rest) (gl : Gl p.tables e below P (T.setTop (mkF m (pc + 1) (Ls) (.int (v.toInt8.toInt32) :: rest)))) : Gl p.tables e below P (T.setTop (mkF m pc Ls S)) := Gl.pre (fun _ k => XS.i2b X.here hx rfl hd hs k) gl
theorem Y.iadd (X : Stand p l e R s m args below meth c T locs cells slots) (hx : p.tables.exec = Jvm.exec) {x y : Int32} {rest : List Value} (hd : decode c.code pc = .ok (.iadd, 1)) (hs : S = .int y :: .int x :: rest) (gl : Gl p.tables e below P (T.setTop (mkF m (pc + 1) (Ls) (.int (x + y) :: rest)))) : Gl p.tables e below P (T.setTop (mkF m pc Ls S)) := Gl.pre (fun _ k => XS.iadd X.here hx rfl hd hs k) gl
theorem Y.iand (X : Stand p l e R s m args below meth c T locs cells slots) (hx : p.tables.exec = Jvm.exec) {x y : Int32} {rest : List Value} (hd : decode c.code pc = .ok (.iand, 1)) (hs : S = .int y :: .int x :: rest) (gl : Gl p.tables e below P (T.setTop (mkF m (pc + 1) (Ls) (.int (x &&& y) :: rest)))) : Gl p.tables e below P (T.setTop (mkF m pc Ls S)) := Gl.pre (fun _ k => XS.iand X.here hx rfl hd hs k) gl
theorem Y.icmpNo (X : Stand p l e R s m args below meth c T locs cells slots) (hx : p.tables.exec = Jvm.exec) {cd : ClassFile.Cond} {o : Int} {x y : Int32} {rest : List Value} (hd : decode c.code pc = .ok (.if_icmp cd o, 3)) (hs : S = .int y :: .int x :: rest) (hc : if_icmp.holds cd x y = false) (gl : Gl p.tables e below P (T.setTop (mkF m (pc + 3) (Ls) (rest)))) : Gl p.tables e below P (T.setTop (mkF m pc Ls S)) := Gl.pre (fun _ k => XS.icmpNo X.here hx rfl hd hs hc k) gl
theorem Y.icmpYes (X : Stand p l e R s m args below meth c T locs cells slots) (hx : p.tables.exec = Jvm.exec) {cd : ClassFile.Cond} {x y : Int32} {rest : List Value} {o : Int} {pc0 pc' : Nat} (hpc : pc = pc0) (hd : decode c.code pc = .ok (.if_icmp cd o, 3)) (hs : S = .int y :: .int x :: rest) (hc : if_icmp.holds cd x y = true) (ho : 0 ≤ (pc0 : Int) + o) (hp : ((pc0 : Int) + o).toNat = pc') (gl : Gl p.tables e below P (T.setTop (mkF m (pc') (Ls) (rest)))) : Gl p.tables e below P (T.setTop (mkF m pc Ls S)) := Gl.pre (fun _ k => XS.icmpYes X.here hx rfl hpc hd hs hc ho hp k) gl
theorem Y.iconst (X : Stand p l e R s m args below meth c T locs cells slots) (hx : p.tables.exec = Jvm.exec) {i : Int} (hd : decode c.code pc = .ok (.iconst i, 1)) (gl : Gl p.tables e below P (T.setTop (mkF m (pc + 1) (Ls) (.int (Int32.ofInt i) :: S)))) : Gl p.tables e below P (T.setTop (mkF m pc Ls S)) := Gl.pre (fun _ k => XS.iconst X.here hx rfl hd k) gl
theorem Y.ifNo (X : Stand p l e R s m args below meth c T locs cells slots) (hx : p.tables.exec = Jvm.exec) {cd : ClassFile.Cond} {o : Int} {x : Int32} {rest : List Value} (hd : decode c.code pc = .ok (.ifCond cd o, 3)) (hs : S = .int x :: rest) (hc : ifCond.holds cd x = false) (gl : Gl p.tables e below P (T.setTop (mkF m (pc + 3) (Ls) (rest)))) : Gl p.tables e below P (T.setTop (mkF m pc Ls S)) := Gl.pre (fun _ k => XS.ifNo X.here hx rfl hd hs hc k) gl
theorem Y.ifYes (X : Stand p l e R s m args below meth c T locs cells slots) (hx : p.tables.exec = Jvm.exec) {cd : ClassFile.Cond} {x : Int32} {rest : List Value} {o : Int} {pc0 pc' : Nat} (hpc : pc = pc0) (hd : decode c.code pc = .ok (.ifCond cd o, 3)) (hs : S = .int x :: rest) (hc : ifCond.holds cd x = true) (ho : 0 ≤ (pc0 : Int) + o) (hp : ((pc0 : Int) + o).toNat = pc') (gl : Gl p.tables e below P (T.setTop (mkF m (pc') (Ls) (rest)))) : Gl p.tables e below P (T.setTop (mkF m pc Ls S)) := Gl.pre (fun _ k => XS.ifYes X.here hx rfl hpc hd hs hc ho hp k) gl
theorem Y.iload (X : Stand p l e R s m args below meth c T locs cells slots) (hx : p.tables.exec = Jvm.exec) {k : Nat} {v : Int32} (hd : decode c.code pc = .ok (.iload k, 2)) (hl : Ls[k]? = some (.val (.int v))) (gl : Gl p.tables e below P (T.setTop (mkF m (pc + 2) (Ls) (.int v :: S)))) : Gl p.tables e below P (T.setTop (mkF m pc Ls S)) := Gl.pre (fun _ k => XS.iload X.here hx rfl hd hl k) gl
theorem Y.iloadN (X : Stand p l e R s m args below meth c T locs cells slots) (hx : p.tables.exec = Jvm.exec) {k : Fin 4} {v : Int32} (hd : decode c.code pc = .ok (.iload_n k, 1)) (hl : Ls[k.val]? = some (.val (.int v))) (gl : Gl p.tables e below P (T.setTop (mkF m (pc + 1) (Ls) (.int v :: S)))) : Gl p.tables e below P (T.setTop (mkF m pc Ls S)) := Gl.pre (fun _ k => XS.iloadN X.here hx rfl hd hl k) gl
theorem Y.imul (X : Stand p l e R s m args below meth c T locs cells slots) (hx : p.tables.exec = Jvm.exec) {x y : Int32} {rest : List Value} (hd : decode c.code pc = .ok (.imul, 1)) (hs : S = .int y :: .int x :: rest) (gl : Gl p.tables e below P (T.setTop (mkF m (pc + 1) (Ls) (.int (x * y) :: rest)))) : Gl p.tables e below P (T.setTop (mkF m pc Ls S)) := Gl.pre (fun _ k => XS.imul X.here hx rfl hd hs k) gl
theorem Y.istore (X : Stand p l e R s m args below meth c T locs cells slots) (hx : p.tables.exec = Jvm.exec) {k : Nat} {x : Int32} {rest : List Value} {l' : Array Slot} (hd : decode c.code pc = .ok (.istore k, 2)) (hs : S = .int x :: rest) (hl : storeLocals Ls k (.int x) = some l') (gl : Gl p.tables e below P (T.setTop (mkF m (pc + 2) (l') (rest)))) : Gl p.tables e below P (T.setTop (mkF m pc Ls S)) := Gl.pre (fun _ k => XS.istore X.here hx rfl hd hs hl k) gl
theorem Y.isub (X : Stand p l e R s m args below meth c T locs cells slots) (hx : p.tables.exec = Jvm.exec) {x y : Int32} {rest : List Value} (hd : decode c.code pc = .ok (.isub, 1)) (hs : S = .int y :: .int x :: rest) (gl : Gl p.tables e below P (T.setTop (mkF m (pc + 1) (Ls) (.int (x - y) :: rest)))) : Gl p.tables e below P (T.setTop (mkF m pc Ls S)) := Gl.pre (fun _ k => XS.isub X.here hx rfl hd hs k) gl
theorem Y.l2i (X : Stand p l e R s m args below meth c T locs cells slots) (hx : p.tables.exec = Jvm.exec) {v : Int64} {rest : List Value} (hd : decode c.code pc = .ok (.l2i, 1)) (hs : S = .long v :: rest) (gl : Gl p.tables e below P (T.setTop (mkF m (pc + 1) (Ls) (.int (v.toInt32) :: rest)))) : Gl p.tables e below P (T.setTop (mkF m pc Ls S)) := Gl.pre (fun _ k => XS.l2i X.here hx rfl hd hs k) gl
theorem Y.land (X : Stand p l e R s m args below meth c T locs cells slots) (hx : p.tables.exec = Jvm.exec) {x : Int64} {y : Int64} {rest : List Value} (hd : decode c.code pc = .ok (.land, 1)) (hs : S = .long y :: .long x :: rest) (gl : Gl p.tables e below P (T.setTop (mkF m (pc + 1) (Ls) (.long (x &&& y) :: rest)))) : Gl p.tables e below P (T.setTop (mkF m pc Ls S)) := Gl.pre (fun _ k => XS.land X.here hx rfl hd hs k) gl
theorem Y.lcmp (X : Stand p l e R s m args below meth c T locs cells slots) (hx : p.tables.exec = Jvm.exec) {x y : Int64} {rest : List Value} (hd : decode c.code pc = .ok (.lcmp, 1)) (hs : S = .long y :: .long x :: rest) (gl : Gl p.tables e below P (T.setTop (mkF m (pc + 1) (Ls) (.int (if x > y then 1 else if x = y then 0 else -1) :: rest)))) : Gl p.tables e below P (T.setTop (mkF m pc Ls S)) := Gl.pre (fun _ k => XS.lcmp X.here hx rfl hd hs k) gl
theorem Y.lconst (X : Stand p l e R s m args below meth c T locs cells slots) (hx : p.tables.exec = Jvm.exec) {k : Fin 2} (hd : decode c.code pc = .ok (.lconst k, 1)) (gl : Gl p.tables e below P (T.setTop (mkF m (pc + 1) (Ls) (.long (Int64.ofNat k) :: S)))) : Gl p.tables e below P (T.setTop (mkF m pc Ls S)) := Gl.pre (fun _ k => XS.lconst X.here hx rfl hd k) gl
theorem Y.lload (X : Stand p l e R s m args below meth c T locs cells slots) (hx : p.tables.exec = Jvm.exec) {k : Nat} {v : Int64} (hd : decode c.code pc = .ok (.lload k, 2)) (hl : Ls[k]? = some (.val (.long v))) (gl : Gl p.tables e below P (T.setTop (mkF m (pc + 2) (Ls) (.long v :: S)))) : Gl p.tables e below P (T.setTop (mkF m pc Ls S)) := Gl.pre (fun _ k => XS.lload X.here hx rfl hd hl k) gl
theorem Y.lloadN (X : Stand p l e R s m args below meth c T locs cells slots) (hx : p.tables.exec = Jvm.exec) {k : Fin 4} {v : Int64} (hd : decode c.code pc = .ok (.lload_n k, 1)) (hl : Ls[k.val]? = some (.val (.long v))) (gl : Gl p.tables e below P (T.setTop (mkF m (pc + 1) (Ls) (.long v :: S)))) : Gl p.tables e below P (T.setTop (mkF m pc Ls S)) := Gl.pre (fun _ k => XS.lloadN X.here hx rfl hd hl k) gl
theorem Y.lor (X : Stand p l e R s m args below meth c T locs cells slots) (hx : p.tables.exec = Jvm.exec) {x : Int64} {y : Int64} {rest : List Value} (hd : decode c.code pc = .ok (.lor, 1)) (hs : S = .long y :: .long x :: rest) (gl : Gl p.tables e below P (T.setTop (mkF m (pc + 1) (Ls) (.long (x ||| y) :: rest)))) : Gl p.tables e below P (T.setTop (mkF m pc Ls S)) := Gl.pre (fun _ k => XS.lor X.here hx rfl hd hs k) gl
theorem Y.lstore (X : Stand p l e R s m args below meth c T locs cells slots) (hx : p.tables.exec = Jvm.exec) {k : Nat} {x : Int64} {rest : List Value} {l' : Array Slot} (hd : decode c.code pc = .ok (.lstore k, 2)) (hs : S = .long x :: rest) (hl : storeLocals Ls k (.long x) = some l') (gl : Gl p.tables e below P (T.setTop (mkF m (pc + 2) (l') (rest)))) : Gl p.tables e below P (T.setTop (mkF m pc Ls S)) := Gl.pre (fun _ k => XS.lstore X.here hx rfl hd hs hl k) gl
theorem Y.lstoreN (X : Stand p l e R s m args below meth c T locs cells slots) (hx : p.tables.exec = Jvm.exec) {k : Fin 4} {x : Int64} {rest : List Value} {l' : Array Slot} (hd : decode c.code pc = .ok (.lstore_n k, 1)) (hs : S = .long x :: rest) (hl : storeLocals Ls k.val (.long x) = some l') (gl : Gl p.tables e below P (T.setTop (mkF m (pc + 1) (l') (rest)))) : Gl p.tables e below P (T.setTop (mkF m pc Ls S)) := Gl.pre (fun _ k => XS.lstoreN X.here hx rfl hd hs hl k) gl
theorem Y.lushr (X : Stand p l e R s m args below meth c T locs cells slots) (hx : p.tables.exec = Jvm.exec) {x : Int64} {y : Int32} {rest : List Value} (hd : decode c.code pc = .ok (.lushr, 1)) (hs : S = .int y :: .long x :: rest) (gl : Gl p.tables e below P (T.setTop (mkF m (pc + 1) (Ls) (.long ((x.toUInt64 >>> (y &&& 0x3f).toInt64.toUInt64).toInt64) :: rest)))) : Gl p.tables e below P (T.setTop (mkF m pc Ls S)) := Gl.pre (fun _ k => XS.lushr X.here hx rfl hd hs k) gl
theorem Y.sipush (X : Stand p l e R s m args below meth c T locs cells slots) (hx : p.tables.exec = Jvm.exec) {i : Int} (hd : decode c.code pc = .ok (.sipush i, 3)) (gl : Gl p.tables e below P (T.setTop (mkF m (pc + 3) (Ls) (.int (Int16.ofInt i).toInt32 :: S)))) : Gl p.tables e below P (T.setTop (mkF m pc Ls S)) := Gl.pre (fun _ k => XS.sipush X.here hx rfl hd k) gl
end YSteps
theorem pd_0 : parseMethodDescriptor "()V" = some ⟨[], none⟩ := by decide +kernel
theorem pd_1 : parseMethodDescriptor "(I)V" = some ⟨[.int], none⟩ := by decide +kernel
theorem pd_2 : parseMethodDescriptor "(Ljava/util/function/UnaryOperator;)V" = some ⟨[(.object "java/util/function/UnaryOperator")], none⟩ := by decide +kernel
theorem pd_3 : parseMethodDescriptor "(J)V" = some ⟨[.long], none⟩ := by decide +kernel
theorem pd_4 : parseMethodDescriptor "(J)I" = some ⟨[.long], some .int⟩ := by decide +kernel
theorem pd_5 : parseMethodDescriptor "([BIIIJB)Z" = some ⟨[(.array .byte), .int, .int, .int, .long, .byte], some .boolean⟩ := by decide +kernel
theorem d5_0 : decode jdk_2809_method_2_code 0 = .ok (.aload_n 0, 1) := by decide +kernel
theorem d5_1 : decode jdk_2809_method_2_code 1 = .ok (.invokespecial 1, 3) := by decide +kernel
theorem d5_4 : decode jdk_2809_method_2_code 4 = .ok (.return_, 1) := by decide +kernel
theorem pn_5 : plainName "java/util/concurrent/atomic/AtomicReference" = true := by first | (simp [plainName, overriddenIn]; done) | decide +kernel
theorem ef_5 (m : MethodId) (a1 : Addr) : entryFrame m #[(.ref a1)] 1 = mkF m 0 #[.val (.ref a1)] [] := by first | (simp [entryFrame, mkF, argsToLocals, Value.category]; done) | rfl
def Q5 (Z : State) (a1 : Addr) (h0 : Heap) (n0 : Nat) (v : Option Value) (h : Heap) (L : List Loc) : Prop := v = none ∧ Fr n0 L ∧ h = h0
set_option maxRecDepth 65536 in
set_option maxHeartbeats 40000000 in
theorem rm5 (l : Launch) (Z : State) (a0 : Array Value) (hw : ∀ d ∈ tables_1, d.before a0 Z = true) (ws : List Jvm.Cond) (a1 : Addr) (h0 : Heap) (n0 : Nat) (Z0 : n0 ≤ h0.size)  :
    MetFree l (⟨"java/util/concurrent/atomic/AtomicReference", "<init>", "()V"⟩ : MethodName) (head1 (Jvm.Cond.code (⟨"java/util/concurrent/atomic/AtomicReference", "<init>", "()V"⟩ : MethodName) jdk_2809_method_2_code 1 none :: ws) ({ frames := 1, cells := 0, slots := 0, locals := 12 } : Room)) (fun a U => a = #[(.ref a1)] ∧ Z.Warmed39 U.vm ∧ U.heap = h0) (fun _ _ _ _ _ => True) (fun _ U o U' => ∃ v L, o = .returned v ∧ Q5 Z a1 h0 n0 v U'.heap L ∧ FrameEnd U o U' L ({ frames := 1, cells := 0, slots := 0, locals := 12 } : Room).cells ({ frames := 1, cells := 0, slots := 0, locals := 12 } : Room).slots) := by
  have W := @own_wd Z a0 hw
  refine MetFree.of_bodySF (plainFor_of_name pn_5) hisR ?_
  intro p e s m args below meth c s₁ Bd hml0 hP hK
  obtain ⟨rfl, hZ, hh⟩ := hP
  have hx := Bd.exec
  have hby := Bd.bytes
  have hlk : meth.locks = false := BodyLoose.notSynchronized Bd
  have hml : c.maxLocals = 1 := hml0
  have hown : s.vm.findClass "java/util/concurrent/atomic/AtomicReference" = some m.cls := findClass_of_methodNamed Bd.named
  have hnm := (name_of_methodNamed Bd.named Bd.method).1
  have X0 : Stand p l e ({ frames := 1, cells := 0, slots := 0, locals := 12 } : Room) s m #[(.ref a1)] below meth c s₁ [] 0 0 := Stand.of_body Bd
  have e0 : s₁.heap = h0 := by rw [← hh, Bd.state]; rfl
  have N0 := Fr.nil n0
  show Gl p.tables e below _ _
  refine Gl.pre (fun t k => castTop (ef_5 m a1) k) ?_
  refine Gl.gen (fun PP hPP => ?_)
  show Gl p.tables e below PP (s₁.setTop (mkF m 0 #[.val (.ref a1)] []))
  refine Y.aloadN X0 hx (hb hby d5_0) rfl rfl ?_
  obtain ⟨T1, X1, e1, st1⟩ := initO X0 hx hZ hown (W 37 rfl) (W 8 rfl) (W 9 rfl) e0 (g := (mkF m 1 #[.val (.ref a1)] [(.ref a1)])) rfl (by rw [hml]; rfl) rfl (hb hby d5_1) (by decide) (W := 0) (by show 2 * 0 + _ ≤ _; exact Nat.le_of_eq rfl) (by decide)
  refine Gl.pre (fun _ k => st1 _ k) ?_
  rw [hPP]
  refine own_finV (Q := (Q5 Z a1 h0 n0)) X1 hx hlk Bd.returns (hb hby d5_4) ?_ (by decide) (by decide)
  show Q5 Z a1 h0 n0 _ T1.heap _
  rw [e1]
  exact ⟨rfl, N0, rfl⟩
theorem d6_0 : decode jdk_2802_method_2_code 0 = .ok (.aload_n 0, 1) := by decide +kernel
theorem d6_1 : decode jdk_2802_method_2_code 1 = .ok (.invokespecial 1, 3) := by decide +kernel
theorem d6_4 : decode jdk_2802_method_2_code 4 = .ok (.return_, 1) := by decide +kernel
theorem pn_6 : plainName "java/util/concurrent/atomic/AtomicBoolean" = true := by first | (simp [plainName, overriddenIn]; done) | decide +kernel
theorem ef_6 (m : MethodId) (a1 : Addr) : entryFrame m #[(.ref a1)] 1 = mkF m 0 #[.val (.ref a1)] [] := by first | (simp [entryFrame, mkF, argsToLocals, Value.category]; done) | rfl
def Q6 (Z : State) (a1 : Addr) (h0 : Heap) (n0 : Nat) (v : Option Value) (h : Heap) (L : List Loc) : Prop := v = none ∧ Fr n0 L ∧ h = h0
set_option maxRecDepth 65536 in
set_option maxHeartbeats 40000000 in
theorem rm6 (l : Launch) (Z : State) (a0 : Array Value) (hw : ∀ d ∈ tables_1, d.before a0 Z = true) (ws : List Jvm.Cond) (a1 : Addr) (h0 : Heap) (n0 : Nat) (Z0 : n0 ≤ h0.size)  :
    MetFree l (⟨"java/util/concurrent/atomic/AtomicBoolean", "<init>", "()V"⟩ : MethodName) (head1 (Jvm.Cond.code (⟨"java/util/concurrent/atomic/AtomicBoolean", "<init>", "()V"⟩ : MethodName) jdk_2802_method_2_code 1 none :: ws) ({ frames := 1, cells := 0, slots := 0, locals := 12 } : Room)) (fun a U => a = #[(.ref a1)] ∧ Z.Warmed39 U.vm ∧ U.heap = h0) (fun _ _ _ _ _ => True) (fun _ U o U' => ∃ v L, o = .returned v ∧ Q6 Z a1 h0 n0 v U'.heap L ∧ FrameEnd U o U' L ({ frames := 1, cells := 0, slots := 0, locals := 12 } : Room).cells ({ frames := 1, cells := 0, slots := 0, locals := 12 } : Room).slots) := by
  have W := @own_wd Z a0 hw
  refine MetFree.of_bodySF (plainFor_of_name pn_6) hisR ?_
  intro p e s m args below meth c s₁ Bd hml0 hP hK
  obtain ⟨rfl, hZ, hh⟩ := hP
  have hx := Bd.exec
  have hby := Bd.bytes
  have hlk : meth.locks = false := BodyLoose.notSynchronized Bd
  have hml : c.maxLocals = 1 := hml0
  have hown : s.vm.findClass "java/util/concurrent/atomic/AtomicBoolean" = some m.cls := findClass_of_methodNamed Bd.named
  have hnm := (name_of_methodNamed Bd.named Bd.method).1
  have X0 : Stand p l e ({ frames := 1, cells := 0, slots := 0, locals := 12 } : Room) s m #[(.ref a1)] below meth c s₁ [] 0 0 := Stand.of_body Bd
  have e0 : s₁.heap = h0 := by rw [← hh, Bd.state]; rfl
  have N0 := Fr.nil n0
  show Gl p.tables e below _ _
  refine Gl.pre (fun t k => castTop (ef_6 m a1) k) ?_
  refine Gl.gen (fun PP hPP => ?_)
  show Gl p.tables e below PP (s₁.setTop (mkF m 0 #[.val (.ref a1)] []))
  refine Y.aloadN X0 hx (hb hby d6_0) rfl rfl ?_
  obtain ⟨T1, X1, e1, st1⟩ := initO X0 hx hZ hown (W 46 rfl) (W 8 rfl) (W 9 rfl) e0 (g := (mkF m 1 #[.val (.ref a1)] [(.ref a1)])) rfl (by rw [hml]; rfl) rfl (hb hby d6_1) (by decide) (W := 0) (by show 2 * 0 + _ ≤ _; exact Nat.le_of_eq rfl) (by decide)
  refine Gl.pre (fun _ k => st1 _ k) ?_
  rw [hPP]
  refine own_finV (Q := (Q6 Z a1 h0 n0)) X1 hx hlk Bd.returns (hb hby d6_4) ?_ (by decide) (by decide)
  show Q6 Z a1 h0 n0 _ T1.heap _
  rw [e1]
  exact ⟨rfl, N0, rfl⟩
theorem d3_0 : decode prog_190_method_1_code 0 = .ok (.aload_n 0, 1) := by decide +kernel
theorem d3_1 : decode prog_190_method_1_code 1 = .ok (.invokespecial 1, 3) := by decide +kernel
theorem d3_4 : decode prog_190_method_1_code 4 = .ok (.aload_n 0, 1) := by decide +kernel
theorem d3_5 : decode prog_190_method_1_code 5 = .ok (.iload_n 1, 1) := by decide +kernel
theorem d3_6 : decode prog_190_method_1_code 6 = .ok (.putfield 7, 3) := by decide +kernel
theorem d3_9 : decode prog_190_method_1_code 9 = .ok (.return_, 1) := by decide +kernel
theorem pn_3 : plainName "io/heapwire/SpareRoom" = true := by first | (simp [plainName, overriddenIn]; done) | decide +kernel
theorem ef_3 (m : MethodId) (a1 : Addr) (pz : Int32) : entryFrame m #[(.ref a1), (.int pz)] 2 = mkF m 0 #[.val (.ref a1), .val (.int pz)] [] := by first | (simp [entryFrame, mkF, argsToLocals, Value.category]; done) | rfl
def Q3 (Z : State) (a1 : Addr) (pz : Int32) (h0 : Heap) (n0 : Nat) (v : Option Value) (h : Heap) (L : List Loc) : Prop := v = none ∧ Fr n0 L ∧ Keep h0 h [a1]
set_option maxRecDepth 65536 in
set_option maxHeartbeats 40000000 in
theorem rm3 (l : Launch) (Z : State) (a0 : Array Value) (hw : ∀ d ∈ tables_1, d.before a0 Z = true) (ws : List Jvm.Cond) (a1 : Addr) (pz : Int32) (h0 : Heap) (n0 : Nat) (Z0 : n0 ≤ h0.size) (E_a1 : Exa Z h0 a1 "io/heapwire/SpareRoom") (F_least_a1 : Fld Z h0 a1 "io/heapwire/SpareRoom" "least" "I" (.int (0 : Int32))) (g_a1 : n0 ≤ a1) :
    MetFree l (⟨"io/heapwire/SpareRoom", "<init>", "(I)V"⟩ : MethodName) (head1 (Jvm.Cond.code (⟨"io/heapwire/SpareRoom", "<init>", "(I)V"⟩ : MethodName) prog_190_method_1_code 2 none :: ws) ({ frames := 1, cells := 0, slots := 0, locals := 12 } : Room)) (fun a U => a = #[(.ref a1), (.int pz)] ∧ Z.Warmed39 U.vm ∧ U.heap = h0) (fun _ _ _ _ _ => True) (fun _ U o U' => ∃ v L, o = .returned v ∧ Q3 Z a1 pz h0 n0 v U'.heap L ∧ FrameEnd U o U' L ({ frames := 1, cells := 0, slots := 0, locals := 12 } : Room).cells ({ frames := 1, cells := 0, slots := 0, locals := 12 } : Room).slots) := by
  have W := @own_wd Z a0 hw
  refine MetFree.of_bodySF (plainFor_of_name pn_3) hisR ?_
  intro p e s m args below meth c s₁ Bd hml0 hP hK
  obtain ⟨rfl, hZ, hh⟩ := hP
  have hx := Bd.exec
  have hby := Bd.bytes
  have hlk : meth.locks = false := BodyLoose.notSynchronized Bd
  have hml : c.maxLocals = 2 := hml0
  have hown : s.vm.findClass "io/heapwire/SpareRoom" = some m.cls := findClass_of_methodNamed Bd.named
  have hnm := (name_of_methodNamed Bd.named Bd.method).1
  have X0 : Stand p l e ({ frames := 1, cells := 0, slots := 0, locals := 12 } : Room) s m #[(.ref a1), (.int pz)] below meth c s₁ [] 0 0 := Stand.of_body Bd
  have e0 : s₁.heap = h0 := by rw [← hh, Bd.state]; rfl
  have N0 := Fr.nil n0
  show Gl p.tables e below _ _
  refine Gl.pre (fun t k => castTop (ef_3 m a1 pz) k) ?_
  refine Gl.gen (fun PP hPP => ?_)
  have K0 : Keep h0 h0 [a1] := Keep.refl h0 _
  show Gl p.tables e below PP (s₁.setTop (mkF m 0 #[.val (.ref a1), .val (.int pz)] []))
  refine Y.aloadN X0 hx (hb hby d3_0) rfl rfl ?_
  obtain ⟨T1, X1, e1, st1⟩ := initO X0 hx hZ hown (W 16 rfl) (W 8 rfl) (W 9 rfl) e0 (g := (mkF m 1 #[.val (.ref a1), .val (.int pz)] [(.ref a1)])) rfl (by rw [hml]; rfl) rfl (hb hby d3_1) (by decide) (W := 0) (by show 2 * 0 + _ ≤ _; exact Nat.le_of_eq rfl) (by decide)
  refine Gl.pre (fun _ k => st1 _ k) ?_
  refine Y.aloadN X1 hx (hb hby d3_4) rfl rfl ?_
  refine Y.iloadN X1 hx (hb hby d3_5) rfl ?_
  obtain ⟨T2, h2, X2, e2, W2, st2⟩ := putF X1 hx hZ hown (host := "") (Or.inl (W 17 rfl)) Via.refl e1 F_least_a1 E_a1 (Or.inr ⟨(W 18 rfl), rfl, hnm⟩) (W 11 rfl) (ty := .int) (by decide) rfl rfl (g := (mkF m 6 #[.val (.ref a1), .val (.int pz)] [(.int pz), (.ref a1)])) rfl rfl (hb hby d3_6)
  refine Gl.pre (fun _ k => st2 _ k) ?_
  have E_a1 := E_a1.wr W2
  have F_least_a1 := F_least_a1.same W2
  have Z2 : n0 ≤ h2.size := by rw [W2.size]; exact Z0
  have N2 := Fr.snoc X2 N0 g_a1
  have K2 := K0.wr W2 (Or.inl (List.mem_of_getElem? (i := 0) rfl))
  rw [hPP]
  refine own_finV (Q := (Q3 Z a1 pz h0 n0)) X2 hx hlk Bd.returns (hb hby d3_9) ?_ (by decide) (by decide)
  show Q3 Z a1 pz h0 n0 _ T2.heap _
  rw [e2]
  exact ⟨rfl, N2, K2⟩
theorem d4_0 : decode prog_42_method_1_code 0 = .ok (.aload_n 0, 1) := by decide +kernel
theorem d4_1 : decode prog_42_method_1_code 1 = .ok (.invokespecial 1, 3) := by decide +kernel
theorem d4_4 : decode prog_42_method_1_code 4 = .ok (.aload_n 0, 1) := by decide +kernel
theorem d4_5 : decode prog_42_method_1_code 5 = .ok (.new 7, 3) := by decide +kernel
theorem d4_8 : decode prog_42_method_1_code 8 = .ok (.dup, 1) := by decide +kernel
theorem d4_9 : decode prog_42_method_1_code 9 = .ok (.invokespecial 9, 3) := by decide +kernel
theorem d4_12 : decode prog_42_method_1_code 12 = .ok (.putfield 10, 3) := by decide +kernel
theorem d4_15 : decode prog_42_method_1_code 15 = .ok (.aload_n 0, 1) := by decide +kernel
theorem d4_16 : decode prog_42_method_1_code 16 = .ok (.new 16, 3) := by decide +kernel
theorem d4_19 : decode prog_42_method_1_code 19 = .ok (.dup, 1) := by decide +kernel
theorem d4_20 : decode prog_42_method_1_code 20 = .ok (.invokespecial 18, 3) := by decide +kernel
theorem d4_23 : decode prog_42_method_1_code 23 = .ok (.putfield 19, 3) := by decide +kernel
theorem d4_26 : decode prog_42_method_1_code 26 = .ok (.aload_n 0, 1) := by decide +kernel
theorem d4_27 : decode prog_42_method_1_code 27 = .ok (.aload_n 1, 1) := by decide +kernel
theorem d4_28 : decode prog_42_method_1_code 28 = .ok (.putfield 23, 3) := by decide +kernel
theorem d4_31 : decode prog_42_method_1_code 31 = .ok (.return_, 1) := by decide +kernel
theorem pn_4 : plainName "io/heapwire/IdleRoom" = true := by first | (simp [plainName, overriddenIn]; done) | decide +kernel
theorem ef_4 (m : MethodId) (a1 : Addr) (r2 : Addr) : entryFrame m #[(.ref a1), (.ref r2)] 2 = mkF m 0 #[.val (.ref a1), .val (.ref r2)] [] := by first | (simp [entryFrame, mkF, argsToLocals, Value.category]; done) | rfl
def Q4 (Z : State) (a1 : Addr) (r2 : Addr) (h0 : Heap) (n0 : Nat) (v : Option Value) (h : Heap) (L : List Loc) : Prop := v = none ∧ Fr n0 L ∧ Keep h0 h [a1]
set_option maxRecDepth 65536 in
set_option maxHeartbeats 40000000 in
theorem rm4 (l : Launch) (Z : State) (a0 : Array Value) (hw : ∀ d ∈ tables_1, d.before a0 Z = true) (ws : List Jvm.Cond) (a1 : Addr) (r2 : Addr) (h0 : Heap) (n0 : Nat) (Z0 : n0 ≤ h0.size) (E_a1 : Exa Z h0 a1 "io/heapwire/IdleRoom") (F_held_a1 : Fld Z h0 a1 "io/heapwire/IdleRoom" "held" "Ljava/util/concurrent/atomic/AtomicReference;" .null) (F_looking_a1 : Fld Z h0 a1 "io/heapwire/IdleRoom" "looking" "Ljava/util/concurrent/atomic/AtomicBoolean;" .null) (F_letGo_a1 : Fld Z h0 a1 "io/heapwire/IdleRoom" "letGo" "Ljava/util/function/UnaryOperator;" .null) (g_a1 : n0 ≤ a1) :
    MetFree l (⟨"io/heapwire/IdleRoom", "<init>", "(Ljava/util/function/UnaryOperator;)V"⟩ : MethodName) (head1 (Jvm.Cond.code (⟨"io/heapwire/IdleRoom", "<init>", "(Ljava/util/function/UnaryOperator;)V"⟩ : MethodName) prog_42_method_1_code 2 none :: ws) ({ frames := 2, cells := 2, slots := 2, locals := 26 } : Room)) (fun a U => a = #[(.ref a1), (.ref r2)] ∧ Z.Warmed39 U.vm ∧ U.heap = h0) (fun _ _ _ _ _ => True) (fun _ U o U' => ∃ v L, o = .returned v ∧ Q4 Z a1 r2 h0 n0 v U'.heap L ∧ FrameEnd U o U' L ({ frames := 2, cells := 2, slots := 2, locals := 26 } : Room).cells ({ frames := 2, cells := 2, slots := 2, locals := 26 } : Room).slots) := by
  have W := @own_wd Z a0 hw
  refine MetFree.of_bodySF (plainFor_of_name pn_4) hisR ?_
  intro p e s m args below meth c s₁ Bd hml0 hP hK
  obtain ⟨rfl, hZ, hh⟩ := hP
  have hx := Bd.exec
  have hby := Bd.bytes
  have hlk : meth.locks = false := BodyLoose.notSynchronized Bd
  have hml : c.maxLocals = 2 := hml0
  have hown : s.vm.findClass "io/heapwire/IdleRoom" = some m.cls := findClass_of_methodNamed Bd.named
  have hnm := (name_of_methodNamed Bd.named Bd.method).1
  have X0 : Stand p l e ({ frames := 2, cells := 2, slots := 2, locals := 26 } : Room) s m #[(.ref a1), (.ref r2)] below meth c s₁ [] 0 0 := Stand.of_body Bd
  have e0 : s₁.heap = h0 := by rw [← hh, Bd.state]; rfl
  have N0 := Fr.nil n0
  show Gl p.tables e below _ _
  refine Gl.pre (fun t k => castTop (ef_4 m a1 r2) k) ?_
  refine Gl.gen (fun PP hPP => ?_)
  have K0 : Keep h0 h0 [a1] := Keep.refl h0 _
  show Gl p.tables e below PP (s₁.setTop (mkF m 0 #[.val (.ref a1), .val (.ref r2)] []))
  refine Y.aloadN X0 hx (hb hby d4_0) rfl rfl ?_
  obtain ⟨T1, X1, e1, st1⟩ := initO X0 hx hZ hown (W 30 rfl) (W 8 rfl) (W 9 rfl) e0 (g := (mkF m 1 #[.val (.ref a1), .val (.ref r2)] [(.ref a1)])) rfl (by rw [hml]; rfl) rfl (hb hby d4_1) (by decide) (W := 0) (by show 2 * 0 + _ ≤ _; exact Nat.le_of_eq rfl) (by decide)
  refine Gl.pre (fun _ k => st1 _ k) ?_
  refine Y.aloadN X1 hx (hb hby d4_4) rfl rfl ?_
  obtain ⟨T2, h2, X2, e2, E2, A2, D2, -, st2⟩ := newO X1 hx hZ hown (W 31 rfl) (W 32 rfl) (W 33 rfl) e1 (g := (mkF m 5 #[.val (.ref a1), .val (.ref r2)] [(.ref a1)])) rfl (hb hby d4_5) (by decide) (by decide)
  obtain ⟨b2, g2⟩ : ∃ z, z = h0.size := ⟨_, rfl⟩
  rw [← g2] at A2 D2 st2
  refine Gl.pre (fun _ k => st2 _ k) ?_
  have own_ne_a1_b2 : a1 ≠ b2 := by have q := E_a1.lt; rw [g2]; exact Nat.ne_of_lt q
  have own_ne_b2_a1 : b2 ≠ a1 := own_ne_a1_b2.symm
  have g_b2 : n0 ≤ b2 := Nat.le_trans Z0 (Nat.le_of_eq g2.symm)
  have sz_b2 : h0.size ≤ b2 := Nat.le_trans K0.1 (Nat.le_of_eq g2.symm)
  have E_a1 := E_a1.ext E2
  have F_held_a1 := F_held_a1.ext E2
  have F_looking_a1 := F_looking_a1.ext E2
  have F_letGo_a1 := F_letGo_a1.ext E2
  have Z2 : n0 ≤ h2.size := Nat.le_trans Z0 E2.1
  have K2 := K0.ext E2
  have E_b2 := A2
  refine Y.dup X2 hx (hb hby d4_8) rfl rfl ?_
  obtain ⟨_, _, ⟨T3, L3, k3, n3⟩, -, X3, ⟨Lc3, hQ3, l3, y3, z3⟩, st3⟩ := X2.specialBack hx (y := (⟨"java/util/concurrent/atomic/AtomicReference", "<init>", "()V"⟩ : MethodName)) rfl hown (mvT hZ (W 34 rfl)) (mvT hZ (W 35 rfl)) (mvT hZ (W 36 rfl)) (by decide) (backOf (W := 2) (rm5 l Z a0 hw [] b2 h2 n0 Z2 ) hZ (W 36 rfl) (W 33 rfl) (by decide) (by decide)) (g := (mkF m 9 #[.val (.ref a1), .val (.ref r2)] [(.ref b2), (.ref b2), (.ref a1)])) rfl (by rw [hml]; rfl) (Steps.refl _) (a := b2) (argsL := []) (rest := [(.ref b2), (.ref a1)]) (lenOf pd_0 rfl) rfl (by show 2 * 0 + _ ≤ _; exact Nat.le_of_eq rfl) (hb hby d4_9) (fun _ _ => ⟨rfl, e2, (by decide : 1 + 0 ≤ _), (by decide : 1 + 0 ≤ _)⟩)
  dsimp only [Pt.U, Pt.locs, Pt.cells, Pt.slots] at X3 l3 y3 z3 st3 hQ3
  rewrite [l3, y3, z3] at X3
  obtain ⟨rfl, N3q, e3⟩ := hQ3
  have N3 := Fr.app N0 N3q
  refine Gl.pre (fun _ k => st3.trans k) ?_
  obtain ⟨T4, h4, X4, e4, W4, st4⟩ := putF X3 hx hZ hown (host := "") (Or.inl (W 38 rfl)) Via.refl e3 F_held_a1 E_a1 (Or.inr ⟨(W 39 rfl), rfl, hnm⟩) (W 22 rfl) (ty := (.object "java/util/concurrent/atomic/AtomicReference")) (by decide) rfl rfl (g := (mkF m 12 #[.val (.ref a1), .val (.ref r2)] [(.ref b2), (.ref a1)])) rfl rfl (hb hby d4_12)
  refine Gl.pre (fun _ k => st4 _ k) ?_
  have E_a1 := E_a1.wr W4
  have F_held_a1 := F_held_a1.same W4
  have F_looking_a1 := F_looking_a1.other W4 (Or.inr (slot_ne (Or.inr (W 48 rfl)) (Or.inr (W 39 rfl)) (by decide) (t := (.object "java/util/concurrent/atomic/AtomicBoolean")) (t' := (.object "java/util/concurrent/atomic/AtomicReference")) (by decide) (by decide)))
  have F_letGo_a1 := F_letGo_a1.other W4 (Or.inr (slot_ne (Or.inr (W 50 rfl)) (Or.inr (W 39 rfl)) (by decide) (t := (.object "java/util/function/UnaryOperator")) (t' := (.object "java/util/concurrent/atomic/AtomicReference")) (by decide) (by decide)))
  have E_b2 := E_b2.wr W4
  have Z4 : n0 ≤ h4.size := by rw [W4.size]; exact Z2
  have N4 := Fr.snoc X4 N3 g_a1
  have K4 := K2.wr W4 (Or.inl (List.mem_of_getElem? (i := 0) rfl))
  refine Y.aloadN X4 hx (hb hby d4_15) rfl rfl ?_
  obtain ⟨T5, h5, X5, e5, E5, A5, D5, -, st5⟩ := newO X4 hx hZ hown (W 40 rfl) (W 41 rfl) (W 42 rfl) e4 (g := (mkF m 16 #[.val (.ref a1), .val (.ref r2)] [(.ref a1)])) rfl (hb hby d4_16) (by decide) (by decide)
  obtain ⟨b5, g5⟩ : ∃ z, z = h4.size := ⟨_, rfl⟩
  rw [← g5] at A5 D5 st5
  refine Gl.pre (fun _ k => st5 _ k) ?_
  have own_ne_a1_b5 : a1 ≠ b5 := by have q := E_a1.lt; rw [g5]; exact Nat.ne_of_lt q
  have own_ne_b5_a1 : b5 ≠ a1 := own_ne_a1_b5.symm
  have own_ne_b2_b5 : b2 ≠ b5 := by have q := E_b2.lt; rw [g5]; exact Nat.ne_of_lt q
  have own_ne_b5_b2 : b5 ≠ b2 := own_ne_b2_b5.symm
  have g_b5 : n0 ≤ b5 := Nat.le_trans Z4 (Nat.le_of_eq g5.symm)
  have sz_b5 : h0.size ≤ b5 := Nat.le_trans K4.1 (Nat.le_of_eq g5.symm)
  have E_a1 := E_a1.ext E5
  have F_held_a1 := F_held_a1.ext E5
  have F_looking_a1 := F_looking_a1.ext E5
  have F_letGo_a1 := F_letGo_a1.ext E5
  have E_b2 := E_b2.ext E5
  have Z5 : n0 ≤ h5.size := Nat.le_trans Z4 E5.1
  have K5 := K4.ext E5
  have E_b5 := A5
  refine Y.dup X5 hx (hb hby d4_19) rfl rfl ?_
  obtain ⟨_, _, ⟨T6, L6, k6, n6⟩, -, X6, ⟨Lc6, hQ6, l6, y6, z6⟩, st6⟩ := X5.specialBack hx (y := (⟨"java/util/concurrent/atomic/AtomicBoolean", "<init>", "()V"⟩ : MethodName)) rfl hown (mvT hZ (W 43 rfl)) (mvT hZ (W 44 rfl)) (mvT hZ (W 45 rfl)) (by decide) (backOf (W := 2) (rm6 l Z a0 hw [] b5 h5 n0 Z5 ) hZ (W 45 rfl) (W 42 rfl) (by decide) (by decide)) (g := (mkF m 20 #[.val (.ref a1), .val (.ref r2)] [(.ref b5), (.ref b5), (.ref a1)])) rfl (by rw [hml]; rfl) (Steps.refl _) (a := b5) (argsL := []) (rest := [(.ref b5), (.ref a1)]) (lenOf pd_0 rfl) rfl (by show 2 * 0 + _ ≤ _; exact Nat.le_of_eq rfl) (hb hby d4_20) (fun _ _ => ⟨rfl, e5, (by decide : 2 + 0 ≤ _), (by decide : 2 + 0 ≤ _)⟩)
  dsimp only [Pt.U, Pt.locs, Pt.cells, Pt.slots] at X6 l6 y6 z6 st6 hQ6
  rewrite [l6, y6, z6] at X6
  obtain ⟨rfl, N6q, e6⟩ := hQ6
  have N6 := Fr.app N4 N6q
  refine Gl.pre (fun _ k => st6.trans k) ?_
  obtain ⟨T7, h7, X7, e7, W7, st7⟩ := putF X6 hx hZ hown (host := "") (Or.inl (W 47 rfl)) Via.refl e6 F_looking_a1 E_a1 (Or.inr ⟨(W 48 rfl), rfl, hnm⟩) (W 22 rfl) (ty := (.object "java/util/concurrent/atomic/AtomicBoolean")) (by decide) rfl rfl (g := (mkF m 23 #[.val (.ref a1), .val (.ref r2)] [(.ref b5), (.ref a1)])) rfl rfl (hb hby d4_23)
  refine Gl.pre (fun _ k => st7 _ k) ?_
  have E_a1 := E_a1.wr W7
  have F_held_a1 := F_held_a1.other W7 (Or.inr (slot_ne (Or.inr (W 39 rfl)) (Or.inr (W 48 rfl)) (by decide) (t := (.object "java/util/concurrent/atomic/AtomicReference")) (t' := (.object "java/util/concurrent/atomic/AtomicBoolean")) (by decide) (by decide)))
  have F_looking_a1 := F_looking_a1.same W7
  have F_letGo_a1 := F_letGo_a1.other W7 (Or.inr (slot_ne (Or.inr (W 50 rfl)) (Or.inr (W 48 rfl)) (by decide) (t := (.object "java/util/function/UnaryOperator")) (t' := (.object "java/util/concurrent/atomic/AtomicBoolean")) (by decide) (by decide)))
  have E_b2 := E_b2.wr W7
  have E_b5 := E_b5.wr W7
  have Z7 : n0 ≤ h7.size := by rw [W7.size]; exact Z5
  have N7 := Fr.snoc X7 N6 g_a1
  have K7 := K5.wr W7 (Or.inl (List.mem_of_getElem? (i := 0) rfl))
  refine Y.aloadN X7 hx (hb hby d4_26) rfl rfl ?_
  refine Y.aloadN X7 hx (hb hby d4_27) rfl rfl ?_
  obtain ⟨T8, h8, X8, e8, W8, st8⟩ := putF X7 hx hZ hown (host := "") (Or.inl (W 49 rfl)) Via.refl e7 F_letGo_a1 E_a1 (Or.inr ⟨(W 50 rfl), rfl, hnm⟩) (W 22 rfl) (ty := (.object "java/util/function/UnaryOperator")) (by decide) rfl rfl (g := (mkF m 28 #[.val (.ref a1), .val (.ref r2)] [(.ref r2), (.ref a1)])) rfl rfl (hb hby d4_28)
  refine Gl.pre (fun _ k => st8 _ k) ?_
  have E_a1 := E_a1.wr W8
  have F_held_a1 := F_held_a1.other W8 (Or.inr (slot_ne (Or.inr (W 39 rfl)) (Or.inr (W 50 rfl)) (by decide) (t := (.object "java/util/concurrent/atomic/AtomicReference")) (t' := (.object "java/util/function/UnaryOperator")) (by decide) (by decide)))
  have F_looking_a1 := F_looking_a1.other W8 (Or.inr (slot_ne (Or.inr (W 48 rfl)) (Or.inr (W 50 rfl)) (by decide) (t := (.object "java/util/concurrent/atomic/AtomicBoolean")) (t' := (.object "java/util/function/UnaryOperator")) (by decide) (by decide)))
  have F_letGo_a1 := F_letGo_a1.same W8
  have E_b2 := E_b2.wr W8
  have E_b5 := E_b5.wr W8
  have Z8 : n0 ≤ h8.size := by rw [W8.size]; exact Z7
  have N8 := Fr.snoc X8 N7 g_a1
  have K8 := K7.wr W8 (Or.inl (List.mem_of_getElem? (i := 0) rfl))
  rw [hPP]
  refine own_finV (Q := (Q4 Z a1 r2 h0 n0)) X8 hx hlk Bd.returns (hb hby d4_31) ?_ (by decide) (by decide)
  show Q4 Z a1 r2 h0 n0 _ T8.heap _
  rw [e8]
  exact ⟨rfl, N8, K8⟩
theorem d1_0 : decode prog_30_method_1_code 0 = .ok (.aload_n 0, 1) := by decide +kernel
theorem d1_1 : decode prog_30_method_1_code 1 = .ok (.invokespecial 1, 3) := by decide +kernel
theorem d1_4 : decode prog_30_method_1_code 4 = .ok (.aload_n 0, 1) := by decide +kernel
theorem d1_5 : decode prog_30_method_1_code 5 = .ok (.new 7, 3) := by decide +kernel
theorem d1_8 : decode prog_30_method_1_code 8 = .ok (.dup, 1) := by decide +kernel
theorem d1_9 : decode prog_30_method_1_code 9 = .ok (.sipush 8192, 3) := by decide +kernel
theorem d1_12 : decode prog_30_method_1_code 12 = .ok (.invokespecial 11, 3) := by decide +kernel
theorem d1_15 : decode prog_30_method_1_code 15 = .ok (.putfield 14, 3) := by decide +kernel
theorem d1_18 : decode prog_30_method_1_code 18 = .ok (.aload_n 0, 1) := by decide +kernel
theorem d1_19 : decode prog_30_method_1_code 19 = .ok (.new 18, 3) := by decide +kernel
theorem d1_22 : decode prog_30_method_1_code 22 = .ok (.dup, 1) := by decide +kernel
theorem d1_23 : decode prog_30_method_1_code 23 = .ok (.invokedynamic 20, 5) := by decide +kernel
theorem d1_28 : decode prog_30_method_1_code 28 = .ok (.invokespecial 24, 3) := by decide +kernel
theorem d1_31 : decode prog_30_method_1_code 31 = .ok (.putfield 27, 3) := by decide +kernel
theorem d1_34 : decode prog_30_method_1_code 34 = .ok (.return_, 1) := by decide +kernel
theorem pn_1 : plainName "io/heapwire/FrameOutput" = true := by first | (simp [plainName, overriddenIn]; done) | decide +kernel
theorem ef_1 (m : MethodId) (a1 : Addr) : entryFrame m #[(.ref a1)] 1 = mkF m 0 #[.val (.ref a1)] [] := by first | (simp [entryFrame, mkF, argsToLocals, Value.category]; done) | rfl
def Q1 (Z : State) (a1 : Addr) (h0 : Heap) (n0 : Nat) (v : Option Value) (h : Heap) (L : List Loc) : Prop := v = none ∧ Fr n0 L ∧ Keep h0 h [a1] ∧ Fld Z h a1 "io/heapwire/FrameOutput" "bytes" "[B" .null ∧ Fld Z h a1 "io/heapwire/FrameOutput" "position" "I" (.int (0 : Int32))
set_option maxRecDepth 65536 in
set_option maxHeartbeats 40000000 in
theorem rm1 (l : Launch) (Z : State) (a0 : Array Value) (hw : ∀ d ∈ tables_1, d.before a0 Z = true) (ws : List Jvm.Cond) (a1 : Addr) (h0 : Heap) (n0 : Nat) (Z0 : n0 ≤ h0.size) (E_a1 : Exa Z h0 a1 "io/heapwire/FrameOutput") (F_spare_a1 : Fld Z h0 a1 "io/heapwire/FrameOutput" "spare" "Lio/heapwire/SpareRoom;" .null) (F_idle_a1 : Fld Z h0 a1 "io/heapwire/FrameOutput" "idle" "Lio/heapwire/IdleRoom;" .null) (F_bytes_a1 : Fld Z h0 a1 "io/heapwire/FrameOutput" "bytes" "[B" .null) (F_position_a1 : Fld Z h0 a1 "io/heapwire/FrameOutput" "position" "I" (.int (0 : Int32))) (g_a1 : n0 ≤ a1) :
    MetFree l (⟨"io/heapwire/FrameOutput", "<init>", "()V"⟩ : MethodName) (head1 (Jvm.Cond.code (⟨"io/heapwire/FrameOutput", "<init>", "()V"⟩ : MethodName) prog_30_method_1_code 1 none :: ws) ({ frames := 3, cells := 4, slots := 10, locals := 3075 } : Room)) (fun a U => a = #[(.ref a1)] ∧ Z.Warmed39 U.vm ∧ U.heap = h0) (fun _ _ _ _ _ => True) (fun _ U o U' => ∃ v L, o = .returned v ∧ Q1 Z a1 h0 n0 v U'.heap L ∧ FrameEnd U o U' L ({ frames := 3, cells := 4, slots := 10, locals := 3075 } : Room).cells ({ frames := 3, cells := 4, slots := 10, locals := 3075 } : Room).slots) := by
  have W := @own_wd Z a0 hw
  refine MetFree.of_bodySF (plainFor_of_name pn_1) hisR ?_
  intro p e s m args below meth c s₁ Bd hml0 hP hK
  obtain ⟨rfl, hZ, hh⟩ := hP
  have hx := Bd.exec
  have hby := Bd.bytes
  have hlk : meth.locks = false := BodyLoose.notSynchronized Bd
  have hml : c.maxLocals = 1 := hml0
  have hown : s.vm.findClass "io/heapwire/FrameOutput" = some m.cls := findClass_of_methodNamed Bd.named
  have hnm := (name_of_methodNamed Bd.named Bd.method).1
  have X0 : Stand p l e ({ frames := 3, cells := 4, slots := 10, locals := 3075 } : Room) s m #[(.ref a1)] below meth c s₁ [] 0 0 := Stand.of_body Bd
  have e0 : s₁.heap = h0 := by rw [← hh, Bd.state]; rfl
  have N0 := Fr.nil n0
  show Gl p.tables e below _ _
  refine Gl.pre (fun t k => castTop (ef_1 m a1) k) ?_
  refine Gl.gen (fun PP hPP => ?_)
  have K0 : Keep h0 h0 [a1] := Keep.refl h0 _
  show Gl p.tables e below PP (s₁.setTop (mkF m 0 #[.val (.ref a1)] []))
  refine Y.aloadN X0 hx (hb hby d1_0) rfl rfl ?_
  obtain ⟨T1, X1, e1, st1⟩ := initO X0 hx hZ hown (W 7 rfl) (W 8 rfl) (W 9 rfl) e0 (g := (mkF m 1 #[.val (.ref a1)] [(.ref a1)])) rfl (by rw [hml]; rfl) rfl (hb hby d1_1) (by decide) (W := 0) (by show 2 * 0 + _ ≤ _; exact Nat.le_of_eq rfl) (by decide)
  refine Gl.pre (fun _ k => st1 _ k) ?_
  refine Y.aloadN X1 hx (hb hby d1_4) rfl rfl ?_
  obtain ⟨T2, h2, X2, e2, E2, A2, D2, -, st2⟩ := newO X1 hx hZ hown (W 10 rfl) (W 11 rfl) (W 12 rfl) e1 (g := (mkF m 5 #[.val (.ref a1)] [(.ref a1)])) rfl (hb hby d1_5) (by decide) (by decide)
  obtain ⟨b2, g2⟩ : ∃ z, z = h0.size := ⟨_, rfl⟩
  rw [← g2] at A2 D2 st2
  refine Gl.pre (fun _ k => st2 _ k) ?_
  have own_ne_a1_b2 : a1 ≠ b2 := by have q := E_a1.lt; rw [g2]; exact Nat.ne_of_lt q
  have own_ne_b2_a1 : b2 ≠ a1 := own_ne_a1_b2.symm
  have g_b2 : n0 ≤ b2 := Nat.le_trans Z0 (Nat.le_of_eq g2.symm)
  have sz_b2 : h0.size ≤ b2 := Nat.le_trans K0.1 (Nat.le_of_eq g2.symm)
  have E_a1 := E_a1.ext E2
  have F_spare_a1 := F_spare_a1.ext E2
  have F_idle_a1 := F_idle_a1.ext E2
  have F_bytes_a1 := F_bytes_a1.ext E2
  have F_position_a1 := F_position_a1.ext E2
  have Z2 : n0 ≤ h2.size := Nat.le_trans Z0 E2.1
  have K2 := K0.ext E2
  have E_b2 := A2
  have F_least_b2 : Fld Z h2 b2 "io/heapwire/SpareRoom" "least" "I" (.int (0 : Int32)) := D2 (Or.inr (W 18 rfl)) (ty := .int) (by decide)
  refine Y.dup X2 hx (hb hby d1_8) rfl rfl ?_
  refine Y.sipush X2 hx (hb hby d1_9) ?_
  obtain ⟨_, _, ⟨T3, L3, k3, n3⟩, -, X3, ⟨Lc3, hQ3, l3, y3, z3⟩, st3⟩ := X2.specialBack hx (y := (⟨"io/heapwire/SpareRoom", "<init>", "(I)V"⟩ : MethodName)) rfl hown (mvT hZ (W 13 rfl)) (mvT hZ (W 14 rfl)) (mvT hZ (W 15 rfl)) (by decide) (backOf (W := 2) (rm3 l Z a0 hw [] b2 (8192 : Int32) h2 n0 Z2 E_b2 F_least_b2 g_b2) hZ (W 15 rfl) (W 12 rfl) (by decide) (by decide)) (g := (mkF m 12 #[.val (.ref a1)] [(.int (8192 : Int32)), (.ref b2), (.ref b2), (.ref a1)])) rfl (by rw [hml]; rfl) (Steps.refl _) (a := b2) (argsL := [(.int (8192 : Int32))]) (rest := [(.ref b2), (.ref a1)]) (lenOf pd_1 rfl) rfl (by show 2 * 0 + _ ≤ _; exact Nat.le_of_eq rfl) (hb hby d1_12) (fun _ _ => ⟨rfl, e2, (by decide : 1 + 0 ≤ _), (by decide : 4 + 0 ≤ _)⟩)
  dsimp only [Pt.U, Pt.locs, Pt.cells, Pt.slots] at X3 l3 y3 z3 st3 hQ3
  rewrite [l3, y3, z3] at X3
  obtain ⟨rfl, N3q, K3⟩ := hQ3
  have N3 := Fr.app N0 N3q
  refine Gl.pre (fun _ k => st3.trans k) ?_
  have E_a1 := E_a1.keep K3
  have F_spare_a1 := F_spare_a1.keep K3 (ninS (own_ne_a1_b2) nin0)
  have F_idle_a1 := F_idle_a1.keep K3 (ninS (own_ne_a1_b2) nin0)
  have F_bytes_a1 := F_bytes_a1.keep K3 (ninS (own_ne_a1_b2) nin0)
  have F_position_a1 := F_position_a1.keep K3 (ninS (own_ne_a1_b2) nin0)
  have E_b2 := E_b2.keep K3
  have Z3 : n0 ≤ T3.heap.size := Nat.le_trans Z2 K3.1
  have K3k := K2.trans K3 (allS (Or.inr sz_b2) all0)
  obtain ⟨T4, h4, X4, e4, W4, st4⟩ := putF X3 hx hZ hown (host := "") (Or.inl (W 19 rfl)) Via.refl rfl F_spare_a1 E_a1 (Or.inr ⟨(W 20 rfl), rfl, hnm⟩) (W 2 rfl) (ty := (.object "io/heapwire/SpareRoom")) (by decide) rfl rfl (g := (mkF m 15 #[.val (.ref a1)] [(.ref b2), (.ref a1)])) rfl rfl (hb hby d1_15)
  refine Gl.pre (fun _ k => st4 _ k) ?_
  have E_a1 := E_a1.wr W4
  have F_spare_a1 := F_spare_a1.same W4
  have F_idle_a1 := F_idle_a1.other W4 (Or.inr (slot_ne (Or.inr (W 52 rfl)) (Or.inr (W 20 rfl)) (by decide) (t := (.object "io/heapwire/IdleRoom")) (t' := (.object "io/heapwire/SpareRoom")) (by decide) (by decide)))
  have F_bytes_a1 := F_bytes_a1.other W4 (Or.inr (slot_ne (Or.inl (W 54 rfl)) (Or.inr (W 20 rfl)) (by decide) (t := (.array .byte)) (t' := (.object "io/heapwire/SpareRoom")) (by decide) (by decide)))
  have F_position_a1 := F_position_a1.other W4 (Or.inr (slot_ne (Or.inl (W 56 rfl)) (Or.inr (W 20 rfl)) (by decide) (t := .int) (t' := (.object "io/heapwire/SpareRoom")) (by decide) (by decide)))
  have E_b2 := E_b2.wr W4
  have Z4 : n0 ≤ h4.size := by rw [W4.size]; exact Z3
  have N4 := Fr.snoc X4 N3 g_a1
  have K4 := K3k.wr W4 (Or.inl (List.mem_of_getElem? (i := 0) rfl))
  refine Y.aloadN X4 hx (hb hby d1_18) rfl rfl ?_
  obtain ⟨T5, h5, X5, e5, E5, A5, D5, -, st5⟩ := newO X4 hx hZ hown (W 21 rfl) (W 22 rfl) (W 23 rfl) e4 (g := (mkF m 19 #[.val (.ref a1)] [(.ref a1)])) rfl (hb hby d1_19) (by decide) (by decide)
  obtain ⟨b5, g5⟩ : ∃ z, z = h4.size := ⟨_, rfl⟩
  rw [← g5] at A5 D5 st5
  refine Gl.pre (fun _ k => st5 _ k) ?_
  have own_ne_a1_b5 : a1 ≠ b5 := by have q := E_a1.lt; rw [g5]; exact Nat.ne_of_lt q
  have own_ne_b5_a1 : b5 ≠ a1 := own_ne_a1_b5.symm
  have own_ne_b2_b5 : b2 ≠ b5 := by have q := E_b2.lt; rw [g5]; exact Nat.ne_of_lt q
  have own_ne_b5_b2 : b5 ≠ b2 := own_ne_b2_b5.symm
  have g_b5 : n0 ≤ b5 := Nat.le_trans Z4 (Nat.le_of_eq g5.symm)
  have sz_b5 : h0.size ≤ b5 := Nat.le_trans K4.1 (Nat.le_of_eq g5.symm)
  have E_a1 := E_a1.ext E5
  have F_spare_a1 := F_spare_a1.ext E5
  have F_idle_a1 := F_idle_a1.ext E5
  have F_bytes_a1 := F_bytes_a1.ext E5
  have F_position_a1 := F_position_a1.ext E5
  have E_b2 := E_b2.ext E5
  have Z5 : n0 ≤ h5.size := Nat.le_trans Z4 E5.1
  have K5 := K4.ext E5
  have E_b5 := A5
  have F_held_b5 : Fld Z h5 b5 "io/heapwire/IdleRoom" "held" "Ljava/util/concurrent/atomic/AtomicReference;" .null := D5 (Or.inr (W 39 rfl)) (ty := (.object "java/util/concurrent/atomic/AtomicReference")) (by decide)
  have F_looking_b5 : Fld Z h5 b5 "io/heapwire/IdleRoom" "looking" "Ljava/util/concurrent/atomic/AtomicBoolean;" .null := D5 (Or.inr (W 48 rfl)) (ty := (.object "java/util/concurrent/atomic/AtomicBoolean")) (by decide)
  have F_letGo_b5 : Fld Z h5 b5 "io/heapwire/IdleRoom" "letGo" "Ljava/util/function/UnaryOperator;" .null := D5 (Or.inr (W 50 rfl)) (ty := (.object "java/util/function/UnaryOperator")) (by decide)
  refine Y.dup X5 hx (hb hby d1_22) rfl rfl ?_
  obtain ⟨kl, il, pl, la, hkl, hsl⟩ := own_lam rfl hZ (W 24 rfl) Bd.named
  refine Gl.pre (fun _ k => X5.lambdaConstant hx (g := (mkF m 23 #[.val (.ref a1)] [(.ref b5), (.ref b5), (.ref a1)])) rfl (by rw [hml]; rfl) (hb hby d1_23) hkl hsl (by rw [X5.admits.platform]; show 2 * 0 + 3 + 3072 ≤ _; exact Nat.le_of_ble_eq_true rfl) k) ?_
  show Gl p.tables e below PP (T5.setTop (mkF m 28 #[.val (.ref a1)] [(.ref la), (.ref b5), (.ref b5), (.ref a1)]))
  obtain ⟨_, _, ⟨T7, L7, k7, n7⟩, -, X7, ⟨Lc7, hQ7, l7, y7, z7⟩, st7⟩ := X5.specialBack hx (y := (⟨"io/heapwire/IdleRoom", "<init>", "(Ljava/util/function/UnaryOperator;)V"⟩ : MethodName)) rfl hown (mvT hZ (W 27 rfl)) (mvT hZ (W 28 rfl)) (mvT hZ (W 29 rfl)) (by decide) (backOf (W := 2) (rm4 l Z a0 hw [] b5 la h5 n0 Z5 E_b5 F_held_b5 F_looking_b5 F_letGo_b5 g_b5) hZ (W 29 rfl) (W 23 rfl) (by decide) (by decide)) (g := (mkF m 28 #[.val (.ref a1)] [(.ref la), (.ref b5), (.ref b5), (.ref a1)])) rfl (by rw [hml]; rfl) (Steps.refl _) (a := b5) (argsL := [(.ref la)]) (rest := [(.ref b5), (.ref a1)]) (lenOf pd_2 rfl) rfl (by show 2 * 0 + _ ≤ _; exact Nat.le_of_eq rfl) (hb hby d1_28) (fun _ _ => ⟨rfl, e5, (by decide : 2 + 2 ≤ _), (by decide : 8 + 2 ≤ _)⟩)
  dsimp only [Pt.U, Pt.locs, Pt.cells, Pt.slots] at X7 l7 y7 z7 st7 hQ7
  rewrite [l7, y7, z7] at X7
  obtain ⟨rfl, N7q, K7⟩ := hQ7
  have N7 := Fr.app N4 N7q
  refine Gl.pre (fun _ k => st7.trans k) ?_
  have E_a1 := E_a1.keep K7
  have F_spare_a1 := F_spare_a1.keep K7 (ninS (own_ne_a1_b5) nin0)
  have F_idle_a1 := F_idle_a1.keep K7 (ninS (own_ne_a1_b5) nin0)
  have F_bytes_a1 := F_bytes_a1.keep K7 (ninS (own_ne_a1_b5) nin0)
  have F_position_a1 := F_position_a1.keep K7 (ninS (own_ne_a1_b5) nin0)
  have E_b2 := E_b2.keep K7
  have E_b5 := E_b5.keep K7
  have Z7 : n0 ≤ T7.heap.size := Nat.le_trans Z5 K7.1
  have K7k := K5.trans K7 (allS (Or.inr sz_b5) all0)
  obtain ⟨T8, h8, X8, e8, W8, st8⟩ := putF X7 hx hZ hown (host := "") (Or.inl (W 51 rfl)) Via.refl rfl F_idle_a1 E_a1 (Or.inr ⟨(W 52 rfl), rfl, hnm⟩) (W 2 rfl) (ty := (.object "io/heapwire/IdleRoom")) (by decide) rfl rfl (g := (mkF m 31 #[.val (.ref a1)] [(.ref b5), (.ref a1)])) rfl rfl (hb hby d1_31)
  refine Gl.pre (fun _ k => st8 _ k) ?_
  have E_a1 := E_a1.wr W8
  have F_spare_a1 := F_spare_a1.other W8 (Or.inr (slot_ne (Or.inr (W 20 rfl)) (Or.inr (W 52 rfl)) (by decide) (t := (.object "io/heapwire/SpareRoom")) (t' := (.object "io/heapwire/IdleRoom")) (by decide) (by decide)))
  have F_idle_a1 := F_idle_a1.same W8
  have F_bytes_a1 := F_bytes_a1.other W8 (Or.inr (slot_ne (Or.inl (W 54 rfl)) (Or.inr (W 52 rfl)) (by decide) (t := (.array .byte)) (t' := (.object "io/heapwire/IdleRoom")) (by decide) (by decide)))
  have F_position_a1 := F_position_a1.other W8 (Or.inr (slot_ne (Or.inl (W 56 rfl)) (Or.inr (W 52 rfl)) (by decide) (t := .int) (t' := (.object "io/heapwire/IdleRoom")) (by decide) (by decide)))
  have E_b2 := E_b2.wr W8
  have E_b5 := E_b5.wr W8
  have Z8 : n0 ≤ h8.size := by rw [W8.size]; exact Z7
  have N8 := Fr.snoc X8 N7 g_a1
  have K8 := K7k.wr W8 (Or.inl (List.mem_of_getElem? (i := 0) rfl))
  rw [hPP]
  refine own_finV (Q := (Q1 Z a1 h0 n0)) X8 hx hlk Bd.returns (hb hby d1_34) ?_ (by decide) (by decide)
  show Q1 Z a1 h0 n0 _ T8.heap _
  rw [e8]
  exact ⟨rfl, N8, K8, F_bytes_a1, F_position_a1⟩
theorem d7_0 : decode prog_30_method_12_code 0 = .ok (.lload_n 1, 1) := by decide +kernel
theorem d7_1 : decode prog_30_method_12_code 1 = .ok (.lstore_n 3, 1) := by decide +kernel
theorem d7_2 : decode prog_30_method_12_code 2 = .ok (.lload_n 3, 1) := by decide +kernel
theorem d7_3 : decode prog_30_method_12_code 3 = .ok (.ldc2_w 119, 3) := by decide +kernel
theorem d7_6 : decode prog_30_method_12_code 6 = .ok (.land, 1) := by decide +kernel
theorem d7_7 : decode prog_30_method_12_code 7 = .ok (.lconst 0, 1) := by decide +kernel
theorem d7_8 : decode prog_30_method_12_code 8 = .ok (.lcmp, 1) := by decide +kernel
theorem d7_9 : decode prog_30_method_12_code 9 = .ok (.ifCond .eq 38, 3) := by decide +kernel
theorem d7_12 : decode prog_30_method_12_code 12 = .ok (.aload_n 0, 1) := by decide +kernel
theorem d7_13 : decode prog_30_method_12_code 13 = .ok (.getfield 46, 3) := by decide +kernel
theorem d7_16 : decode prog_30_method_12_code 16 = .ok (.aload_n 0, 1) := by decide +kernel
theorem d7_17 : decode prog_30_method_12_code 17 = .ok (.dup, 1) := by decide +kernel
theorem d7_18 : decode prog_30_method_12_code 18 = .ok (.getfield 62, 3) := by decide +kernel
theorem d7_21 : decode prog_30_method_12_code 21 = .ok (.dup_x1, 1) := by decide +kernel
theorem d7_22 : decode prog_30_method_12_code 22 = .ok (.iconst 1, 1) := by decide +kernel
theorem d7_23 : decode prog_30_method_12_code 23 = .ok (.iadd, 1) := by decide +kernel
theorem d7_24 : decode prog_30_method_12_code 24 = .ok (.putfield 62, 3) := by decide +kernel
theorem d7_27 : decode prog_30_method_12_code 27 = .ok (.lload_n 3, 1) := by decide +kernel
theorem d7_28 : decode prog_30_method_12_code 28 = .ok (.ldc2_w 121, 3) := by decide +kernel
theorem d7_31 : decode prog_30_method_12_code 31 = .ok (.land, 1) := by decide +kernel
theorem d7_32 : decode prog_30_method_12_code 32 = .ok (.ldc2_w 123, 3) := by decide +kernel
theorem d7_35 : decode prog_30_method_12_code 35 = .ok (.lor, 1) := by decide +kernel
theorem d7_36 : decode prog_30_method_12_code 36 = .ok (.l2i, 1) := by decide +kernel
theorem d7_37 : decode prog_30_method_12_code 37 = .ok (.i2b, 1) := by decide +kernel
theorem d7_38 : decode prog_30_method_12_code 38 = .ok (.bastore, 1) := by decide +kernel
theorem d7_39 : decode prog_30_method_12_code 39 = .ok (.lload_n 3, 1) := by decide +kernel
theorem d7_40 : decode prog_30_method_12_code 40 = .ok (.bipush 7, 2) := by decide +kernel
theorem d7_42 : decode prog_30_method_12_code 42 = .ok (.lushr, 1) := by decide +kernel
theorem d7_43 : decode prog_30_method_12_code 43 = .ok (.lstore_n 3, 1) := by decide +kernel
theorem d7_44 : decode prog_30_method_12_code 44 = .ok (.goto (-42), 3) := by decide +kernel
theorem d7_47 : decode prog_30_method_12_code 47 = .ok (.aload_n 0, 1) := by decide +kernel
theorem d7_48 : decode prog_30_method_12_code 48 = .ok (.getfield 46, 3) := by decide +kernel
theorem d7_51 : decode prog_30_method_12_code 51 = .ok (.aload_n 0, 1) := by decide +kernel
theorem d7_52 : decode prog_30_method_12_code 52 = .ok (.dup, 1) := by decide +kernel
theorem d7_53 : decode prog_30_method_12_code 53 = .ok (.getfield 62, 3) := by decide +kernel
theorem d7_56 : decode prog_30_method_12_code 56 = .ok (.dup_x1, 1) := by decide +kernel
theorem d7_57 : decode prog_30_method_12_code 57 = .ok (.iconst 1, 1) := by decide +kernel
theorem d7_58 : decode prog_30_method_12_code 58 = .ok (.iadd, 1) := by decide +kernel
theorem d7_59 : decode prog_30_method_12_code 59 = .ok (.putfield 62, 3) := by decide +kernel
theorem d7_62 : decode prog_30_method_12_code 62 = .ok (.lload_n 3, 1) := by decide +kernel
theorem d7_63 : decode prog_30_method_12_code 63 = .ok (.l2i, 1) := by decide +kernel
theorem d7_64 : decode prog_30_method_12_code 64 = .ok (.i2b, 1) := by decide +kernel
theorem d7_65 : decode prog_30_method_12_code 65 = .ok (.bastore, 1) := by decide +kernel
theorem d7_66 : decode prog_30_method_12_code 66 = .ok (.return_, 1) := by decide +kernel
theorem pn_7 : plainName "io/heapwire/FrameOutput" = true := by first | (simp [plainName, overriddenIn]; done) | decide +kernel
theorem ef_7 (m : MethodId) (a1 : Addr) (q : Int64) (ba : Addr) (pp : Int32) (xs : List Int32) : entryFrame m #[(.ref a1), (.long q)] 5 = mkF m 0 #[.val (.ref a1), .val (.long q), .second, .unset, .unset] [] := by first | (simp [entryFrame, mkF, argsToLocals, Value.category]; done) | rfl
def Q7 (Z : State) (a1 : Addr) (q : Int64) (ba : Addr) (pp : Int32) (xs : List Int32) (h0 : Heap) (n0 : Nat) (v : Option Value) (h : Heap) (L : List Loc) : Prop := v = none ∧ Fr n0 L ∧ Keep h0 h [a1, ba] ∧ Fld Z h a1 "io/heapwire/FrameOutput" "bytes" "[B" (.ref ba) ∧ Fld Z h a1 "io/heapwire/FrameOutput" "position" "I" (.int (own_vr pp q)) ∧ Bal Z h ba .byte (own_vl xs pp q)
set_option maxRecDepth 65536 in
set_option maxHeartbeats 40000000 in
theorem rm7 (l : Launch) (Z : State) (a0 : Array Value) (hw : ∀ d ∈ tables_1, d.before a0 Z = true) (ws : List Jvm.Cond) (a1 : Addr) (q : Int64) (ba : Addr) (pp : Int32) (xs : List Int32) (h0 : Heap) (n0 : Nat) (Z0 : n0 ≤ h0.size) (E_a1 : Exa Z h0 a1 "io/heapwire/FrameOutput") (F_bytes_a1 : Fld Z h0 a1 "io/heapwire/FrameOutput" "bytes" "[B" (.ref ba)) (F_position_a1 : Fld Z h0 a1 "io/heapwire/FrameOutput" "position" "I" (.int pp)) (V_ba : Bal Z h0 ba .byte xs) (g_a1 : n0 ≤ a1) (g_ba : n0 ≤ ba) (own_ne_a1_ba : a1 ≠ ba) (own_ne_ba_a1 : ba ≠ a1) (hp : pp = 0 ∨ pp = 1 ∨ pp = 2 ∨ pp = 3) (hlen : xs.length = 14) :
    MetFree l (⟨"io/heapwire/FrameOutput", "putVarlong", "(J)V"⟩ : MethodName) (head1 (Jvm.Cond.code (⟨"io/heapwire/FrameOutput", "putVarlong", "(J)V"⟩ : MethodName) prog_30_method_12_code 5 none :: ws) ({ frames := 0, cells := 0, slots := 0, locals := 0 } : Room)) (fun a U => a = #[(.ref a1), (.long q)] ∧ Z.Warmed39 U.vm ∧ U.heap = h0) (fun _ _ _ _ _ => True) (fun _ U o U' => ∃ v L, o = .returned v ∧ Q7 Z a1 q ba pp xs h0 n0 v U'.heap L ∧ FrameEnd U o U' L ({ frames := 0, cells := 0, slots := 0, locals := 0 } : Room).cells ({ frames := 0, cells := 0, slots := 0, locals := 0 } : Room).slots) := by
  have W := @own_wd Z a0 hw
  refine MetFree.of_bodySF (plainFor_of_name pn_7) hisR ?_
  intro p e s m args below meth c s₁ Bd hml0 hP hK
  obtain ⟨rfl, hZ, hh⟩ := hP
  have hx := Bd.exec
  have hby := Bd.bytes
  have hlk : meth.locks = false := BodyLoose.notSynchronized Bd
  have hml : c.maxLocals = 5 := hml0
  have hown : s.vm.findClass "io/heapwire/FrameOutput" = some m.cls := findClass_of_methodNamed Bd.named
  have hnm := (name_of_methodNamed Bd.named Bd.method).1
  have X0 : Stand p l e ({ frames := 0, cells := 0, slots := 0, locals := 0 } : Room) s m #[(.ref a1), (.long q)] below meth c s₁ [] 0 0 := Stand.of_body Bd
  have e0 : s₁.heap = h0 := by rw [← hh, Bd.state]; rfl
  have N0 := Fr.nil n0
  show Gl p.tables e below _ _
  refine Gl.pre (fun t k => castTop (ef_7 m a1 q ba pp xs) k) ?_
  refine Gl.gen (fun PP hPP => ?_)
  have K0 : Keep h0 h0 [a1, ba] := Keep.refl h0 _
  show Gl p.tables e below PP (s₁.setTop (mkF m 0 #[.val (.ref a1), .val (.long q), .second, .unset, .unset] []))
  refine Y.lloadN X0 hx (hb hby d7_0) rfl ?_
  refine Y.lstoreN X0 hx (hb hby d7_1) rfl (l' := #[.val (.ref a1), .val (.long q), .second, .val (.long q), .second]) rfl ?_
  refine Y.lloadN X0 hx (hb hby d7_2) rfl ?_
  refine Gl.pre (fun _ k => X0.ldc2Long hx hown (mvT hZ (W 62 rfl)) (g := (mkF m 3 #[.val (.ref a1), .val (.long q), .second, .val (.long q), .second] [(.long q)])) rfl (hb hby d7_3) _ k) ?_
  refine Y.land X0 hx (hb hby d7_6) rfl ?_
  refine Y.lconst X0 hx (hb hby d7_7) ?_
  refine Y.lcmp X0 hx (hb hby d7_8) rfl ?_
  by_cases hc1 : (q &&& (-128 : Int64)) = (0 : Int64)
  refine Y.ifYes X0 hx (pc0 := 9) (pc' := 47) rfl (hb hby d7_9) rfl ((if0 _ _).trans (teq ((lw_eq (q &&& (-128 : Int64)) (0 : Int64)).mpr hc1)).1) (by decide) (by decide) ?_
  refine Y.aloadN X0 hx (hb hby d7_47) rfl rfl ?_
  obtain ⟨T2, X2, e2, st2⟩ := getF X0 hx hZ hown (host := "") (Or.inl (W 63 rfl)) Via.refl e0 F_bytes_a1 (g := (mkF m 48 #[.val (.ref a1), .val (.long q), .second, .val (.long q), .second] [(.ref a1)])) rfl rfl (hb hby d7_48)
  refine Gl.pre (fun _ k => st2 _ k) ?_
  refine Y.aloadN X2 hx (hb hby d7_51) rfl rfl ?_
  refine Y.dup X2 hx (hb hby d7_52) rfl rfl ?_
  obtain ⟨T3, X3, e3, st3⟩ := getF X2 hx hZ hown (host := "") (Or.inl (W 64 rfl)) Via.refl e2 F_position_a1 (g := (mkF m 53 #[.val (.ref a1), .val (.long q), .second, .val (.long q), .second] [(.ref a1), (.ref a1), (.ref ba)])) rfl rfl (hb hby d7_53)
  refine Gl.pre (fun _ k => st3 _ k) ?_
  refine Y.dupX1 X3 hx (hb hby d7_56) rfl rfl rfl ?_
  refine Y.iconst X3 hx (hb hby d7_57) ?_
  refine Y.iadd X3 hx (hb hby d7_58) rfl ?_
  obtain ⟨T4, h4, X4, e4, W4, st4⟩ := putF X3 hx hZ hown (host := "") (Or.inl (W 64 rfl)) Via.refl e3 F_position_a1 E_a1 (Or.inl (W 56 rfl)) (W 2 rfl) (ty := .int) (by decide) rfl rfl (g := (mkF m 59 #[.val (.ref a1), .val (.long q), .second, .val (.long q), .second] [(.int (pp + (1 : Int32))), (.ref a1), (.int pp), (.ref ba)])) rfl rfl (hb hby d7_59)
  refine Gl.pre (fun _ k => st4 _ k) ?_
  have E_a1 := E_a1.wr W4
  have F_bytes_a1 := F_bytes_a1.other W4 (Or.inr (slot_ne (Or.inl (W 54 rfl)) (Or.inl (W 56 rfl)) (by decide) (t := (.array .byte)) (t' := .int) (by decide) (by decide)))
  have F_position_a1 := F_position_a1.same W4
  have V_ba := V_ba.other W4 (own_ne_ba_a1)
  have Z4 : n0 ≤ h4.size := by rw [W4.size]; exact Z0
  have N4 := Fr.snoc X4 N0 g_a1
  have K4 := K0.wr W4 (Or.inl (List.mem_of_getElem? (i := 0) rfl))
  refine Y.lloadN X4 hx (hb hby d7_62) rfl ?_
  refine Y.l2i X4 hx (hb hby d7_63) rfl ?_
  refine Y.i2b X4 hx (hb hby d7_64) rfl ?_
  obtain ⟨T5, h5, X5, e5, W5, V5, st5⟩ := own_stB X4 hx hZ e4 V_ba (j := pp) (i := (pp).toNatClampNeg) (own_nn0 hp) rfl (Nat.lt_of_lt_of_eq (own_lt0 hp) (by simp only [List.length_set, hlen])) (g := (mkF m 65 #[.val (.ref a1), .val (.long q), .second, .val (.long q), .second] [(.int ((q.toInt32).toInt8.toInt32)), (.int pp), (.ref ba)])) rfl rfl (hb hby d7_65)
  refine Gl.pre (fun _ k => st5 _ k) ?_
  have E_a1 := E_a1.wr W5
  have F_bytes_a1 := F_bytes_a1.other W5 (Or.inl (own_ne_a1_ba))
  have F_position_a1 := F_position_a1.other W5 (Or.inl (own_ne_a1_ba))
  have Z5 : n0 ≤ h5.size := by rw [W5.size]; exact Z4
  have N5 := Fr.snoc X5 N4 g_ba
  have K5 := K4.wr W5 (Or.inl (List.mem_of_getElem? (i := 1) rfl))
  have V_ba := V5
  rw [hPP]
  refine own_finV (Q := (Q7 Z a1 q ba pp xs h0 n0)) X5 hx hlk Bd.returns (hb hby d7_66) ?_ (by decide) (by decide)
  show Q7 Z a1 q ba pp xs h0 n0 _ T5.heap _
  rw [e5]
  refine ⟨rfl, N5, K5, F_bytes_a1, ?_, ?_⟩
  rw [own_vr, if_pos hc1]; exact F_position_a1
  rw [own_vl, if_pos hc1]; exact V_ba
  refine Y.ifNo X0 hx (hb hby d7_9) rfl ((if0 _ _).trans (feq (mt (lw_eq (q &&& (-128 : Int64)) (0 : Int64)).mp hc1)).1) ?_
  refine Y.aloadN X0 hx (hb hby d7_12) rfl rfl ?_
  obtain ⟨T6, X6, e6, st6⟩ := getF X0 hx hZ hown (host := "") (Or.inl (W 63 rfl)) Via.refl e0 F_bytes_a1 (g := (mkF m 13 #[.val (.ref a1), .val (.long q), .second, .val (.long q), .second] [(.ref a1)])) rfl rfl (hb hby d7_13)
  refine Gl.pre (fun _ k => st6 _ k) ?_
  refine Y.aloadN X6 hx (hb hby d7_16) rfl rfl ?_
  refine Y.dup X6 hx (hb hby d7_17) rfl rfl ?_
  obtain ⟨T7, X7, e7, st7⟩ := getF X6 hx hZ hown (host := "") (Or.inl (W 64 rfl)) Via.refl e6 F_position_a1 (g := (mkF m 18 #[.val (.ref a1), .val (.long q), .second, .val (.long q), .second] [(.ref a1), (.ref a1), (.ref ba)])) rfl rfl (hb hby d7_18)
  refine Gl.pre (fun _ k => st7 _ k) ?_
  refine Y.dupX1 X7 hx (hb hby d7_21) rfl rfl rfl ?_
  refine Y.iconst X7 hx (hb hby d7_22) ?_
  refine Y.iadd X7 hx (hb hby d7_23) rfl ?_
  obtain ⟨T8, h8, X8, e8, W8, st8⟩ := putF X7 hx hZ hown (host := "") (Or.inl (W 64 rfl)) Via.refl e7 F_position_a1 E_a1 (Or.inl (W 56 rfl)) (W 2 rfl) (ty := .int) (by decide) rfl rfl (g := (mkF m 24 #[.val (.ref a1), .val (.long q), .second, .val (.long q), .second] [(.int (pp + (1 : Int32))), (.ref a1), (.int pp), (.ref ba)])) rfl rfl (hb hby d7_24)
  refine Gl.pre (fun _ k => st8 _ k) ?_
  have E_a1 := E_a1.wr W8
  have F_bytes_a1 := F_bytes_a1.other W8 (Or.inr (slot_ne (Or.inl (W 54 rfl)) (Or.inl (W 56 rfl)) (by decide) (t := (.array .byte)) (t' := .int) (by decide) (by decide)))
  have F_position_a1 := F_position_a1.same W8
  have V_ba := V_ba.other W8 (own_ne_ba_a1)
  have Z8 : n0 ≤ h8.size := by rw [W8.size]; exact Z0
  have N8 := Fr.snoc X8 N0 g_a1
  have K8 := K0.wr W8 (Or.inl (List.mem_of_getElem? (i := 0) rfl))
  refine Y.lloadN X8 hx (hb hby d7_27) rfl ?_
  refine Gl.pre (fun _ k => X8.ldc2Long hx hown (mvT hZ (W 72 rfl)) (g := (mkF m 28 #[.val (.ref a1), .val (.long q), .second, .val (.long q), .second] [(.long q), (.int pp), (.ref ba)])) rfl (hb hby d7_28) _ k) ?_
  refine Y.land X8 hx (hb hby d7_31) rfl ?_
  refine Gl.pre (fun _ k => X8.ldc2Long hx hown (mvT hZ (W 73 rfl)) (g := (mkF m 32 #[.val (.ref a1), .val (.long q), .second, .val (.long q), .second] [(.long (q &&& (127 : Int64))), (.int pp), (.ref ba)])) rfl (hb hby d7_32) _ k) ?_
  refine Y.lor X8 hx (hb hby d7_35) rfl ?_
  refine Y.l2i X8 hx (hb hby d7_36) rfl ?_
  refine Y.i2b X8 hx (hb hby d7_37) rfl ?_
  obtain ⟨T9, h9, X9, e9, W9, V9, st9⟩ := own_stB X8 hx hZ e8 V_ba (j := pp) (i := (pp).toNatClampNeg) (own_nn0 hp) rfl (Nat.lt_of_lt_of_eq (own_lt0 hp) (by simp only [List.length_set, hlen])) (g := (mkF m 38 #[.val (.ref a1), .val (.long q), .second, .val (.long q), .second] [(.int ((((q &&& (127 : Int64)) ||| (128 : Int64)).toInt32).toInt8.toInt32)), (.int pp), (.ref ba)])) rfl rfl (hb hby d7_38)
  refine Gl.pre (fun _ k => st9 _ k) ?_
  have E_a1 := E_a1.wr W9
  have F_bytes_a1 := F_bytes_a1.other W9 (Or.inl (own_ne_a1_ba))
  have F_position_a1 := F_position_a1.other W9 (Or.inl (own_ne_a1_ba))
  have Z9 : n0 ≤ h9.size := by rw [W9.size]; exact Z8
  have N9 := Fr.snoc X9 N8 g_ba
  have K9 := K8.wr W9 (Or.inl (List.mem_of_getElem? (i := 1) rfl))
  have V_ba := V9
  refine Y.lloadN X9 hx (hb hby d7_39) rfl ?_
  refine Y.bipush X9 hx (hb hby d7_40) ?_
  refine Y.lushr X9 hx (hb hby d7_42) rfl ?_
  show Gl p.tables e below PP (T9.setTop (mkF m 43 #[.val (.ref a1), .val (.long q), .second, .val (.long q), .second] [(.long (own_ushrL q (7 : Int32)))]))
  obtain ⟨u10, hu10⟩ : ∃ z : Int64, z = (own_ushrL q (7 : Int32)) := ⟨_, rfl⟩
  rw [← hu10]
  show Gl p.tables e below PP (T9.setTop (mkF m 43 #[.val (.ref a1), .val (.long q), .second, .val (.long q), .second] [(.long u10)]))
  refine Y.lstoreN X9 hx (hb hby d7_43) rfl (l' := #[.val (.ref a1), .val (.long q), .second, .val (.long u10), .second]) rfl ?_
  refine Y.goto X9 hx (pc0 := 44) (pc' := 2) rfl (hb hby d7_44) (by decide) (by decide) ?_
  refine Y.lloadN X9 hx (hb hby d7_2) rfl ?_
  refine Gl.pre (fun _ k => X9.ldc2Long hx hown (mvT hZ (W 62 rfl)) (g := (mkF m 3 #[.val (.ref a1), .val (.long q), .second, .val (.long u10), .second] [(.long u10)])) rfl (hb hby d7_3) _ k) ?_
  refine Y.land X9 hx (hb hby d7_6) rfl ?_
  refine Y.lconst X9 hx (hb hby d7_7) ?_
  refine Y.lcmp X9 hx (hb hby d7_8) rfl ?_
  by_cases hc11 : (u10 &&& (-128 : Int64)) = (0 : Int64)
  refine Y.ifYes X9 hx (pc0 := 9) (pc' := 47) rfl (hb hby d7_9) rfl ((if0 _ _).trans (teq ((lw_eq (u10 &&& (-128 : Int64)) (0 : Int64)).mpr hc11)).1) (by decide) (by decide) ?_
  refine Y.aloadN X9 hx (hb hby d7_47) rfl rfl ?_
  obtain ⟨T12, X12, e12, st12⟩ := getF X9 hx hZ hown (host := "") (Or.inl (W 63 rfl)) Via.refl e9 F_bytes_a1 (g := (mkF m 48 #[.val (.ref a1), .val (.long q), .second, .val (.long u10), .second] [(.ref a1)])) rfl rfl (hb hby d7_48)
  refine Gl.pre (fun _ k => st12 _ k) ?_
  refine Y.aloadN X12 hx (hb hby d7_51) rfl rfl ?_
  refine Y.dup X12 hx (hb hby d7_52) rfl rfl ?_
  obtain ⟨T13, X13, e13, st13⟩ := getF X12 hx hZ hown (host := "") (Or.inl (W 64 rfl)) Via.refl e12 F_position_a1 (g := (mkF m 53 #[.val (.ref a1), .val (.long q), .second, .val (.long u10), .second] [(.ref a1), (.ref a1), (.ref ba)])) rfl rfl (hb hby d7_53)
  refine Gl.pre (fun _ k => st13 _ k) ?_
  refine Y.dupX1 X13 hx (hb hby d7_56) rfl rfl rfl ?_
  refine Y.iconst X13 hx (hb hby d7_57) ?_
  refine Y.iadd X13 hx (hb hby d7_58) rfl ?_
  obtain ⟨T14, h14, X14, e14, W14, st14⟩ := putF X13 hx hZ hown (host := "") (Or.inl (W 64 rfl)) Via.refl e13 F_position_a1 E_a1 (Or.inl (W 56 rfl)) (W 2 rfl) (ty := .int) (by decide) rfl rfl (g := (mkF m 59 #[.val (.ref a1), .val (.long q), .second, .val (.long u10), .second] [(.int ((pp + (1 : Int32)) + (1 : Int32))), (.ref a1), (.int (pp + (1 : Int32))), (.ref ba)])) rfl rfl (hb hby d7_59)
  refine Gl.pre (fun _ k => st14 _ k) ?_
  have E_a1 := E_a1.wr W14
  have F_bytes_a1 := F_bytes_a1.other W14 (Or.inr (slot_ne (Or.inl (W 54 rfl)) (Or.inl (W 56 rfl)) (by decide) (t := (.array .byte)) (t' := .int) (by decide) (by decide)))
  have F_position_a1 := F_position_a1.same W14
  have V_ba := V_ba.other W14 (own_ne_ba_a1)
  have Z14 : n0 ≤ h14.size := by rw [W14.size]; exact Z9
  have N14 := Fr.snoc X14 N9 g_a1
  have K14 := K9.wr W14 (Or.inl (List.mem_of_getElem? (i := 0) rfl))
  refine Y.lloadN X14 hx (hb hby d7_62) rfl ?_
  refine Y.l2i X14 hx (hb hby d7_63) rfl ?_
  refine Y.i2b X14 hx (hb hby d7_64) rfl ?_
  obtain ⟨T15, h15, X15, e15, W15, V15, st15⟩ := own_stB X14 hx hZ e14 V_ba (j := (pp + (1 : Int32))) (i := ((pp + (1 : Int32))).toNatClampNeg) (own_nn1 hp) rfl (Nat.lt_of_lt_of_eq (own_lt1 hp) (by simp only [List.length_set, hlen])) (g := (mkF m 65 #[.val (.ref a1), .val (.long q), .second, .val (.long u10), .second] [(.int ((u10.toInt32).toInt8.toInt32)), (.int (pp + (1 : Int32))), (.ref ba)])) rfl rfl (hb hby d7_65)
  refine Gl.pre (fun _ k => st15 _ k) ?_
  have E_a1 := E_a1.wr W15
  have F_bytes_a1 := F_bytes_a1.other W15 (Or.inl (own_ne_a1_ba))
  have F_position_a1 := F_position_a1.other W15 (Or.inl (own_ne_a1_ba))
  have Z15 : n0 ≤ h15.size := by rw [W15.size]; exact Z14
  have N15 := Fr.snoc X15 N14 g_ba
  have K15 := K14.wr W15 (Or.inl (List.mem_of_getElem? (i := 1) rfl))
  have V_ba := V15
  rw [hPP]
  refine own_finV (Q := (Q7 Z a1 q ba pp xs h0 n0)) X15 hx hlk Bd.returns (hb hby d7_66) ?_ (by decide) (by decide)
  show Q7 Z a1 q ba pp xs h0 n0 _ T15.heap _
  rw [e15]
  subst hu10
  refine ⟨rfl, N15, K15, F_bytes_a1, ?_, ?_⟩
  rw [own_vr, if_neg hc1, if_pos hc11]; exact F_position_a1
  rw [own_vl, if_neg hc1, if_pos hc11]; exact V_ba
  refine Y.ifNo X9 hx (hb hby d7_9) rfl ((if0 _ _).trans (feq (mt (lw_eq (u10 &&& (-128 : Int64)) (0 : Int64)).mp hc11)).1) ?_
  refine Y.aloadN X9 hx (hb hby d7_12) rfl rfl ?_
  obtain ⟨T16, X16, e16, st16⟩ := getF X9 hx hZ hown (host := "") (Or.inl (W 63 rfl)) Via.refl e9 F_bytes_a1 (g := (mkF m 13 #[.val (.ref a1), .val (.long q), .second, .val (.long u10), .second] [(.ref a1)])) rfl rfl (hb hby d7_13)
  refine Gl.pre (fun _ k => st16 _ k) ?_
  refine Y.aloadN X16 hx (hb hby d7_16) rfl rfl ?_
  refine Y.dup X16 hx (hb hby d7_17) rfl rfl ?_
  obtain ⟨T17, X17, e17, st17⟩ := getF X16 hx hZ hown (host := "") (Or.inl (W 64 rfl)) Via.refl e16 F_position_a1 (g := (mkF m 18 #[.val (.ref a1), .val (.long q), .second, .val (.long u10), .second] [(.ref a1), (.ref a1), (.ref ba)])) rfl rfl (hb hby d7_18)
  refine Gl.pre (fun _ k => st17 _ k) ?_
  refine Y.dupX1 X17 hx (hb hby d7_21) rfl rfl rfl ?_
  refine Y.iconst X17 hx (hb hby d7_22) ?_
  refine Y.iadd X17 hx (hb hby d7_23) rfl ?_
  obtain ⟨T18, h18, X18, e18, W18, st18⟩ := putF X17 hx hZ hown (host := "") (Or.inl (W 64 rfl)) Via.refl e17 F_position_a1 E_a1 (Or.inl (W 56 rfl)) (W 2 rfl) (ty := .int) (by decide) rfl rfl (g := (mkF m 24 #[.val (.ref a1), .val (.long q), .second, .val (.long u10), .second] [(.int ((pp + (1 : Int32)) + (1 : Int32))), (.ref a1), (.int (pp + (1 : Int32))), (.ref ba)])) rfl rfl (hb hby d7_24)
  refine Gl.pre (fun _ k => st18 _ k) ?_
  have E_a1 := E_a1.wr W18
  have F_bytes_a1 := F_bytes_a1.other W18 (Or.inr (slot_ne (Or.inl (W 54 rfl)) (Or.inl (W 56 rfl)) (by decide) (t := (.array .byte)) (t' := .int) (by decide) (by decide)))
  have F_position_a1 := F_position_a1.same W18
  have V_ba := V_ba.other W18 (own_ne_ba_a1)
  have Z18 : n0 ≤ h18.size := by rw [W18.size]; exact Z9
  have N18 := Fr.snoc X18 N9 g_a1
  have K18 := K9.wr W18 (Or.inl (List.mem_of_getElem? (i := 0) rfl))
  refine Y.lloadN X18 hx (hb hby d7_27) rfl ?_
  refine Gl.pre (fun _ k => X18.ldc2Long hx hown (mvT hZ (W 72 rfl)) (g := (mkF m 28 #[.val (.ref a1), .val (.long q), .second, .val (.long u10), .second] [(.long u10), (.int (pp + (1 : Int32))), (.ref ba)])) rfl (hb hby d7_28) _ k) ?_
  refine Y.land X18 hx (hb hby d7_31) rfl ?_
  refine Gl.pre (fun _ k => X18.ldc2Long hx hown (mvT hZ (W 73 rfl)) (g := (mkF m 32 #[.val (.ref a1), .val (.long q), .second, .val (.long u10), .second] [(.long (u10 &&& (127 : Int64))), (.int (pp + (1 : Int32))), (.ref ba)])) rfl (hb hby d7_32) _ k) ?_
  refine Y.lor X18 hx (hb hby d7_35) rfl ?_
  refine Y.l2i X18 hx (hb hby d7_36) rfl ?_
  refine Y.i2b X18 hx (hb hby d7_37) rfl ?_
  obtain ⟨T19, h19, X19, e19, W19, V19, st19⟩ := own_stB X18 hx hZ e18 V_ba (j := (pp + (1 : Int32))) (i := ((pp + (1 : Int32))).toNatClampNeg) (own_nn1 hp) rfl (Nat.lt_of_lt_of_eq (own_lt1 hp) (by simp only [List.length_set, hlen])) (g := (mkF m 38 #[.val (.ref a1), .val (.long q), .second, .val (.long u10), .second] [(.int ((((u10 &&& (127 : Int64)) ||| (128 : Int64)).toInt32).toInt8.toInt32)), (.int (pp + (1 : Int32))), (.ref ba)])) rfl rfl (hb hby d7_38)
  refine Gl.pre (fun _ k => st19 _ k) ?_
  have E_a1 := E_a1.wr W19
  have F_bytes_a1 := F_bytes_a1.other W19 (Or.inl (own_ne_a1_ba))
  have F_position_a1 := F_position_a1.other W19 (Or.inl (own_ne_a1_ba))
  have Z19 : n0 ≤ h19.size := by rw [W19.size]; exact Z18
  have N19 := Fr.snoc X19 N18 g_ba
  have K19 := K18.wr W19 (Or.inl (List.mem_of_getElem? (i := 1) rfl))
  have V_ba := V19
  refine Y.lloadN X19 hx (hb hby d7_39) rfl ?_
  refine Y.bipush X19 hx (hb hby d7_40) ?_
  refine Y.lushr X19 hx (hb hby d7_42) rfl ?_
  show Gl p.tables e below PP (T19.setTop (mkF m 43 #[.val (.ref a1), .val (.long q), .second, .val (.long u10), .second] [(.long (own_ushrL u10 (7 : Int32)))]))
  obtain ⟨u20, hu20⟩ : ∃ z : Int64, z = (own_ushrL u10 (7 : Int32)) := ⟨_, rfl⟩
  rw [← hu20]
  show Gl p.tables e below PP (T19.setTop (mkF m 43 #[.val (.ref a1), .val (.long q), .second, .val (.long u10), .second] [(.long u20)]))
  refine Y.lstoreN X19 hx (hb hby d7_43) rfl (l' := #[.val (.ref a1), .val (.long q), .second, .val (.long u20), .second]) rfl ?_
  refine Y.goto X19 hx (pc0 := 44) (pc' := 2) rfl (hb hby d7_44) (by decide) (by decide) ?_
  refine Y.lloadN X19 hx (hb hby d7_2) rfl ?_
  refine Gl.pre (fun _ k => X19.ldc2Long hx hown (mvT hZ (W 62 rfl)) (g := (mkF m 3 #[.val (.ref a1), .val (.long q), .second, .val (.long u20), .second] [(.long u20)])) rfl (hb hby d7_3) _ k) ?_
  refine Y.land X19 hx (hb hby d7_6) rfl ?_
  refine Y.lconst X19 hx (hb hby d7_7) ?_
  refine Y.lcmp X19 hx (hb hby d7_8) rfl ?_
  by_cases hc21 : (u20 &&& (-128 : Int64)) = (0 : Int64)
  refine Y.ifYes X19 hx (pc0 := 9) (pc' := 47) rfl (hb hby d7_9) rfl ((if0 _ _).trans (teq ((lw_eq (u20 &&& (-128 : Int64)) (0 : Int64)).mpr hc21)).1) (by decide) (by decide) ?_
  refine Y.aloadN X19 hx (hb hby d7_47) rfl rfl ?_
  obtain ⟨T22, X22, e22, st22⟩ := getF X19 hx hZ hown (host := "") (Or.inl (W 63 rfl)) Via.refl e19 F_bytes_a1 (g := (mkF m 48 #[.val (.ref a1), .val (.long q), .second, .val (.long u20), .second] [(.ref a1)])) rfl rfl (hb hby d7_48)
  refine Gl.pre (fun _ k => st22 _ k) ?_
  refine Y.aloadN X22 hx (hb hby d7_51) rfl rfl ?_
  refine Y.dup X22 hx (hb hby d7_52) rfl rfl ?_
  obtain ⟨T23, X23, e23, st23⟩ := getF X22 hx hZ hown (host := "") (Or.inl (W 64 rfl)) Via.refl e22 F_position_a1 (g := (mkF m 53 #[.val (.ref a1), .val (.long q), .second, .val (.long u20), .second] [(.ref a1), (.ref a1), (.ref ba)])) rfl rfl (hb hby d7_53)
  refine Gl.pre (fun _ k => st23 _ k) ?_
  refine Y.dupX1 X23 hx (hb hby d7_56) rfl rfl rfl ?_
  refine Y.iconst X23 hx (hb hby d7_57) ?_
  refine Y.iadd X23 hx (hb hby d7_58) rfl ?_
  obtain ⟨T24, h24, X24, e24, W24, st24⟩ := putF X23 hx hZ hown (host := "") (Or.inl (W 64 rfl)) Via.refl e23 F_position_a1 E_a1 (Or.inl (W 56 rfl)) (W 2 rfl) (ty := .int) (by decide) rfl rfl (g := (mkF m 59 #[.val (.ref a1), .val (.long q), .second, .val (.long u20), .second] [(.int (((pp + (1 : Int32)) + (1 : Int32)) + (1 : Int32))), (.ref a1), (.int ((pp + (1 : Int32)) + (1 : Int32))), (.ref ba)])) rfl rfl (hb hby d7_59)
  refine Gl.pre (fun _ k => st24 _ k) ?_
  have E_a1 := E_a1.wr W24
  have F_bytes_a1 := F_bytes_a1.other W24 (Or.inr (slot_ne (Or.inl (W 54 rfl)) (Or.inl (W 56 rfl)) (by decide) (t := (.array .byte)) (t' := .int) (by decide) (by decide)))
  have F_position_a1 := F_position_a1.same W24
  have V_ba := V_ba.other W24 (own_ne_ba_a1)
  have Z24 : n0 ≤ h24.size := by rw [W24.size]; exact Z19
  have N24 := Fr.snoc X24 N19 g_a1
  have K24 := K19.wr W24 (Or.inl (List.mem_of_getElem? (i := 0) rfl))
  refine Y.lloadN X24 hx (hb hby d7_62) rfl ?_
  refine Y.l2i X24 hx (hb hby d7_63) rfl ?_
  refine Y.i2b X24 hx (hb hby d7_64) rfl ?_
  obtain ⟨T25, h25, X25, e25, W25, V25, st25⟩ := own_stB X24 hx hZ e24 V_ba (j := ((pp + (1 : Int32)) + (1 : Int32))) (i := (((pp + (1 : Int32)) + (1 : Int32))).toNatClampNeg) (own_nn2 hp) rfl (Nat.lt_of_lt_of_eq (own_lt2 hp) (by simp only [List.length_set, hlen])) (g := (mkF m 65 #[.val (.ref a1), .val (.long q), .second, .val (.long u20), .second] [(.int ((u20.toInt32).toInt8.toInt32)), (.int ((pp + (1 : Int32)) + (1 : Int32))), (.ref ba)])) rfl rfl (hb hby d7_65)
  refine Gl.pre (fun _ k => st25 _ k) ?_
  have E_a1 := E_a1.wr W25
  have F_bytes_a1 := F_bytes_a1.other W25 (Or.inl (own_ne_a1_ba))
  have F_position_a1 := F_position_a1.other W25 (Or.inl (own_ne_a1_ba))
  have Z25 : n0 ≤ h25.size := by rw [W25.size]; exact Z24
  have N25 := Fr.snoc X25 N24 g_ba
  have K25 := K24.wr W25 (Or.inl (List.mem_of_getElem? (i := 1) rfl))
  have V_ba := V25
  rw [hPP]
  refine own_finV (Q := (Q7 Z a1 q ba pp xs h0 n0)) X25 hx hlk Bd.returns (hb hby d7_66) ?_ (by decide) (by decide)
  show Q7 Z a1 q ba pp xs h0 n0 _ T25.heap _
  rw [e25]
  subst hu20
  subst hu10
  refine ⟨rfl, N25, K25, F_bytes_a1, ?_, ?_⟩
  rw [own_vr, if_neg hc1, if_neg hc11, if_pos hc21]; exact F_position_a1
  rw [own_vl, if_neg hc1, if_neg hc11, if_pos hc21]; exact V_ba
  refine Y.ifNo X19 hx (hb hby d7_9) rfl ((if0 _ _).trans (feq (mt (lw_eq (u20 &&& (-128 : Int64)) (0 : Int64)).mp hc21)).1) ?_
  refine Y.aloadN X19 hx (hb hby d7_12) rfl rfl ?_
  obtain ⟨T26, X26, e26, st26⟩ := getF X19 hx hZ hown (host := "") (Or.inl (W 63 rfl)) Via.refl e19 F_bytes_a1 (g := (mkF m 13 #[.val (.ref a1), .val (.long q), .second, .val (.long u20), .second] [(.ref a1)])) rfl rfl (hb hby d7_13)
  refine Gl.pre (fun _ k => st26 _ k) ?_
  refine Y.aloadN X26 hx (hb hby d7_16) rfl rfl ?_
  refine Y.dup X26 hx (hb hby d7_17) rfl rfl ?_
  obtain ⟨T27, X27, e27, st27⟩ := getF X26 hx hZ hown (host := "") (Or.inl (W 64 rfl)) Via.refl e26 F_position_a1 (g := (mkF m 18 #[.val (.ref a1), .val (.long q), .second, .val (.long u20), .second] [(.ref a1), (.ref a1), (.ref ba)])) rfl rfl (hb hby d7_18)
  refine Gl.pre (fun _ k => st27 _ k) ?_
  refine Y.dupX1 X27 hx (hb hby d7_21) rfl rfl rfl ?_
  refine Y.iconst X27 hx (hb hby d7_22) ?_
  refine Y.iadd X27 hx (hb hby d7_23) rfl ?_
  obtain ⟨T28, h28, X28, e28, W28, st28⟩ := putF X27 hx hZ hown (host := "") (Or.inl (W 64 rfl)) Via.refl e27 F_position_a1 E_a1 (Or.inl (W 56 rfl)) (W 2 rfl) (ty := .int) (by decide) rfl rfl (g := (mkF m 24 #[.val (.ref a1), .val (.long q), .second, .val (.long u20), .second] [(.int (((pp + (1 : Int32)) + (1 : Int32)) + (1 : Int32))), (.ref a1), (.int ((pp + (1 : Int32)) + (1 : Int32))), (.ref ba)])) rfl rfl (hb hby d7_24)
  refine Gl.pre (fun _ k => st28 _ k) ?_
  have E_a1 := E_a1.wr W28
  have F_bytes_a1 := F_bytes_a1.other W28 (Or.inr (slot_ne (Or.inl (W 54 rfl)) (Or.inl (W 56 rfl)) (by decide) (t := (.array .byte)) (t' := .int) (by decide) (by decide)))
  have F_position_a1 := F_position_a1.same W28
  have V_ba := V_ba.other W28 (own_ne_ba_a1)
  have Z28 : n0 ≤ h28.size := by rw [W28.size]; exact Z19
  have N28 := Fr.snoc X28 N19 g_a1
  have K28 := K19.wr W28 (Or.inl (List.mem_of_getElem? (i := 0) rfl))
  refine Y.lloadN X28 hx (hb hby d7_27) rfl ?_
  refine Gl.pre (fun _ k => X28.ldc2Long hx hown (mvT hZ (W 72 rfl)) (g := (mkF m 28 #[.val (.ref a1), .val (.long q), .second, .val (.long u20), .second] [(.long u20), (.int ((pp + (1 : Int32)) + (1 : Int32))), (.ref ba)])) rfl (hb hby d7_28) _ k) ?_
  refine Y.land X28 hx (hb hby d7_31) rfl ?_
  refine Gl.pre (fun _ k => X28.ldc2Long hx hown (mvT hZ (W 73 rfl)) (g := (mkF m 32 #[.val (.ref a1), .val (.long q), .second, .val (.long u20), .second] [(.long (u20 &&& (127 : Int64))), (.int ((pp + (1 : Int32)) + (1 : Int32))), (.ref ba)])) rfl (hb hby d7_32) _ k) ?_
  refine Y.lor X28 hx (hb hby d7_35) rfl ?_
  refine Y.l2i X28 hx (hb hby d7_36) rfl ?_
  refine Y.i2b X28 hx (hb hby d7_37) rfl ?_
  obtain ⟨T29, h29, X29, e29, W29, V29, st29⟩ := own_stB X28 hx hZ e28 V_ba (j := ((pp + (1 : Int32)) + (1 : Int32))) (i := (((pp + (1 : Int32)) + (1 : Int32))).toNatClampNeg) (own_nn2 hp) rfl (Nat.lt_of_lt_of_eq (own_lt2 hp) (by simp only [List.length_set, hlen])) (g := (mkF m 38 #[.val (.ref a1), .val (.long q), .second, .val (.long u20), .second] [(.int ((((u20 &&& (127 : Int64)) ||| (128 : Int64)).toInt32).toInt8.toInt32)), (.int ((pp + (1 : Int32)) + (1 : Int32))), (.ref ba)])) rfl rfl (hb hby d7_38)
  refine Gl.pre (fun _ k => st29 _ k) ?_
  have E_a1 := E_a1.wr W29
  have F_bytes_a1 := F_bytes_a1.other W29 (Or.inl (own_ne_a1_ba))
  have F_position_a1 := F_position_a1.other W29 (Or.inl (own_ne_a1_ba))
  have Z29 : n0 ≤ h29.size := by rw [W29.size]; exact Z28
  have N29 := Fr.snoc X29 N28 g_ba
  have K29 := K28.wr W29 (Or.inl (List.mem_of_getElem? (i := 1) rfl))
  have V_ba := V29
  refine Y.lloadN X29 hx (hb hby d7_39) rfl ?_
  refine Y.bipush X29 hx (hb hby d7_40) ?_
  refine Y.lushr X29 hx (hb hby d7_42) rfl ?_
  show Gl p.tables e below PP (T29.setTop (mkF m 43 #[.val (.ref a1), .val (.long q), .second, .val (.long u20), .second] [(.long (own_ushrL u20 (7 : Int32)))]))
  obtain ⟨u30, hu30⟩ : ∃ z : Int64, z = (own_ushrL u20 (7 : Int32)) := ⟨_, rfl⟩
  rw [← hu30]
  show Gl p.tables e below PP (T29.setTop (mkF m 43 #[.val (.ref a1), .val (.long q), .second, .val (.long u20), .second] [(.long u30)]))
  refine Y.lstoreN X29 hx (hb hby d7_43) rfl (l' := #[.val (.ref a1), .val (.long q), .second, .val (.long u30), .second]) rfl ?_
  refine Y.goto X29 hx (pc0 := 44) (pc' := 2) rfl (hb hby d7_44) (by decide) (by decide) ?_
  refine Y.lloadN X29 hx (hb hby d7_2) rfl ?_
  refine Gl.pre (fun _ k => X29.ldc2Long hx hown (mvT hZ (W 62 rfl)) (g := (mkF m 3 #[.val (.ref a1), .val (.long q), .second, .val (.long u30), .second] [(.long u30)])) rfl (hb hby d7_3) _ k) ?_
  refine Y.land X29 hx (hb hby d7_6) rfl ?_
  refine Y.lconst X29 hx (hb hby d7_7) ?_
  refine Y.lcmp X29 hx (hb hby d7_8) rfl ?_
  by_cases hc31 : (u30 &&& (-128 : Int64)) = (0 : Int64)
  refine Y.ifYes X29 hx (pc0 := 9) (pc' := 47) rfl (hb hby d7_9) rfl ((if0 _ _).trans (teq ((lw_eq (u30 &&& (-128 : Int64)) (0 : Int64)).mpr hc31)).1) (by decide) (by decide) ?_
  refine Y.aloadN X29 hx (hb hby d7_47) rfl rfl ?_
  obtain ⟨T32, X32, e32, st32⟩ := getF X29 hx hZ hown (host := "") (Or.inl (W 63 rfl)) Via.refl e29 F_bytes_a1 (g := (mkF m 48 #[.val (.ref a1), .val (.long q), .second, .val (.long u30), .second] [(.ref a1)])) rfl rfl (hb hby d7_48)
  refine Gl.pre (fun _ k => st32 _ k) ?_
  refine Y.aloadN X32 hx (hb hby d7_51) rfl rfl ?_
  refine Y.dup X32 hx (hb hby d7_52) rfl rfl ?_
  obtain ⟨T33, X33, e33, st33⟩ := getF X32 hx hZ hown (host := "") (Or.inl (W 64 rfl)) Via.refl e32 F_position_a1 (g := (mkF m 53 #[.val (.ref a1), .val (.long q), .second, .val (.long u30), .second] [(.ref a1), (.ref a1), (.ref ba)])) rfl rfl (hb hby d7_53)
  refine Gl.pre (fun _ k => st33 _ k) ?_
  refine Y.dupX1 X33 hx (hb hby d7_56) rfl rfl rfl ?_
  refine Y.iconst X33 hx (hb hby d7_57) ?_
  refine Y.iadd X33 hx (hb hby d7_58) rfl ?_
  obtain ⟨T34, h34, X34, e34, W34, st34⟩ := putF X33 hx hZ hown (host := "") (Or.inl (W 64 rfl)) Via.refl e33 F_position_a1 E_a1 (Or.inl (W 56 rfl)) (W 2 rfl) (ty := .int) (by decide) rfl rfl (g := (mkF m 59 #[.val (.ref a1), .val (.long q), .second, .val (.long u30), .second] [(.int ((((pp + (1 : Int32)) + (1 : Int32)) + (1 : Int32)) + (1 : Int32))), (.ref a1), (.int (((pp + (1 : Int32)) + (1 : Int32)) + (1 : Int32))), (.ref ba)])) rfl rfl (hb hby d7_59)
  refine Gl.pre (fun _ k => st34 _ k) ?_
  have E_a1 := E_a1.wr W34
  have F_bytes_a1 := F_bytes_a1.other W34 (Or.inr (slot_ne (Or.inl (W 54 rfl)) (Or.inl (W 56 rfl)) (by decide) (t := (.array .byte)) (t' := .int) (by decide) (by decide)))
  have F_position_a1 := F_position_a1.same W34
  have V_ba := V_ba.other W34 (own_ne_ba_a1)
  have Z34 : n0 ≤ h34.size := by rw [W34.size]; exact Z29
  have N34 := Fr.snoc X34 N29 g_a1
  have K34 := K29.wr W34 (Or.inl (List.mem_of_getElem? (i := 0) rfl))
  refine Y.lloadN X34 hx (hb hby d7_62) rfl ?_
  refine Y.l2i X34 hx (hb hby d7_63) rfl ?_
  refine Y.i2b X34 hx (hb hby d7_64) rfl ?_
  obtain ⟨T35, h35, X35, e35, W35, V35, st35⟩ := own_stB X34 hx hZ e34 V_ba (j := (((pp + (1 : Int32)) + (1 : Int32)) + (1 : Int32))) (i := ((((pp + (1 : Int32)) + (1 : Int32)) + (1 : Int32))).toNatClampNeg) (own_nn3 hp) rfl (Nat.lt_of_lt_of_eq (own_lt3 hp) (by simp only [List.length_set, hlen])) (g := (mkF m 65 #[.val (.ref a1), .val (.long q), .second, .val (.long u30), .second] [(.int ((u30.toInt32).toInt8.toInt32)), (.int (((pp + (1 : Int32)) + (1 : Int32)) + (1 : Int32))), (.ref ba)])) rfl rfl (hb hby d7_65)
  refine Gl.pre (fun _ k => st35 _ k) ?_
  have E_a1 := E_a1.wr W35
  have F_bytes_a1 := F_bytes_a1.other W35 (Or.inl (own_ne_a1_ba))
  have F_position_a1 := F_position_a1.other W35 (Or.inl (own_ne_a1_ba))
  have Z35 : n0 ≤ h35.size := by rw [W35.size]; exact Z34
  have N35 := Fr.snoc X35 N34 g_ba
  have K35 := K34.wr W35 (Or.inl (List.mem_of_getElem? (i := 1) rfl))
  have V_ba := V35
  rw [hPP]
  refine own_finV (Q := (Q7 Z a1 q ba pp xs h0 n0)) X35 hx hlk Bd.returns (hb hby d7_66) ?_ (by decide) (by decide)
  show Q7 Z a1 q ba pp xs h0 n0 _ T35.heap _
  rw [e35]
  subst hu30
  subst hu20
  subst hu10
  refine ⟨rfl, N35, K35, F_bytes_a1, ?_, ?_⟩
  rw [own_vr, if_neg hc1, if_neg hc11, if_neg hc21, if_pos hc31]; exact F_position_a1
  rw [own_vl, if_neg hc1, if_neg hc11, if_neg hc21, if_pos hc31]; exact V_ba
  refine Y.ifNo X29 hx (hb hby d7_9) rfl ((if0 _ _).trans (feq (mt (lw_eq (u30 &&& (-128 : Int64)) (0 : Int64)).mp hc31)).1) ?_
  refine Y.aloadN X29 hx (hb hby d7_12) rfl rfl ?_
  obtain ⟨T36, X36, e36, st36⟩ := getF X29 hx hZ hown (host := "") (Or.inl (W 63 rfl)) Via.refl e29 F_bytes_a1 (g := (mkF m 13 #[.val (.ref a1), .val (.long q), .second, .val (.long u30), .second] [(.ref a1)])) rfl rfl (hb hby d7_13)
  refine Gl.pre (fun _ k => st36 _ k) ?_
  refine Y.aloadN X36 hx (hb hby d7_16) rfl rfl ?_
  refine Y.dup X36 hx (hb hby d7_17) rfl rfl ?_
  obtain ⟨T37, X37, e37, st37⟩ := getF X36 hx hZ hown (host := "") (Or.inl (W 64 rfl)) Via.refl e36 F_position_a1 (g := (mkF m 18 #[.val (.ref a1), .val (.long q), .second, .val (.long u30), .second] [(.ref a1), (.ref a1), (.ref ba)])) rfl rfl (hb hby d7_18)
  refine Gl.pre (fun _ k => st37 _ k) ?_
  refine Y.dupX1 X37 hx (hb hby d7_21) rfl rfl rfl ?_
  refine Y.iconst X37 hx (hb hby d7_22) ?_
  refine Y.iadd X37 hx (hb hby d7_23) rfl ?_
  obtain ⟨T38, h38, X38, e38, W38, st38⟩ := putF X37 hx hZ hown (host := "") (Or.inl (W 64 rfl)) Via.refl e37 F_position_a1 E_a1 (Or.inl (W 56 rfl)) (W 2 rfl) (ty := .int) (by decide) rfl rfl (g := (mkF m 24 #[.val (.ref a1), .val (.long q), .second, .val (.long u30), .second] [(.int ((((pp + (1 : Int32)) + (1 : Int32)) + (1 : Int32)) + (1 : Int32))), (.ref a1), (.int (((pp + (1 : Int32)) + (1 : Int32)) + (1 : Int32))), (.ref ba)])) rfl rfl (hb hby d7_24)
  refine Gl.pre (fun _ k => st38 _ k) ?_
  have E_a1 := E_a1.wr W38
  have F_bytes_a1 := F_bytes_a1.other W38 (Or.inr (slot_ne (Or.inl (W 54 rfl)) (Or.inl (W 56 rfl)) (by decide) (t := (.array .byte)) (t' := .int) (by decide) (by decide)))
  have F_position_a1 := F_position_a1.same W38
  have V_ba := V_ba.other W38 (own_ne_ba_a1)
  have Z38 : n0 ≤ h38.size := by rw [W38.size]; exact Z29
  have N38 := Fr.snoc X38 N29 g_a1
  have K38 := K29.wr W38 (Or.inl (List.mem_of_getElem? (i := 0) rfl))
  refine Y.lloadN X38 hx (hb hby d7_27) rfl ?_
  refine Gl.pre (fun _ k => X38.ldc2Long hx hown (mvT hZ (W 72 rfl)) (g := (mkF m 28 #[.val (.ref a1), .val (.long q), .second, .val (.long u30), .second] [(.long u30), (.int (((pp + (1 : Int32)) + (1 : Int32)) + (1 : Int32))), (.ref ba)])) rfl (hb hby d7_28) _ k) ?_
  refine Y.land X38 hx (hb hby d7_31) rfl ?_
  refine Gl.pre (fun _ k => X38.ldc2Long hx hown (mvT hZ (W 73 rfl)) (g := (mkF m 32 #[.val (.ref a1), .val (.long q), .second, .val (.long u30), .second] [(.long (u30 &&& (127 : Int64))), (.int (((pp + (1 : Int32)) + (1 : Int32)) + (1 : Int32))), (.ref ba)])) rfl (hb hby d7_32) _ k) ?_
  refine Y.lor X38 hx (hb hby d7_35) rfl ?_
  refine Y.l2i X38 hx (hb hby d7_36) rfl ?_
  refine Y.i2b X38 hx (hb hby d7_37) rfl ?_
  obtain ⟨T39, h39, X39, e39, W39, V39, st39⟩ := own_stB X38 hx hZ e38 V_ba (j := (((pp + (1 : Int32)) + (1 : Int32)) + (1 : Int32))) (i := ((((pp + (1 : Int32)) + (1 : Int32)) + (1 : Int32))).toNatClampNeg) (own_nn3 hp) rfl (Nat.lt_of_lt_of_eq (own_lt3 hp) (by simp only [List.length_set, hlen])) (g := (mkF m 38 #[.val (.ref a1), .val (.long q), .second, .val (.long u30), .second] [(.int ((((u30 &&& (127 : Int64)) ||| (128 : Int64)).toInt32).toInt8.toInt32)), (.int (((pp + (1 : Int32)) + (1 : Int32)) + (1 : Int32))), (.ref ba)])) rfl rfl (hb hby d7_38)
  refine Gl.pre (fun _ k => st39 _ k) ?_
  have E_a1 := E_a1.wr W39
  have F_bytes_a1 := F_bytes_a1.other W39 (Or.inl (own_ne_a1_ba))
  have F_position_a1 := F_position_a1.other W39 (Or.inl (own_ne_a1_ba))
  have Z39 : n0 ≤ h39.size := by rw [W39.size]; exact Z38
  have N39 := Fr.snoc X39 N38 g_ba
  have K39 := K38.wr W39 (Or.inl (List.mem_of_getElem? (i := 1) rfl))
  have V_ba := V39
  refine Y.lloadN X39 hx (hb hby d7_39) rfl ?_
  refine Y.bipush X39 hx (hb hby d7_40) ?_
  refine Y.lushr X39 hx (hb hby d7_42) rfl ?_
  show Gl p.tables e below PP (T39.setTop (mkF m 43 #[.val (.ref a1), .val (.long q), .second, .val (.long u30), .second] [(.long (own_ushrL u30 (7 : Int32)))]))
  obtain ⟨u40, hu40⟩ : ∃ z : Int64, z = (own_ushrL u30 (7 : Int32)) := ⟨_, rfl⟩
  rw [← hu40]
  show Gl p.tables e below PP (T39.setTop (mkF m 43 #[.val (.ref a1), .val (.long q), .second, .val (.long u30), .second] [(.long u40)]))
  refine Y.lstoreN X39 hx (hb hby d7_43) rfl (l' := #[.val (.ref a1), .val (.long q), .second, .val (.long u40), .second]) rfl ?_
  refine Y.goto X39 hx (pc0 := 44) (pc' := 2) rfl (hb hby d7_44) (by decide) (by decide) ?_
  refine Y.lloadN X39 hx (hb hby d7_2) rfl ?_
  refine Gl.pre (fun _ k => X39.ldc2Long hx hown (mvT hZ (W 62 rfl)) (g := (mkF m 3 #[.val (.ref a1), .val (.long q), .second, .val (.long u40), .second] [(.long u40)])) rfl (hb hby d7_3) _ k) ?_
  refine Y.land X39 hx (hb hby d7_6) rfl ?_
  refine Y.lconst X39 hx (hb hby d7_7) ?_
  refine Y.lcmp X39 hx (hb hby d7_8) rfl ?_
  by_cases hc41 : (u40 &&& (-128 : Int64)) = (0 : Int64)
  refine Y.ifYes X39 hx (pc0 := 9) (pc' := 47) rfl (hb hby d7_9) rfl ((if0 _ _).trans (teq ((lw_eq (u40 &&& (-128 : Int64)) (0 : Int64)).mpr hc41)).1) (by decide) (by decide) ?_
  refine Y.aloadN X39 hx (hb hby d7_47) rfl rfl ?_
  obtain ⟨T42, X42, e42, st42⟩ := getF X39 hx hZ hown (host := "") (Or.inl (W 63 rfl)) Via.refl e39 F_bytes_a1 (g := (mkF m 48 #[.val (.ref a1), .val (.long q), .second, .val (.long u40), .second] [(.ref a1)])) rfl rfl (hb hby d7_48)
  refine Gl.pre (fun _ k => st42 _ k) ?_
  refine Y.aloadN X42 hx (hb hby d7_51) rfl rfl ?_
  refine Y.dup X42 hx (hb hby d7_52) rfl rfl ?_
  obtain ⟨T43, X43, e43, st43⟩ := getF X42 hx hZ hown (host := "") (Or.inl (W 64 rfl)) Via.refl e42 F_position_a1 (g := (mkF m 53 #[.val (.ref a1), .val (.long q), .second, .val (.long u40), .second] [(.ref a1), (.ref a1), (.ref ba)])) rfl rfl (hb hby d7_53)
  refine Gl.pre (fun _ k => st43 _ k) ?_
  refine Y.dupX1 X43 hx (hb hby d7_56) rfl rfl rfl ?_
  refine Y.iconst X43 hx (hb hby d7_57) ?_
  refine Y.iadd X43 hx (hb hby d7_58) rfl ?_
  obtain ⟨T44, h44, X44, e44, W44, st44⟩ := putF X43 hx hZ hown (host := "") (Or.inl (W 64 rfl)) Via.refl e43 F_position_a1 E_a1 (Or.inl (W 56 rfl)) (W 2 rfl) (ty := .int) (by decide) rfl rfl (g := (mkF m 59 #[.val (.ref a1), .val (.long q), .second, .val (.long u40), .second] [(.int (((((pp + (1 : Int32)) + (1 : Int32)) + (1 : Int32)) + (1 : Int32)) + (1 : Int32))), (.ref a1), (.int ((((pp + (1 : Int32)) + (1 : Int32)) + (1 : Int32)) + (1 : Int32))), (.ref ba)])) rfl rfl (hb hby d7_59)
  refine Gl.pre (fun _ k => st44 _ k) ?_
  have E_a1 := E_a1.wr W44
  have F_bytes_a1 := F_bytes_a1.other W44 (Or.inr (slot_ne (Or.inl (W 54 rfl)) (Or.inl (W 56 rfl)) (by decide) (t := (.array .byte)) (t' := .int) (by decide) (by decide)))
  have F_position_a1 := F_position_a1.same W44
  have V_ba := V_ba.other W44 (own_ne_ba_a1)
  have Z44 : n0 ≤ h44.size := by rw [W44.size]; exact Z39
  have N44 := Fr.snoc X44 N39 g_a1
  have K44 := K39.wr W44 (Or.inl (List.mem_of_getElem? (i := 0) rfl))
  refine Y.lloadN X44 hx (hb hby d7_62) rfl ?_
  refine Y.l2i X44 hx (hb hby d7_63) rfl ?_
  refine Y.i2b X44 hx (hb hby d7_64) rfl ?_
  obtain ⟨T45, h45, X45, e45, W45, V45, st45⟩ := own_stB X44 hx hZ e44 V_ba (j := ((((pp + (1 : Int32)) + (1 : Int32)) + (1 : Int32)) + (1 : Int32))) (i := (((((pp + (1 : Int32)) + (1 : Int32)) + (1 : Int32)) + (1 : Int32))).toNatClampNeg) (own_nn4 hp) rfl (Nat.lt_of_lt_of_eq (own_lt4 hp) (by simp only [List.length_set, hlen])) (g := (mkF m 65 #[.val (.ref a1), .val (.long q), .second, .val (.long u40), .second] [(.int ((u40.toInt32).toInt8.toInt32)), (.int ((((pp + (1 : Int32)) + (1 : Int32)) + (1 : Int32)) + (1 : Int32))), (.ref ba)])) rfl rfl (hb hby d7_65)
  refine Gl.pre (fun _ k => st45 _ k) ?_
  have E_a1 := E_a1.wr W45
  have F_bytes_a1 := F_bytes_a1.other W45 (Or.inl (own_ne_a1_ba))
  have F_position_a1 := F_position_a1.other W45 (Or.inl (own_ne_a1_ba))
  have Z45 : n0 ≤ h45.size := by rw [W45.size]; exact Z44
  have N45 := Fr.snoc X45 N44 g_ba
  have K45 := K44.wr W45 (Or.inl (List.mem_of_getElem? (i := 1) rfl))
  have V_ba := V45
  rw [hPP]
  refine own_finV (Q := (Q7 Z a1 q ba pp xs h0 n0)) X45 hx hlk Bd.returns (hb hby d7_66) ?_ (by decide) (by decide)
  show Q7 Z a1 q ba pp xs h0 n0 _ T45.heap _
  rw [e45]
  subst hu40
  subst hu30
  subst hu20
  subst hu10
  refine ⟨rfl, N45, K45, F_bytes_a1, ?_, ?_⟩
  rw [own_vr, if_neg hc1, if_neg hc11, if_neg hc21, if_neg hc31, if_pos hc41]; exact F_position_a1
  rw [own_vl, if_neg hc1, if_neg hc11, if_neg hc21, if_neg hc31, if_pos hc41]; exact V_ba
  refine Y.ifNo X39 hx (hb hby d7_9) rfl ((if0 _ _).trans (feq (mt (lw_eq (u40 &&& (-128 : Int64)) (0 : Int64)).mp hc41)).1) ?_
  refine Y.aloadN X39 hx (hb hby d7_12) rfl rfl ?_
  obtain ⟨T46, X46, e46, st46⟩ := getF X39 hx hZ hown (host := "") (Or.inl (W 63 rfl)) Via.refl e39 F_bytes_a1 (g := (mkF m 13 #[.val (.ref a1), .val (.long q), .second, .val (.long u40), .second] [(.ref a1)])) rfl rfl (hb hby d7_13)
  refine Gl.pre (fun _ k => st46 _ k) ?_
  refine Y.aloadN X46 hx (hb hby d7_16) rfl rfl ?_
  refine Y.dup X46 hx (hb hby d7_17) rfl rfl ?_
  obtain ⟨T47, X47, e47, st47⟩ := getF X46 hx hZ hown (host := "") (Or.inl (W 64 rfl)) Via.refl e46 F_position_a1 (g := (mkF m 18 #[.val (.ref a1), .val (.long q), .second, .val (.long u40), .second] [(.ref a1), (.ref a1), (.ref ba)])) rfl rfl (hb hby d7_18)
  refine Gl.pre (fun _ k => st47 _ k) ?_
  refine Y.dupX1 X47 hx (hb hby d7_21) rfl rfl rfl ?_
  refine Y.iconst X47 hx (hb hby d7_22) ?_
  refine Y.iadd X47 hx (hb hby d7_23) rfl ?_
  obtain ⟨T48, h48, X48, e48, W48, st48⟩ := putF X47 hx hZ hown (host := "") (Or.inl (W 64 rfl)) Via.refl e47 F_position_a1 E_a1 (Or.inl (W 56 rfl)) (W 2 rfl) (ty := .int) (by decide) rfl rfl (g := (mkF m 24 #[.val (.ref a1), .val (.long q), .second, .val (.long u40), .second] [(.int (((((pp + (1 : Int32)) + (1 : Int32)) + (1 : Int32)) + (1 : Int32)) + (1 : Int32))), (.ref a1), (.int ((((pp + (1 : Int32)) + (1 : Int32)) + (1 : Int32)) + (1 : Int32))), (.ref ba)])) rfl rfl (hb hby d7_24)
  refine Gl.pre (fun _ k => st48 _ k) ?_
  have E_a1 := E_a1.wr W48
  have F_bytes_a1 := F_bytes_a1.other W48 (Or.inr (slot_ne (Or.inl (W 54 rfl)) (Or.inl (W 56 rfl)) (by decide) (t := (.array .byte)) (t' := .int) (by decide) (by decide)))
  have F_position_a1 := F_position_a1.same W48
  have V_ba := V_ba.other W48 (own_ne_ba_a1)
  have Z48 : n0 ≤ h48.size := by rw [W48.size]; exact Z39
  have N48 := Fr.snoc X48 N39 g_a1
  have K48 := K39.wr W48 (Or.inl (List.mem_of_getElem? (i := 0) rfl))
  refine Y.lloadN X48 hx (hb hby d7_27) rfl ?_
  refine Gl.pre (fun _ k => X48.ldc2Long hx hown (mvT hZ (W 72 rfl)) (g := (mkF m 28 #[.val (.ref a1), .val (.long q), .second, .val (.long u40), .second] [(.long u40), (.int ((((pp + (1 : Int32)) + (1 : Int32)) + (1 : Int32)) + (1 : Int32))), (.ref ba)])) rfl (hb hby d7_28) _ k) ?_
  refine Y.land X48 hx (hb hby d7_31) rfl ?_
  refine Gl.pre (fun _ k => X48.ldc2Long hx hown (mvT hZ (W 73 rfl)) (g := (mkF m 32 #[.val (.ref a1), .val (.long q), .second, .val (.long u40), .second] [(.long (u40 &&& (127 : Int64))), (.int ((((pp + (1 : Int32)) + (1 : Int32)) + (1 : Int32)) + (1 : Int32))), (.ref ba)])) rfl (hb hby d7_32) _ k) ?_
  refine Y.lor X48 hx (hb hby d7_35) rfl ?_
  refine Y.l2i X48 hx (hb hby d7_36) rfl ?_
  refine Y.i2b X48 hx (hb hby d7_37) rfl ?_
  obtain ⟨T49, h49, X49, e49, W49, V49, st49⟩ := own_stB X48 hx hZ e48 V_ba (j := ((((pp + (1 : Int32)) + (1 : Int32)) + (1 : Int32)) + (1 : Int32))) (i := (((((pp + (1 : Int32)) + (1 : Int32)) + (1 : Int32)) + (1 : Int32))).toNatClampNeg) (own_nn4 hp) rfl (Nat.lt_of_lt_of_eq (own_lt4 hp) (by simp only [List.length_set, hlen])) (g := (mkF m 38 #[.val (.ref a1), .val (.long q), .second, .val (.long u40), .second] [(.int ((((u40 &&& (127 : Int64)) ||| (128 : Int64)).toInt32).toInt8.toInt32)), (.int ((((pp + (1 : Int32)) + (1 : Int32)) + (1 : Int32)) + (1 : Int32))), (.ref ba)])) rfl rfl (hb hby d7_38)
  refine Gl.pre (fun _ k => st49 _ k) ?_
  have E_a1 := E_a1.wr W49
  have F_bytes_a1 := F_bytes_a1.other W49 (Or.inl (own_ne_a1_ba))
  have F_position_a1 := F_position_a1.other W49 (Or.inl (own_ne_a1_ba))
  have Z49 : n0 ≤ h49.size := by rw [W49.size]; exact Z48
  have N49 := Fr.snoc X49 N48 g_ba
  have K49 := K48.wr W49 (Or.inl (List.mem_of_getElem? (i := 1) rfl))
  have V_ba := V49
  refine Y.lloadN X49 hx (hb hby d7_39) rfl ?_
  refine Y.bipush X49 hx (hb hby d7_40) ?_
  refine Y.lushr X49 hx (hb hby d7_42) rfl ?_
  show Gl p.tables e below PP (T49.setTop (mkF m 43 #[.val (.ref a1), .val (.long q), .second, .val (.long u40), .second] [(.long (own_ushrL u40 (7 : Int32)))]))
  obtain ⟨u50, hu50⟩ : ∃ z : Int64, z = (own_ushrL u40 (7 : Int32)) := ⟨_, rfl⟩
  rw [← hu50]
  show Gl p.tables e below PP (T49.setTop (mkF m 43 #[.val (.ref a1), .val (.long q), .second, .val (.long u40), .second] [(.long u50)]))
  refine Y.lstoreN X49 hx (hb hby d7_43) rfl (l' := #[.val (.ref a1), .val (.long q), .second, .val (.long u50), .second]) rfl ?_
  refine Y.goto X49 hx (pc0 := 44) (pc' := 2) rfl (hb hby d7_44) (by decide) (by decide) ?_
  refine Y.lloadN X49 hx (hb hby d7_2) rfl ?_
  refine Gl.pre (fun _ k => X49.ldc2Long hx hown (mvT hZ (W 62 rfl)) (g := (mkF m 3 #[.val (.ref a1), .val (.long q), .second, .val (.long u50), .second] [(.long u50)])) rfl (hb hby d7_3) _ k) ?_
  refine Y.land X49 hx (hb hby d7_6) rfl ?_
  refine Y.lconst X49 hx (hb hby d7_7) ?_
  refine Y.lcmp X49 hx (hb hby d7_8) rfl ?_
  by_cases hc51 : (u50 &&& (-128 : Int64)) = (0 : Int64)
  refine Y.ifYes X49 hx (pc0 := 9) (pc' := 47) rfl (hb hby d7_9) rfl ((if0 _ _).trans (teq ((lw_eq (u50 &&& (-128 : Int64)) (0 : Int64)).mpr hc51)).1) (by decide) (by decide) ?_
  refine Y.aloadN X49 hx (hb hby d7_47) rfl rfl ?_
  obtain ⟨T52, X52, e52, st52⟩ := getF X49 hx hZ hown (host := "") (Or.inl (W 63 rfl)) Via.refl e49 F_bytes_a1 (g := (mkF m 48 #[.val (.ref a1), .val (.long q), .second, .val (.long u50), .second] [(.ref a1)])) rfl rfl (hb hby d7_48)
  refine Gl.pre (fun _ k => st52 _ k) ?_
  refine Y.aloadN X52 hx (hb hby d7_51) rfl rfl ?_
  refine Y.dup X52 hx (hb hby d7_52) rfl rfl ?_
  obtain ⟨T53, X53, e53, st53⟩ := getF X52 hx hZ hown (host := "") (Or.inl (W 64 rfl)) Via.refl e52 F_position_a1 (g := (mkF m 53 #[.val (.ref a1), .val (.long q), .second, .val (.long u50), .second] [(.ref a1), (.ref a1), (.ref ba)])) rfl rfl (hb hby d7_53)
  refine Gl.pre (fun _ k => st53 _ k) ?_
  refine Y.dupX1 X53 hx (hb hby d7_56) rfl rfl rfl ?_
  refine Y.iconst X53 hx (hb hby d7_57) ?_
  refine Y.iadd X53 hx (hb hby d7_58) rfl ?_
  obtain ⟨T54, h54, X54, e54, W54, st54⟩ := putF X53 hx hZ hown (host := "") (Or.inl (W 64 rfl)) Via.refl e53 F_position_a1 E_a1 (Or.inl (W 56 rfl)) (W 2 rfl) (ty := .int) (by decide) rfl rfl (g := (mkF m 59 #[.val (.ref a1), .val (.long q), .second, .val (.long u50), .second] [(.int ((((((pp + (1 : Int32)) + (1 : Int32)) + (1 : Int32)) + (1 : Int32)) + (1 : Int32)) + (1 : Int32))), (.ref a1), (.int (((((pp + (1 : Int32)) + (1 : Int32)) + (1 : Int32)) + (1 : Int32)) + (1 : Int32))), (.ref ba)])) rfl rfl (hb hby d7_59)
  refine Gl.pre (fun _ k => st54 _ k) ?_
  have E_a1 := E_a1.wr W54
  have F_bytes_a1 := F_bytes_a1.other W54 (Or.inr (slot_ne (Or.inl (W 54 rfl)) (Or.inl (W 56 rfl)) (by decide) (t := (.array .byte)) (t' := .int) (by decide) (by decide)))
  have F_position_a1 := F_position_a1.same W54
  have V_ba := V_ba.other W54 (own_ne_ba_a1)
  have Z54 : n0 ≤ h54.size := by rw [W54.size]; exact Z49
  have N54 := Fr.snoc X54 N49 g_a1
  have K54 := K49.wr W54 (Or.inl (List.mem_of_getElem? (i := 0) rfl))
  refine Y.lloadN X54 hx (hb hby d7_62) rfl ?_
  refine Y.l2i X54 hx (hb hby d7_63) rfl ?_
  refine Y.i2b X54 hx (hb hby d7_64) rfl ?_
  obtain ⟨T55, h55, X55, e55, W55, V55, st55⟩ := own_stB X54 hx hZ e54 V_ba (j := (((((pp + (1 : Int32)) + (1 : Int32)) + (1 : Int32)) + (1 : Int32)) + (1 : Int32))) (i := ((((((pp + (1 : Int32)) + (1 : Int32)) + (1 : Int32)) + (1 : Int32)) + (1 : Int32))).toNatClampNeg) (own_nn5 hp) rfl (Nat.lt_of_lt_of_eq (own_lt5 hp) (by simp only [List.length_set, hlen])) (g := (mkF m 65 #[.val (.ref a1), .val (.long q), .second, .val (.long u50), .second] [(.int ((u50.toInt32).toInt8.toInt32)), (.int (((((pp + (1 : Int32)) + (1 : Int32)) + (1 : Int32)) + (1 : Int32)) + (1 : Int32))), (.ref ba)])) rfl rfl (hb hby d7_65)
  refine Gl.pre (fun _ k => st55 _ k) ?_
  have E_a1 := E_a1.wr W55
  have F_bytes_a1 := F_bytes_a1.other W55 (Or.inl (own_ne_a1_ba))
  have F_position_a1 := F_position_a1.other W55 (Or.inl (own_ne_a1_ba))
  have Z55 : n0 ≤ h55.size := by rw [W55.size]; exact Z54
  have N55 := Fr.snoc X55 N54 g_ba
  have K55 := K54.wr W55 (Or.inl (List.mem_of_getElem? (i := 1) rfl))
  have V_ba := V55
  rw [hPP]
  refine own_finV (Q := (Q7 Z a1 q ba pp xs h0 n0)) X55 hx hlk Bd.returns (hb hby d7_66) ?_ (by decide) (by decide)
  show Q7 Z a1 q ba pp xs h0 n0 _ T55.heap _
  rw [e55]
  subst hu50
  subst hu40
  subst hu30
  subst hu20
  subst hu10
  refine ⟨rfl, N55, K55, F_bytes_a1, ?_, ?_⟩
  rw [own_vr, if_neg hc1, if_neg hc11, if_neg hc21, if_neg hc31, if_neg hc41, if_pos hc51]; exact F_position_a1
  rw [own_vl, if_neg hc1, if_neg hc11, if_neg hc21, if_neg hc31, if_neg hc41, if_pos hc51]; exact V_ba
  refine Y.ifNo X49 hx (hb hby d7_9) rfl ((if0 _ _).trans (feq (mt (lw_eq (u50 &&& (-128 : Int64)) (0 : Int64)).mp hc51)).1) ?_
  refine Y.aloadN X49 hx (hb hby d7_12) rfl rfl ?_
  obtain ⟨T56, X56, e56, st56⟩ := getF X49 hx hZ hown (host := "") (Or.inl (W 63 rfl)) Via.refl e49 F_bytes_a1 (g := (mkF m 13 #[.val (.ref a1), .val (.long q), .second, .val (.long u50), .second] [(.ref a1)])) rfl rfl (hb hby d7_13)
  refine Gl.pre (fun _ k => st56 _ k) ?_
  refine Y.aloadN X56 hx (hb hby d7_16) rfl rfl ?_
  refine Y.dup X56 hx (hb hby d7_17) rfl rfl ?_
  obtain ⟨T57, X57, e57, st57⟩ := getF X56 hx hZ hown (host := "") (Or.inl (W 64 rfl)) Via.refl e56 F_position_a1 (g := (mkF m 18 #[.val (.ref a1), .val (.long q), .second, .val (.long u50), .second] [(.ref a1), (.ref a1), (.ref ba)])) rfl rfl (hb hby d7_18)
  refine Gl.pre (fun _ k => st57 _ k) ?_
  refine Y.dupX1 X57 hx (hb hby d7_21) rfl rfl rfl ?_
  refine Y.iconst X57 hx (hb hby d7_22) ?_
  refine Y.iadd X57 hx (hb hby d7_23) rfl ?_
  obtain ⟨T58, h58, X58, e58, W58, st58⟩ := putF X57 hx hZ hown (host := "") (Or.inl (W 64 rfl)) Via.refl e57 F_position_a1 E_a1 (Or.inl (W 56 rfl)) (W 2 rfl) (ty := .int) (by decide) rfl rfl (g := (mkF m 24 #[.val (.ref a1), .val (.long q), .second, .val (.long u50), .second] [(.int ((((((pp + (1 : Int32)) + (1 : Int32)) + (1 : Int32)) + (1 : Int32)) + (1 : Int32)) + (1 : Int32))), (.ref a1), (.int (((((pp + (1 : Int32)) + (1 : Int32)) + (1 : Int32)) + (1 : Int32)) + (1 : Int32))), (.ref ba)])) rfl rfl (hb hby d7_24)
  refine Gl.pre (fun _ k => st58 _ k) ?_
  have E_a1 := E_a1.wr W58
  have F_bytes_a1 := F_bytes_a1.other W58 (Or.inr (slot_ne (Or.inl (W 54 rfl)) (Or.inl (W 56 rfl)) (by decide) (t := (.array .byte)) (t' := .int) (by decide) (by decide)))
  have F_position_a1 := F_position_a1.same W58
  have V_ba := V_ba.other W58 (own_ne_ba_a1)
  have Z58 : n0 ≤ h58.size := by rw [W58.size]; exact Z49
  have N58 := Fr.snoc X58 N49 g_a1
  have K58 := K49.wr W58 (Or.inl (List.mem_of_getElem? (i := 0) rfl))
  refine Y.lloadN X58 hx (hb hby d7_27) rfl ?_
  refine Gl.pre (fun _ k => X58.ldc2Long hx hown (mvT hZ (W 72 rfl)) (g := (mkF m 28 #[.val (.ref a1), .val (.long q), .second, .val (.long u50), .second] [(.long u50), (.int (((((pp + (1 : Int32)) + (1 : Int32)) + (1 : Int32)) + (1 : Int32)) + (1 : Int32))), (.ref ba)])) rfl (hb hby d7_28) _ k) ?_
  refine Y.land X58 hx (hb hby d7_31) rfl ?_
  refine Gl.pre (fun _ k => X58.ldc2Long hx hown (mvT hZ (W 73 rfl)) (g := (mkF m 32 #[.val (.ref a1), .val (.long q), .second, .val (.long u50), .second] [(.long (u50 &&& (127 : Int64))), (.int (((((pp + (1 : Int32)) + (1 : Int32)) + (1 : Int32)) + (1 : Int32)) + (1 : Int32))), (.ref ba)])) rfl (hb hby d7_32) _ k) ?_
  refine Y.lor X58 hx (hb hby d7_35) rfl ?_
  refine Y.l2i X58 hx (hb hby d7_36) rfl ?_
  refine Y.i2b X58 hx (hb hby d7_37) rfl ?_
  obtain ⟨T59, h59, X59, e59, W59, V59, st59⟩ := own_stB X58 hx hZ e58 V_ba (j := (((((pp + (1 : Int32)) + (1 : Int32)) + (1 : Int32)) + (1 : Int32)) + (1 : Int32))) (i := ((((((pp + (1 : Int32)) + (1 : Int32)) + (1 : Int32)) + (1 : Int32)) + (1 : Int32))).toNatClampNeg) (own_nn5 hp) rfl (Nat.lt_of_lt_of_eq (own_lt5 hp) (by simp only [List.length_set, hlen])) (g := (mkF m 38 #[.val (.ref a1), .val (.long q), .second, .val (.long u50), .second] [(.int ((((u50 &&& (127 : Int64)) ||| (128 : Int64)).toInt32).toInt8.toInt32)), (.int (((((pp + (1 : Int32)) + (1 : Int32)) + (1 : Int32)) + (1 : Int32)) + (1 : Int32))), (.ref ba)])) rfl rfl (hb hby d7_38)
  refine Gl.pre (fun _ k => st59 _ k) ?_
  have E_a1 := E_a1.wr W59
  have F_bytes_a1 := F_bytes_a1.other W59 (Or.inl (own_ne_a1_ba))
  have F_position_a1 := F_position_a1.other W59 (Or.inl (own_ne_a1_ba))
  have Z59 : n0 ≤ h59.size := by rw [W59.size]; exact Z58
  have N59 := Fr.snoc X59 N58 g_ba
  have K59 := K58.wr W59 (Or.inl (List.mem_of_getElem? (i := 1) rfl))
  have V_ba := V59
  refine Y.lloadN X59 hx (hb hby d7_39) rfl ?_
  refine Y.bipush X59 hx (hb hby d7_40) ?_
  refine Y.lushr X59 hx (hb hby d7_42) rfl ?_
  show Gl p.tables e below PP (T59.setTop (mkF m 43 #[.val (.ref a1), .val (.long q), .second, .val (.long u50), .second] [(.long (own_ushrL u50 (7 : Int32)))]))
  obtain ⟨u60, hu60⟩ : ∃ z : Int64, z = (own_ushrL u50 (7 : Int32)) := ⟨_, rfl⟩
  rw [← hu60]
  show Gl p.tables e below PP (T59.setTop (mkF m 43 #[.val (.ref a1), .val (.long q), .second, .val (.long u50), .second] [(.long u60)]))
  refine Y.lstoreN X59 hx (hb hby d7_43) rfl (l' := #[.val (.ref a1), .val (.long q), .second, .val (.long u60), .second]) rfl ?_
  refine Y.goto X59 hx (pc0 := 44) (pc' := 2) rfl (hb hby d7_44) (by decide) (by decide) ?_
  refine Y.lloadN X59 hx (hb hby d7_2) rfl ?_
  refine Gl.pre (fun _ k => X59.ldc2Long hx hown (mvT hZ (W 62 rfl)) (g := (mkF m 3 #[.val (.ref a1), .val (.long q), .second, .val (.long u60), .second] [(.long u60)])) rfl (hb hby d7_3) _ k) ?_
  refine Y.land X59 hx (hb hby d7_6) rfl ?_
  refine Y.lconst X59 hx (hb hby d7_7) ?_
  refine Y.lcmp X59 hx (hb hby d7_8) rfl ?_
  by_cases hc61 : (u60 &&& (-128 : Int64)) = (0 : Int64)
  refine Y.ifYes X59 hx (pc0 := 9) (pc' := 47) rfl (hb hby d7_9) rfl ((if0 _ _).trans (teq ((lw_eq (u60 &&& (-128 : Int64)) (0 : Int64)).mpr hc61)).1) (by decide) (by decide) ?_
  refine Y.aloadN X59 hx (hb hby d7_47) rfl rfl ?_
  obtain ⟨T62, X62, e62, st62⟩ := getF X59 hx hZ hown (host := "") (Or.inl (W 63 rfl)) Via.refl e59 F_bytes_a1 (g := (mkF m 48 #[.val (.ref a1), .val (.long q), .second, .val (.long u60), .second] [(.ref a1)])) rfl rfl (hb hby d7_48)
  refine Gl.pre (fun _ k => st62 _ k) ?_
  refine Y.aloadN X62 hx (hb hby d7_51) rfl rfl ?_
  refine Y.dup X62 hx (hb hby d7_52) rfl rfl ?_
  obtain ⟨T63, X63, e63, st63⟩ := getF X62 hx hZ hown (host := "") (Or.inl (W 64 rfl)) Via.refl e62 F_position_a1 (g := (mkF m 53 #[.val (.ref a1), .val (.long q), .second, .val (.long u60), .second] [(.ref a1), (.ref a1), (.ref ba)])) rfl rfl (hb hby d7_53)
  refine Gl.pre (fun _ k => st63 _ k) ?_
  refine Y.dupX1 X63 hx (hb hby d7_56) rfl rfl rfl ?_
  refine Y.iconst X63 hx (hb hby d7_57) ?_
  refine Y.iadd X63 hx (hb hby d7_58) rfl ?_
  obtain ⟨T64, h64, X64, e64, W64, st64⟩ := putF X63 hx hZ hown (host := "") (Or.inl (W 64 rfl)) Via.refl e63 F_position_a1 E_a1 (Or.inl (W 56 rfl)) (W 2 rfl) (ty := .int) (by decide) rfl rfl (g := (mkF m 59 #[.val (.ref a1), .val (.long q), .second, .val (.long u60), .second] [(.int (((((((pp + (1 : Int32)) + (1 : Int32)) + (1 : Int32)) + (1 : Int32)) + (1 : Int32)) + (1 : Int32)) + (1 : Int32))), (.ref a1), (.int ((((((pp + (1 : Int32)) + (1 : Int32)) + (1 : Int32)) + (1 : Int32)) + (1 : Int32)) + (1 : Int32))), (.ref ba)])) rfl rfl (hb hby d7_59)
  refine Gl.pre (fun _ k => st64 _ k) ?_
  have E_a1 := E_a1.wr W64
  have F_bytes_a1 := F_bytes_a1.other W64 (Or.inr (slot_ne (Or.inl (W 54 rfl)) (Or.inl (W 56 rfl)) (by decide) (t := (.array .byte)) (t' := .int) (by decide) (by decide)))
  have F_position_a1 := F_position_a1.same W64
  have V_ba := V_ba.other W64 (own_ne_ba_a1)
  have Z64 : n0 ≤ h64.size := by rw [W64.size]; exact Z59
  have N64 := Fr.snoc X64 N59 g_a1
  have K64 := K59.wr W64 (Or.inl (List.mem_of_getElem? (i := 0) rfl))
  refine Y.lloadN X64 hx (hb hby d7_62) rfl ?_
  refine Y.l2i X64 hx (hb hby d7_63) rfl ?_
  refine Y.i2b X64 hx (hb hby d7_64) rfl ?_
  obtain ⟨T65, h65, X65, e65, W65, V65, st65⟩ := own_stB X64 hx hZ e64 V_ba (j := ((((((pp + (1 : Int32)) + (1 : Int32)) + (1 : Int32)) + (1 : Int32)) + (1 : Int32)) + (1 : Int32))) (i := (((((((pp + (1 : Int32)) + (1 : Int32)) + (1 : Int32)) + (1 : Int32)) + (1 : Int32)) + (1 : Int32))).toNatClampNeg) (own_nn6 hp) rfl (Nat.lt_of_lt_of_eq (own_lt6 hp) (by simp only [List.length_set, hlen])) (g := (mkF m 65 #[.val (.ref a1), .val (.long q), .second, .val (.long u60), .second] [(.int ((u60.toInt32).toInt8.toInt32)), (.int ((((((pp + (1 : Int32)) + (1 : Int32)) + (1 : Int32)) + (1 : Int32)) + (1 : Int32)) + (1 : Int32))), (.ref ba)])) rfl rfl (hb hby d7_65)
  refine Gl.pre (fun _ k => st65 _ k) ?_
  have E_a1 := E_a1.wr W65
  have F_bytes_a1 := F_bytes_a1.other W65 (Or.inl (own_ne_a1_ba))
  have F_position_a1 := F_position_a1.other W65 (Or.inl (own_ne_a1_ba))
  have Z65 : n0 ≤ h65.size := by rw [W65.size]; exact Z64
  have N65 := Fr.snoc X65 N64 g_ba
  have K65 := K64.wr W65 (Or.inl (List.mem_of_getElem? (i := 1) rfl))
  have V_ba := V65
  rw [hPP]
  refine own_finV (Q := (Q7 Z a1 q ba pp xs h0 n0)) X65 hx hlk Bd.returns (hb hby d7_66) ?_ (by decide) (by decide)
  show Q7 Z a1 q ba pp xs h0 n0 _ T65.heap _
  rw [e65]
  subst hu60
  subst hu50
  subst hu40
  subst hu30
  subst hu20
  subst hu10
  refine ⟨rfl, N65, K65, F_bytes_a1, ?_, ?_⟩
  rw [own_vr, if_neg hc1, if_neg hc11, if_neg hc21, if_neg hc31, if_neg hc41, if_neg hc51, if_pos hc61]; exact F_position_a1
  rw [own_vl, if_neg hc1, if_neg hc11, if_neg hc21, if_neg hc31, if_neg hc41, if_neg hc51, if_pos hc61]; exact V_ba
  refine Y.ifNo X59 hx (hb hby d7_9) rfl ((if0 _ _).trans (feq (mt (lw_eq (u60 &&& (-128 : Int64)) (0 : Int64)).mp hc61)).1) ?_
  refine Y.aloadN X59 hx (hb hby d7_12) rfl rfl ?_
  obtain ⟨T66, X66, e66, st66⟩ := getF X59 hx hZ hown (host := "") (Or.inl (W 63 rfl)) Via.refl e59 F_bytes_a1 (g := (mkF m 13 #[.val (.ref a1), .val (.long q), .second, .val (.long u60), .second] [(.ref a1)])) rfl rfl (hb hby d7_13)
  refine Gl.pre (fun _ k => st66 _ k) ?_
  refine Y.aloadN X66 hx (hb hby d7_16) rfl rfl ?_
  refine Y.dup X66 hx (hb hby d7_17) rfl rfl ?_
  obtain ⟨T67, X67, e67, st67⟩ := getF X66 hx hZ hown (host := "") (Or.inl (W 64 rfl)) Via.refl e66 F_position_a1 (g := (mkF m 18 #[.val (.ref a1), .val (.long q), .second, .val (.long u60), .second] [(.ref a1), (.ref a1), (.ref ba)])) rfl rfl (hb hby d7_18)
  refine Gl.pre (fun _ k => st67 _ k) ?_
  refine Y.dupX1 X67 hx (hb hby d7_21) rfl rfl rfl ?_
  refine Y.iconst X67 hx (hb hby d7_22) ?_
  refine Y.iadd X67 hx (hb hby d7_23) rfl ?_
  obtain ⟨T68, h68, X68, e68, W68, st68⟩ := putF X67 hx hZ hown (host := "") (Or.inl (W 64 rfl)) Via.refl e67 F_position_a1 E_a1 (Or.inl (W 56 rfl)) (W 2 rfl) (ty := .int) (by decide) rfl rfl (g := (mkF m 24 #[.val (.ref a1), .val (.long q), .second, .val (.long u60), .second] [(.int (((((((pp + (1 : Int32)) + (1 : Int32)) + (1 : Int32)) + (1 : Int32)) + (1 : Int32)) + (1 : Int32)) + (1 : Int32))), (.ref a1), (.int ((((((pp + (1 : Int32)) + (1 : Int32)) + (1 : Int32)) + (1 : Int32)) + (1 : Int32)) + (1 : Int32))), (.ref ba)])) rfl rfl (hb hby d7_24)
  refine Gl.pre (fun _ k => st68 _ k) ?_
  have E_a1 := E_a1.wr W68
  have F_bytes_a1 := F_bytes_a1.other W68 (Or.inr (slot_ne (Or.inl (W 54 rfl)) (Or.inl (W 56 rfl)) (by decide) (t := (.array .byte)) (t' := .int) (by decide) (by decide)))
  have F_position_a1 := F_position_a1.same W68
  have V_ba := V_ba.other W68 (own_ne_ba_a1)
  have Z68 : n0 ≤ h68.size := by rw [W68.size]; exact Z59
  have N68 := Fr.snoc X68 N59 g_a1
  have K68 := K59.wr W68 (Or.inl (List.mem_of_getElem? (i := 0) rfl))
  refine Y.lloadN X68 hx (hb hby d7_27) rfl ?_
  refine Gl.pre (fun _ k => X68.ldc2Long hx hown (mvT hZ (W 72 rfl)) (g := (mkF m 28 #[.val (.ref a1), .val (.long q), .second, .val (.long u60), .second] [(.long u60), (.int ((((((pp + (1 : Int32)) + (1 : Int32)) + (1 : Int32)) + (1 : Int32)) + (1 : Int32)) + (1 : Int32))), (.ref ba)])) rfl (hb hby d7_28) _ k) ?_
  refine Y.land X68 hx (hb hby d7_31) rfl ?_
  refine Gl.pre (fun _ k => X68.ldc2Long hx hown (mvT hZ (W 73 rfl)) (g := (mkF m 32 #[.val (.ref a1), .val (.long q), .second, .val (.long u60), .second] [(.long (u60 &&& (127 : Int64))), (.int ((((((pp + (1 : Int32)) + (1 : Int32)) + (1 : Int32)) + (1 : Int32)) + (1 : Int32)) + (1 : Int32))), (.ref ba)])) rfl (hb hby d7_32) _ k) ?_
  refine Y.lor X68 hx (hb hby d7_35) rfl ?_
  refine Y.l2i X68 hx (hb hby d7_36) rfl ?_
  refine Y.i2b X68 hx (hb hby d7_37) rfl ?_
  obtain ⟨T69, h69, X69, e69, W69, V69, st69⟩ := own_stB X68 hx hZ e68 V_ba (j := ((((((pp + (1 : Int32)) + (1 : Int32)) + (1 : Int32)) + (1 : Int32)) + (1 : Int32)) + (1 : Int32))) (i := (((((((pp + (1 : Int32)) + (1 : Int32)) + (1 : Int32)) + (1 : Int32)) + (1 : Int32)) + (1 : Int32))).toNatClampNeg) (own_nn6 hp) rfl (Nat.lt_of_lt_of_eq (own_lt6 hp) (by simp only [List.length_set, hlen])) (g := (mkF m 38 #[.val (.ref a1), .val (.long q), .second, .val (.long u60), .second] [(.int ((((u60 &&& (127 : Int64)) ||| (128 : Int64)).toInt32).toInt8.toInt32)), (.int ((((((pp + (1 : Int32)) + (1 : Int32)) + (1 : Int32)) + (1 : Int32)) + (1 : Int32)) + (1 : Int32))), (.ref ba)])) rfl rfl (hb hby d7_38)
  refine Gl.pre (fun _ k => st69 _ k) ?_
  have E_a1 := E_a1.wr W69
  have F_bytes_a1 := F_bytes_a1.other W69 (Or.inl (own_ne_a1_ba))
  have F_position_a1 := F_position_a1.other W69 (Or.inl (own_ne_a1_ba))
  have Z69 : n0 ≤ h69.size := by rw [W69.size]; exact Z68
  have N69 := Fr.snoc X69 N68 g_ba
  have K69 := K68.wr W69 (Or.inl (List.mem_of_getElem? (i := 1) rfl))
  have V_ba := V69
  refine Y.lloadN X69 hx (hb hby d7_39) rfl ?_
  refine Y.bipush X69 hx (hb hby d7_40) ?_
  refine Y.lushr X69 hx (hb hby d7_42) rfl ?_
  show Gl p.tables e below PP (T69.setTop (mkF m 43 #[.val (.ref a1), .val (.long q), .second, .val (.long u60), .second] [(.long (own_ushrL u60 (7 : Int32)))]))
  obtain ⟨u70, hu70⟩ : ∃ z : Int64, z = (own_ushrL u60 (7 : Int32)) := ⟨_, rfl⟩
  rw [← hu70]
  show Gl p.tables e below PP (T69.setTop (mkF m 43 #[.val (.ref a1), .val (.long q), .second, .val (.long u60), .second] [(.long u70)]))
  refine Y.lstoreN X69 hx (hb hby d7_43) rfl (l' := #[.val (.ref a1), .val (.long q), .second, .val (.long u70), .second]) rfl ?_
  refine Y.goto X69 hx (pc0 := 44) (pc' := 2) rfl (hb hby d7_44) (by decide) (by decide) ?_
  refine Y.lloadN X69 hx (hb hby d7_2) rfl ?_
  refine Gl.pre (fun _ k => X69.ldc2Long hx hown (mvT hZ (W 62 rfl)) (g := (mkF m 3 #[.val (.ref a1), .val (.long q), .second, .val (.long u70), .second] [(.long u70)])) rfl (hb hby d7_3) _ k) ?_
  refine Y.land X69 hx (hb hby d7_6) rfl ?_
  refine Y.lconst X69 hx (hb hby d7_7) ?_
  refine Y.lcmp X69 hx (hb hby d7_8) rfl ?_
  by_cases hc71 : (u70 &&& (-128 : Int64)) = (0 : Int64)
  refine Y.ifYes X69 hx (pc0 := 9) (pc' := 47) rfl (hb hby d7_9) rfl ((if0 _ _).trans (teq ((lw_eq (u70 &&& (-128 : Int64)) (0 : Int64)).mpr hc71)).1) (by decide) (by decide) ?_
  refine Y.aloadN X69 hx (hb hby d7_47) rfl rfl ?_
  obtain ⟨T72, X72, e72, st72⟩ := getF X69 hx hZ hown (host := "") (Or.inl (W 63 rfl)) Via.refl e69 F_bytes_a1 (g := (mkF m 48 #[.val (.ref a1), .val (.long q), .second, .val (.long u70), .second] [(.ref a1)])) rfl rfl (hb hby d7_48)
  refine Gl.pre (fun _ k => st72 _ k) ?_
  refine Y.aloadN X72 hx (hb hby d7_51) rfl rfl ?_
  refine Y.dup X72 hx (hb hby d7_52) rfl rfl ?_
  obtain ⟨T73, X73, e73, st73⟩ := getF X72 hx hZ hown (host := "") (Or.inl (W 64 rfl)) Via.refl e72 F_position_a1 (g := (mkF m 53 #[.val (.ref a1), .val (.long q), .second, .val (.long u70), .second] [(.ref a1), (.ref a1), (.ref ba)])) rfl rfl (hb hby d7_53)
  refine Gl.pre (fun _ k => st73 _ k) ?_
  refine Y.dupX1 X73 hx (hb hby d7_56) rfl rfl rfl ?_
  refine Y.iconst X73 hx (hb hby d7_57) ?_
  refine Y.iadd X73 hx (hb hby d7_58) rfl ?_
  obtain ⟨T74, h74, X74, e74, W74, st74⟩ := putF X73 hx hZ hown (host := "") (Or.inl (W 64 rfl)) Via.refl e73 F_position_a1 E_a1 (Or.inl (W 56 rfl)) (W 2 rfl) (ty := .int) (by decide) rfl rfl (g := (mkF m 59 #[.val (.ref a1), .val (.long q), .second, .val (.long u70), .second] [(.int ((((((((pp + (1 : Int32)) + (1 : Int32)) + (1 : Int32)) + (1 : Int32)) + (1 : Int32)) + (1 : Int32)) + (1 : Int32)) + (1 : Int32))), (.ref a1), (.int (((((((pp + (1 : Int32)) + (1 : Int32)) + (1 : Int32)) + (1 : Int32)) + (1 : Int32)) + (1 : Int32)) + (1 : Int32))), (.ref ba)])) rfl rfl (hb hby d7_59)
  refine Gl.pre (fun _ k => st74 _ k) ?_
  have E_a1 := E_a1.wr W74
  have F_bytes_a1 := F_bytes_a1.other W74 (Or.inr (slot_ne (Or.inl (W 54 rfl)) (Or.inl (W 56 rfl)) (by decide) (t := (.array .byte)) (t' := .int) (by decide) (by decide)))
  have F_position_a1 := F_position_a1.same W74
  have V_ba := V_ba.other W74 (own_ne_ba_a1)
  have Z74 : n0 ≤ h74.size := by rw [W74.size]; exact Z69
  have N74 := Fr.snoc X74 N69 g_a1
  have K74 := K69.wr W74 (Or.inl (List.mem_of_getElem? (i := 0) rfl))
  refine Y.lloadN X74 hx (hb hby d7_62) rfl ?_
  refine Y.l2i X74 hx (hb hby d7_63) rfl ?_
  refine Y.i2b X74 hx (hb hby d7_64) rfl ?_
  obtain ⟨T75, h75, X75, e75, W75, V75, st75⟩ := own_stB X74 hx hZ e74 V_ba (j := (((((((pp + (1 : Int32)) + (1 : Int32)) + (1 : Int32)) + (1 : Int32)) + (1 : Int32)) + (1 : Int32)) + (1 : Int32))) (i := ((((((((pp + (1 : Int32)) + (1 : Int32)) + (1 : Int32)) + (1 : Int32)) + (1 : Int32)) + (1 : Int32)) + (1 : Int32))).toNatClampNeg) (own_nn7 hp) rfl (Nat.lt_of_lt_of_eq (own_lt7 hp) (by simp only [List.length_set, hlen])) (g := (mkF m 65 #[.val (.ref a1), .val (.long q), .second, .val (.long u70), .second] [(.int ((u70.toInt32).toInt8.toInt32)), (.int (((((((pp + (1 : Int32)) + (1 : Int32)) + (1 : Int32)) + (1 : Int32)) + (1 : Int32)) + (1 : Int32)) + (1 : Int32))), (.ref ba)])) rfl rfl (hb hby d7_65)
  refine Gl.pre (fun _ k => st75 _ k) ?_
  have E_a1 := E_a1.wr W75
  have F_bytes_a1 := F_bytes_a1.other W75 (Or.inl (own_ne_a1_ba))
  have F_position_a1 := F_position_a1.other W75 (Or.inl (own_ne_a1_ba))
  have Z75 : n0 ≤ h75.size := by rw [W75.size]; exact Z74
  have N75 := Fr.snoc X75 N74 g_ba
  have K75 := K74.wr W75 (Or.inl (List.mem_of_getElem? (i := 1) rfl))
  have V_ba := V75
  rw [hPP]
  refine own_finV (Q := (Q7 Z a1 q ba pp xs h0 n0)) X75 hx hlk Bd.returns (hb hby d7_66) ?_ (by decide) (by decide)
  show Q7 Z a1 q ba pp xs h0 n0 _ T75.heap _
  rw [e75]
  subst hu70
  subst hu60
  subst hu50
  subst hu40
  subst hu30
  subst hu20
  subst hu10
  refine ⟨rfl, N75, K75, F_bytes_a1, ?_, ?_⟩
  rw [own_vr, if_neg hc1, if_neg hc11, if_neg hc21, if_neg hc31, if_neg hc41, if_neg hc51, if_neg hc61, if_pos hc71]; exact F_position_a1
  rw [own_vl, if_neg hc1, if_neg hc11, if_neg hc21, if_neg hc31, if_neg hc41, if_neg hc51, if_neg hc61, if_pos hc71]; exact V_ba
  refine Y.ifNo X69 hx (hb hby d7_9) rfl ((if0 _ _).trans (feq (mt (lw_eq (u70 &&& (-128 : Int64)) (0 : Int64)).mp hc71)).1) ?_
  refine Y.aloadN X69 hx (hb hby d7_12) rfl rfl ?_
  obtain ⟨T76, X76, e76, st76⟩ := getF X69 hx hZ hown (host := "") (Or.inl (W 63 rfl)) Via.refl e69 F_bytes_a1 (g := (mkF m 13 #[.val (.ref a1), .val (.long q), .second, .val (.long u70), .second] [(.ref a1)])) rfl rfl (hb hby d7_13)
  refine Gl.pre (fun _ k => st76 _ k) ?_
  refine Y.aloadN X76 hx (hb hby d7_16) rfl rfl ?_
  refine Y.dup X76 hx (hb hby d7_17) rfl rfl ?_
  obtain ⟨T77, X77, e77, st77⟩ := getF X76 hx hZ hown (host := "") (Or.inl (W 64 rfl)) Via.refl e76 F_position_a1 (g := (mkF m 18 #[.val (.ref a1), .val (.long q), .second, .val (.long u70), .second] [(.ref a1), (.ref a1), (.ref ba)])) rfl rfl (hb hby d7_18)
  refine Gl.pre (fun _ k => st77 _ k) ?_
  refine Y.dupX1 X77 hx (hb hby d7_21) rfl rfl rfl ?_
  refine Y.iconst X77 hx (hb hby d7_22) ?_
  refine Y.iadd X77 hx (hb hby d7_23) rfl ?_
  obtain ⟨T78, h78, X78, e78, W78, st78⟩ := putF X77 hx hZ hown (host := "") (Or.inl (W 64 rfl)) Via.refl e77 F_position_a1 E_a1 (Or.inl (W 56 rfl)) (W 2 rfl) (ty := .int) (by decide) rfl rfl (g := (mkF m 24 #[.val (.ref a1), .val (.long q), .second, .val (.long u70), .second] [(.int ((((((((pp + (1 : Int32)) + (1 : Int32)) + (1 : Int32)) + (1 : Int32)) + (1 : Int32)) + (1 : Int32)) + (1 : Int32)) + (1 : Int32))), (.ref a1), (.int (((((((pp + (1 : Int32)) + (1 : Int32)) + (1 : Int32)) + (1 : Int32)) + (1 : Int32)) + (1 : Int32)) + (1 : Int32))), (.ref ba)])) rfl rfl (hb hby d7_24)
  refine Gl.pre (fun _ k => st78 _ k) ?_
  have E_a1 := E_a1.wr W78
  have F_bytes_a1 := F_bytes_a1.other W78 (Or.inr (slot_ne (Or.inl (W 54 rfl)) (Or.inl (W 56 rfl)) (by decide) (t := (.array .byte)) (t' := .int) (by decide) (by decide)))
  have F_position_a1 := F_position_a1.same W78
  have V_ba := V_ba.other W78 (own_ne_ba_a1)
  have Z78 : n0 ≤ h78.size := by rw [W78.size]; exact Z69
  have N78 := Fr.snoc X78 N69 g_a1
  have K78 := K69.wr W78 (Or.inl (List.mem_of_getElem? (i := 0) rfl))
  refine Y.lloadN X78 hx (hb hby d7_27) rfl ?_
  refine Gl.pre (fun _ k => X78.ldc2Long hx hown (mvT hZ (W 72 rfl)) (g := (mkF m 28 #[.val (.ref a1), .val (.long q), .second, .val (.long u70), .second] [(.long u70), (.int (((((((pp + (1 : Int32)) + (1 : Int32)) + (1 : Int32)) + (1 : Int32)) + (1 : Int32)) + (1 : Int32)) + (1 : Int32))), (.ref ba)])) rfl (hb hby d7_28) _ k) ?_
  refine Y.land X78 hx (hb hby d7_31) rfl ?_
  refine Gl.pre (fun _ k => X78.ldc2Long hx hown (mvT hZ (W 73 rfl)) (g := (mkF m 32 #[.val (.ref a1), .val (.long q), .second, .val (.long u70), .second] [(.long (u70 &&& (127 : Int64))), (.int (((((((pp + (1 : Int32)) + (1 : Int32)) + (1 : Int32)) + (1 : Int32)) + (1 : Int32)) + (1 : Int32)) + (1 : Int32))), (.ref ba)])) rfl (hb hby d7_32) _ k) ?_
  refine Y.lor X78 hx (hb hby d7_35) rfl ?_
  refine Y.l2i X78 hx (hb hby d7_36) rfl ?_
  refine Y.i2b X78 hx (hb hby d7_37) rfl ?_
  obtain ⟨T79, h79, X79, e79, W79, V79, st79⟩ := own_stB X78 hx hZ e78 V_ba (j := (((((((pp + (1 : Int32)) + (1 : Int32)) + (1 : Int32)) + (1 : Int32)) + (1 : Int32)) + (1 : Int32)) + (1 : Int32))) (i := ((((((((pp + (1 : Int32)) + (1 : Int32)) + (1 : Int32)) + (1 : Int32)) + (1 : Int32)) + (1 : Int32)) + (1 : Int32))).toNatClampNeg) (own_nn7 hp) rfl (Nat.lt_of_lt_of_eq (own_lt7 hp) (by simp only [List.length_set, hlen])) (g := (mkF m 38 #[.val (.ref a1), .val (.long q), .second, .val (.long u70), .second] [(.int ((((u70 &&& (127 : Int64)) ||| (128 : Int64)).toInt32).toInt8.toInt32)), (.int (((((((pp + (1 : Int32)) + (1 : Int32)) + (1 : Int32)) + (1 : Int32)) + (1 : Int32)) + (1 : Int32)) + (1 : Int32))), (.ref ba)])) rfl rfl (hb hby d7_38)
  refine Gl.pre (fun _ k => st79 _ k) ?_
  have E_a1 := E_a1.wr W79
  have F_bytes_a1 := F_bytes_a1.other W79 (Or.inl (own_ne_a1_ba))
  have F_position_a1 := F_position_a1.other W79 (Or.inl (own_ne_a1_ba))
  have Z79 : n0 ≤ h79.size := by rw [W79.size]; exact Z78
  have N79 := Fr.snoc X79 N78 g_ba
  have K79 := K78.wr W79 (Or.inl (List.mem_of_getElem? (i := 1) rfl))
  have V_ba := V79
  refine Y.lloadN X79 hx (hb hby d7_39) rfl ?_
  refine Y.bipush X79 hx (hb hby d7_40) ?_
  refine Y.lushr X79 hx (hb hby d7_42) rfl ?_
  show Gl p.tables e below PP (T79.setTop (mkF m 43 #[.val (.ref a1), .val (.long q), .second, .val (.long u70), .second] [(.long (own_ushrL u70 (7 : Int32)))]))
  obtain ⟨u80, hu80⟩ : ∃ z : Int64, z = (own_ushrL u70 (7 : Int32)) := ⟨_, rfl⟩
  rw [← hu80]
  show Gl p.tables e below PP (T79.setTop (mkF m 43 #[.val (.ref a1), .val (.long q), .second, .val (.long u70), .second] [(.long u80)]))
  refine Y.lstoreN X79 hx (hb hby d7_43) rfl (l' := #[.val (.ref a1), .val (.long q), .second, .val (.long u80), .second]) rfl ?_
  refine Y.goto X79 hx (pc0 := 44) (pc' := 2) rfl (hb hby d7_44) (by decide) (by decide) ?_
  refine Y.lloadN X79 hx (hb hby d7_2) rfl ?_
  refine Gl.pre (fun _ k => X79.ldc2Long hx hown (mvT hZ (W 62 rfl)) (g := (mkF m 3 #[.val (.ref a1), .val (.long q), .second, .val (.long u80), .second] [(.long u80)])) rfl (hb hby d7_3) _ k) ?_
  refine Y.land X79 hx (hb hby d7_6) rfl ?_
  refine Y.lconst X79 hx (hb hby d7_7) ?_
  refine Y.lcmp X79 hx (hb hby d7_8) rfl ?_
  by_cases hc81 : (u80 &&& (-128 : Int64)) = (0 : Int64)
  refine Y.ifYes X79 hx (pc0 := 9) (pc' := 47) rfl (hb hby d7_9) rfl ((if0 _ _).trans (teq ((lw_eq (u80 &&& (-128 : Int64)) (0 : Int64)).mpr hc81)).1) (by decide) (by decide) ?_
  refine Y.aloadN X79 hx (hb hby d7_47) rfl rfl ?_
  obtain ⟨T82, X82, e82, st82⟩ := getF X79 hx hZ hown (host := "") (Or.inl (W 63 rfl)) Via.refl e79 F_bytes_a1 (g := (mkF m 48 #[.val (.ref a1), .val (.long q), .second, .val (.long u80), .second] [(.ref a1)])) rfl rfl (hb hby d7_48)
  refine Gl.pre (fun _ k => st82 _ k) ?_
  refine Y.aloadN X82 hx (hb hby d7_51) rfl rfl ?_
  refine Y.dup X82 hx (hb hby d7_52) rfl rfl ?_
  obtain ⟨T83, X83, e83, st83⟩ := getF X82 hx hZ hown (host := "") (Or.inl (W 64 rfl)) Via.refl e82 F_position_a1 (g := (mkF m 53 #[.val (.ref a1), .val (.long q), .second, .val (.long u80), .second] [(.ref a1), (.ref a1), (.ref ba)])) rfl rfl (hb hby d7_53)
  refine Gl.pre (fun _ k => st83 _ k) ?_
  refine Y.dupX1 X83 hx (hb hby d7_56) rfl rfl rfl ?_
  refine Y.iconst X83 hx (hb hby d7_57) ?_
  refine Y.iadd X83 hx (hb hby d7_58) rfl ?_
  obtain ⟨T84, h84, X84, e84, W84, st84⟩ := putF X83 hx hZ hown (host := "") (Or.inl (W 64 rfl)) Via.refl e83 F_position_a1 E_a1 (Or.inl (W 56 rfl)) (W 2 rfl) (ty := .int) (by decide) rfl rfl (g := (mkF m 59 #[.val (.ref a1), .val (.long q), .second, .val (.long u80), .second] [(.int (((((((((pp + (1 : Int32)) + (1 : Int32)) + (1 : Int32)) + (1 : Int32)) + (1 : Int32)) + (1 : Int32)) + (1 : Int32)) + (1 : Int32)) + (1 : Int32))), (.ref a1), (.int ((((((((pp + (1 : Int32)) + (1 : Int32)) + (1 : Int32)) + (1 : Int32)) + (1 : Int32)) + (1 : Int32)) + (1 : Int32)) + (1 : Int32))), (.ref ba)])) rfl rfl (hb hby d7_59)
  refine Gl.pre (fun _ k => st84 _ k) ?_
  have E_a1 := E_a1.wr W84
  have F_bytes_a1 := F_bytes_a1.other W84 (Or.inr (slot_ne (Or.inl (W 54 rfl)) (Or.inl (W 56 rfl)) (by decide) (t := (.array .byte)) (t' := .int) (by decide) (by decide)))
  have F_position_a1 := F_position_a1.same W84
  have V_ba := V_ba.other W84 (own_ne_ba_a1)
  have Z84 : n0 ≤ h84.size := by rw [W84.size]; exact Z79
  have N84 := Fr.snoc X84 N79 g_a1
  have K84 := K79.wr W84 (Or.inl (List.mem_of_getElem? (i := 0) rfl))
  refine Y.lloadN X84 hx (hb hby d7_62) rfl ?_
  refine Y.l2i X84 hx (hb hby d7_63) rfl ?_
  refine Y.i2b X84 hx (hb hby d7_64) rfl ?_
  obtain ⟨T85, h85, X85, e85, W85, V85, st85⟩ := own_stB X84 hx hZ e84 V_ba (j := ((((((((pp + (1 : Int32)) + (1 : Int32)) + (1 : Int32)) + (1 : Int32)) + (1 : Int32)) + (1 : Int32)) + (1 : Int32)) + (1 : Int32))) (i := (((((((((pp + (1 : Int32)) + (1 : Int32)) + (1 : Int32)) + (1 : Int32)) + (1 : Int32)) + (1 : Int32)) + (1 : Int32)) + (1 : Int32))).toNatClampNeg) (own_nn8 hp) rfl (Nat.lt_of_lt_of_eq (own_lt8 hp) (by simp only [List.length_set, hlen])) (g := (mkF m 65 #[.val (.ref a1), .val (.long q), .second, .val (.long u80), .second] [(.int ((u80.toInt32).toInt8.toInt32)), (.int ((((((((pp + (1 : Int32)) + (1 : Int32)) + (1 : Int32)) + (1 : Int32)) + (1 : Int32)) + (1 : Int32)) + (1 : Int32)) + (1 : Int32))), (.ref ba)])) rfl rfl (hb hby d7_65)
  refine Gl.pre (fun _ k => st85 _ k) ?_
  have E_a1 := E_a1.wr W85
  have F_bytes_a1 := F_bytes_a1.other W85 (Or.inl (own_ne_a1_ba))
  have F_position_a1 := F_position_a1.other W85 (Or.inl (own_ne_a1_ba))
  have Z85 : n0 ≤ h85.size := by rw [W85.size]; exact Z84
  have N85 := Fr.snoc X85 N84 g_ba
  have K85 := K84.wr W85 (Or.inl (List.mem_of_getElem? (i := 1) rfl))
  have V_ba := V85
  rw [hPP]
  refine own_finV (Q := (Q7 Z a1 q ba pp xs h0 n0)) X85 hx hlk Bd.returns (hb hby d7_66) ?_ (by decide) (by decide)
  show Q7 Z a1 q ba pp xs h0 n0 _ T85.heap _
  rw [e85]
  subst hu80
  subst hu70
  subst hu60
  subst hu50
  subst hu40
  subst hu30
  subst hu20
  subst hu10
  refine ⟨rfl, N85, K85, F_bytes_a1, ?_, ?_⟩
  rw [own_vr, if_neg hc1, if_neg hc11, if_neg hc21, if_neg hc31, if_neg hc41, if_neg hc51, if_neg hc61, if_neg hc71, if_pos hc81]; exact F_position_a1
  rw [own_vl, if_neg hc1, if_neg hc11, if_neg hc21, if_neg hc31, if_neg hc41, if_neg hc51, if_neg hc61, if_neg hc71, if_pos hc81]; exact V_ba
  refine Y.ifNo X79 hx (hb hby d7_9) rfl ((if0 _ _).trans (feq (mt (lw_eq (u80 &&& (-128 : Int64)) (0 : Int64)).mp hc81)).1) ?_
  refine Y.aloadN X79 hx (hb hby d7_12) rfl rfl ?_
  obtain ⟨T86, X86, e86, st86⟩ := getF X79 hx hZ hown (host := "") (Or.inl (W 63 rfl)) Via.refl e79 F_bytes_a1 (g := (mkF m 13 #[.val (.ref a1), .val (.long q), .second, .val (.long u80), .second] [(.ref a1)])) rfl rfl (hb hby d7_13)
  refine Gl.pre (fun _ k => st86 _ k) ?_
  refine Y.aloadN X86 hx (hb hby d7_16) rfl rfl ?_
  refine Y.dup X86 hx (hb hby d7_17) rfl rfl ?_
  obtain ⟨T87, X87, e87, st87⟩ := getF X86 hx hZ hown (host := "") (Or.inl (W 64 rfl)) Via.refl e86 F_position_a1 (g := (mkF m 18 #[.val (.ref a1), .val (.long q), .second, .val (.long u80), .second] [(.ref a1), (.ref a1), (.ref ba)])) rfl rfl (hb hby d7_18)
  refine Gl.pre (fun _ k => st87 _ k) ?_
  refine Y.dupX1 X87 hx (hb hby d7_21) rfl rfl rfl ?_
  refine Y.iconst X87 hx (hb hby d7_22) ?_
  refine Y.iadd X87 hx (hb hby d7_23) rfl ?_
  obtain ⟨T88, h88, X88, e88, W88, st88⟩ := putF X87 hx hZ hown (host := "") (Or.inl (W 64 rfl)) Via.refl e87 F_position_a1 E_a1 (Or.inl (W 56 rfl)) (W 2 rfl) (ty := .int) (by decide) rfl rfl (g := (mkF m 24 #[.val (.ref a1), .val (.long q), .second, .val (.long u80), .second] [(.int (((((((((pp + (1 : Int32)) + (1 : Int32)) + (1 : Int32)) + (1 : Int32)) + (1 : Int32)) + (1 : Int32)) + (1 : Int32)) + (1 : Int32)) + (1 : Int32))), (.ref a1), (.int ((((((((pp + (1 : Int32)) + (1 : Int32)) + (1 : Int32)) + (1 : Int32)) + (1 : Int32)) + (1 : Int32)) + (1 : Int32)) + (1 : Int32))), (.ref ba)])) rfl rfl (hb hby d7_24)
  refine Gl.pre (fun _ k => st88 _ k) ?_
  have E_a1 := E_a1.wr W88
  have F_bytes_a1 := F_bytes_a1.other W88 (Or.inr (slot_ne (Or.inl (W 54 rfl)) (Or.inl (W 56 rfl)) (by decide) (t := (.array .byte)) (t' := .int) (by decide) (by decide)))
  have F_position_a1 := F_position_a1.same W88
  have V_ba := V_ba.other W88 (own_ne_ba_a1)
  have Z88 : n0 ≤ h88.size := by rw [W88.size]; exact Z79
  have N88 := Fr.snoc X88 N79 g_a1
  have K88 := K79.wr W88 (Or.inl (List.mem_of_getElem? (i := 0) rfl))
  refine Y.lloadN X88 hx (hb hby d7_27) rfl ?_
  refine Gl.pre (fun _ k => X88.ldc2Long hx hown (mvT hZ (W 72 rfl)) (g := (mkF m 28 #[.val (.ref a1), .val (.long q), .second, .val (.long u80), .second] [(.long u80), (.int ((((((((pp + (1 : Int32)) + (1 : Int32)) + (1 : Int32)) + (1 : Int32)) + (1 : Int32)) + (1 : Int32)) + (1 : Int32)) + (1 : Int32))), (.ref ba)])) rfl (hb hby d7_28) _ k) ?_
  refine Y.land X88 hx (hb hby d7_31) rfl ?_
  refine Gl.pre (fun _ k => X88.ldc2Long hx hown (mvT hZ (W 73 rfl)) (g := (mkF m 32 #[.val (.ref a1), .val (.long q), .second, .val (.long u80), .second] [(.long (u80 &&& (127 : Int64))), (.int ((((((((pp + (1 : Int32)) + (1 : Int32)) + (1 : Int32)) + (1 : Int32)) + (1 : Int32)) + (1 : Int32)) + (1 : Int32)) + (1 : Int32))), (.ref ba)])) rfl (hb hby d7_32) _ k) ?_
  refine Y.lor X88 hx (hb hby d7_35) rfl ?_
  refine Y.l2i X88 hx (hb hby d7_36) rfl ?_
  refine Y.i2b X88 hx (hb hby d7_37) rfl ?_
  obtain ⟨T89, h89, X89, e89, W89, V89, st89⟩ := own_stB X88 hx hZ e88 V_ba (j := ((((((((pp + (1 : Int32)) + (1 : Int32)) + (1 : Int32)) + (1 : Int32)) + (1 : Int32)) + (1 : Int32)) + (1 : Int32)) + (1 : Int32))) (i := (((((((((pp + (1 : Int32)) + (1 : Int32)) + (1 : Int32)) + (1 : Int32)) + (1 : Int32)) + (1 : Int32)) + (1 : Int32)) + (1 : Int32))).toNatClampNeg) (own_nn8 hp) rfl (Nat.lt_of_lt_of_eq (own_lt8 hp) (by simp only [List.length_set, hlen])) (g := (mkF m 38 #[.val (.ref a1), .val (.long q), .second, .val (.long u80), .second] [(.int ((((u80 &&& (127 : Int64)) ||| (128 : Int64)).toInt32).toInt8.toInt32)), (.int ((((((((pp + (1 : Int32)) + (1 : Int32)) + (1 : Int32)) + (1 : Int32)) + (1 : Int32)) + (1 : Int32)) + (1 : Int32)) + (1 : Int32))), (.ref ba)])) rfl rfl (hb hby d7_38)
  refine Gl.pre (fun _ k => st89 _ k) ?_
  have E_a1 := E_a1.wr W89
  have F_bytes_a1 := F_bytes_a1.other W89 (Or.inl (own_ne_a1_ba))
  have F_position_a1 := F_position_a1.other W89 (Or.inl (own_ne_a1_ba))
  have Z89 : n0 ≤ h89.size := by rw [W89.size]; exact Z88
  have N89 := Fr.snoc X89 N88 g_ba
  have K89 := K88.wr W89 (Or.inl (List.mem_of_getElem? (i := 1) rfl))
  have V_ba := V89
  refine Y.lloadN X89 hx (hb hby d7_39) rfl ?_
  refine Y.bipush X89 hx (hb hby d7_40) ?_
  refine Y.lushr X89 hx (hb hby d7_42) rfl ?_
  show Gl p.tables e below PP (T89.setTop (mkF m 43 #[.val (.ref a1), .val (.long q), .second, .val (.long u80), .second] [(.long (own_ushrL u80 (7 : Int32)))]))
  obtain ⟨u90, hu90⟩ : ∃ z : Int64, z = (own_ushrL u80 (7 : Int32)) := ⟨_, rfl⟩
  rw [← hu90]
  show Gl p.tables e below PP (T89.setTop (mkF m 43 #[.val (.ref a1), .val (.long q), .second, .val (.long u80), .second] [(.long u90)]))
  refine Y.lstoreN X89 hx (hb hby d7_43) rfl (l' := #[.val (.ref a1), .val (.long q), .second, .val (.long u90), .second]) rfl ?_
  refine Y.goto X89 hx (pc0 := 44) (pc' := 2) rfl (hb hby d7_44) (by decide) (by decide) ?_
  refine Y.lloadN X89 hx (hb hby d7_2) rfl ?_
  refine Gl.pre (fun _ k => X89.ldc2Long hx hown (mvT hZ (W 62 rfl)) (g := (mkF m 3 #[.val (.ref a1), .val (.long q), .second, .val (.long u90), .second] [(.long u90)])) rfl (hb hby d7_3) _ k) ?_
  refine Y.land X89 hx (hb hby d7_6) rfl ?_
  refine Y.lconst X89 hx (hb hby d7_7) ?_
  refine Y.lcmp X89 hx (hb hby d7_8) rfl ?_
  refine Y.ifYes X89 hx (pc0 := 9) (pc' := 47) rfl (hb hby d7_9) rfl ((if0 _ _).trans (teq ((lw_eq (u90 &&& (-128 : Int64)) (0 : Int64)).mpr (show (u90 &&& (-128 : Int64)) = (0 : Int64) from (by rw [hu90, hu80, hu70, hu60, hu50, hu40, hu30, hu20, hu10]; exact own_sh9 q)))).1) (by decide) (by decide) ?_
  refine Y.aloadN X89 hx (hb hby d7_47) rfl rfl ?_
  obtain ⟨T91, X91, e91, st91⟩ := getF X89 hx hZ hown (host := "") (Or.inl (W 63 rfl)) Via.refl e89 F_bytes_a1 (g := (mkF m 48 #[.val (.ref a1), .val (.long q), .second, .val (.long u90), .second] [(.ref a1)])) rfl rfl (hb hby d7_48)
  refine Gl.pre (fun _ k => st91 _ k) ?_
  refine Y.aloadN X91 hx (hb hby d7_51) rfl rfl ?_
  refine Y.dup X91 hx (hb hby d7_52) rfl rfl ?_
  obtain ⟨T92, X92, e92, st92⟩ := getF X91 hx hZ hown (host := "") (Or.inl (W 64 rfl)) Via.refl e91 F_position_a1 (g := (mkF m 53 #[.val (.ref a1), .val (.long q), .second, .val (.long u90), .second] [(.ref a1), (.ref a1), (.ref ba)])) rfl rfl (hb hby d7_53)
  refine Gl.pre (fun _ k => st92 _ k) ?_
  refine Y.dupX1 X92 hx (hb hby d7_56) rfl rfl rfl ?_
  refine Y.iconst X92 hx (hb hby d7_57) ?_
  refine Y.iadd X92 hx (hb hby d7_58) rfl ?_
  obtain ⟨T93, h93, X93, e93, W93, st93⟩ := putF X92 hx hZ hown (host := "") (Or.inl (W 64 rfl)) Via.refl e92 F_position_a1 E_a1 (Or.inl (W 56 rfl)) (W 2 rfl) (ty := .int) (by decide) rfl rfl (g := (mkF m 59 #[.val (.ref a1), .val (.long q), .second, .val (.long u90), .second] [(.int ((((((((((pp + (1 : Int32)) + (1 : Int32)) + (1 : Int32)) + (1 : Int32)) + (1 : Int32)) + (1 : Int32)) + (1 : Int32)) + (1 : Int32)) + (1 : Int32)) + (1 : Int32))), (.ref a1), (.int (((((((((pp + (1 : Int32)) + (1 : Int32)) + (1 : Int32)) + (1 : Int32)) + (1 : Int32)) + (1 : Int32)) + (1 : Int32)) + (1 : Int32)) + (1 : Int32))), (.ref ba)])) rfl rfl (hb hby d7_59)
  refine Gl.pre (fun _ k => st93 _ k) ?_
  have E_a1 := E_a1.wr W93
  have F_bytes_a1 := F_bytes_a1.other W93 (Or.inr (slot_ne (Or.inl (W 54 rfl)) (Or.inl (W 56 rfl)) (by decide) (t := (.array .byte)) (t' := .int) (by decide) (by decide)))
  have F_position_a1 := F_position_a1.same W93
  have V_ba := V_ba.other W93 (own_ne_ba_a1)
  have Z93 : n0 ≤ h93.size := by rw [W93.size]; exact Z89
  have N93 := Fr.snoc X93 N89 g_a1
  have K93 := K89.wr W93 (Or.inl (List.mem_of_getElem? (i := 0) rfl))
  refine Y.lloadN X93 hx (hb hby d7_62) rfl ?_
  refine Y.l2i X93 hx (hb hby d7_63) rfl ?_
  refine Y.i2b X93 hx (hb hby d7_64) rfl ?_
  obtain ⟨T94, h94, X94, e94, W94, V94, st94⟩ := own_stB X93 hx hZ e93 V_ba (j := (((((((((pp + (1 : Int32)) + (1 : Int32)) + (1 : Int32)) + (1 : Int32)) + (1 : Int32)) + (1 : Int32)) + (1 : Int32)) + (1 : Int32)) + (1 : Int32))) (i := ((((((((((pp + (1 : Int32)) + (1 : Int32)) + (1 : Int32)) + (1 : Int32)) + (1 : Int32)) + (1 : Int32)) + (1 : Int32)) + (1 : Int32)) + (1 : Int32))).toNatClampNeg) (own_nn9 hp) rfl (Nat.lt_of_lt_of_eq (own_lt9 hp) (by simp only [List.length_set, hlen])) (g := (mkF m 65 #[.val (.ref a1), .val (.long q), .second, .val (.long u90), .second] [(.int ((u90.toInt32).toInt8.toInt32)), (.int (((((((((pp + (1 : Int32)) + (1 : Int32)) + (1 : Int32)) + (1 : Int32)) + (1 : Int32)) + (1 : Int32)) + (1 : Int32)) + (1 : Int32)) + (1 : Int32))), (.ref ba)])) rfl rfl (hb hby d7_65)
  refine Gl.pre (fun _ k => st94 _ k) ?_
  have E_a1 := E_a1.wr W94
  have F_bytes_a1 := F_bytes_a1.other W94 (Or.inl (own_ne_a1_ba))
  have F_position_a1 := F_position_a1.other W94 (Or.inl (own_ne_a1_ba))
  have Z94 : n0 ≤ h94.size := by rw [W94.size]; exact Z93
  have N94 := Fr.snoc X94 N93 g_ba
  have K94 := K93.wr W94 (Or.inl (List.mem_of_getElem? (i := 1) rfl))
  have V_ba := V94
  rw [hPP]
  refine own_finV (Q := (Q7 Z a1 q ba pp xs h0 n0)) X94 hx hlk Bd.returns (hb hby d7_66) ?_ (by decide) (by decide)
  show Q7 Z a1 q ba pp xs h0 n0 _ T94.heap _
  rw [e94]
  subst hu90
  subst hu80
  subst hu70
  subst hu60
  subst hu50
  subst hu40
  subst hu30
  subst hu20
  subst hu10
  refine ⟨rfl, N94, K94, F_bytes_a1, ?_, ?_⟩
  rw [own_vr, if_neg hc1, if_neg hc11, if_neg hc21, if_neg hc31, if_neg hc41, if_neg hc51, if_neg hc61, if_neg hc71, if_neg hc81]; exact F_position_a1
  rw [own_vl, if_neg hc1, if_neg hc11, if_neg hc21, if_neg hc31, if_neg hc41, if_neg hc51, if_neg hc61, if_neg hc71, if_neg hc81]; exact V_ba
theorem d8_0 : decode method_3_code 0 = .ok (.lload_n 0, 1) := by decide +kernel
theorem d8_1 : decode method_3_code 1 = .ok (.lconst 0, 1) := by decide +kernel
theorem d8_2 : decode method_3_code 2 = .ok (.lcmp, 1) := by decide +kernel
theorem d8_3 : decode method_3_code 3 = .ok (.ifCond .eq 7, 3) := by decide +kernel
theorem d8_6 : decode method_3_code 6 = .ok (.iconst 1, 1) := by decide +kernel
theorem d8_7 : decode method_3_code 7 = .ok (.goto 4, 3) := by decide +kernel
theorem d8_10 : decode method_3_code 10 = .ok (.iconst 0, 1) := by decide +kernel
theorem d8_11 : decode method_3_code 11 = .ok (.ireturn, 1) := by decide +kernel
theorem pn_8 : plainName "io/heapwire/FrameOutputPutVarlongPinLaw" = true := by first | (simp [plainName, overriddenIn]; done) | decide +kernel
theorem ef_8 (m : MethodId) (q : Int64) : entryFrame m #[(.long q)] 2 = mkF m 0 #[.val (.long q), .second] [] := by first | (simp [entryFrame, mkF, argsToLocals, Value.category]; done) | rfl
def Q8 (Z : State) (q : Int64) (h0 : Heap) (n0 : Nat) (v : Option Value) (h : Heap) (L : List Loc) : Prop := v = some (.int (own_pi (¬ (q = (0 : Int64))))) ∧ Fr n0 L ∧ h = h0
set_option maxRecDepth 65536 in
set_option maxHeartbeats 40000000 in
theorem rm8 (l : Launch) (Z : State) (a0 : Array Value) (hw : ∀ d ∈ tables_1, d.before a0 Z = true) (ws : List Jvm.Cond) (q : Int64) (h0 : Heap) (n0 : Nat) (Z0 : n0 ≤ h0.size)  :
    MetFree l (⟨"io/heapwire/FrameOutputPutVarlongPinLaw", "nz", "(J)I"⟩ : MethodName) (head1 (Jvm.Cond.code (⟨"io/heapwire/FrameOutputPutVarlongPinLaw", "nz", "(J)I"⟩ : MethodName) method_3_code 2 (some .int) :: ws) ({ frames := 0, cells := 0, slots := 0, locals := 0 } : Room)) (fun a U => a = #[(.long q)] ∧ Z.Warmed39 U.vm ∧ U.heap = h0) (fun _ _ _ _ _ => True) (fun _ U o U' => ∃ v L, o = .returned v ∧ Q8 Z q h0 n0 v U'.heap L ∧ FrameEnd U o U' L ({ frames := 0, cells := 0, slots := 0, locals := 0 } : Room).cells ({ frames := 0, cells := 0, slots := 0, locals := 0 } : Room).slots) := by
  have W := @own_wd Z a0 hw
  refine MetFree.of_bodySF (plainFor_of_name pn_8) hisR ?_
  intro p e s m args below meth c s₁ Bd hml0 hP hK
  obtain ⟨rfl, hZ, hh⟩ := hP
  have hx := Bd.exec
  have hby := Bd.bytes
  have hlk : meth.locks = false := BodyLoose.notSynchronized Bd
  have hml : c.maxLocals = 2 := hml0
  have hown : s.vm.findClass "io/heapwire/FrameOutputPutVarlongPinLaw" = some m.cls := findClass_of_methodNamed Bd.named
  have hnm := (name_of_methodNamed Bd.named Bd.method).1
  have X0 : Stand p l e ({ frames := 0, cells := 0, slots := 0, locals := 0 } : Room) s m #[(.long q)] below meth c s₁ [] 0 0 := Stand.of_body Bd
  have e0 : s₁.heap = h0 := by rw [← hh, Bd.state]; rfl
  have N0 := Fr.nil n0
  show Gl p.tables e below _ _
  refine Gl.pre (fun t k => castTop (ef_8 m q) k) ?_
  refine Gl.gen (fun PP hPP => ?_)
  show Gl p.tables e below PP (s₁.setTop (mkF m 0 #[.val (.long q), .second] []))
  refine Y.lloadN X0 hx (hb hby d8_0) rfl ?_
  refine Y.lconst X0 hx (hb hby d8_1) ?_
  refine Y.lcmp X0 hx (hb hby d8_2) rfl ?_
  suffices J1 : Gl p.tables e below PP (s₁.setTop (mkF m 11 #[.val (.long q), .second] [(.int (own_pi (¬ (q = (0 : Int64)))))])) by
   by_cases hd1 : q = (0 : Int64)
   rw [own_pi_nt hd1] at J1
   refine Y.ifYes X0 hx (pc0 := 3) (pc' := 10) rfl (hb hby d8_3) rfl ((if0 _ _).trans (teq ((lw_eq q (0 : Int64)).mpr hd1)).1) (by decide) (by decide) ?_
   refine Y.iconst X0 hx (hb hby d8_10) ?_
   exact J1
   rw [own_pi_nf hd1] at J1
   refine Y.ifNo X0 hx (hb hby d8_3) rfl ((if0 _ _).trans (feq (mt (lw_eq q (0 : Int64)).mp hd1)).1) ?_
   refine Y.iconst X0 hx (hb hby d8_6) ?_
   refine Y.goto X0 hx (pc0 := 7) (pc' := 11) rfl (hb hby d8_7) (by decide) (by decide) ?_
   exact J1
  show Gl p.tables e below PP (s₁.setTop (mkF m 11 #[.val (.long q), .second] [(.int (own_pi (¬ (q = (0 : Int64)))))]))
  rw [hPP]
  refine own_finI (Q := (Q8 Z q h0 n0)) X0 hx hlk Bd.returns (hb hby d8_11) ?_ (by decide) (by decide)
  show Q8 Z q h0 n0 _ s₁.heap _
  rw [e0]
  exact ⟨rfl, N0, rfl⟩
theorem d9_0 : decode method_4_code 0 = .ok (.iload_n 1, 1) := by decide +kernel
theorem d9_1 : decode method_4_code 1 = .ok (.iload_n 2, 1) := by decide +kernel
theorem d9_2 : decode method_4_code 2 = .ok (.isub, 1) := by decide +kernel
theorem d9_3 : decode method_4_code 3 = .ok (.istore 7, 2) := by decide +kernel
theorem d9_5 : decode method_4_code 5 = .ok (.iload 7, 2) := by decide +kernel
theorem d9_7 : decode method_4_code 7 = .ok (.ifCond .lt 9, 3) := by decide +kernel
theorem d9_10 : decode method_4_code 10 = .ok (.iload 7, 2) := by decide +kernel
theorem d9_12 : decode method_4_code 12 = .ok (.iload_n 3, 1) := by decide +kernel
theorem d9_13 : decode method_4_code 13 = .ok (.if_icmp .lt 10, 3) := by decide +kernel
theorem d9_16 : decode method_4_code 16 = .ok (.iload 6, 2) := by decide +kernel
theorem d9_18 : decode method_4_code 18 = .ok (.istore 8, 2) := by decide +kernel
theorem d9_20 : decode method_4_code 20 = .ok (.goto 42, 3) := by decide +kernel
theorem d9_23 : decode method_4_code 23 = .ok (.iload 7, 2) := by decide +kernel
theorem d9_25 : decode method_4_code 25 = .ok (.iload_n 3, 1) := by decide +kernel
theorem d9_26 : decode method_4_code 26 = .ok (.iconst 1, 1) := by decide +kernel
theorem d9_27 : decode method_4_code 27 = .ok (.isub, 1) := by decide +kernel
theorem d9_28 : decode method_4_code 28 = .ok (.if_icmp .ge 22, 3) := by decide +kernel
theorem d9_31 : decode method_4_code 31 = .ok (.lload 4, 2) := by decide +kernel
theorem d9_33 : decode method_4_code 33 = .ok (.bipush 7, 2) := by decide +kernel
theorem d9_35 : decode method_4_code 35 = .ok (.iload 7, 2) := by decide +kernel
theorem d9_37 : decode method_4_code 37 = .ok (.imul, 1) := by decide +kernel
theorem d9_38 : decode method_4_code 38 = .ok (.lushr, 1) := by decide +kernel
theorem d9_39 : decode method_4_code 39 = .ok (.ldc2_w 32, 3) := by decide +kernel
theorem d9_42 : decode method_4_code 42 = .ok (.lor, 1) := by decide +kernel
theorem d9_43 : decode method_4_code 43 = .ok (.l2i, 1) := by decide +kernel
theorem d9_44 : decode method_4_code 44 = .ok (.i2b, 1) := by decide +kernel
theorem d9_45 : decode method_4_code 45 = .ok (.istore 8, 2) := by decide +kernel
theorem d9_47 : decode method_4_code 47 = .ok (.goto 15, 3) := by decide +kernel
theorem d9_50 : decode method_4_code 50 = .ok (.lload 4, 2) := by decide +kernel
theorem d9_52 : decode method_4_code 52 = .ok (.bipush 7, 2) := by decide +kernel
theorem d9_54 : decode method_4_code 54 = .ok (.iload 7, 2) := by decide +kernel
theorem d9_56 : decode method_4_code 56 = .ok (.imul, 1) := by decide +kernel
theorem d9_57 : decode method_4_code 57 = .ok (.lushr, 1) := by decide +kernel
theorem d9_58 : decode method_4_code 58 = .ok (.l2i, 1) := by decide +kernel
theorem d9_59 : decode method_4_code 59 = .ok (.i2b, 1) := by decide +kernel
theorem d9_60 : decode method_4_code 60 = .ok (.istore 8, 2) := by decide +kernel
theorem d9_62 : decode method_4_code 62 = .ok (.aload_n 0, 1) := by decide +kernel
theorem d9_63 : decode method_4_code 63 = .ok (.iload_n 1, 1) := by decide +kernel
theorem d9_64 : decode method_4_code 64 = .ok (.baload, 1) := by decide +kernel
theorem d9_65 : decode method_4_code 65 = .ok (.iload 8, 2) := by decide +kernel
theorem d9_67 : decode method_4_code 67 = .ok (.if_icmp .ne 7, 3) := by decide +kernel
theorem d9_70 : decode method_4_code 70 = .ok (.iconst 1, 1) := by decide +kernel
theorem d9_71 : decode method_4_code 71 = .ok (.goto 4, 3) := by decide +kernel
theorem d9_74 : decode method_4_code 74 = .ok (.iconst 0, 1) := by decide +kernel
theorem d9_75 : decode method_4_code 75 = .ok (.ireturn, 1) := by decide +kernel
theorem pn_9 : plainName "io/heapwire/FrameOutputPutVarlongPinLaw" = true := by first | (simp [plainName, overriddenIn]; done) | decide +kernel
theorem ef_9 (m : MethodId) (a1 : Addr) (pj : Int32) (pp : Int32) (pn : Int32) (q : Int64) (s8 : Int32) (xs : List Int32) : entryFrame m #[(.ref a1), (.int pj), (.int pp), (.int pn), (.long q), (.int s8)] 9 = mkF m 0 #[.val (.ref a1), .val (.int pj), .val (.int pp), .val (.int pn), .val (.long q), .second, .val (.int s8), .unset, .unset] [] := by first | (simp [entryFrame, mkF, argsToLocals, Value.category]; done) | rfl
def Q9 (Z : State) (a1 : Addr) (pj : Int32) (pp : Int32) (pn : Int32) (q : Int64) (s8 : Int32) (xs : List Int32) (h0 : Heap) (n0 : Nat) (v : Option Value) (h : Heap) (L : List Loc) : Prop := v = some (.int (own_pi (xs.getD (pj).toNatClampNeg 0 = own_ei (pj - pp) pn q s8))) ∧ Fr n0 L ∧ h = h0
set_option maxRecDepth 65536 in
set_option maxHeartbeats 40000000 in
theorem rm9 (l : Launch) (Z : State) (a0 : Array Value) (hw : ∀ d ∈ tables_1, d.before a0 Z = true) (ws : List Jvm.Cond) (a1 : Addr) (pj : Int32) (pp : Int32) (pn : Int32) (q : Int64) (s8 : Int32) (xs : List Int32) (h0 : Heap) (n0 : Nat) (Z0 : n0 ≤ h0.size) (V_a1 : Bal Z h0 a1 .byte xs) (hnn : ¬ (pj < 0)) (hlt : pj.toNatClampNeg < xs.length) :
    MetFree l (⟨"io/heapwire/FrameOutputPutVarlongPinLaw", "at", "([BIIIJB)Z"⟩ : MethodName) (head1 (Jvm.Cond.code (⟨"io/heapwire/FrameOutputPutVarlongPinLaw", "at", "([BIIIJB)Z"⟩ : MethodName) method_4_code 9 (some .boolean) :: ws) ({ frames := 0, cells := 0, slots := 0, locals := 0 } : Room)) (fun a U => a = #[(.ref a1), (.int pj), (.int pp), (.int pn), (.long q), (.int s8)] ∧ Z.Warmed39 U.vm ∧ U.heap = h0) (fun _ _ _ _ _ => True) (fun _ U o U' => ∃ v L, o = .returned v ∧ Q9 Z a1 pj pp pn q s8 xs h0 n0 v U'.heap L ∧ FrameEnd U o U' L ({ frames := 0, cells := 0, slots := 0, locals := 0 } : Room).cells ({ frames := 0, cells := 0, slots := 0, locals := 0 } : Room).slots) := by
  have W := @own_wd Z a0 hw
  refine MetFree.of_bodySF (plainFor_of_name pn_9) hisR ?_
  intro p e s m args below meth c s₁ Bd hml0 hP hK
  obtain ⟨rfl, hZ, hh⟩ := hP
  have hx := Bd.exec
  have hby := Bd.bytes
  have hlk : meth.locks = false := BodyLoose.notSynchronized Bd
  have hml : c.maxLocals = 9 := hml0
  have hown : s.vm.findClass "io/heapwire/FrameOutputPutVarlongPinLaw" = some m.cls := findClass_of_methodNamed Bd.named
  have hnm := (name_of_methodNamed Bd.named Bd.method).1
  have X0 : Stand p l e ({ frames := 0, cells := 0, slots := 0, locals := 0 } : Room) s m #[(.ref a1), (.int pj), (.int pp), (.int pn), (.long q), (.int s8)] below meth c s₁ [] 0 0 := Stand.of_body Bd
  have e0 : s₁.heap = h0 := by rw [← hh, Bd.state]; rfl
  have N0 := Fr.nil n0
  show Gl p.tables e below _ _
  refine Gl.pre (fun t k => castTop (ef_9 m a1 pj pp pn q s8 xs) k) ?_
  refine Gl.gen (fun PP hPP => ?_)
  show Gl p.tables e below PP (s₁.setTop (mkF m 0 #[.val (.ref a1), .val (.int pj), .val (.int pp), .val (.int pn), .val (.long q), .second, .val (.int s8), .unset, .unset] []))
  refine Y.iloadN X0 hx (hb hby d9_0) rfl ?_
  refine Y.iloadN X0 hx (hb hby d9_1) rfl ?_
  refine Y.isub X0 hx (hb hby d9_2) rfl ?_
  refine Y.istore X0 hx (hb hby d9_3) rfl (l' := #[.val (.ref a1), .val (.int pj), .val (.int pp), .val (.int pn), .val (.long q), .second, .val (.int s8), .val (.int (pj - pp)), .unset]) rfl ?_
  refine Y.iload X0 hx (hb hby d9_5) rfl ?_
  by_cases hc1 : (pj - pp) < (0 : Int32)
  refine Y.ifYes X0 hx (pc0 := 7) (pc' := 16) rfl (hb hby d9_7) rfl ((if0 _ _).trans (tlt hc1).1) (by decide) (by decide) ?_
  refine Y.iload X0 hx (hb hby d9_16) rfl ?_
  refine Y.istore X0 hx (hb hby d9_18) rfl (l' := #[.val (.ref a1), .val (.int pj), .val (.int pp), .val (.int pn), .val (.long q), .second, .val (.int s8), .val (.int (pj - pp)), .val (.int s8)]) rfl ?_
  refine Y.goto X0 hx (pc0 := 20) (pc' := 62) rfl (hb hby d9_20) (by decide) (by decide) ?_
  refine Y.aloadN X0 hx (hb hby d9_62) rfl rfl ?_
  refine Y.iloadN X0 hx (hb hby d9_63) rfl ?_
  refine Gl.pre (fun _ k => own_ldB X0 hx hZ e0 V_a1 (j := pj) (i := (pj).toNatClampNeg) hnn rfl hlt (v := (xs.getD (pj).toNatClampNeg 0)) rfl (g := (mkF m 64 #[.val (.ref a1), .val (.int pj), .val (.int pp), .val (.int pn), .val (.long q), .second, .val (.int s8), .val (.int (pj - pp)), .val (.int s8)] [(.int pj), (.ref a1)])) rfl rfl (hb hby d9_64) _ k) ?_
  refine Y.iload X0 hx (hb hby d9_65) rfl ?_
  suffices J2 : Gl p.tables e below PP (s₁.setTop (mkF m 75 #[.val (.ref a1), .val (.int pj), .val (.int pp), .val (.int pn), .val (.long q), .second, .val (.int s8), .val (.int (pj - pp)), .val (.int s8)] [(.int (own_pi ((xs.getD (pj).toNatClampNeg 0) = s8)))])) by
   by_cases hd2 : (xs.getD (pj).toNatClampNeg 0) = s8
   rw [own_pi_t hd2] at J2
   refine Y.icmpNo X0 hx (hb hby d9_67) rfl (teq hd2).2 ?_
   refine Y.iconst X0 hx (hb hby d9_70) ?_
   refine Y.goto X0 hx (pc0 := 71) (pc' := 75) rfl (hb hby d9_71) (by decide) (by decide) ?_
   exact J2
   rw [own_pi_f hd2] at J2
   refine Y.icmpYes X0 hx (pc0 := 67) (pc' := 74) rfl (hb hby d9_67) rfl (feq hd2).2 (by decide) (by decide) ?_
   refine Y.iconst X0 hx (hb hby d9_74) ?_
   exact J2
  show Gl p.tables e below PP (s₁.setTop (mkF m 75 #[.val (.ref a1), .val (.int pj), .val (.int pp), .val (.int pn), .val (.long q), .second, .val (.int s8), .val (.int (pj - pp)), .val (.int s8)] [(.int (own_pi ((xs.getD (pj).toNatClampNeg 0) = s8)))]))
  rw [hPP]
  refine own_finN (Q := (Q9 Z a1 pj pp pn q s8 xs h0 n0)) X0 hx hlk Bd.returns (t := .boolean) (z' := (own_pi ((xs.getD (pj).toNatClampNeg 0) = s8))) (by simp) own_nar_pi (hb hby d9_75) ?_ (by decide) (by decide)
  show Q9 Z a1 pj pp pn q s8 xs h0 n0 _ s₁.heap _
  rw [e0]
  refine ⟨?_, N0, rfl⟩
  unfold own_ei; rw [if_pos hc1]
  refine Y.ifNo X0 hx (hb hby d9_7) rfl ((if0 _ _).trans (flt hc1).1) ?_
  refine Y.iload X0 hx (hb hby d9_10) rfl ?_
  refine Y.iloadN X0 hx (hb hby d9_12) rfl ?_
  by_cases hc3 : (pj - pp) < pn
  refine Y.icmpYes X0 hx (pc0 := 13) (pc' := 23) rfl (hb hby d9_13) rfl (tlt hc3).1 (by decide) (by decide) ?_
  refine Y.iload X0 hx (hb hby d9_23) rfl ?_
  refine Y.iloadN X0 hx (hb hby d9_25) rfl ?_
  refine Y.iconst X0 hx (hb hby d9_26) ?_
  refine Y.isub X0 hx (hb hby d9_27) rfl ?_
  by_cases hc4 : (pj - pp) < (pn - (1 : Int32))
  refine Y.icmpNo X0 hx (hb hby d9_28) rfl (tlt hc4).2.1 ?_
  refine Y.lload X0 hx (hb hby d9_31) rfl ?_
  refine Y.bipush X0 hx (hb hby d9_33) ?_
  refine Y.iload X0 hx (hb hby d9_35) rfl ?_
  refine Y.imul X0 hx (hb hby d9_37) rfl ?_
  refine Y.lushr X0 hx (hb hby d9_38) rfl ?_
  refine Gl.pre (fun _ k => X0.ldc2Long hx hown (mvT hZ (W 74 rfl)) (g := (mkF m 39 #[.val (.ref a1), .val (.int pj), .val (.int pp), .val (.int pn), .val (.long q), .second, .val (.int s8), .val (.int (pj - pp)), .unset] [(.long (own_ushrL q ((7 : Int32) * (pj - pp))))])) rfl (hb hby d9_39) _ k) ?_
  refine Y.lor X0 hx (hb hby d9_42) rfl ?_
  refine Y.l2i X0 hx (hb hby d9_43) rfl ?_
  refine Y.i2b X0 hx (hb hby d9_44) rfl ?_
  refine Y.istore X0 hx (hb hby d9_45) rfl (l' := #[.val (.ref a1), .val (.int pj), .val (.int pp), .val (.int pn), .val (.long q), .second, .val (.int s8), .val (.int (pj - pp)), .val (.int ((((own_ushrL q ((7 : Int32) * (pj - pp))) ||| (128 : Int64)).toInt32).toInt8.toInt32))]) rfl ?_
  refine Y.goto X0 hx (pc0 := 47) (pc' := 62) rfl (hb hby d9_47) (by decide) (by decide) ?_
  refine Y.aloadN X0 hx (hb hby d9_62) rfl rfl ?_
  refine Y.iloadN X0 hx (hb hby d9_63) rfl ?_
  refine Gl.pre (fun _ k => own_ldB X0 hx hZ e0 V_a1 (j := pj) (i := (pj).toNatClampNeg) hnn rfl hlt (v := (xs.getD (pj).toNatClampNeg 0)) rfl (g := (mkF m 64 #[.val (.ref a1), .val (.int pj), .val (.int pp), .val (.int pn), .val (.long q), .second, .val (.int s8), .val (.int (pj - pp)), .val (.int ((((own_ushrL q ((7 : Int32) * (pj - pp))) ||| (128 : Int64)).toInt32).toInt8.toInt32))] [(.int pj), (.ref a1)])) rfl rfl (hb hby d9_64) _ k) ?_
  refine Y.iload X0 hx (hb hby d9_65) rfl ?_
  suffices J5 : Gl p.tables e below PP (s₁.setTop (mkF m 75 #[.val (.ref a1), .val (.int pj), .val (.int pp), .val (.int pn), .val (.long q), .second, .val (.int s8), .val (.int (pj - pp)), .val (.int ((((own_ushrL q ((7 : Int32) * (pj - pp))) ||| (128 : Int64)).toInt32).toInt8.toInt32))] [(.int (own_pi ((xs.getD (pj).toNatClampNeg 0) = ((((own_ushrL q ((7 : Int32) * (pj - pp))) ||| (128 : Int64)).toInt32).toInt8.toInt32))))])) by
   by_cases hd5 : (xs.getD (pj).toNatClampNeg 0) = ((((own_ushrL q ((7 : Int32) * (pj - pp))) ||| (128 : Int64)).toInt32).toInt8.toInt32)
   rw [own_pi_t hd5] at J5
   refine Y.icmpNo X0 hx (hb hby d9_67) rfl (teq hd5).2 ?_
   refine Y.iconst X0 hx (hb hby d9_70) ?_
   refine Y.goto X0 hx (pc0 := 71) (pc' := 75) rfl (hb hby d9_71) (by decide) (by decide) ?_
   exact J5
   rw [own_pi_f hd5] at J5
   refine Y.icmpYes X0 hx (pc0 := 67) (pc' := 74) rfl (hb hby d9_67) rfl (feq hd5).2 (by decide) (by decide) ?_
   refine Y.iconst X0 hx (hb hby d9_74) ?_
   exact J5
  show Gl p.tables e below PP (s₁.setTop (mkF m 75 #[.val (.ref a1), .val (.int pj), .val (.int pp), .val (.int pn), .val (.long q), .second, .val (.int s8), .val (.int (pj - pp)), .val (.int ((((own_ushrL q ((7 : Int32) * (pj - pp))) ||| (128 : Int64)).toInt32).toInt8.toInt32))] [(.int (own_pi ((xs.getD (pj).toNatClampNeg 0) = ((((own_ushrL q ((7 : Int32) * (pj - pp))) ||| (128 : Int64)).toInt32).toInt8.toInt32))))]))
  rw [hPP]
  refine own_finN (Q := (Q9 Z a1 pj pp pn q s8 xs h0 n0)) X0 hx hlk Bd.returns (t := .boolean) (z' := (own_pi ((xs.getD (pj).toNatClampNeg 0) = ((((own_ushrL q ((7 : Int32) * (pj - pp))) ||| (128 : Int64)).toInt32).toInt8.toInt32)))) (by simp) own_nar_pi (hb hby d9_75) ?_ (by decide) (by decide)
  show Q9 Z a1 pj pp pn q s8 xs h0 n0 _ s₁.heap _
  rw [e0]
  refine ⟨?_, N0, rfl⟩
  unfold own_ei; rw [if_neg hc1, if_pos hc3, if_pos hc4]
  refine Y.icmpYes X0 hx (pc0 := 28) (pc' := 50) rfl (hb hby d9_28) rfl (flt hc4).2.1 (by decide) (by decide) ?_
  refine Y.lload X0 hx (hb hby d9_50) rfl ?_
  refine Y.bipush X0 hx (hb hby d9_52) ?_
  refine Y.iload X0 hx (hb hby d9_54) rfl ?_
  refine Y.imul X0 hx (hb hby d9_56) rfl ?_
  refine Y.lushr X0 hx (hb hby d9_57) rfl ?_
  refine Y.l2i X0 hx (hb hby d9_58) rfl ?_
  refine Y.i2b X0 hx (hb hby d9_59) rfl ?_
  refine Y.istore X0 hx (hb hby d9_60) rfl (l' := #[.val (.ref a1), .val (.int pj), .val (.int pp), .val (.int pn), .val (.long q), .second, .val (.int s8), .val (.int (pj - pp)), .val (.int (((own_ushrL q ((7 : Int32) * (pj - pp))).toInt32).toInt8.toInt32))]) rfl ?_
  refine Y.aloadN X0 hx (hb hby d9_62) rfl rfl ?_
  refine Y.iloadN X0 hx (hb hby d9_63) rfl ?_
  refine Gl.pre (fun _ k => own_ldB X0 hx hZ e0 V_a1 (j := pj) (i := (pj).toNatClampNeg) hnn rfl hlt (v := (xs.getD (pj).toNatClampNeg 0)) rfl (g := (mkF m 64 #[.val (.ref a1), .val (.int pj), .val (.int pp), .val (.int pn), .val (.long q), .second, .val (.int s8), .val (.int (pj - pp)), .val (.int (((own_ushrL q ((7 : Int32) * (pj - pp))).toInt32).toInt8.toInt32))] [(.int pj), (.ref a1)])) rfl rfl (hb hby d9_64) _ k) ?_
  refine Y.iload X0 hx (hb hby d9_65) rfl ?_
  suffices J6 : Gl p.tables e below PP (s₁.setTop (mkF m 75 #[.val (.ref a1), .val (.int pj), .val (.int pp), .val (.int pn), .val (.long q), .second, .val (.int s8), .val (.int (pj - pp)), .val (.int (((own_ushrL q ((7 : Int32) * (pj - pp))).toInt32).toInt8.toInt32))] [(.int (own_pi ((xs.getD (pj).toNatClampNeg 0) = (((own_ushrL q ((7 : Int32) * (pj - pp))).toInt32).toInt8.toInt32))))])) by
   by_cases hd6 : (xs.getD (pj).toNatClampNeg 0) = (((own_ushrL q ((7 : Int32) * (pj - pp))).toInt32).toInt8.toInt32)
   rw [own_pi_t hd6] at J6
   refine Y.icmpNo X0 hx (hb hby d9_67) rfl (teq hd6).2 ?_
   refine Y.iconst X0 hx (hb hby d9_70) ?_
   refine Y.goto X0 hx (pc0 := 71) (pc' := 75) rfl (hb hby d9_71) (by decide) (by decide) ?_
   exact J6
   rw [own_pi_f hd6] at J6
   refine Y.icmpYes X0 hx (pc0 := 67) (pc' := 74) rfl (hb hby d9_67) rfl (feq hd6).2 (by decide) (by decide) ?_
   refine Y.iconst X0 hx (hb hby d9_74) ?_
   exact J6
  show Gl p.tables e below PP (s₁.setTop (mkF m 75 #[.val (.ref a1), .val (.int pj), .val (.int pp), .val (.int pn), .val (.long q), .second, .val (.int s8), .val (.int (pj - pp)), .val (.int (((own_ushrL q ((7 : Int32) * (pj - pp))).toInt32).toInt8.toInt32))] [(.int (own_pi ((xs.getD (pj).toNatClampNeg 0) = (((own_ushrL q ((7 : Int32) * (pj - pp))).toInt32).toInt8.toInt32))))]))
  rw [hPP]
  refine own_finN (Q := (Q9 Z a1 pj pp pn q s8 xs h0 n0)) X0 hx hlk Bd.returns (t := .boolean) (z' := (own_pi ((xs.getD (pj).toNatClampNeg 0) = (((own_ushrL q ((7 : Int32) * (pj - pp))).toInt32).toInt8.toInt32)))) (by simp) own_nar_pi (hb hby d9_75) ?_ (by decide) (by decide)
  show Q9 Z a1 pj pp pn q s8 xs h0 n0 _ s₁.heap _
  rw [e0]
  refine ⟨?_, N0, rfl⟩
  unfold own_ei; rw [if_neg hc1, if_pos hc3, if_neg hc4]
  refine Y.icmpNo X0 hx (hb hby d9_13) rfl (flt hc3).1 ?_
  refine Y.iload X0 hx (hb hby d9_16) rfl ?_
  refine Y.istore X0 hx (hb hby d9_18) rfl (l' := #[.val (.ref a1), .val (.int pj), .val (.int pp), .val (.int pn), .val (.long q), .second, .val (.int s8), .val (.int (pj - pp)), .val (.int s8)]) rfl ?_
  refine Y.goto X0 hx (pc0 := 20) (pc' := 62) rfl (hb hby d9_20) (by decide) (by decide) ?_
  refine Y.aloadN X0 hx (hb hby d9_62) rfl rfl ?_
  refine Y.iloadN X0 hx (hb hby d9_63) rfl ?_
  refine Gl.pre (fun _ k => own_ldB X0 hx hZ e0 V_a1 (j := pj) (i := (pj).toNatClampNeg) hnn rfl hlt (v := (xs.getD (pj).toNatClampNeg 0)) rfl (g := (mkF m 64 #[.val (.ref a1), .val (.int pj), .val (.int pp), .val (.int pn), .val (.long q), .second, .val (.int s8), .val (.int (pj - pp)), .val (.int s8)] [(.int pj), (.ref a1)])) rfl rfl (hb hby d9_64) _ k) ?_
  refine Y.iload X0 hx (hb hby d9_65) rfl ?_
  suffices J7 : Gl p.tables e below PP (s₁.setTop (mkF m 75 #[.val (.ref a1), .val (.int pj), .val (.int pp), .val (.int pn), .val (.long q), .second, .val (.int s8), .val (.int (pj - pp)), .val (.int s8)] [(.int (own_pi ((xs.getD (pj).toNatClampNeg 0) = s8)))])) by
   by_cases hd7 : (xs.getD (pj).toNatClampNeg 0) = s8
   rw [own_pi_t hd7] at J7
   refine Y.icmpNo X0 hx (hb hby d9_67) rfl (teq hd7).2 ?_
   refine Y.iconst X0 hx (hb hby d9_70) ?_
   refine Y.goto X0 hx (pc0 := 71) (pc' := 75) rfl (hb hby d9_71) (by decide) (by decide) ?_
   exact J7
   rw [own_pi_f hd7] at J7
   refine Y.icmpYes X0 hx (pc0 := 67) (pc' := 74) rfl (hb hby d9_67) rfl (feq hd7).2 (by decide) (by decide) ?_
   refine Y.iconst X0 hx (hb hby d9_74) ?_
   exact J7
  show Gl p.tables e below PP (s₁.setTop (mkF m 75 #[.val (.ref a1), .val (.int pj), .val (.int pp), .val (.int pn), .val (.long q), .second, .val (.int s8), .val (.int (pj - pp)), .val (.int s8)] [(.int (own_pi ((xs.getD (pj).toNatClampNeg 0) = s8)))]))
  rw [hPP]
  refine own_finN (Q := (Q9 Z a1 pj pp pn q s8 xs h0 n0)) X0 hx hlk Bd.returns (t := .boolean) (z' := (own_pi ((xs.getD (pj).toNatClampNeg 0) = s8))) (by simp) own_nar_pi (hb hby d9_75) ?_ (by decide) (by decide)
  show Q9 Z a1 pj pp pn q s8 xs h0 n0 _ s₁.heap _
  rw [e0]
  refine ⟨?_, N0, rfl⟩
  unfold own_ei; rw [if_neg hc1, if_neg hc3]
theorem pn_0 : plainName "io/heapwire/FrameOutputPutVarlongPinLaw" = true := by first | (simp [plainName, overriddenIn]; done) | decide +kernel
theorem ef_0 (m : MethodId) (q1 : Int64) (p2 : Int32) (p3 : Int32) (p4 : Int32) : entryFrame m #[(.long q1), (.int p2), (.int p3), (.int p4)] maxLocals = mkF m 0 #[.val (.long q1), .second, .val (.int p2), .val (.int p3), .val (.int p4), .unset, .unset, .unset, .unset, .unset, .unset, .unset, .unset] [] := by first | (simp [entryFrame, mkF, argsToLocals, Value.category, maxLocals]; done) | rfl
def Q0 (Z : State) (q1 : Int64) (p2 : Int32) (p3 : Int32) (p4 : Int32) (h0 : Heap) (n0 : Nat) (v : Option Value) (h : Heap) (L : List Loc) : Prop := v = some (.int (1 : Int32)) ∧ Fr n0 L
set_option maxRecDepth 65536 in
set_option maxHeartbeats 40000000 in
theorem rm0 (l : Launch) (Z : State) (a0 : Array Value) (hw : ∀ d ∈ tables_1, d.before a0 Z = true) (ws : List Jvm.Cond) (q1 : Int64) (p2 : Int32) (p3 : Int32) (p4 : Int32) (h0 : Heap) (n0 : Nat) (Z0 : n0 ≤ h0.size)  :
    MetFree l x (head1 (Jvm.Cond.code x code maxLocals ret :: ws) room_1) (fun a U => a = #[(.long q1), (.int p2), (.int p3), (.int p4)] ∧ Z.Warmed39 U.vm ∧ U.heap = h0) (fun _ _ _ _ _ => True) (fun _ U o U' => ∃ v L, o = .returned v ∧ Q0 Z q1 p2 p3 p4 h0 n0 v U'.heap L ∧ FrameEnd U o U' L room_1.cells room_1.slots) := by
  have W := @own_wd Z a0 hw
  refine MetFree.of_bodySF (plainFor_of_name pn_0) hisR ?_
  intro p e s m args below meth c s₁ Bd hml0 hP hK
  obtain ⟨rfl, hZ, hh⟩ := hP
  have hx := Bd.exec
  have hby := Bd.bytes
  have hlk : meth.locks = false := BodyLoose.notSynchronized Bd
  have hml : c.maxLocals = 13 := hml0
  have hown : s.vm.findClass "io/heapwire/FrameOutputPutVarlongPinLaw" = some m.cls := findClass_of_methodNamed Bd.named
  have hnm := (name_of_methodNamed Bd.named Bd.method).1
  have X0 : Stand p l e room_1 s m #[(.long q1), (.int p2), (.int p3), (.int p4)] below meth c s₁ [] 0 0 := Stand.of_body Bd
  have e0 : s₁.heap = h0 := by rw [← hh, Bd.state]; rfl
  have N0 := Fr.nil n0
  show Gl p.tables e below _ _
  refine Gl.pre (fun t k => castTop (ef_0 m q1 p2 p3 p4) k) ?_
  refine Gl.gen (fun PP hPP => ?_)
  show Gl p.tables e below PP (s₁.setTop (mkF m 0 #[.val (.long q1), .second, .val (.int p2), .val (.int p3), .val (.int p4), .unset, .unset, .unset, .unset, .unset, .unset, .unset, .unset] []))
  refine Y.lloadN X0 hx (hb hby at_0) rfl ?_
  refine Y.iloadN X0 hx (hb hby at_1) rfl ?_
  refine Y.bipush X0 hx (hb hby at_2) ?_
  refine Y.iand X0 hx (hb hby at_4) rfl ?_
  refine Y.lushr X0 hx (hb hby at_5) rfl ?_
  show Gl p.tables e below PP (s₁.setTop (mkF m 6 #[.val (.long q1), .second, .val (.int p2), .val (.int p3), .val (.int p4), .unset, .unset, .unset, .unset, .unset, .unset, .unset, .unset] [(.long (own_v q1 p2))]))
  refine Y.lstore X0 hx (hb hby at_6) rfl (l' := #[.val (.long q1), .second, .val (.int p2), .val (.int p3), .val (.int p4), .val (.long (own_v q1 p2)), .second, .unset, .unset, .unset, .unset, .unset, .unset]) rfl ?_
  refine Y.iloadN X0 hx (hb hby at_8) rfl ?_
  refine Y.iconst X0 hx (hb hby at_9) ?_
  refine Y.iand X0 hx (hb hby at_10) rfl ?_
  refine Y.istore X0 hx (hb hby at_11) rfl (l' := #[.val (.long q1), .second, .val (.int p2), .val (.int p3), .val (.int p4), .val (.long (own_v q1 p2)), .second, .val (.int (p3 &&& (3 : Int32))), .unset, .unset, .unset, .unset, .unset]) rfl ?_
  refine Y.iload X0 hx (hb hby at_13) rfl ?_
  refine Y.i2b X0 hx (hb hby at_15) rfl ?_
  refine Y.istore X0 hx (hb hby at_16) rfl (l' := #[.val (.long q1), .second, .val (.int p2), .val (.int p3), .val (.int p4), .val (.long (own_v q1 p2)), .second, .val (.int (p3 &&& (3 : Int32))), .val (.int (p4.toInt8.toInt32)), .unset, .unset, .unset, .unset]) rfl ?_
  refine Y.bipush X0 hx (hb hby at_18) ?_
  obtain ⟨T1, h1, k1, X1, e1, E1, A1, st1⟩ := newP X0 hx hZ (W 0 rfl) e0 (g := (mkF m 20 #[.val (.long q1), .second, .val (.int p2), .val (.int p3), .val (.int p4), .val (.long (own_v q1 p2)), .second, .val (.int (p3 &&& (3 : Int32))), .val (.int (p4.toInt8.toInt32)), .unset, .unset, .unset, .unset] [(.int (14 : Int32))])) rfl (hb hby at_20) rfl (by decide) (cap := 14) (by decide) (by decide) (by decide) (by decide)
  obtain ⟨b1, g1⟩ : ∃ z, z = h0.size := ⟨_, rfl⟩
  rw [← g1] at A1 st1
  refine Gl.pre (fun _ k => st1 _ k) ?_
  have g_b1 : n0 ≤ b1 := Nat.le_trans Z0 (Nat.le_of_eq g1.symm)
  have Z1 : n0 ≤ h1.size := Nat.le_trans Z0 E1.1
  have V_b1 : Bal Z h1 b1 .byte [(0 : Int32), (0 : Int32), (0 : Int32), (0 : Int32), (0 : Int32), (0 : Int32), (0 : Int32), (0 : Int32), (0 : Int32), (0 : Int32), (0 : Int32), (0 : Int32), (0 : Int32), (0 : Int32)] := Bal.new (ty := .byte) A1 (n := 14) (by decide) rfl
  refine Y.dup X1 hx (hb hby at_22) rfl rfl ?_
  refine Y.iconst X1 hx (hb hby at_23) ?_
  refine Y.iload X1 hx (hb hby at_24) rfl ?_
  obtain ⟨T2, h2, X2, e2, W2, V2, st2⟩ := own_stB X1 hx hZ e1 V_b1 (j := (0 : Int32)) (i := 0) (by decide) (by decide) (Nat.lt_of_lt_of_eq (by decide : 0 < 14) rfl) (g := (mkF m 26 #[.val (.long q1), .second, .val (.int p2), .val (.int p3), .val (.int p4), .val (.long (own_v q1 p2)), .second, .val (.int (p3 &&& (3 : Int32))), .val (.int (p4.toInt8.toInt32)), .unset, .unset, .unset, .unset] [(.int (p4.toInt8.toInt32)), (.int (0 : Int32)), (.ref b1), (.ref b1)])) rfl rfl (hb hby at_26)
  refine Gl.pre (fun _ k => st2 _ k) ?_
  have Z2 : n0 ≤ h2.size := by rw [W2.size]; exact Z1
  have N2 := Fr.snoc X2 N0 g_b1
  have V_b1 : Bal Z h2 b1 .byte [(nar .byte (p4.toInt8.toInt32)), (0 : Int32), (0 : Int32), (0 : Int32), (0 : Int32), (0 : Int32), (0 : Int32), (0 : Int32), (0 : Int32), (0 : Int32), (0 : Int32), (0 : Int32), (0 : Int32), (0 : Int32)] := V2
  refine Y.dup X2 hx (hb hby at_27) rfl rfl ?_
  refine Y.iconst X2 hx (hb hby at_28) ?_
  refine Y.iload X2 hx (hb hby at_29) rfl ?_
  obtain ⟨T3, h3, X3, e3, W3, V3, st3⟩ := own_stB X2 hx hZ e2 V_b1 (j := (1 : Int32)) (i := 1) (by decide) (by decide) (Nat.lt_of_lt_of_eq (by decide : 1 < 14) rfl) (g := (mkF m 31 #[.val (.long q1), .second, .val (.int p2), .val (.int p3), .val (.int p4), .val (.long (own_v q1 p2)), .second, .val (.int (p3 &&& (3 : Int32))), .val (.int (p4.toInt8.toInt32)), .unset, .unset, .unset, .unset] [(.int (p4.toInt8.toInt32)), (.int (1 : Int32)), (.ref b1), (.ref b1)])) rfl rfl (hb hby at_31)
  refine Gl.pre (fun _ k => st3 _ k) ?_
  have Z3 : n0 ≤ h3.size := by rw [W3.size]; exact Z2
  have N3 := Fr.snoc X3 N2 g_b1
  have V_b1 : Bal Z h3 b1 .byte [(nar .byte (p4.toInt8.toInt32)), (nar .byte (p4.toInt8.toInt32)), (0 : Int32), (0 : Int32), (0 : Int32), (0 : Int32), (0 : Int32), (0 : Int32), (0 : Int32), (0 : Int32), (0 : Int32), (0 : Int32), (0 : Int32), (0 : Int32)] := V3
  refine Y.dup X3 hx (hb hby at_32) rfl rfl ?_
  refine Y.iconst X3 hx (hb hby at_33) ?_
  refine Y.iload X3 hx (hb hby at_34) rfl ?_
  obtain ⟨T4, h4, X4, e4, W4, V4, st4⟩ := own_stB X3 hx hZ e3 V_b1 (j := (2 : Int32)) (i := 2) (by decide) (by decide) (Nat.lt_of_lt_of_eq (by decide : 2 < 14) rfl) (g := (mkF m 36 #[.val (.long q1), .second, .val (.int p2), .val (.int p3), .val (.int p4), .val (.long (own_v q1 p2)), .second, .val (.int (p3 &&& (3 : Int32))), .val (.int (p4.toInt8.toInt32)), .unset, .unset, .unset, .unset] [(.int (p4.toInt8.toInt32)), (.int (2 : Int32)), (.ref b1), (.ref b1)])) rfl rfl (hb hby at_36)
  refine Gl.pre (fun _ k => st4 _ k) ?_
  have Z4 : n0 ≤ h4.size := by rw [W4.size]; exact Z3
  have N4 := Fr.snoc X4 N3 g_b1
  have V_b1 : Bal Z h4 b1 .byte [(nar .byte (p4.toInt8.toInt32)), (nar .byte (p4.toInt8.toInt32)), (nar .byte (p4.toInt8.toInt32)), (0 : Int32), (0 : Int32), (0 : Int32), (0 : Int32), (0 : Int32), (0 : Int32), (0 : Int32), (0 : Int32), (0 : Int32), (0 : Int32), (0 : Int32)] := V4
  refine Y.dup X4 hx (hb hby at_37) rfl rfl ?_
  refine Y.iconst X4 hx (hb hby at_38) ?_
  refine Y.iload X4 hx (hb hby at_39) rfl ?_
  obtain ⟨T5, h5, X5, e5, W5, V5, st5⟩ := own_stB X4 hx hZ e4 V_b1 (j := (3 : Int32)) (i := 3) (by decide) (by decide) (Nat.lt_of_lt_of_eq (by decide : 3 < 14) rfl) (g := (mkF m 41 #[.val (.long q1), .second, .val (.int p2), .val (.int p3), .val (.int p4), .val (.long (own_v q1 p2)), .second, .val (.int (p3 &&& (3 : Int32))), .val (.int (p4.toInt8.toInt32)), .unset, .unset, .unset, .unset] [(.int (p4.toInt8.toInt32)), (.int (3 : Int32)), (.ref b1), (.ref b1)])) rfl rfl (hb hby at_41)
  refine Gl.pre (fun _ k => st5 _ k) ?_
  have Z5 : n0 ≤ h5.size := by rw [W5.size]; exact Z4
  have N5 := Fr.snoc X5 N4 g_b1
  have V_b1 : Bal Z h5 b1 .byte [(nar .byte (p4.toInt8.toInt32)), (nar .byte (p4.toInt8.toInt32)), (nar .byte (p4.toInt8.toInt32)), (nar .byte (p4.toInt8.toInt32)), (0 : Int32), (0 : Int32), (0 : Int32), (0 : Int32), (0 : Int32), (0 : Int32), (0 : Int32), (0 : Int32), (0 : Int32), (0 : Int32)] := V5
  refine Y.dup X5 hx (hb hby at_42) rfl rfl ?_
  refine Y.iconst X5 hx (hb hby at_43) ?_
  refine Y.iload X5 hx (hb hby at_44) rfl ?_
  obtain ⟨T6, h6, X6, e6, W6, V6, st6⟩ := own_stB X5 hx hZ e5 V_b1 (j := (4 : Int32)) (i := 4) (by decide) (by decide) (Nat.lt_of_lt_of_eq (by decide : 4 < 14) rfl) (g := (mkF m 46 #[.val (.long q1), .second, .val (.int p2), .val (.int p3), .val (.int p4), .val (.long (own_v q1 p2)), .second, .val (.int (p3 &&& (3 : Int32))), .val (.int (p4.toInt8.toInt32)), .unset, .unset, .unset, .unset] [(.int (p4.toInt8.toInt32)), (.int (4 : Int32)), (.ref b1), (.ref b1)])) rfl rfl (hb hby at_46)
  refine Gl.pre (fun _ k => st6 _ k) ?_
  have Z6 : n0 ≤ h6.size := by rw [W6.size]; exact Z5
  have N6 := Fr.snoc X6 N5 g_b1
  have V_b1 : Bal Z h6 b1 .byte [(nar .byte (p4.toInt8.toInt32)), (nar .byte (p4.toInt8.toInt32)), (nar .byte (p4.toInt8.toInt32)), (nar .byte (p4.toInt8.toInt32)), (nar .byte (p4.toInt8.toInt32)), (0 : Int32), (0 : Int32), (0 : Int32), (0 : Int32), (0 : Int32), (0 : Int32), (0 : Int32), (0 : Int32), (0 : Int32)] := V6
  refine Y.dup X6 hx (hb hby at_47) rfl rfl ?_
  refine Y.iconst X6 hx (hb hby at_48) ?_
  refine Y.iload X6 hx (hb hby at_49) rfl ?_
  obtain ⟨T7, h7, X7, e7, W7, V7, st7⟩ := own_stB X6 hx hZ e6 V_b1 (j := (5 : Int32)) (i := 5) (by decide) (by decide) (Nat.lt_of_lt_of_eq (by decide : 5 < 14) rfl) (g := (mkF m 51 #[.val (.long q1), .second, .val (.int p2), .val (.int p3), .val (.int p4), .val (.long (own_v q1 p2)), .second, .val (.int (p3 &&& (3 : Int32))), .val (.int (p4.toInt8.toInt32)), .unset, .unset, .unset, .unset] [(.int (p4.toInt8.toInt32)), (.int (5 : Int32)), (.ref b1), (.ref b1)])) rfl rfl (hb hby at_51)
  refine Gl.pre (fun _ k => st7 _ k) ?_
  have Z7 : n0 ≤ h7.size := by rw [W7.size]; exact Z6
  have N7 := Fr.snoc X7 N6 g_b1
  have V_b1 : Bal Z h7 b1 .byte [(nar .byte (p4.toInt8.toInt32)), (nar .byte (p4.toInt8.toInt32)), (nar .byte (p4.toInt8.toInt32)), (nar .byte (p4.toInt8.toInt32)), (nar .byte (p4.toInt8.toInt32)), (nar .byte (p4.toInt8.toInt32)), (0 : Int32), (0 : Int32), (0 : Int32), (0 : Int32), (0 : Int32), (0 : Int32), (0 : Int32), (0 : Int32)] := V7
  refine Y.dup X7 hx (hb hby at_52) rfl rfl ?_
  refine Y.bipush X7 hx (hb hby at_53) ?_
  refine Y.iload X7 hx (hb hby at_55) rfl ?_
  obtain ⟨T8, h8, X8, e8, W8, V8, st8⟩ := own_stB X7 hx hZ e7 V_b1 (j := (6 : Int32)) (i := 6) (by decide) (by decide) (Nat.lt_of_lt_of_eq (by decide : 6 < 14) rfl) (g := (mkF m 57 #[.val (.long q1), .second, .val (.int p2), .val (.int p3), .val (.int p4), .val (.long (own_v q1 p2)), .second, .val (.int (p3 &&& (3 : Int32))), .val (.int (p4.toInt8.toInt32)), .unset, .unset, .unset, .unset] [(.int (p4.toInt8.toInt32)), (.int (6 : Int32)), (.ref b1), (.ref b1)])) rfl rfl (hb hby at_57)
  refine Gl.pre (fun _ k => st8 _ k) ?_
  have Z8 : n0 ≤ h8.size := by rw [W8.size]; exact Z7
  have N8 := Fr.snoc X8 N7 g_b1
  have V_b1 : Bal Z h8 b1 .byte [(nar .byte (p4.toInt8.toInt32)), (nar .byte (p4.toInt8.toInt32)), (nar .byte (p4.toInt8.toInt32)), (nar .byte (p4.toInt8.toInt32)), (nar .byte (p4.toInt8.toInt32)), (nar .byte (p4.toInt8.toInt32)), (nar .byte (p4.toInt8.toInt32)), (0 : Int32), (0 : Int32), (0 : Int32), (0 : Int32), (0 : Int32), (0 : Int32), (0 : Int32)] := V8
  refine Y.dup X8 hx (hb hby at_58) rfl rfl ?_
  refine Y.bipush X8 hx (hb hby at_59) ?_
  refine Y.iload X8 hx (hb hby at_61) rfl ?_
  obtain ⟨T9, h9, X9, e9, W9, V9, st9⟩ := own_stB X8 hx hZ e8 V_b1 (j := (7 : Int32)) (i := 7) (by decide) (by decide) (Nat.lt_of_lt_of_eq (by decide : 7 < 14) rfl) (g := (mkF m 63 #[.val (.long q1), .second, .val (.int p2), .val (.int p3), .val (.int p4), .val (.long (own_v q1 p2)), .second, .val (.int (p3 &&& (3 : Int32))), .val (.int (p4.toInt8.toInt32)), .unset, .unset, .unset, .unset] [(.int (p4.toInt8.toInt32)), (.int (7 : Int32)), (.ref b1), (.ref b1)])) rfl rfl (hb hby at_63)
  refine Gl.pre (fun _ k => st9 _ k) ?_
  have Z9 : n0 ≤ h9.size := by rw [W9.size]; exact Z8
  have N9 := Fr.snoc X9 N8 g_b1
  have V_b1 : Bal Z h9 b1 .byte [(nar .byte (p4.toInt8.toInt32)), (nar .byte (p4.toInt8.toInt32)), (nar .byte (p4.toInt8.toInt32)), (nar .byte (p4.toInt8.toInt32)), (nar .byte (p4.toInt8.toInt32)), (nar .byte (p4.toInt8.toInt32)), (nar .byte (p4.toInt8.toInt32)), (nar .byte (p4.toInt8.toInt32)), (0 : Int32), (0 : Int32), (0 : Int32), (0 : Int32), (0 : Int32), (0 : Int32)] := V9
  refine Y.dup X9 hx (hb hby at_64) rfl rfl ?_
  refine Y.bipush X9 hx (hb hby at_65) ?_
  refine Y.iload X9 hx (hb hby at_67) rfl ?_
  obtain ⟨T10, h10, X10, e10, W10, V10, st10⟩ := own_stB X9 hx hZ e9 V_b1 (j := (8 : Int32)) (i := 8) (by decide) (by decide) (Nat.lt_of_lt_of_eq (by decide : 8 < 14) rfl) (g := (mkF m 69 #[.val (.long q1), .second, .val (.int p2), .val (.int p3), .val (.int p4), .val (.long (own_v q1 p2)), .second, .val (.int (p3 &&& (3 : Int32))), .val (.int (p4.toInt8.toInt32)), .unset, .unset, .unset, .unset] [(.int (p4.toInt8.toInt32)), (.int (8 : Int32)), (.ref b1), (.ref b1)])) rfl rfl (hb hby at_69)
  refine Gl.pre (fun _ k => st10 _ k) ?_
  have Z10 : n0 ≤ h10.size := by rw [W10.size]; exact Z9
  have N10 := Fr.snoc X10 N9 g_b1
  have V_b1 : Bal Z h10 b1 .byte [(nar .byte (p4.toInt8.toInt32)), (nar .byte (p4.toInt8.toInt32)), (nar .byte (p4.toInt8.toInt32)), (nar .byte (p4.toInt8.toInt32)), (nar .byte (p4.toInt8.toInt32)), (nar .byte (p4.toInt8.toInt32)), (nar .byte (p4.toInt8.toInt32)), (nar .byte (p4.toInt8.toInt32)), (nar .byte (p4.toInt8.toInt32)), (0 : Int32), (0 : Int32), (0 : Int32), (0 : Int32), (0 : Int32)] := V10
  refine Y.dup X10 hx (hb hby at_70) rfl rfl ?_
  refine Y.bipush X10 hx (hb hby at_71) ?_
  refine Y.iload X10 hx (hb hby at_73) rfl ?_
  obtain ⟨T11, h11, X11, e11, W11, V11, st11⟩ := own_stB X10 hx hZ e10 V_b1 (j := (9 : Int32)) (i := 9) (by decide) (by decide) (Nat.lt_of_lt_of_eq (by decide : 9 < 14) rfl) (g := (mkF m 75 #[.val (.long q1), .second, .val (.int p2), .val (.int p3), .val (.int p4), .val (.long (own_v q1 p2)), .second, .val (.int (p3 &&& (3 : Int32))), .val (.int (p4.toInt8.toInt32)), .unset, .unset, .unset, .unset] [(.int (p4.toInt8.toInt32)), (.int (9 : Int32)), (.ref b1), (.ref b1)])) rfl rfl (hb hby at_75)
  refine Gl.pre (fun _ k => st11 _ k) ?_
  have Z11 : n0 ≤ h11.size := by rw [W11.size]; exact Z10
  have N11 := Fr.snoc X11 N10 g_b1
  have V_b1 : Bal Z h11 b1 .byte [(nar .byte (p4.toInt8.toInt32)), (nar .byte (p4.toInt8.toInt32)), (nar .byte (p4.toInt8.toInt32)), (nar .byte (p4.toInt8.toInt32)), (nar .byte (p4.toInt8.toInt32)), (nar .byte (p4.toInt8.toInt32)), (nar .byte (p4.toInt8.toInt32)), (nar .byte (p4.toInt8.toInt32)), (nar .byte (p4.toInt8.toInt32)), (nar .byte (p4.toInt8.toInt32)), (0 : Int32), (0 : Int32), (0 : Int32), (0 : Int32)] := V11
  refine Y.dup X11 hx (hb hby at_76) rfl rfl ?_
  refine Y.bipush X11 hx (hb hby at_77) ?_
  refine Y.iload X11 hx (hb hby at_79) rfl ?_
  obtain ⟨T12, h12, X12, e12, W12, V12, st12⟩ := own_stB X11 hx hZ e11 V_b1 (j := (10 : Int32)) (i := 10) (by decide) (by decide) (Nat.lt_of_lt_of_eq (by decide : 10 < 14) rfl) (g := (mkF m 81 #[.val (.long q1), .second, .val (.int p2), .val (.int p3), .val (.int p4), .val (.long (own_v q1 p2)), .second, .val (.int (p3 &&& (3 : Int32))), .val (.int (p4.toInt8.toInt32)), .unset, .unset, .unset, .unset] [(.int (p4.toInt8.toInt32)), (.int (10 : Int32)), (.ref b1), (.ref b1)])) rfl rfl (hb hby at_81)
  refine Gl.pre (fun _ k => st12 _ k) ?_
  have Z12 : n0 ≤ h12.size := by rw [W12.size]; exact Z11
  have N12 := Fr.snoc X12 N11 g_b1
  have V_b1 : Bal Z h12 b1 .byte [(nar .byte (p4.toInt8.toInt32)), (nar .byte (p4.toInt8.toInt32)), (nar .byte (p4.toInt8.toInt32)), (nar .byte (p4.toInt8.toInt32)), (nar .byte (p4.toInt8.toInt32)), (nar .byte (p4.toInt8.toInt32)), (nar .byte (p4.toInt8.toInt32)), (nar .byte (p4.toInt8.toInt32)), (nar .byte (p4.toInt8.toInt32)), (nar .byte (p4.toInt8.toInt32)), (nar .byte (p4.toInt8.toInt32)), (0 : Int32), (0 : Int32), (0 : Int32)] := V12
  refine Y.dup X12 hx (hb hby at_82) rfl rfl ?_
  refine Y.bipush X12 hx (hb hby at_83) ?_
  refine Y.iload X12 hx (hb hby at_85) rfl ?_
  obtain ⟨T13, h13, X13, e13, W13, V13, st13⟩ := own_stB X12 hx hZ e12 V_b1 (j := (11 : Int32)) (i := 11) (by decide) (by decide) (Nat.lt_of_lt_of_eq (by decide : 11 < 14) rfl) (g := (mkF m 87 #[.val (.long q1), .second, .val (.int p2), .val (.int p3), .val (.int p4), .val (.long (own_v q1 p2)), .second, .val (.int (p3 &&& (3 : Int32))), .val (.int (p4.toInt8.toInt32)), .unset, .unset, .unset, .unset] [(.int (p4.toInt8.toInt32)), (.int (11 : Int32)), (.ref b1), (.ref b1)])) rfl rfl (hb hby at_87)
  refine Gl.pre (fun _ k => st13 _ k) ?_
  have Z13 : n0 ≤ h13.size := by rw [W13.size]; exact Z12
  have N13 := Fr.snoc X13 N12 g_b1
  have V_b1 : Bal Z h13 b1 .byte [(nar .byte (p4.toInt8.toInt32)), (nar .byte (p4.toInt8.toInt32)), (nar .byte (p4.toInt8.toInt32)), (nar .byte (p4.toInt8.toInt32)), (nar .byte (p4.toInt8.toInt32)), (nar .byte (p4.toInt8.toInt32)), (nar .byte (p4.toInt8.toInt32)), (nar .byte (p4.toInt8.toInt32)), (nar .byte (p4.toInt8.toInt32)), (nar .byte (p4.toInt8.toInt32)), (nar .byte (p4.toInt8.toInt32)), (nar .byte (p4.toInt8.toInt32)), (0 : Int32), (0 : Int32)] := V13
  refine Y.dup X13 hx (hb hby at_88) rfl rfl ?_
  refine Y.bipush X13 hx (hb hby at_89) ?_
  refine Y.iload X13 hx (hb hby at_91) rfl ?_
  obtain ⟨T14, h14, X14, e14, W14, V14, st14⟩ := own_stB X13 hx hZ e13 V_b1 (j := (12 : Int32)) (i := 12) (by decide) (by decide) (Nat.lt_of_lt_of_eq (by decide : 12 < 14) rfl) (g := (mkF m 93 #[.val (.long q1), .second, .val (.int p2), .val (.int p3), .val (.int p4), .val (.long (own_v q1 p2)), .second, .val (.int (p3 &&& (3 : Int32))), .val (.int (p4.toInt8.toInt32)), .unset, .unset, .unset, .unset] [(.int (p4.toInt8.toInt32)), (.int (12 : Int32)), (.ref b1), (.ref b1)])) rfl rfl (hb hby at_93)
  refine Gl.pre (fun _ k => st14 _ k) ?_
  have Z14 : n0 ≤ h14.size := by rw [W14.size]; exact Z13
  have N14 := Fr.snoc X14 N13 g_b1
  have V_b1 : Bal Z h14 b1 .byte [(nar .byte (p4.toInt8.toInt32)), (nar .byte (p4.toInt8.toInt32)), (nar .byte (p4.toInt8.toInt32)), (nar .byte (p4.toInt8.toInt32)), (nar .byte (p4.toInt8.toInt32)), (nar .byte (p4.toInt8.toInt32)), (nar .byte (p4.toInt8.toInt32)), (nar .byte (p4.toInt8.toInt32)), (nar .byte (p4.toInt8.toInt32)), (nar .byte (p4.toInt8.toInt32)), (nar .byte (p4.toInt8.toInt32)), (nar .byte (p4.toInt8.toInt32)), (nar .byte (p4.toInt8.toInt32)), (0 : Int32)] := V14
  refine Y.dup X14 hx (hb hby at_94) rfl rfl ?_
  refine Y.bipush X14 hx (hb hby at_95) ?_
  refine Y.iload X14 hx (hb hby at_97) rfl ?_
  obtain ⟨T15, h15, X15, e15, W15, V15, st15⟩ := own_stB X14 hx hZ e14 V_b1 (j := (13 : Int32)) (i := 13) (by decide) (by decide) (Nat.lt_of_lt_of_eq (by decide : 13 < 14) rfl) (g := (mkF m 99 #[.val (.long q1), .second, .val (.int p2), .val (.int p3), .val (.int p4), .val (.long (own_v q1 p2)), .second, .val (.int (p3 &&& (3 : Int32))), .val (.int (p4.toInt8.toInt32)), .unset, .unset, .unset, .unset] [(.int (p4.toInt8.toInt32)), (.int (13 : Int32)), (.ref b1), (.ref b1)])) rfl rfl (hb hby at_99)
  refine Gl.pre (fun _ k => st15 _ k) ?_
  have Z15 : n0 ≤ h15.size := by rw [W15.size]; exact Z14
  have N15 := Fr.snoc X15 N14 g_b1
  have V_b1 : Bal Z h15 b1 .byte [(nar .byte (p4.toInt8.toInt32)), (nar .byte (p4.toInt8.toInt32)), (nar .byte (p4.toInt8.toInt32)), (nar .byte (p4.toInt8.toInt32)), (nar .byte (p4.toInt8.toInt32)), (nar .byte (p4.toInt8.toInt32)), (nar .byte (p4.toInt8.toInt32)), (nar .byte (p4.toInt8.toInt32)), (nar .byte (p4.toInt8.toInt32)), (nar .byte (p4.toInt8.toInt32)), (nar .byte (p4.toInt8.toInt32)), (nar .byte (p4.toInt8.toInt32)), (nar .byte (p4.toInt8.toInt32)), (nar .byte (p4.toInt8.toInt32))] := V15
  have V_b1 : Bal Z h15 b1 .byte (own_fl (p4.toInt8.toInt32)) := V_b1
  refine Y.astore X15 hx (hb hby at_100) rfl rfl (l' := #[.val (.long q1), .second, .val (.int p2), .val (.int p3), .val (.int p4), .val (.long (own_v q1 p2)), .second, .val (.int (p3 &&& (3 : Int32))), .val (.int (p4.toInt8.toInt32)), .val (.ref b1), .unset, .unset, .unset]) rfl ?_
  obtain ⟨T16, h16, X16, e16, E16, A16, D16, -, st16⟩ := newO X15 hx hZ hown (W 1 rfl) (W 2 rfl) (W 3 rfl) e15 (g := (mkF m 102 #[.val (.long q1), .second, .val (.int p2), .val (.int p3), .val (.int p4), .val (.long (own_v q1 p2)), .second, .val (.int (p3 &&& (3 : Int32))), .val (.int (p4.toInt8.toInt32)), .val (.ref b1), .unset, .unset, .unset] [])) rfl (hb hby at_102) (by decide) (by decide)
  obtain ⟨b16, g16⟩ : ∃ z, z = h15.size := ⟨_, rfl⟩
  rw [← g16] at A16 D16 st16
  refine Gl.pre (fun _ k => st16 _ k) ?_
  have own_ne_b1_b16 : b1 ≠ b16 := by have q := V_b1.lt; rw [g16]; exact Nat.ne_of_lt q
  have own_ne_b16_b1 : b16 ≠ b1 := own_ne_b1_b16.symm
  have g_b16 : n0 ≤ b16 := Nat.le_trans Z15 (Nat.le_of_eq g16.symm)
  have V_b1 := V_b1.ext E16
  have Z16 : n0 ≤ h16.size := Nat.le_trans Z15 E16.1
  have E_b16 := A16
  have F_spare_b16 : Fld Z h16 b16 "io/heapwire/FrameOutput" "spare" "Lio/heapwire/SpareRoom;" .null := D16 (Or.inr (W 20 rfl)) (ty := (.object "io/heapwire/SpareRoom")) (by decide)
  have F_idle_b16 : Fld Z h16 b16 "io/heapwire/FrameOutput" "idle" "Lio/heapwire/IdleRoom;" .null := D16 (Or.inr (W 52 rfl)) (ty := (.object "io/heapwire/IdleRoom")) (by decide)
  have F_bytes_b16 : Fld Z h16 b16 "io/heapwire/FrameOutput" "bytes" "[B" .null := D16 (Or.inl (W 54 rfl)) (ty := (.array .byte)) (by decide)
  have F_position_b16 : Fld Z h16 b16 "io/heapwire/FrameOutput" "position" "I" (.int (0 : Int32)) := D16 (Or.inl (W 56 rfl)) (ty := .int) (by decide)
  refine Y.dup X16 hx (hb hby at_105) rfl rfl ?_
  obtain ⟨_, _, ⟨T17, L17, k17, n17⟩, -, X17, ⟨Lc17, hQ17, l17, y17, z17⟩, st17⟩ := X16.specialBack hx (y := (⟨"io/heapwire/FrameOutput", "<init>", "()V"⟩ : MethodName)) rfl hown (mvT hZ (W 4 rfl)) (mvT hZ (W 5 rfl)) (mvT hZ (W 6 rfl)) (by decide) (backOf (W := 1) (rm1 l Z a0 hw [] b16 h16 n0 Z16 E_b16 F_spare_b16 F_idle_b16 F_bytes_b16 F_position_b16 g_b16) hZ (W 6 rfl) (W 3 rfl) (by decide) (by decide)) (g := (mkF m 106 #[.val (.long q1), .second, .val (.int p2), .val (.int p3), .val (.int p4), .val (.long (own_v q1 p2)), .second, .val (.int (p3 &&& (3 : Int32))), .val (.int (p4.toInt8.toInt32)), .val (.ref b1), .unset, .unset, .unset] [(.ref b16), (.ref b16)])) rfl (by rw [hml]; rfl) (Steps.refl _) (a := b16) (argsL := []) (rest := [(.ref b16)]) (lenOf pd_0 rfl) rfl (by show 2 * 0 + _ ≤ _; exact Nat.le_of_eq rfl) (hb hby at_106) (fun _ _ => ⟨rfl, e16, (by decide : 2 + 4 ≤ _), (by decide : 22 + 10 ≤ _)⟩)
  dsimp only [Pt.U, Pt.locs, Pt.cells, Pt.slots] at X17 l17 y17 z17 st17 hQ17
  rewrite [l17, y17, z17] at X17
  obtain ⟨rfl, N17q, K17, Fbytes17q, Fposition17q⟩ := hQ17
  have N17 := Fr.app N15 N17q
  refine Gl.pre (fun _ k => st17.trans k) ?_
  have V_b1 := V_b1.keep K17 (ninS (own_ne_b1_b16) nin0)
  have E_b16 := E_b16.keep K17
  have Z17 : n0 ≤ T17.heap.size := Nat.le_trans Z16 K17.1
  have F_bytes_b16 := Fbytes17q
  have F_position_b16 := Fposition17q
  refine Y.astore X17 hx (hb hby at_109) rfl rfl (l' := #[.val (.long q1), .second, .val (.int p2), .val (.int p3), .val (.int p4), .val (.long (own_v q1 p2)), .second, .val (.int (p3 &&& (3 : Int32))), .val (.int (p4.toInt8.toInt32)), .val (.ref b1), .val (.ref b16), .unset, .unset]) rfl ?_
  refine Y.aload X17 hx (hb hby at_111) rfl rfl ?_
  refine Y.aload X17 hx (hb hby at_113) rfl rfl ?_
  obtain ⟨T18, h18, X18, e18, W18, st18⟩ := putF X17 hx hZ hown (host := "") (Or.inl (W 53 rfl)) Via.refl rfl F_bytes_b16 E_b16 (Or.inl (W 54 rfl)) (W 2 rfl) (ty := (.array .byte)) (by decide) rfl rfl (g := (mkF m 115 #[.val (.long q1), .second, .val (.int p2), .val (.int p3), .val (.int p4), .val (.long (own_v q1 p2)), .second, .val (.int (p3 &&& (3 : Int32))), .val (.int (p4.toInt8.toInt32)), .val (.ref b1), .val (.ref b16), .unset, .unset] [(.ref b1), (.ref b16)])) rfl rfl (hb hby at_115)
  refine Gl.pre (fun _ k => st18 _ k) ?_
  have V_b1 := V_b1.other W18 (own_ne_b1_b16)
  have E_b16 := E_b16.wr W18
  have F_bytes_b16 := F_bytes_b16.same W18
  have F_position_b16 := F_position_b16.other W18 (Or.inr (slot_ne (Or.inl (W 56 rfl)) (Or.inl (W 54 rfl)) (by decide) (t := .int) (t' := (.array .byte)) (by decide) (by decide)))
  have Z18 : n0 ≤ h18.size := by rw [W18.size]; exact Z17
  have N18 := Fr.snoc X18 N17 g_b16
  refine Y.aload X18 hx (hb hby at_118) rfl rfl ?_
  refine Y.iload X18 hx (hb hby at_120) rfl ?_
  obtain ⟨T19, h19, X19, e19, W19, st19⟩ := putF X18 hx hZ hown (host := "") (Or.inl (W 55 rfl)) Via.refl e18 F_position_b16 E_b16 (Or.inl (W 56 rfl)) (W 2 rfl) (ty := .int) (by decide) rfl rfl (g := (mkF m 122 #[.val (.long q1), .second, .val (.int p2), .val (.int p3), .val (.int p4), .val (.long (own_v q1 p2)), .second, .val (.int (p3 &&& (3 : Int32))), .val (.int (p4.toInt8.toInt32)), .val (.ref b1), .val (.ref b16), .unset, .unset] [(.int (p3 &&& (3 : Int32))), (.ref b16)])) rfl rfl (hb hby at_122)
  refine Gl.pre (fun _ k => st19 _ k) ?_
  have V_b1 := V_b1.other W19 (own_ne_b1_b16)
  have E_b16 := E_b16.wr W19
  have F_bytes_b16 := F_bytes_b16.other W19 (Or.inr (slot_ne (Or.inl (W 54 rfl)) (Or.inl (W 56 rfl)) (by decide) (t := (.array .byte)) (t' := .int) (by decide) (by decide)))
  have F_position_b16 := F_position_b16.same W19
  have Z19 : n0 ≤ h19.size := by rw [W19.size]; exact Z18
  have N19 := Fr.snoc X19 N18 g_b16
  refine Y.aload X19 hx (hb hby at_125) rfl rfl ?_
  refine Y.lload X19 hx (hb hby at_127) rfl ?_
  obtain ⟨cq20, kq20, qa20, qb20, qc20⟩ := isOf hZ e19 E_b16
  obtain ⟨_, _, ⟨T20, L20, k20, n20⟩, -, X20, ⟨Lc20, hQ20, l20, y20, z20⟩, st20⟩ := X19.virtualBack hx (y := (⟨"io/heapwire/FrameOutput", "putVarlong", "(J)V"⟩ : MethodName)) (z := (⟨"io/heapwire/FrameOutput", "putVarlong", "(J)V"⟩ : MethodName)) hown (mvT hZ (W 57 rfl)) (mvT hZ (W 58 rfl)) (notFace_of_selects (args := #[]) (mvT hZ (W 60 rfl))) (mvT hZ (W 60 rfl)) (mvT hZ (W 59 rfl)) (by decide) (backOf (W := 0) (rm7 l Z a0 hw [] b16 (own_v q1 p2) b1 (p3 &&& (3 : Int32)) (own_fl (p4.toInt8.toInt32)) h19 n0 Z19 E_b16 F_bytes_b16 F_position_b16 V_b1 g_b16 g_b1 own_ne_b16_b1 own_ne_b1_b16 (own_at4 p3) rfl) hZ (W 61 rfl) (W 3 rfl) (by decide) (by decide)) qa20 qc20 (g := (mkF m 129 #[.val (.long q1), .second, .val (.int p2), .val (.int p3), .val (.int p4), .val (.long (own_v q1 p2)), .second, .val (.int (p3 &&& (3 : Int32))), .val (.int (p4.toInt8.toInt32)), .val (.ref b1), .val (.ref b16), .unset, .unset] [(.long (own_v q1 p2)), (.ref b16)])) rfl (by rw [hml]; rfl) (Steps.refl _) (argsL := [(.long (own_v q1 p2))]) (rest := []) (lenOf pd_3 rfl) rfl (by show 2 * 0 + _ ≤ _; exact Nat.le_of_eq rfl) (hb hby at_129) (fun _ _ => ⟨rfl, e19, (by decide : 6 + 0 ≤ _), (by decide : 32 + 0 ≤ _)⟩)
  dsimp only [Pt.U, Pt.locs, Pt.cells, Pt.slots] at X20 l20 y20 z20 st20 hQ20
  rewrite [l20, y20, z20] at X20
  obtain ⟨rfl, N20q, K20, Fb20q, Fp20q, V20q⟩ := hQ20
  have N20 := Fr.app N19 N20q
  refine Gl.pre (fun _ k => st20.trans k) ?_
  have E_b16 := E_b16.keep K20
  have Z20 : n0 ≤ T20.heap.size := Nat.le_trans Z19 K20.1
  have F_bytes_b16 := Fb20q
  have F_position_b16 := Fp20q
  have V_b1 := V20q
  refine Y.iconst X20 hx (hb hby at_132) ?_
  refine Y.lload X20 hx (hb hby at_133) rfl ?_
  refine Y.bipush X20 hx (hb hby at_135) ?_
  refine Y.lushr X20 hx (hb hby at_137) rfl ?_
  obtain ⟨_, _, ⟨T21, L21, k21, n21⟩, -, X21, ⟨Lc21, hQ21, l21, y21, z21⟩, st21⟩ := Jvm.LawKit.callS X20 hx (y := (⟨"io/heapwire/FrameOutputPutVarlongPinLaw", "nz", "(J)I"⟩ : MethodName)) hown (mvT hZ (W 65 rfl)) (mvT hZ (W 66 rfl)) (mvT hZ (W 67 rfl)) (mvT hZ (W 68 rfl)) (by decide) (backOf (W := 1) (rm8 l Z a0 hw [] (own_ushrL (own_v q1 p2) (7 : Int32)) T20.heap n0 Z20 ) hZ (W 68 rfl) (W 67 rfl) (by decide) (by decide)) (g := (mkF m 138 #[.val (.long q1), .second, .val (.int p2), .val (.int p3), .val (.int p4), .val (.long (own_v q1 p2)), .second, .val (.int (p3 &&& (3 : Int32))), .val (.int (p4.toInt8.toInt32)), .val (.ref b1), .val (.ref b16), .unset, .unset] [(.long (own_ushrL (own_v q1 p2) (7 : Int32))), (.int (1 : Int32))])) rfl (by rw [hml]; rfl) (argsL := [(.long (own_ushrL (own_v q1 p2) (7 : Int32)))]) (rest := [(.int (1 : Int32))]) (lenOf pd_4 rfl) rfl (by show 2 * 0 + _ ≤ _; exact Nat.le_of_eq rfl) (hb hby at_138) (fun _ _ => ⟨rfl, rfl, (by decide : 6 + 0 ≤ _), (by decide : 32 + 0 ≤ _)⟩)
  dsimp only [Pt.U, Pt.locs, Pt.cells, Pt.slots] at X21 l21 y21 z21 st21 hQ21
  rewrite [l21, y21, z21] at X21
  obtain ⟨rfl, N21q, e21⟩ := hQ21
  have N21 := Fr.app N20 N21q
  refine Gl.pre (fun _ k => st21 _ k) ?_
  refine Y.iadd X21 hx (hb hby at_141) rfl ?_
  refine Y.lload X21 hx (hb hby at_142) rfl ?_
  refine Y.bipush X21 hx (hb hby at_144) ?_
  refine Y.lushr X21 hx (hb hby at_146) rfl ?_
  obtain ⟨_, _, ⟨T22, L22, k22, n22⟩, -, X22, ⟨Lc22, hQ22, l22, y22, z22⟩, st22⟩ := Jvm.LawKit.callS X21 hx (y := (⟨"io/heapwire/FrameOutputPutVarlongPinLaw", "nz", "(J)I"⟩ : MethodName)) hown (mvT hZ (W 65 rfl)) (mvT hZ (W 66 rfl)) (mvT hZ (W 67 rfl)) (mvT hZ (W 68 rfl)) (by decide) (backOf (W := 1) (rm8 l Z a0 hw [] (own_ushrL (own_v q1 p2) (14 : Int32)) T20.heap n0 Z20 ) hZ (W 68 rfl) (W 67 rfl) (by decide) (by decide)) (g := (mkF m 147 #[.val (.long q1), .second, .val (.int p2), .val (.int p3), .val (.int p4), .val (.long (own_v q1 p2)), .second, .val (.int (p3 &&& (3 : Int32))), .val (.int (p4.toInt8.toInt32)), .val (.ref b1), .val (.ref b16), .unset, .unset] [(.long (own_ushrL (own_v q1 p2) (14 : Int32))), (.int ((1 : Int32) + (own_pi (¬ ((own_ushrL (own_v q1 p2) (7 : Int32)) = (0 : Int64))))))])) rfl (by rw [hml]; rfl) (argsL := [(.long (own_ushrL (own_v q1 p2) (14 : Int32)))]) (rest := [(.int ((1 : Int32) + (own_pi (¬ ((own_ushrL (own_v q1 p2) (7 : Int32)) = (0 : Int64))))))]) (lenOf pd_4 rfl) rfl (by show 2 * 0 + _ ≤ _; exact Nat.le_of_eq rfl) (hb hby at_147) (fun _ _ => ⟨rfl, e21, (by decide : 6 + 0 ≤ _), (by decide : 32 + 0 ≤ _)⟩)
  dsimp only [Pt.U, Pt.locs, Pt.cells, Pt.slots] at X22 l22 y22 z22 st22 hQ22
  rewrite [l22, y22, z22] at X22
  obtain ⟨rfl, N22q, e22⟩ := hQ22
  have N22 := Fr.app N21 N22q
  refine Gl.pre (fun _ k => st22 _ k) ?_
  refine Y.iadd X22 hx (hb hby at_150) rfl ?_
  refine Y.lload X22 hx (hb hby at_151) rfl ?_
  refine Y.bipush X22 hx (hb hby at_153) ?_
  refine Y.lushr X22 hx (hb hby at_155) rfl ?_
  obtain ⟨_, _, ⟨T23, L23, k23, n23⟩, -, X23, ⟨Lc23, hQ23, l23, y23, z23⟩, st23⟩ := Jvm.LawKit.callS X22 hx (y := (⟨"io/heapwire/FrameOutputPutVarlongPinLaw", "nz", "(J)I"⟩ : MethodName)) hown (mvT hZ (W 65 rfl)) (mvT hZ (W 66 rfl)) (mvT hZ (W 67 rfl)) (mvT hZ (W 68 rfl)) (by decide) (backOf (W := 1) (rm8 l Z a0 hw [] (own_ushrL (own_v q1 p2) (21 : Int32)) T20.heap n0 Z20 ) hZ (W 68 rfl) (W 67 rfl) (by decide) (by decide)) (g := (mkF m 156 #[.val (.long q1), .second, .val (.int p2), .val (.int p3), .val (.int p4), .val (.long (own_v q1 p2)), .second, .val (.int (p3 &&& (3 : Int32))), .val (.int (p4.toInt8.toInt32)), .val (.ref b1), .val (.ref b16), .unset, .unset] [(.long (own_ushrL (own_v q1 p2) (21 : Int32))), (.int (((1 : Int32) + (own_pi (¬ ((own_ushrL (own_v q1 p2) (7 : Int32)) = (0 : Int64))))) + (own_pi (¬ ((own_ushrL (own_v q1 p2) (14 : Int32)) = (0 : Int64))))))])) rfl (by rw [hml]; rfl) (argsL := [(.long (own_ushrL (own_v q1 p2) (21 : Int32)))]) (rest := [(.int (((1 : Int32) + (own_pi (¬ ((own_ushrL (own_v q1 p2) (7 : Int32)) = (0 : Int64))))) + (own_pi (¬ ((own_ushrL (own_v q1 p2) (14 : Int32)) = (0 : Int64))))))]) (lenOf pd_4 rfl) rfl (by show 2 * 0 + _ ≤ _; exact Nat.le_of_eq rfl) (hb hby at_156) (fun _ _ => ⟨rfl, e22, (by decide : 6 + 0 ≤ _), (by decide : 32 + 0 ≤ _)⟩)
  dsimp only [Pt.U, Pt.locs, Pt.cells, Pt.slots] at X23 l23 y23 z23 st23 hQ23
  rewrite [l23, y23, z23] at X23
  obtain ⟨rfl, N23q, e23⟩ := hQ23
  have N23 := Fr.app N22 N23q
  refine Gl.pre (fun _ k => st23 _ k) ?_
  refine Y.iadd X23 hx (hb hby at_159) rfl ?_
  refine Y.lload X23 hx (hb hby at_160) rfl ?_
  refine Y.bipush X23 hx (hb hby at_162) ?_
  refine Y.lushr X23 hx (hb hby at_164) rfl ?_
  obtain ⟨_, _, ⟨T24, L24, k24, n24⟩, -, X24, ⟨Lc24, hQ24, l24, y24, z24⟩, st24⟩ := Jvm.LawKit.callS X23 hx (y := (⟨"io/heapwire/FrameOutputPutVarlongPinLaw", "nz", "(J)I"⟩ : MethodName)) hown (mvT hZ (W 65 rfl)) (mvT hZ (W 66 rfl)) (mvT hZ (W 67 rfl)) (mvT hZ (W 68 rfl)) (by decide) (backOf (W := 1) (rm8 l Z a0 hw [] (own_ushrL (own_v q1 p2) (28 : Int32)) T20.heap n0 Z20 ) hZ (W 68 rfl) (W 67 rfl) (by decide) (by decide)) (g := (mkF m 165 #[.val (.long q1), .second, .val (.int p2), .val (.int p3), .val (.int p4), .val (.long (own_v q1 p2)), .second, .val (.int (p3 &&& (3 : Int32))), .val (.int (p4.toInt8.toInt32)), .val (.ref b1), .val (.ref b16), .unset, .unset] [(.long (own_ushrL (own_v q1 p2) (28 : Int32))), (.int ((((1 : Int32) + (own_pi (¬ ((own_ushrL (own_v q1 p2) (7 : Int32)) = (0 : Int64))))) + (own_pi (¬ ((own_ushrL (own_v q1 p2) (14 : Int32)) = (0 : Int64))))) + (own_pi (¬ ((own_ushrL (own_v q1 p2) (21 : Int32)) = (0 : Int64))))))])) rfl (by rw [hml]; rfl) (argsL := [(.long (own_ushrL (own_v q1 p2) (28 : Int32)))]) (rest := [(.int ((((1 : Int32) + (own_pi (¬ ((own_ushrL (own_v q1 p2) (7 : Int32)) = (0 : Int64))))) + (own_pi (¬ ((own_ushrL (own_v q1 p2) (14 : Int32)) = (0 : Int64))))) + (own_pi (¬ ((own_ushrL (own_v q1 p2) (21 : Int32)) = (0 : Int64))))))]) (lenOf pd_4 rfl) rfl (by show 2 * 0 + _ ≤ _; exact Nat.le_of_eq rfl) (hb hby at_165) (fun _ _ => ⟨rfl, e23, (by decide : 6 + 0 ≤ _), (by decide : 32 + 0 ≤ _)⟩)
  dsimp only [Pt.U, Pt.locs, Pt.cells, Pt.slots] at X24 l24 y24 z24 st24 hQ24
  rewrite [l24, y24, z24] at X24
  obtain ⟨rfl, N24q, e24⟩ := hQ24
  have N24 := Fr.app N23 N24q
  refine Gl.pre (fun _ k => st24 _ k) ?_
  refine Y.iadd X24 hx (hb hby at_168) rfl ?_
  refine Y.lload X24 hx (hb hby at_169) rfl ?_
  refine Y.bipush X24 hx (hb hby at_171) ?_
  refine Y.lushr X24 hx (hb hby at_173) rfl ?_
  obtain ⟨_, _, ⟨T25, L25, k25, n25⟩, -, X25, ⟨Lc25, hQ25, l25, y25, z25⟩, st25⟩ := Jvm.LawKit.callS X24 hx (y := (⟨"io/heapwire/FrameOutputPutVarlongPinLaw", "nz", "(J)I"⟩ : MethodName)) hown (mvT hZ (W 65 rfl)) (mvT hZ (W 66 rfl)) (mvT hZ (W 67 rfl)) (mvT hZ (W 68 rfl)) (by decide) (backOf (W := 1) (rm8 l Z a0 hw [] (own_ushrL (own_v q1 p2) (35 : Int32)) T20.heap n0 Z20 ) hZ (W 68 rfl) (W 67 rfl) (by decide) (by decide)) (g := (mkF m 174 #[.val (.long q1), .second, .val (.int p2), .val (.int p3), .val (.int p4), .val (.long (own_v q1 p2)), .second, .val (.int (p3 &&& (3 : Int32))), .val (.int (p4.toInt8.toInt32)), .val (.ref b1), .val (.ref b16), .unset, .unset] [(.long (own_ushrL (own_v q1 p2) (35 : Int32))), (.int (((((1 : Int32) + (own_pi (¬ ((own_ushrL (own_v q1 p2) (7 : Int32)) = (0 : Int64))))) + (own_pi (¬ ((own_ushrL (own_v q1 p2) (14 : Int32)) = (0 : Int64))))) + (own_pi (¬ ((own_ushrL (own_v q1 p2) (21 : Int32)) = (0 : Int64))))) + (own_pi (¬ ((own_ushrL (own_v q1 p2) (28 : Int32)) = (0 : Int64))))))])) rfl (by rw [hml]; rfl) (argsL := [(.long (own_ushrL (own_v q1 p2) (35 : Int32)))]) (rest := [(.int (((((1 : Int32) + (own_pi (¬ ((own_ushrL (own_v q1 p2) (7 : Int32)) = (0 : Int64))))) + (own_pi (¬ ((own_ushrL (own_v q1 p2) (14 : Int32)) = (0 : Int64))))) + (own_pi (¬ ((own_ushrL (own_v q1 p2) (21 : Int32)) = (0 : Int64))))) + (own_pi (¬ ((own_ushrL (own_v q1 p2) (28 : Int32)) = (0 : Int64))))))]) (lenOf pd_4 rfl) rfl (by show 2 * 0 + _ ≤ _; exact Nat.le_of_eq rfl) (hb hby at_174) (fun _ _ => ⟨rfl, e24, (by decide : 6 + 0 ≤ _), (by decide : 32 + 0 ≤ _)⟩)
  dsimp only [Pt.U, Pt.locs, Pt.cells, Pt.slots] at X25 l25 y25 z25 st25 hQ25
  rewrite [l25, y25, z25] at X25
  obtain ⟨rfl, N25q, e25⟩ := hQ25
  have N25 := Fr.app N24 N25q
  refine Gl.pre (fun _ k => st25 _ k) ?_
  refine Y.iadd X25 hx (hb hby at_177) rfl ?_
  refine Y.lload X25 hx (hb hby at_178) rfl ?_
  refine Y.bipush X25 hx (hb hby at_180) ?_
  refine Y.lushr X25 hx (hb hby at_182) rfl ?_
  obtain ⟨_, _, ⟨T26, L26, k26, n26⟩, -, X26, ⟨Lc26, hQ26, l26, y26, z26⟩, st26⟩ := Jvm.LawKit.callS X25 hx (y := (⟨"io/heapwire/FrameOutputPutVarlongPinLaw", "nz", "(J)I"⟩ : MethodName)) hown (mvT hZ (W 65 rfl)) (mvT hZ (W 66 rfl)) (mvT hZ (W 67 rfl)) (mvT hZ (W 68 rfl)) (by decide) (backOf (W := 1) (rm8 l Z a0 hw [] (own_ushrL (own_v q1 p2) (42 : Int32)) T20.heap n0 Z20 ) hZ (W 68 rfl) (W 67 rfl) (by decide) (by decide)) (g := (mkF m 183 #[.val (.long q1), .second, .val (.int p2), .val (.int p3), .val (.int p4), .val (.long (own_v q1 p2)), .second, .val (.int (p3 &&& (3 : Int32))), .val (.int (p4.toInt8.toInt32)), .val (.ref b1), .val (.ref b16), .unset, .unset] [(.long (own_ushrL (own_v q1 p2) (42 : Int32))), (.int ((((((1 : Int32) + (own_pi (¬ ((own_ushrL (own_v q1 p2) (7 : Int32)) = (0 : Int64))))) + (own_pi (¬ ((own_ushrL (own_v q1 p2) (14 : Int32)) = (0 : Int64))))) + (own_pi (¬ ((own_ushrL (own_v q1 p2) (21 : Int32)) = (0 : Int64))))) + (own_pi (¬ ((own_ushrL (own_v q1 p2) (28 : Int32)) = (0 : Int64))))) + (own_pi (¬ ((own_ushrL (own_v q1 p2) (35 : Int32)) = (0 : Int64))))))])) rfl (by rw [hml]; rfl) (argsL := [(.long (own_ushrL (own_v q1 p2) (42 : Int32)))]) (rest := [(.int ((((((1 : Int32) + (own_pi (¬ ((own_ushrL (own_v q1 p2) (7 : Int32)) = (0 : Int64))))) + (own_pi (¬ ((own_ushrL (own_v q1 p2) (14 : Int32)) = (0 : Int64))))) + (own_pi (¬ ((own_ushrL (own_v q1 p2) (21 : Int32)) = (0 : Int64))))) + (own_pi (¬ ((own_ushrL (own_v q1 p2) (28 : Int32)) = (0 : Int64))))) + (own_pi (¬ ((own_ushrL (own_v q1 p2) (35 : Int32)) = (0 : Int64))))))]) (lenOf pd_4 rfl) rfl (by show 2 * 0 + _ ≤ _; exact Nat.le_of_eq rfl) (hb hby at_183) (fun _ _ => ⟨rfl, e25, (by decide : 6 + 0 ≤ _), (by decide : 32 + 0 ≤ _)⟩)
  dsimp only [Pt.U, Pt.locs, Pt.cells, Pt.slots] at X26 l26 y26 z26 st26 hQ26
  rewrite [l26, y26, z26] at X26
  obtain ⟨rfl, N26q, e26⟩ := hQ26
  have N26 := Fr.app N25 N26q
  refine Gl.pre (fun _ k => st26 _ k) ?_
  refine Y.iadd X26 hx (hb hby at_186) rfl ?_
  refine Y.lload X26 hx (hb hby at_187) rfl ?_
  refine Y.bipush X26 hx (hb hby at_189) ?_
  refine Y.lushr X26 hx (hb hby at_191) rfl ?_
  obtain ⟨_, _, ⟨T27, L27, k27, n27⟩, -, X27, ⟨Lc27, hQ27, l27, y27, z27⟩, st27⟩ := Jvm.LawKit.callS X26 hx (y := (⟨"io/heapwire/FrameOutputPutVarlongPinLaw", "nz", "(J)I"⟩ : MethodName)) hown (mvT hZ (W 65 rfl)) (mvT hZ (W 66 rfl)) (mvT hZ (W 67 rfl)) (mvT hZ (W 68 rfl)) (by decide) (backOf (W := 1) (rm8 l Z a0 hw [] (own_ushrL (own_v q1 p2) (49 : Int32)) T20.heap n0 Z20 ) hZ (W 68 rfl) (W 67 rfl) (by decide) (by decide)) (g := (mkF m 192 #[.val (.long q1), .second, .val (.int p2), .val (.int p3), .val (.int p4), .val (.long (own_v q1 p2)), .second, .val (.int (p3 &&& (3 : Int32))), .val (.int (p4.toInt8.toInt32)), .val (.ref b1), .val (.ref b16), .unset, .unset] [(.long (own_ushrL (own_v q1 p2) (49 : Int32))), (.int (((((((1 : Int32) + (own_pi (¬ ((own_ushrL (own_v q1 p2) (7 : Int32)) = (0 : Int64))))) + (own_pi (¬ ((own_ushrL (own_v q1 p2) (14 : Int32)) = (0 : Int64))))) + (own_pi (¬ ((own_ushrL (own_v q1 p2) (21 : Int32)) = (0 : Int64))))) + (own_pi (¬ ((own_ushrL (own_v q1 p2) (28 : Int32)) = (0 : Int64))))) + (own_pi (¬ ((own_ushrL (own_v q1 p2) (35 : Int32)) = (0 : Int64))))) + (own_pi (¬ ((own_ushrL (own_v q1 p2) (42 : Int32)) = (0 : Int64))))))])) rfl (by rw [hml]; rfl) (argsL := [(.long (own_ushrL (own_v q1 p2) (49 : Int32)))]) (rest := [(.int (((((((1 : Int32) + (own_pi (¬ ((own_ushrL (own_v q1 p2) (7 : Int32)) = (0 : Int64))))) + (own_pi (¬ ((own_ushrL (own_v q1 p2) (14 : Int32)) = (0 : Int64))))) + (own_pi (¬ ((own_ushrL (own_v q1 p2) (21 : Int32)) = (0 : Int64))))) + (own_pi (¬ ((own_ushrL (own_v q1 p2) (28 : Int32)) = (0 : Int64))))) + (own_pi (¬ ((own_ushrL (own_v q1 p2) (35 : Int32)) = (0 : Int64))))) + (own_pi (¬ ((own_ushrL (own_v q1 p2) (42 : Int32)) = (0 : Int64))))))]) (lenOf pd_4 rfl) rfl (by show 2 * 0 + _ ≤ _; exact Nat.le_of_eq rfl) (hb hby at_192) (fun _ _ => ⟨rfl, e26, (by decide : 6 + 0 ≤ _), (by decide : 32 + 0 ≤ _)⟩)
  dsimp only [Pt.U, Pt.locs, Pt.cells, Pt.slots] at X27 l27 y27 z27 st27 hQ27
  rewrite [l27, y27, z27] at X27
  obtain ⟨rfl, N27q, e27⟩ := hQ27
  have N27 := Fr.app N26 N27q
  refine Gl.pre (fun _ k => st27 _ k) ?_
  refine Y.iadd X27 hx (hb hby at_195) rfl ?_
  refine Y.lload X27 hx (hb hby at_196) rfl ?_
  refine Y.bipush X27 hx (hb hby at_198) ?_
  refine Y.lushr X27 hx (hb hby at_200) rfl ?_
  obtain ⟨_, _, ⟨T28, L28, k28, n28⟩, -, X28, ⟨Lc28, hQ28, l28, y28, z28⟩, st28⟩ := Jvm.LawKit.callS X27 hx (y := (⟨"io/heapwire/FrameOutputPutVarlongPinLaw", "nz", "(J)I"⟩ : MethodName)) hown (mvT hZ (W 65 rfl)) (mvT hZ (W 66 rfl)) (mvT hZ (W 67 rfl)) (mvT hZ (W 68 rfl)) (by decide) (backOf (W := 1) (rm8 l Z a0 hw [] (own_ushrL (own_v q1 p2) (56 : Int32)) T20.heap n0 Z20 ) hZ (W 68 rfl) (W 67 rfl) (by decide) (by decide)) (g := (mkF m 201 #[.val (.long q1), .second, .val (.int p2), .val (.int p3), .val (.int p4), .val (.long (own_v q1 p2)), .second, .val (.int (p3 &&& (3 : Int32))), .val (.int (p4.toInt8.toInt32)), .val (.ref b1), .val (.ref b16), .unset, .unset] [(.long (own_ushrL (own_v q1 p2) (56 : Int32))), (.int ((((((((1 : Int32) + (own_pi (¬ ((own_ushrL (own_v q1 p2) (7 : Int32)) = (0 : Int64))))) + (own_pi (¬ ((own_ushrL (own_v q1 p2) (14 : Int32)) = (0 : Int64))))) + (own_pi (¬ ((own_ushrL (own_v q1 p2) (21 : Int32)) = (0 : Int64))))) + (own_pi (¬ ((own_ushrL (own_v q1 p2) (28 : Int32)) = (0 : Int64))))) + (own_pi (¬ ((own_ushrL (own_v q1 p2) (35 : Int32)) = (0 : Int64))))) + (own_pi (¬ ((own_ushrL (own_v q1 p2) (42 : Int32)) = (0 : Int64))))) + (own_pi (¬ ((own_ushrL (own_v q1 p2) (49 : Int32)) = (0 : Int64))))))])) rfl (by rw [hml]; rfl) (argsL := [(.long (own_ushrL (own_v q1 p2) (56 : Int32)))]) (rest := [(.int ((((((((1 : Int32) + (own_pi (¬ ((own_ushrL (own_v q1 p2) (7 : Int32)) = (0 : Int64))))) + (own_pi (¬ ((own_ushrL (own_v q1 p2) (14 : Int32)) = (0 : Int64))))) + (own_pi (¬ ((own_ushrL (own_v q1 p2) (21 : Int32)) = (0 : Int64))))) + (own_pi (¬ ((own_ushrL (own_v q1 p2) (28 : Int32)) = (0 : Int64))))) + (own_pi (¬ ((own_ushrL (own_v q1 p2) (35 : Int32)) = (0 : Int64))))) + (own_pi (¬ ((own_ushrL (own_v q1 p2) (42 : Int32)) = (0 : Int64))))) + (own_pi (¬ ((own_ushrL (own_v q1 p2) (49 : Int32)) = (0 : Int64))))))]) (lenOf pd_4 rfl) rfl (by show 2 * 0 + _ ≤ _; exact Nat.le_of_eq rfl) (hb hby at_201) (fun _ _ => ⟨rfl, e27, (by decide : 6 + 0 ≤ _), (by decide : 32 + 0 ≤ _)⟩)
  dsimp only [Pt.U, Pt.locs, Pt.cells, Pt.slots] at X28 l28 y28 z28 st28 hQ28
  rewrite [l28, y28, z28] at X28
  obtain ⟨rfl, N28q, e28⟩ := hQ28
  have N28 := Fr.app N27 N28q
  refine Gl.pre (fun _ k => st28 _ k) ?_
  refine Y.iadd X28 hx (hb hby at_204) rfl ?_
  refine Y.lload X28 hx (hb hby at_205) rfl ?_
  refine Y.bipush X28 hx (hb hby at_207) ?_
  refine Y.lushr X28 hx (hb hby at_209) rfl ?_
  obtain ⟨_, _, ⟨T29, L29, k29, n29⟩, -, X29, ⟨Lc29, hQ29, l29, y29, z29⟩, st29⟩ := Jvm.LawKit.callS X28 hx (y := (⟨"io/heapwire/FrameOutputPutVarlongPinLaw", "nz", "(J)I"⟩ : MethodName)) hown (mvT hZ (W 65 rfl)) (mvT hZ (W 66 rfl)) (mvT hZ (W 67 rfl)) (mvT hZ (W 68 rfl)) (by decide) (backOf (W := 1) (rm8 l Z a0 hw [] (own_ushrL (own_v q1 p2) (63 : Int32)) T20.heap n0 Z20 ) hZ (W 68 rfl) (W 67 rfl) (by decide) (by decide)) (g := (mkF m 210 #[.val (.long q1), .second, .val (.int p2), .val (.int p3), .val (.int p4), .val (.long (own_v q1 p2)), .second, .val (.int (p3 &&& (3 : Int32))), .val (.int (p4.toInt8.toInt32)), .val (.ref b1), .val (.ref b16), .unset, .unset] [(.long (own_ushrL (own_v q1 p2) (63 : Int32))), (.int (((((((((1 : Int32) + (own_pi (¬ ((own_ushrL (own_v q1 p2) (7 : Int32)) = (0 : Int64))))) + (own_pi (¬ ((own_ushrL (own_v q1 p2) (14 : Int32)) = (0 : Int64))))) + (own_pi (¬ ((own_ushrL (own_v q1 p2) (21 : Int32)) = (0 : Int64))))) + (own_pi (¬ ((own_ushrL (own_v q1 p2) (28 : Int32)) = (0 : Int64))))) + (own_pi (¬ ((own_ushrL (own_v q1 p2) (35 : Int32)) = (0 : Int64))))) + (own_pi (¬ ((own_ushrL (own_v q1 p2) (42 : Int32)) = (0 : Int64))))) + (own_pi (¬ ((own_ushrL (own_v q1 p2) (49 : Int32)) = (0 : Int64))))) + (own_pi (¬ ((own_ushrL (own_v q1 p2) (56 : Int32)) = (0 : Int64))))))])) rfl (by rw [hml]; rfl) (argsL := [(.long (own_ushrL (own_v q1 p2) (63 : Int32)))]) (rest := [(.int (((((((((1 : Int32) + (own_pi (¬ ((own_ushrL (own_v q1 p2) (7 : Int32)) = (0 : Int64))))) + (own_pi (¬ ((own_ushrL (own_v q1 p2) (14 : Int32)) = (0 : Int64))))) + (own_pi (¬ ((own_ushrL (own_v q1 p2) (21 : Int32)) = (0 : Int64))))) + (own_pi (¬ ((own_ushrL (own_v q1 p2) (28 : Int32)) = (0 : Int64))))) + (own_pi (¬ ((own_ushrL (own_v q1 p2) (35 : Int32)) = (0 : Int64))))) + (own_pi (¬ ((own_ushrL (own_v q1 p2) (42 : Int32)) = (0 : Int64))))) + (own_pi (¬ ((own_ushrL (own_v q1 p2) (49 : Int32)) = (0 : Int64))))) + (own_pi (¬ ((own_ushrL (own_v q1 p2) (56 : Int32)) = (0 : Int64))))))]) (lenOf pd_4 rfl) rfl (by show 2 * 0 + _ ≤ _; exact Nat.le_of_eq rfl) (hb hby at_210) (fun _ _ => ⟨rfl, e28, (by decide : 6 + 0 ≤ _), (by decide : 32 + 0 ≤ _)⟩)
  dsimp only [Pt.U, Pt.locs, Pt.cells, Pt.slots] at X29 l29 y29 z29 st29 hQ29
  rewrite [l29, y29, z29] at X29
  obtain ⟨rfl, N29q, e29⟩ := hQ29
  have N29 := Fr.app N28 N29q
  refine Gl.pre (fun _ k => st29 _ k) ?_
  refine Y.iadd X29 hx (hb hby at_213) rfl ?_
  show Gl p.tables e below PP (T29.setTop (mkF m 214 #[.val (.long q1), .second, .val (.int p2), .val (.int p3), .val (.int p4), .val (.long (own_v q1 p2)), .second, .val (.int (p3 &&& (3 : Int32))), .val (.int (p4.toInt8.toInt32)), .val (.ref b1), .val (.ref b16), .unset, .unset] [(.int (own_n (own_v q1 p2)))]))
  refine Y.istore X29 hx (hb hby at_214) rfl (l' := #[.val (.long q1), .second, .val (.int p2), .val (.int p3), .val (.int p4), .val (.long (own_v q1 p2)), .second, .val (.int (p3 &&& (3 : Int32))), .val (.int (p4.toInt8.toInt32)), .val (.ref b1), .val (.ref b16), .val (.int (own_n (own_v q1 p2))), .unset]) rfl ?_
  refine Y.aload X29 hx (hb hby at_216) rfl rfl ?_
  obtain ⟨T30, X30, e30, st30⟩ := getF X29 hx hZ hown (host := "") (Or.inl (W 55 rfl)) Via.refl e29 F_position_b16 (g := (mkF m 218 #[.val (.long q1), .second, .val (.int p2), .val (.int p3), .val (.int p4), .val (.long (own_v q1 p2)), .second, .val (.int (p3 &&& (3 : Int32))), .val (.int (p4.toInt8.toInt32)), .val (.ref b1), .val (.ref b16), .val (.int (own_n (own_v q1 p2))), .unset] [(.ref b16)])) rfl rfl (hb hby at_218)
  refine Gl.pre (fun _ k => st30 _ k) ?_
  refine Y.iload X30 hx (hb hby at_221) rfl ?_
  refine Y.iload X30 hx (hb hby at_223) rfl ?_
  refine Y.iadd X30 hx (hb hby at_225) rfl ?_
  refine Y.icmpNo X30 hx (hb hby at_226) rfl (teq (show (own_vr (p3 &&& (3 : Int32)) (own_v q1 p2)) = ((p3 &&& (3 : Int32)) + (own_n (own_v q1 p2))) from (own_final (own_v q1 p2) (p3 &&& (3 : Int32)) p4 (p4.toInt8.toInt32) rfl (own_at4 p3)).1)).2 ?_
  refine Y.aload X30 hx (hb hby at_229) rfl rfl ?_
  obtain ⟨T31, X31, e31, st31⟩ := getF X30 hx hZ hown (host := "") (Or.inl (W 53 rfl)) Via.refl e30 F_bytes_b16 (g := (mkF m 231 #[.val (.long q1), .second, .val (.int p2), .val (.int p3), .val (.int p4), .val (.long (own_v q1 p2)), .second, .val (.int (p3 &&& (3 : Int32))), .val (.int (p4.toInt8.toInt32)), .val (.ref b1), .val (.ref b16), .val (.int (own_n (own_v q1 p2))), .unset] [(.ref b16)])) rfl rfl (hb hby at_231)
  refine Gl.pre (fun _ k => st31 _ k) ?_
  refine Y.aload X31 hx (hb hby at_234) rfl rfl ?_
  refine Gl.pre (fun _ k => Jvm.RoadKit.acmp (g := (mkF m 236 #[.val (.long q1), .second, .val (.int p2), .val (.int p3), .val (.int p4), .val (.long (own_v q1 p2)), .second, .val (.int (p3 &&& (3 : Int32))), .val (.int (p4.toInt8.toInt32)), .val (.ref b1), .val (.ref b16), .val (.int (own_n (own_v q1 p2))), .unset] [(.ref b1), (.ref b1)])) X31 hx rfl rfl rfl (pc0 := 236) (pc' := 239) (same := true) rfl (hb hby at_236) rfl (decide_eq_true rfl) (by decide) (by decide) k) ?_
  refine Y.iconst X31 hx (hb hby at_239) ?_
  refine Y.goto X31 hx (pc0 := 240) (pc' := 244) rfl (hb hby at_240) (by decide) (by decide) ?_
  refine Y.istore X31 hx (hb hby at_244) rfl (l' := #[.val (.long q1), .second, .val (.int p2), .val (.int p3), .val (.int p4), .val (.long (own_v q1 p2)), .second, .val (.int (p3 &&& (3 : Int32))), .val (.int (p4.toInt8.toInt32)), .val (.ref b1), .val (.ref b16), .val (.int (own_n (own_v q1 p2))), .val (.int (1 : Int32))]) rfl ?_
  refine Y.iload X31 hx (hb hby at_246) rfl ?_
  refine Y.ifNo X31 hx (hb hby at_248) rfl ((if0 _ _).trans (feq (show ¬ ((1 : Int32) = (0 : Int32)) from (by decide))).1) ?_
  refine Y.aload X31 hx (hb hby at_251) rfl rfl ?_
  refine Y.iconst X31 hx (hb hby at_253) ?_
  refine Y.iload X31 hx (hb hby at_254) rfl ?_
  refine Y.iload X31 hx (hb hby at_256) rfl ?_
  refine Y.lload X31 hx (hb hby at_258) rfl ?_
  refine Y.iload X31 hx (hb hby at_260) rfl ?_
  have hfin := own_final (own_v q1 p2) (p3 &&& (3 : Int32)) p4 (p4.toInt8.toInt32) rfl (own_at4 p3)
  have hlen : (own_vl (own_fl (p4.toInt8.toInt32)) (p3 &&& (3 : Int32)) (own_v q1 p2)).length = 14 := own_vlen _ _ _ rfl
  obtain ⟨_, _, ⟨T32, L32, k32, n32⟩, -, X32, ⟨Lc32, hQ32, l32, y32, z32⟩, st32⟩ := Jvm.LawKit.callS X31 hx (y := (⟨"io/heapwire/FrameOutputPutVarlongPinLaw", "at", "([BIIIJB)Z"⟩ : MethodName)) hown (mvT hZ (W 69 rfl)) (mvT hZ (W 70 rfl)) (mvT hZ (W 67 rfl)) (mvT hZ (W 71 rfl)) (by decide) (backOf (W := 0) (rm9 l Z a0 hw [] b1 (0 : Int32) (p3 &&& (3 : Int32)) (own_n (own_v q1 p2)) (own_v q1 p2) (p4.toInt8.toInt32) (own_vl (own_fl (p4.toInt8.toInt32)) (p3 &&& (3 : Int32)) (own_v q1 p2)) T20.heap n0 Z20 V_b1 (by decide) (by rw [hlen]; decide)) hZ (W 71 rfl) (W 67 rfl) (by decide) (by decide)) (g := (mkF m 262 #[.val (.long q1), .second, .val (.int p2), .val (.int p3), .val (.int p4), .val (.long (own_v q1 p2)), .second, .val (.int (p3 &&& (3 : Int32))), .val (.int (p4.toInt8.toInt32)), .val (.ref b1), .val (.ref b16), .val (.int (own_n (own_v q1 p2))), .val (.int (1 : Int32))] [(.int (p4.toInt8.toInt32)), (.long (own_v q1 p2)), (.int (own_n (own_v q1 p2))), (.int (p3 &&& (3 : Int32))), (.int (0 : Int32)), (.ref b1)])) rfl (by rw [hml]; rfl) (argsL := [(.ref b1), (.int (0 : Int32)), (.int (p3 &&& (3 : Int32))), (.int (own_n (own_v q1 p2))), (.long (own_v q1 p2)), (.int (p4.toInt8.toInt32))]) (rest := []) (lenOf pd_5 rfl) rfl (by show 2 * 0 + _ ≤ _; exact Nat.le_of_eq rfl) (hb hby at_262) (fun _ _ => ⟨rfl, e31, (by decide : 6 + 0 ≤ _), (by decide : 32 + 0 ≤ _)⟩)
  dsimp only [Pt.U, Pt.locs, Pt.cells, Pt.slots] at X32 l32 y32 z32 st32 hQ32
  rewrite [l32, y32, z32] at X32
  obtain ⟨rfl, N32q, e32⟩ := hQ32
  have N32 := Fr.app N29 N32q
  refine Gl.pre (fun _ k => st32 _ k) ?_
  refine Y.ifNo X32 hx (hb hby at_265) rfl ((if0 _ _).trans (feq (fun q => (own_pi0 (P := (own_vl (own_fl (p4.toInt8.toInt32)) (p3 &&& (3 : Int32)) (own_v q1 p2)).getD ((0 : Int32)).toNatClampNeg 0 = own_ei ((0 : Int32) - (p3 &&& (3 : Int32))) (own_n (own_v q1 p2)) (own_v q1 p2) (p4.toInt8.toInt32))).mp q (show (own_vl (own_fl (p4.toInt8.toInt32)) (p3 &&& (3 : Int32)) (own_v q1 p2)).getD ((0 : Int32)).toNatClampNeg 0 = own_ei ((0 : Int32) - (p3 &&& (3 : Int32))) (own_n (own_v q1 p2)) (own_v q1 p2) (p4.toInt8.toInt32) from hfin.2.1))).1) ?_
  refine Y.aload X32 hx (hb hby at_268) rfl rfl ?_
  refine Y.iconst X32 hx (hb hby at_270) ?_
  refine Y.iload X32 hx (hb hby at_271) rfl ?_
  refine Y.iload X32 hx (hb hby at_273) rfl ?_
  refine Y.lload X32 hx (hb hby at_275) rfl ?_
  refine Y.iload X32 hx (hb hby at_277) rfl ?_
  obtain ⟨_, _, ⟨T33, L33, k33, n33⟩, -, X33, ⟨Lc33, hQ33, l33, y33, z33⟩, st33⟩ := Jvm.LawKit.callS X32 hx (y := (⟨"io/heapwire/FrameOutputPutVarlongPinLaw", "at", "([BIIIJB)Z"⟩ : MethodName)) hown (mvT hZ (W 69 rfl)) (mvT hZ (W 70 rfl)) (mvT hZ (W 67 rfl)) (mvT hZ (W 71 rfl)) (by decide) (backOf (W := 0) (rm9 l Z a0 hw [] b1 (1 : Int32) (p3 &&& (3 : Int32)) (own_n (own_v q1 p2)) (own_v q1 p2) (p4.toInt8.toInt32) (own_vl (own_fl (p4.toInt8.toInt32)) (p3 &&& (3 : Int32)) (own_v q1 p2)) T20.heap n0 Z20 V_b1 (by decide) (by rw [hlen]; decide)) hZ (W 71 rfl) (W 67 rfl) (by decide) (by decide)) (g := (mkF m 279 #[.val (.long q1), .second, .val (.int p2), .val (.int p3), .val (.int p4), .val (.long (own_v q1 p2)), .second, .val (.int (p3 &&& (3 : Int32))), .val (.int (p4.toInt8.toInt32)), .val (.ref b1), .val (.ref b16), .val (.int (own_n (own_v q1 p2))), .val (.int (1 : Int32))] [(.int (p4.toInt8.toInt32)), (.long (own_v q1 p2)), (.int (own_n (own_v q1 p2))), (.int (p3 &&& (3 : Int32))), (.int (1 : Int32)), (.ref b1)])) rfl (by rw [hml]; rfl) (argsL := [(.ref b1), (.int (1 : Int32)), (.int (p3 &&& (3 : Int32))), (.int (own_n (own_v q1 p2))), (.long (own_v q1 p2)), (.int (p4.toInt8.toInt32))]) (rest := []) (lenOf pd_5 rfl) rfl (by show 2 * 0 + _ ≤ _; exact Nat.le_of_eq rfl) (hb hby at_279) (fun _ _ => ⟨rfl, e32, (by decide : 6 + 0 ≤ _), (by decide : 32 + 0 ≤ _)⟩)
  dsimp only [Pt.U, Pt.locs, Pt.cells, Pt.slots] at X33 l33 y33 z33 st33 hQ33
  rewrite [l33, y33, z33] at X33
  obtain ⟨rfl, N33q, e33⟩ := hQ33
  have N33 := Fr.app N32 N33q
  refine Gl.pre (fun _ k => st33 _ k) ?_
  refine Y.ifNo X33 hx (hb hby at_282) rfl ((if0 _ _).trans (feq (fun q => (own_pi0 (P := (own_vl (own_fl (p4.toInt8.toInt32)) (p3 &&& (3 : Int32)) (own_v q1 p2)).getD ((1 : Int32)).toNatClampNeg 0 = own_ei ((1 : Int32) - (p3 &&& (3 : Int32))) (own_n (own_v q1 p2)) (own_v q1 p2) (p4.toInt8.toInt32))).mp q (show (own_vl (own_fl (p4.toInt8.toInt32)) (p3 &&& (3 : Int32)) (own_v q1 p2)).getD ((1 : Int32)).toNatClampNeg 0 = own_ei ((1 : Int32) - (p3 &&& (3 : Int32))) (own_n (own_v q1 p2)) (own_v q1 p2) (p4.toInt8.toInt32) from hfin.2.2.1))).1) ?_
  refine Y.aload X33 hx (hb hby at_285) rfl rfl ?_
  refine Y.iconst X33 hx (hb hby at_287) ?_
  refine Y.iload X33 hx (hb hby at_288) rfl ?_
  refine Y.iload X33 hx (hb hby at_290) rfl ?_
  refine Y.lload X33 hx (hb hby at_292) rfl ?_
  refine Y.iload X33 hx (hb hby at_294) rfl ?_
  obtain ⟨_, _, ⟨T34, L34, k34, n34⟩, -, X34, ⟨Lc34, hQ34, l34, y34, z34⟩, st34⟩ := Jvm.LawKit.callS X33 hx (y := (⟨"io/heapwire/FrameOutputPutVarlongPinLaw", "at", "([BIIIJB)Z"⟩ : MethodName)) hown (mvT hZ (W 69 rfl)) (mvT hZ (W 70 rfl)) (mvT hZ (W 67 rfl)) (mvT hZ (W 71 rfl)) (by decide) (backOf (W := 0) (rm9 l Z a0 hw [] b1 (2 : Int32) (p3 &&& (3 : Int32)) (own_n (own_v q1 p2)) (own_v q1 p2) (p4.toInt8.toInt32) (own_vl (own_fl (p4.toInt8.toInt32)) (p3 &&& (3 : Int32)) (own_v q1 p2)) T20.heap n0 Z20 V_b1 (by decide) (by rw [hlen]; decide)) hZ (W 71 rfl) (W 67 rfl) (by decide) (by decide)) (g := (mkF m 296 #[.val (.long q1), .second, .val (.int p2), .val (.int p3), .val (.int p4), .val (.long (own_v q1 p2)), .second, .val (.int (p3 &&& (3 : Int32))), .val (.int (p4.toInt8.toInt32)), .val (.ref b1), .val (.ref b16), .val (.int (own_n (own_v q1 p2))), .val (.int (1 : Int32))] [(.int (p4.toInt8.toInt32)), (.long (own_v q1 p2)), (.int (own_n (own_v q1 p2))), (.int (p3 &&& (3 : Int32))), (.int (2 : Int32)), (.ref b1)])) rfl (by rw [hml]; rfl) (argsL := [(.ref b1), (.int (2 : Int32)), (.int (p3 &&& (3 : Int32))), (.int (own_n (own_v q1 p2))), (.long (own_v q1 p2)), (.int (p4.toInt8.toInt32))]) (rest := []) (lenOf pd_5 rfl) rfl (by show 2 * 0 + _ ≤ _; exact Nat.le_of_eq rfl) (hb hby at_296) (fun _ _ => ⟨rfl, e33, (by decide : 6 + 0 ≤ _), (by decide : 32 + 0 ≤ _)⟩)
  dsimp only [Pt.U, Pt.locs, Pt.cells, Pt.slots] at X34 l34 y34 z34 st34 hQ34
  rewrite [l34, y34, z34] at X34
  obtain ⟨rfl, N34q, e34⟩ := hQ34
  have N34 := Fr.app N33 N34q
  refine Gl.pre (fun _ k => st34 _ k) ?_
  refine Y.ifNo X34 hx (hb hby at_299) rfl ((if0 _ _).trans (feq (fun q => (own_pi0 (P := (own_vl (own_fl (p4.toInt8.toInt32)) (p3 &&& (3 : Int32)) (own_v q1 p2)).getD ((2 : Int32)).toNatClampNeg 0 = own_ei ((2 : Int32) - (p3 &&& (3 : Int32))) (own_n (own_v q1 p2)) (own_v q1 p2) (p4.toInt8.toInt32))).mp q (show (own_vl (own_fl (p4.toInt8.toInt32)) (p3 &&& (3 : Int32)) (own_v q1 p2)).getD ((2 : Int32)).toNatClampNeg 0 = own_ei ((2 : Int32) - (p3 &&& (3 : Int32))) (own_n (own_v q1 p2)) (own_v q1 p2) (p4.toInt8.toInt32) from hfin.2.2.2.1))).1) ?_
  refine Y.aload X34 hx (hb hby at_302) rfl rfl ?_
  refine Y.iconst X34 hx (hb hby at_304) ?_
  refine Y.iload X34 hx (hb hby at_305) rfl ?_
  refine Y.iload X34 hx (hb hby at_307) rfl ?_
  refine Y.lload X34 hx (hb hby at_309) rfl ?_
  refine Y.iload X34 hx (hb hby at_311) rfl ?_
  obtain ⟨_, _, ⟨T35, L35, k35, n35⟩, -, X35, ⟨Lc35, hQ35, l35, y35, z35⟩, st35⟩ := Jvm.LawKit.callS X34 hx (y := (⟨"io/heapwire/FrameOutputPutVarlongPinLaw", "at", "([BIIIJB)Z"⟩ : MethodName)) hown (mvT hZ (W 69 rfl)) (mvT hZ (W 70 rfl)) (mvT hZ (W 67 rfl)) (mvT hZ (W 71 rfl)) (by decide) (backOf (W := 0) (rm9 l Z a0 hw [] b1 (3 : Int32) (p3 &&& (3 : Int32)) (own_n (own_v q1 p2)) (own_v q1 p2) (p4.toInt8.toInt32) (own_vl (own_fl (p4.toInt8.toInt32)) (p3 &&& (3 : Int32)) (own_v q1 p2)) T20.heap n0 Z20 V_b1 (by decide) (by rw [hlen]; decide)) hZ (W 71 rfl) (W 67 rfl) (by decide) (by decide)) (g := (mkF m 313 #[.val (.long q1), .second, .val (.int p2), .val (.int p3), .val (.int p4), .val (.long (own_v q1 p2)), .second, .val (.int (p3 &&& (3 : Int32))), .val (.int (p4.toInt8.toInt32)), .val (.ref b1), .val (.ref b16), .val (.int (own_n (own_v q1 p2))), .val (.int (1 : Int32))] [(.int (p4.toInt8.toInt32)), (.long (own_v q1 p2)), (.int (own_n (own_v q1 p2))), (.int (p3 &&& (3 : Int32))), (.int (3 : Int32)), (.ref b1)])) rfl (by rw [hml]; rfl) (argsL := [(.ref b1), (.int (3 : Int32)), (.int (p3 &&& (3 : Int32))), (.int (own_n (own_v q1 p2))), (.long (own_v q1 p2)), (.int (p4.toInt8.toInt32))]) (rest := []) (lenOf pd_5 rfl) rfl (by show 2 * 0 + _ ≤ _; exact Nat.le_of_eq rfl) (hb hby at_313) (fun _ _ => ⟨rfl, e34, (by decide : 6 + 0 ≤ _), (by decide : 32 + 0 ≤ _)⟩)
  dsimp only [Pt.U, Pt.locs, Pt.cells, Pt.slots] at X35 l35 y35 z35 st35 hQ35
  rewrite [l35, y35, z35] at X35
  obtain ⟨rfl, N35q, e35⟩ := hQ35
  have N35 := Fr.app N34 N35q
  refine Gl.pre (fun _ k => st35 _ k) ?_
  refine Y.ifNo X35 hx (hb hby at_316) rfl ((if0 _ _).trans (feq (fun q => (own_pi0 (P := (own_vl (own_fl (p4.toInt8.toInt32)) (p3 &&& (3 : Int32)) (own_v q1 p2)).getD ((3 : Int32)).toNatClampNeg 0 = own_ei ((3 : Int32) - (p3 &&& (3 : Int32))) (own_n (own_v q1 p2)) (own_v q1 p2) (p4.toInt8.toInt32))).mp q (show (own_vl (own_fl (p4.toInt8.toInt32)) (p3 &&& (3 : Int32)) (own_v q1 p2)).getD ((3 : Int32)).toNatClampNeg 0 = own_ei ((3 : Int32) - (p3 &&& (3 : Int32))) (own_n (own_v q1 p2)) (own_v q1 p2) (p4.toInt8.toInt32) from hfin.2.2.2.2.1))).1) ?_
  refine Y.aload X35 hx (hb hby at_319) rfl rfl ?_
  refine Y.iconst X35 hx (hb hby at_321) ?_
  refine Y.iload X35 hx (hb hby at_322) rfl ?_
  refine Y.iload X35 hx (hb hby at_324) rfl ?_
  refine Y.lload X35 hx (hb hby at_326) rfl ?_
  refine Y.iload X35 hx (hb hby at_328) rfl ?_
  obtain ⟨_, _, ⟨T36, L36, k36, n36⟩, -, X36, ⟨Lc36, hQ36, l36, y36, z36⟩, st36⟩ := Jvm.LawKit.callS X35 hx (y := (⟨"io/heapwire/FrameOutputPutVarlongPinLaw", "at", "([BIIIJB)Z"⟩ : MethodName)) hown (mvT hZ (W 69 rfl)) (mvT hZ (W 70 rfl)) (mvT hZ (W 67 rfl)) (mvT hZ (W 71 rfl)) (by decide) (backOf (W := 0) (rm9 l Z a0 hw [] b1 (4 : Int32) (p3 &&& (3 : Int32)) (own_n (own_v q1 p2)) (own_v q1 p2) (p4.toInt8.toInt32) (own_vl (own_fl (p4.toInt8.toInt32)) (p3 &&& (3 : Int32)) (own_v q1 p2)) T20.heap n0 Z20 V_b1 (by decide) (by rw [hlen]; decide)) hZ (W 71 rfl) (W 67 rfl) (by decide) (by decide)) (g := (mkF m 330 #[.val (.long q1), .second, .val (.int p2), .val (.int p3), .val (.int p4), .val (.long (own_v q1 p2)), .second, .val (.int (p3 &&& (3 : Int32))), .val (.int (p4.toInt8.toInt32)), .val (.ref b1), .val (.ref b16), .val (.int (own_n (own_v q1 p2))), .val (.int (1 : Int32))] [(.int (p4.toInt8.toInt32)), (.long (own_v q1 p2)), (.int (own_n (own_v q1 p2))), (.int (p3 &&& (3 : Int32))), (.int (4 : Int32)), (.ref b1)])) rfl (by rw [hml]; rfl) (argsL := [(.ref b1), (.int (4 : Int32)), (.int (p3 &&& (3 : Int32))), (.int (own_n (own_v q1 p2))), (.long (own_v q1 p2)), (.int (p4.toInt8.toInt32))]) (rest := []) (lenOf pd_5 rfl) rfl (by show 2 * 0 + _ ≤ _; exact Nat.le_of_eq rfl) (hb hby at_330) (fun _ _ => ⟨rfl, e35, (by decide : 6 + 0 ≤ _), (by decide : 32 + 0 ≤ _)⟩)
  dsimp only [Pt.U, Pt.locs, Pt.cells, Pt.slots] at X36 l36 y36 z36 st36 hQ36
  rewrite [l36, y36, z36] at X36
  obtain ⟨rfl, N36q, e36⟩ := hQ36
  have N36 := Fr.app N35 N36q
  refine Gl.pre (fun _ k => st36 _ k) ?_
  refine Y.ifNo X36 hx (hb hby at_333) rfl ((if0 _ _).trans (feq (fun q => (own_pi0 (P := (own_vl (own_fl (p4.toInt8.toInt32)) (p3 &&& (3 : Int32)) (own_v q1 p2)).getD ((4 : Int32)).toNatClampNeg 0 = own_ei ((4 : Int32) - (p3 &&& (3 : Int32))) (own_n (own_v q1 p2)) (own_v q1 p2) (p4.toInt8.toInt32))).mp q (show (own_vl (own_fl (p4.toInt8.toInt32)) (p3 &&& (3 : Int32)) (own_v q1 p2)).getD ((4 : Int32)).toNatClampNeg 0 = own_ei ((4 : Int32) - (p3 &&& (3 : Int32))) (own_n (own_v q1 p2)) (own_v q1 p2) (p4.toInt8.toInt32) from hfin.2.2.2.2.2.1))).1) ?_
  refine Y.aload X36 hx (hb hby at_336) rfl rfl ?_
  refine Y.iconst X36 hx (hb hby at_338) ?_
  refine Y.iload X36 hx (hb hby at_339) rfl ?_
  refine Y.iload X36 hx (hb hby at_341) rfl ?_
  refine Y.lload X36 hx (hb hby at_343) rfl ?_
  refine Y.iload X36 hx (hb hby at_345) rfl ?_
  obtain ⟨_, _, ⟨T37, L37, k37, n37⟩, -, X37, ⟨Lc37, hQ37, l37, y37, z37⟩, st37⟩ := Jvm.LawKit.callS X36 hx (y := (⟨"io/heapwire/FrameOutputPutVarlongPinLaw", "at", "([BIIIJB)Z"⟩ : MethodName)) hown (mvT hZ (W 69 rfl)) (mvT hZ (W 70 rfl)) (mvT hZ (W 67 rfl)) (mvT hZ (W 71 rfl)) (by decide) (backOf (W := 0) (rm9 l Z a0 hw [] b1 (5 : Int32) (p3 &&& (3 : Int32)) (own_n (own_v q1 p2)) (own_v q1 p2) (p4.toInt8.toInt32) (own_vl (own_fl (p4.toInt8.toInt32)) (p3 &&& (3 : Int32)) (own_v q1 p2)) T20.heap n0 Z20 V_b1 (by decide) (by rw [hlen]; decide)) hZ (W 71 rfl) (W 67 rfl) (by decide) (by decide)) (g := (mkF m 347 #[.val (.long q1), .second, .val (.int p2), .val (.int p3), .val (.int p4), .val (.long (own_v q1 p2)), .second, .val (.int (p3 &&& (3 : Int32))), .val (.int (p4.toInt8.toInt32)), .val (.ref b1), .val (.ref b16), .val (.int (own_n (own_v q1 p2))), .val (.int (1 : Int32))] [(.int (p4.toInt8.toInt32)), (.long (own_v q1 p2)), (.int (own_n (own_v q1 p2))), (.int (p3 &&& (3 : Int32))), (.int (5 : Int32)), (.ref b1)])) rfl (by rw [hml]; rfl) (argsL := [(.ref b1), (.int (5 : Int32)), (.int (p3 &&& (3 : Int32))), (.int (own_n (own_v q1 p2))), (.long (own_v q1 p2)), (.int (p4.toInt8.toInt32))]) (rest := []) (lenOf pd_5 rfl) rfl (by show 2 * 0 + _ ≤ _; exact Nat.le_of_eq rfl) (hb hby at_347) (fun _ _ => ⟨rfl, e36, (by decide : 6 + 0 ≤ _), (by decide : 32 + 0 ≤ _)⟩)
  dsimp only [Pt.U, Pt.locs, Pt.cells, Pt.slots] at X37 l37 y37 z37 st37 hQ37
  rewrite [l37, y37, z37] at X37
  obtain ⟨rfl, N37q, e37⟩ := hQ37
  have N37 := Fr.app N36 N37q
  refine Gl.pre (fun _ k => st37 _ k) ?_
  refine Y.ifNo X37 hx (hb hby at_350) rfl ((if0 _ _).trans (feq (fun q => (own_pi0 (P := (own_vl (own_fl (p4.toInt8.toInt32)) (p3 &&& (3 : Int32)) (own_v q1 p2)).getD ((5 : Int32)).toNatClampNeg 0 = own_ei ((5 : Int32) - (p3 &&& (3 : Int32))) (own_n (own_v q1 p2)) (own_v q1 p2) (p4.toInt8.toInt32))).mp q (show (own_vl (own_fl (p4.toInt8.toInt32)) (p3 &&& (3 : Int32)) (own_v q1 p2)).getD ((5 : Int32)).toNatClampNeg 0 = own_ei ((5 : Int32) - (p3 &&& (3 : Int32))) (own_n (own_v q1 p2)) (own_v q1 p2) (p4.toInt8.toInt32) from hfin.2.2.2.2.2.2.1))).1) ?_
  refine Y.aload X37 hx (hb hby at_353) rfl rfl ?_
  refine Y.bipush X37 hx (hb hby at_355) ?_
  refine Y.iload X37 hx (hb hby at_357) rfl ?_
  refine Y.iload X37 hx (hb hby at_359) rfl ?_
  refine Y.lload X37 hx (hb hby at_361) rfl ?_
  refine Y.iload X37 hx (hb hby at_363) rfl ?_
  obtain ⟨_, _, ⟨T38, L38, k38, n38⟩, -, X38, ⟨Lc38, hQ38, l38, y38, z38⟩, st38⟩ := Jvm.LawKit.callS X37 hx (y := (⟨"io/heapwire/FrameOutputPutVarlongPinLaw", "at", "([BIIIJB)Z"⟩ : MethodName)) hown (mvT hZ (W 69 rfl)) (mvT hZ (W 70 rfl)) (mvT hZ (W 67 rfl)) (mvT hZ (W 71 rfl)) (by decide) (backOf (W := 0) (rm9 l Z a0 hw [] b1 (6 : Int32) (p3 &&& (3 : Int32)) (own_n (own_v q1 p2)) (own_v q1 p2) (p4.toInt8.toInt32) (own_vl (own_fl (p4.toInt8.toInt32)) (p3 &&& (3 : Int32)) (own_v q1 p2)) T20.heap n0 Z20 V_b1 (by decide) (by rw [hlen]; decide)) hZ (W 71 rfl) (W 67 rfl) (by decide) (by decide)) (g := (mkF m 365 #[.val (.long q1), .second, .val (.int p2), .val (.int p3), .val (.int p4), .val (.long (own_v q1 p2)), .second, .val (.int (p3 &&& (3 : Int32))), .val (.int (p4.toInt8.toInt32)), .val (.ref b1), .val (.ref b16), .val (.int (own_n (own_v q1 p2))), .val (.int (1 : Int32))] [(.int (p4.toInt8.toInt32)), (.long (own_v q1 p2)), (.int (own_n (own_v q1 p2))), (.int (p3 &&& (3 : Int32))), (.int (6 : Int32)), (.ref b1)])) rfl (by rw [hml]; rfl) (argsL := [(.ref b1), (.int (6 : Int32)), (.int (p3 &&& (3 : Int32))), (.int (own_n (own_v q1 p2))), (.long (own_v q1 p2)), (.int (p4.toInt8.toInt32))]) (rest := []) (lenOf pd_5 rfl) rfl (by show 2 * 0 + _ ≤ _; exact Nat.le_of_eq rfl) (hb hby at_365) (fun _ _ => ⟨rfl, e37, (by decide : 6 + 0 ≤ _), (by decide : 32 + 0 ≤ _)⟩)
  dsimp only [Pt.U, Pt.locs, Pt.cells, Pt.slots] at X38 l38 y38 z38 st38 hQ38
  rewrite [l38, y38, z38] at X38
  obtain ⟨rfl, N38q, e38⟩ := hQ38
  have N38 := Fr.app N37 N38q
  refine Gl.pre (fun _ k => st38 _ k) ?_
  refine Y.ifNo X38 hx (hb hby at_368) rfl ((if0 _ _).trans (feq (fun q => (own_pi0 (P := (own_vl (own_fl (p4.toInt8.toInt32)) (p3 &&& (3 : Int32)) (own_v q1 p2)).getD ((6 : Int32)).toNatClampNeg 0 = own_ei ((6 : Int32) - (p3 &&& (3 : Int32))) (own_n (own_v q1 p2)) (own_v q1 p2) (p4.toInt8.toInt32))).mp q (show (own_vl (own_fl (p4.toInt8.toInt32)) (p3 &&& (3 : Int32)) (own_v q1 p2)).getD ((6 : Int32)).toNatClampNeg 0 = own_ei ((6 : Int32) - (p3 &&& (3 : Int32))) (own_n (own_v q1 p2)) (own_v q1 p2) (p4.toInt8.toInt32) from hfin.2.2.2.2.2.2.2.1))).1) ?_
  refine Y.aload X38 hx (hb hby at_371) rfl rfl ?_
  refine Y.bipush X38 hx (hb hby at_373) ?_
  refine Y.iload X38 hx (hb hby at_375) rfl ?_
  refine Y.iload X38 hx (hb hby at_377) rfl ?_
  refine Y.lload X38 hx (hb hby at_379) rfl ?_
  refine Y.iload X38 hx (hb hby at_381) rfl ?_
  obtain ⟨_, _, ⟨T39, L39, k39, n39⟩, -, X39, ⟨Lc39, hQ39, l39, y39, z39⟩, st39⟩ := Jvm.LawKit.callS X38 hx (y := (⟨"io/heapwire/FrameOutputPutVarlongPinLaw", "at", "([BIIIJB)Z"⟩ : MethodName)) hown (mvT hZ (W 69 rfl)) (mvT hZ (W 70 rfl)) (mvT hZ (W 67 rfl)) (mvT hZ (W 71 rfl)) (by decide) (backOf (W := 0) (rm9 l Z a0 hw [] b1 (7 : Int32) (p3 &&& (3 : Int32)) (own_n (own_v q1 p2)) (own_v q1 p2) (p4.toInt8.toInt32) (own_vl (own_fl (p4.toInt8.toInt32)) (p3 &&& (3 : Int32)) (own_v q1 p2)) T20.heap n0 Z20 V_b1 (by decide) (by rw [hlen]; decide)) hZ (W 71 rfl) (W 67 rfl) (by decide) (by decide)) (g := (mkF m 383 #[.val (.long q1), .second, .val (.int p2), .val (.int p3), .val (.int p4), .val (.long (own_v q1 p2)), .second, .val (.int (p3 &&& (3 : Int32))), .val (.int (p4.toInt8.toInt32)), .val (.ref b1), .val (.ref b16), .val (.int (own_n (own_v q1 p2))), .val (.int (1 : Int32))] [(.int (p4.toInt8.toInt32)), (.long (own_v q1 p2)), (.int (own_n (own_v q1 p2))), (.int (p3 &&& (3 : Int32))), (.int (7 : Int32)), (.ref b1)])) rfl (by rw [hml]; rfl) (argsL := [(.ref b1), (.int (7 : Int32)), (.int (p3 &&& (3 : Int32))), (.int (own_n (own_v q1 p2))), (.long (own_v q1 p2)), (.int (p4.toInt8.toInt32))]) (rest := []) (lenOf pd_5 rfl) rfl (by show 2 * 0 + _ ≤ _; exact Nat.le_of_eq rfl) (hb hby at_383) (fun _ _ => ⟨rfl, e38, (by decide : 6 + 0 ≤ _), (by decide : 32 + 0 ≤ _)⟩)
  dsimp only [Pt.U, Pt.locs, Pt.cells, Pt.slots] at X39 l39 y39 z39 st39 hQ39
  rewrite [l39, y39, z39] at X39
  obtain ⟨rfl, N39q, e39⟩ := hQ39
  have N39 := Fr.app N38 N39q
  refine Gl.pre (fun _ k => st39 _ k) ?_
  refine Y.ifNo X39 hx (hb hby at_386) rfl ((if0 _ _).trans (feq (fun q => (own_pi0 (P := (own_vl (own_fl (p4.toInt8.toInt32)) (p3 &&& (3 : Int32)) (own_v q1 p2)).getD ((7 : Int32)).toNatClampNeg 0 = own_ei ((7 : Int32) - (p3 &&& (3 : Int32))) (own_n (own_v q1 p2)) (own_v q1 p2) (p4.toInt8.toInt32))).mp q (show (own_vl (own_fl (p4.toInt8.toInt32)) (p3 &&& (3 : Int32)) (own_v q1 p2)).getD ((7 : Int32)).toNatClampNeg 0 = own_ei ((7 : Int32) - (p3 &&& (3 : Int32))) (own_n (own_v q1 p2)) (own_v q1 p2) (p4.toInt8.toInt32) from hfin.2.2.2.2.2.2.2.2.1))).1) ?_
  refine Y.aload X39 hx (hb hby at_389) rfl rfl ?_
  refine Y.bipush X39 hx (hb hby at_391) ?_
  refine Y.iload X39 hx (hb hby at_393) rfl ?_
  refine Y.iload X39 hx (hb hby at_395) rfl ?_
  refine Y.lload X39 hx (hb hby at_397) rfl ?_
  refine Y.iload X39 hx (hb hby at_399) rfl ?_
  obtain ⟨_, _, ⟨T40, L40, k40, n40⟩, -, X40, ⟨Lc40, hQ40, l40, y40, z40⟩, st40⟩ := Jvm.LawKit.callS X39 hx (y := (⟨"io/heapwire/FrameOutputPutVarlongPinLaw", "at", "([BIIIJB)Z"⟩ : MethodName)) hown (mvT hZ (W 69 rfl)) (mvT hZ (W 70 rfl)) (mvT hZ (W 67 rfl)) (mvT hZ (W 71 rfl)) (by decide) (backOf (W := 0) (rm9 l Z a0 hw [] b1 (8 : Int32) (p3 &&& (3 : Int32)) (own_n (own_v q1 p2)) (own_v q1 p2) (p4.toInt8.toInt32) (own_vl (own_fl (p4.toInt8.toInt32)) (p3 &&& (3 : Int32)) (own_v q1 p2)) T20.heap n0 Z20 V_b1 (by decide) (by rw [hlen]; decide)) hZ (W 71 rfl) (W 67 rfl) (by decide) (by decide)) (g := (mkF m 401 #[.val (.long q1), .second, .val (.int p2), .val (.int p3), .val (.int p4), .val (.long (own_v q1 p2)), .second, .val (.int (p3 &&& (3 : Int32))), .val (.int (p4.toInt8.toInt32)), .val (.ref b1), .val (.ref b16), .val (.int (own_n (own_v q1 p2))), .val (.int (1 : Int32))] [(.int (p4.toInt8.toInt32)), (.long (own_v q1 p2)), (.int (own_n (own_v q1 p2))), (.int (p3 &&& (3 : Int32))), (.int (8 : Int32)), (.ref b1)])) rfl (by rw [hml]; rfl) (argsL := [(.ref b1), (.int (8 : Int32)), (.int (p3 &&& (3 : Int32))), (.int (own_n (own_v q1 p2))), (.long (own_v q1 p2)), (.int (p4.toInt8.toInt32))]) (rest := []) (lenOf pd_5 rfl) rfl (by show 2 * 0 + _ ≤ _; exact Nat.le_of_eq rfl) (hb hby at_401) (fun _ _ => ⟨rfl, e39, (by decide : 6 + 0 ≤ _), (by decide : 32 + 0 ≤ _)⟩)
  dsimp only [Pt.U, Pt.locs, Pt.cells, Pt.slots] at X40 l40 y40 z40 st40 hQ40
  rewrite [l40, y40, z40] at X40
  obtain ⟨rfl, N40q, e40⟩ := hQ40
  have N40 := Fr.app N39 N40q
  refine Gl.pre (fun _ k => st40 _ k) ?_
  refine Y.ifNo X40 hx (hb hby at_404) rfl ((if0 _ _).trans (feq (fun q => (own_pi0 (P := (own_vl (own_fl (p4.toInt8.toInt32)) (p3 &&& (3 : Int32)) (own_v q1 p2)).getD ((8 : Int32)).toNatClampNeg 0 = own_ei ((8 : Int32) - (p3 &&& (3 : Int32))) (own_n (own_v q1 p2)) (own_v q1 p2) (p4.toInt8.toInt32))).mp q (show (own_vl (own_fl (p4.toInt8.toInt32)) (p3 &&& (3 : Int32)) (own_v q1 p2)).getD ((8 : Int32)).toNatClampNeg 0 = own_ei ((8 : Int32) - (p3 &&& (3 : Int32))) (own_n (own_v q1 p2)) (own_v q1 p2) (p4.toInt8.toInt32) from hfin.2.2.2.2.2.2.2.2.2.1))).1) ?_
  refine Y.aload X40 hx (hb hby at_407) rfl rfl ?_
  refine Y.bipush X40 hx (hb hby at_409) ?_
  refine Y.iload X40 hx (hb hby at_411) rfl ?_
  refine Y.iload X40 hx (hb hby at_413) rfl ?_
  refine Y.lload X40 hx (hb hby at_415) rfl ?_
  refine Y.iload X40 hx (hb hby at_417) rfl ?_
  obtain ⟨_, _, ⟨T41, L41, k41, n41⟩, -, X41, ⟨Lc41, hQ41, l41, y41, z41⟩, st41⟩ := Jvm.LawKit.callS X40 hx (y := (⟨"io/heapwire/FrameOutputPutVarlongPinLaw", "at", "([BIIIJB)Z"⟩ : MethodName)) hown (mvT hZ (W 69 rfl)) (mvT hZ (W 70 rfl)) (mvT hZ (W 67 rfl)) (mvT hZ (W 71 rfl)) (by decide) (backOf (W := 0) (rm9 l Z a0 hw [] b1 (9 : Int32) (p3 &&& (3 : Int32)) (own_n (own_v q1 p2)) (own_v q1 p2) (p4.toInt8.toInt32) (own_vl (own_fl (p4.toInt8.toInt32)) (p3 &&& (3 : Int32)) (own_v q1 p2)) T20.heap n0 Z20 V_b1 (by decide) (by rw [hlen]; decide)) hZ (W 71 rfl) (W 67 rfl) (by decide) (by decide)) (g := (mkF m 419 #[.val (.long q1), .second, .val (.int p2), .val (.int p3), .val (.int p4), .val (.long (own_v q1 p2)), .second, .val (.int (p3 &&& (3 : Int32))), .val (.int (p4.toInt8.toInt32)), .val (.ref b1), .val (.ref b16), .val (.int (own_n (own_v q1 p2))), .val (.int (1 : Int32))] [(.int (p4.toInt8.toInt32)), (.long (own_v q1 p2)), (.int (own_n (own_v q1 p2))), (.int (p3 &&& (3 : Int32))), (.int (9 : Int32)), (.ref b1)])) rfl (by rw [hml]; rfl) (argsL := [(.ref b1), (.int (9 : Int32)), (.int (p3 &&& (3 : Int32))), (.int (own_n (own_v q1 p2))), (.long (own_v q1 p2)), (.int (p4.toInt8.toInt32))]) (rest := []) (lenOf pd_5 rfl) rfl (by show 2 * 0 + _ ≤ _; exact Nat.le_of_eq rfl) (hb hby at_419) (fun _ _ => ⟨rfl, e40, (by decide : 6 + 0 ≤ _), (by decide : 32 + 0 ≤ _)⟩)
  dsimp only [Pt.U, Pt.locs, Pt.cells, Pt.slots] at X41 l41 y41 z41 st41 hQ41
  rewrite [l41, y41, z41] at X41
  obtain ⟨rfl, N41q, e41⟩ := hQ41
  have N41 := Fr.app N40 N41q
  refine Gl.pre (fun _ k => st41 _ k) ?_
  refine Y.ifNo X41 hx (hb hby at_422) rfl ((if0 _ _).trans (feq (fun q => (own_pi0 (P := (own_vl (own_fl (p4.toInt8.toInt32)) (p3 &&& (3 : Int32)) (own_v q1 p2)).getD ((9 : Int32)).toNatClampNeg 0 = own_ei ((9 : Int32) - (p3 &&& (3 : Int32))) (own_n (own_v q1 p2)) (own_v q1 p2) (p4.toInt8.toInt32))).mp q (show (own_vl (own_fl (p4.toInt8.toInt32)) (p3 &&& (3 : Int32)) (own_v q1 p2)).getD ((9 : Int32)).toNatClampNeg 0 = own_ei ((9 : Int32) - (p3 &&& (3 : Int32))) (own_n (own_v q1 p2)) (own_v q1 p2) (p4.toInt8.toInt32) from hfin.2.2.2.2.2.2.2.2.2.2.1))).1) ?_
  refine Y.aload X41 hx (hb hby at_425) rfl rfl ?_
  refine Y.bipush X41 hx (hb hby at_427) ?_
  refine Y.iload X41 hx (hb hby at_429) rfl ?_
  refine Y.iload X41 hx (hb hby at_431) rfl ?_
  refine Y.lload X41 hx (hb hby at_433) rfl ?_
  refine Y.iload X41 hx (hb hby at_435) rfl ?_
  obtain ⟨_, _, ⟨T42, L42, k42, n42⟩, -, X42, ⟨Lc42, hQ42, l42, y42, z42⟩, st42⟩ := Jvm.LawKit.callS X41 hx (y := (⟨"io/heapwire/FrameOutputPutVarlongPinLaw", "at", "([BIIIJB)Z"⟩ : MethodName)) hown (mvT hZ (W 69 rfl)) (mvT hZ (W 70 rfl)) (mvT hZ (W 67 rfl)) (mvT hZ (W 71 rfl)) (by decide) (backOf (W := 0) (rm9 l Z a0 hw [] b1 (10 : Int32) (p3 &&& (3 : Int32)) (own_n (own_v q1 p2)) (own_v q1 p2) (p4.toInt8.toInt32) (own_vl (own_fl (p4.toInt8.toInt32)) (p3 &&& (3 : Int32)) (own_v q1 p2)) T20.heap n0 Z20 V_b1 (by decide) (by rw [hlen]; decide)) hZ (W 71 rfl) (W 67 rfl) (by decide) (by decide)) (g := (mkF m 437 #[.val (.long q1), .second, .val (.int p2), .val (.int p3), .val (.int p4), .val (.long (own_v q1 p2)), .second, .val (.int (p3 &&& (3 : Int32))), .val (.int (p4.toInt8.toInt32)), .val (.ref b1), .val (.ref b16), .val (.int (own_n (own_v q1 p2))), .val (.int (1 : Int32))] [(.int (p4.toInt8.toInt32)), (.long (own_v q1 p2)), (.int (own_n (own_v q1 p2))), (.int (p3 &&& (3 : Int32))), (.int (10 : Int32)), (.ref b1)])) rfl (by rw [hml]; rfl) (argsL := [(.ref b1), (.int (10 : Int32)), (.int (p3 &&& (3 : Int32))), (.int (own_n (own_v q1 p2))), (.long (own_v q1 p2)), (.int (p4.toInt8.toInt32))]) (rest := []) (lenOf pd_5 rfl) rfl (by show 2 * 0 + _ ≤ _; exact Nat.le_of_eq rfl) (hb hby at_437) (fun _ _ => ⟨rfl, e41, (by decide : 6 + 0 ≤ _), (by decide : 32 + 0 ≤ _)⟩)
  dsimp only [Pt.U, Pt.locs, Pt.cells, Pt.slots] at X42 l42 y42 z42 st42 hQ42
  rewrite [l42, y42, z42] at X42
  obtain ⟨rfl, N42q, e42⟩ := hQ42
  have N42 := Fr.app N41 N42q
  refine Gl.pre (fun _ k => st42 _ k) ?_
  refine Y.ifNo X42 hx (hb hby at_440) rfl ((if0 _ _).trans (feq (fun q => (own_pi0 (P := (own_vl (own_fl (p4.toInt8.toInt32)) (p3 &&& (3 : Int32)) (own_v q1 p2)).getD ((10 : Int32)).toNatClampNeg 0 = own_ei ((10 : Int32) - (p3 &&& (3 : Int32))) (own_n (own_v q1 p2)) (own_v q1 p2) (p4.toInt8.toInt32))).mp q (show (own_vl (own_fl (p4.toInt8.toInt32)) (p3 &&& (3 : Int32)) (own_v q1 p2)).getD ((10 : Int32)).toNatClampNeg 0 = own_ei ((10 : Int32) - (p3 &&& (3 : Int32))) (own_n (own_v q1 p2)) (own_v q1 p2) (p4.toInt8.toInt32) from hfin.2.2.2.2.2.2.2.2.2.2.2.1))).1) ?_
  refine Y.aload X42 hx (hb hby at_443) rfl rfl ?_
  refine Y.bipush X42 hx (hb hby at_445) ?_
  refine Y.iload X42 hx (hb hby at_447) rfl ?_
  refine Y.iload X42 hx (hb hby at_449) rfl ?_
  refine Y.lload X42 hx (hb hby at_451) rfl ?_
  refine Y.iload X42 hx (hb hby at_453) rfl ?_
  obtain ⟨_, _, ⟨T43, L43, k43, n43⟩, -, X43, ⟨Lc43, hQ43, l43, y43, z43⟩, st43⟩ := Jvm.LawKit.callS X42 hx (y := (⟨"io/heapwire/FrameOutputPutVarlongPinLaw", "at", "([BIIIJB)Z"⟩ : MethodName)) hown (mvT hZ (W 69 rfl)) (mvT hZ (W 70 rfl)) (mvT hZ (W 67 rfl)) (mvT hZ (W 71 rfl)) (by decide) (backOf (W := 0) (rm9 l Z a0 hw [] b1 (11 : Int32) (p3 &&& (3 : Int32)) (own_n (own_v q1 p2)) (own_v q1 p2) (p4.toInt8.toInt32) (own_vl (own_fl (p4.toInt8.toInt32)) (p3 &&& (3 : Int32)) (own_v q1 p2)) T20.heap n0 Z20 V_b1 (by decide) (by rw [hlen]; decide)) hZ (W 71 rfl) (W 67 rfl) (by decide) (by decide)) (g := (mkF m 455 #[.val (.long q1), .second, .val (.int p2), .val (.int p3), .val (.int p4), .val (.long (own_v q1 p2)), .second, .val (.int (p3 &&& (3 : Int32))), .val (.int (p4.toInt8.toInt32)), .val (.ref b1), .val (.ref b16), .val (.int (own_n (own_v q1 p2))), .val (.int (1 : Int32))] [(.int (p4.toInt8.toInt32)), (.long (own_v q1 p2)), (.int (own_n (own_v q1 p2))), (.int (p3 &&& (3 : Int32))), (.int (11 : Int32)), (.ref b1)])) rfl (by rw [hml]; rfl) (argsL := [(.ref b1), (.int (11 : Int32)), (.int (p3 &&& (3 : Int32))), (.int (own_n (own_v q1 p2))), (.long (own_v q1 p2)), (.int (p4.toInt8.toInt32))]) (rest := []) (lenOf pd_5 rfl) rfl (by show 2 * 0 + _ ≤ _; exact Nat.le_of_eq rfl) (hb hby at_455) (fun _ _ => ⟨rfl, e42, (by decide : 6 + 0 ≤ _), (by decide : 32 + 0 ≤ _)⟩)
  dsimp only [Pt.U, Pt.locs, Pt.cells, Pt.slots] at X43 l43 y43 z43 st43 hQ43
  rewrite [l43, y43, z43] at X43
  obtain ⟨rfl, N43q, e43⟩ := hQ43
  have N43 := Fr.app N42 N43q
  refine Gl.pre (fun _ k => st43 _ k) ?_
  refine Y.ifNo X43 hx (hb hby at_458) rfl ((if0 _ _).trans (feq (fun q => (own_pi0 (P := (own_vl (own_fl (p4.toInt8.toInt32)) (p3 &&& (3 : Int32)) (own_v q1 p2)).getD ((11 : Int32)).toNatClampNeg 0 = own_ei ((11 : Int32) - (p3 &&& (3 : Int32))) (own_n (own_v q1 p2)) (own_v q1 p2) (p4.toInt8.toInt32))).mp q (show (own_vl (own_fl (p4.toInt8.toInt32)) (p3 &&& (3 : Int32)) (own_v q1 p2)).getD ((11 : Int32)).toNatClampNeg 0 = own_ei ((11 : Int32) - (p3 &&& (3 : Int32))) (own_n (own_v q1 p2)) (own_v q1 p2) (p4.toInt8.toInt32) from hfin.2.2.2.2.2.2.2.2.2.2.2.2.1))).1) ?_
  refine Y.aload X43 hx (hb hby at_461) rfl rfl ?_
  refine Y.bipush X43 hx (hb hby at_463) ?_
  refine Y.iload X43 hx (hb hby at_465) rfl ?_
  refine Y.iload X43 hx (hb hby at_467) rfl ?_
  refine Y.lload X43 hx (hb hby at_469) rfl ?_
  refine Y.iload X43 hx (hb hby at_471) rfl ?_
  obtain ⟨_, _, ⟨T44, L44, k44, n44⟩, -, X44, ⟨Lc44, hQ44, l44, y44, z44⟩, st44⟩ := Jvm.LawKit.callS X43 hx (y := (⟨"io/heapwire/FrameOutputPutVarlongPinLaw", "at", "([BIIIJB)Z"⟩ : MethodName)) hown (mvT hZ (W 69 rfl)) (mvT hZ (W 70 rfl)) (mvT hZ (W 67 rfl)) (mvT hZ (W 71 rfl)) (by decide) (backOf (W := 0) (rm9 l Z a0 hw [] b1 (12 : Int32) (p3 &&& (3 : Int32)) (own_n (own_v q1 p2)) (own_v q1 p2) (p4.toInt8.toInt32) (own_vl (own_fl (p4.toInt8.toInt32)) (p3 &&& (3 : Int32)) (own_v q1 p2)) T20.heap n0 Z20 V_b1 (by decide) (by rw [hlen]; decide)) hZ (W 71 rfl) (W 67 rfl) (by decide) (by decide)) (g := (mkF m 473 #[.val (.long q1), .second, .val (.int p2), .val (.int p3), .val (.int p4), .val (.long (own_v q1 p2)), .second, .val (.int (p3 &&& (3 : Int32))), .val (.int (p4.toInt8.toInt32)), .val (.ref b1), .val (.ref b16), .val (.int (own_n (own_v q1 p2))), .val (.int (1 : Int32))] [(.int (p4.toInt8.toInt32)), (.long (own_v q1 p2)), (.int (own_n (own_v q1 p2))), (.int (p3 &&& (3 : Int32))), (.int (12 : Int32)), (.ref b1)])) rfl (by rw [hml]; rfl) (argsL := [(.ref b1), (.int (12 : Int32)), (.int (p3 &&& (3 : Int32))), (.int (own_n (own_v q1 p2))), (.long (own_v q1 p2)), (.int (p4.toInt8.toInt32))]) (rest := []) (lenOf pd_5 rfl) rfl (by show 2 * 0 + _ ≤ _; exact Nat.le_of_eq rfl) (hb hby at_473) (fun _ _ => ⟨rfl, e43, (by decide : 6 + 0 ≤ _), (by decide : 32 + 0 ≤ _)⟩)
  dsimp only [Pt.U, Pt.locs, Pt.cells, Pt.slots] at X44 l44 y44 z44 st44 hQ44
  rewrite [l44, y44, z44] at X44
  obtain ⟨rfl, N44q, e44⟩ := hQ44
  have N44 := Fr.app N43 N44q
  refine Gl.pre (fun _ k => st44 _ k) ?_
  refine Y.ifNo X44 hx (hb hby at_476) rfl ((if0 _ _).trans (feq (fun q => (own_pi0 (P := (own_vl (own_fl (p4.toInt8.toInt32)) (p3 &&& (3 : Int32)) (own_v q1 p2)).getD ((12 : Int32)).toNatClampNeg 0 = own_ei ((12 : Int32) - (p3 &&& (3 : Int32))) (own_n (own_v q1 p2)) (own_v q1 p2) (p4.toInt8.toInt32))).mp q (show (own_vl (own_fl (p4.toInt8.toInt32)) (p3 &&& (3 : Int32)) (own_v q1 p2)).getD ((12 : Int32)).toNatClampNeg 0 = own_ei ((12 : Int32) - (p3 &&& (3 : Int32))) (own_n (own_v q1 p2)) (own_v q1 p2) (p4.toInt8.toInt32) from hfin.2.2.2.2.2.2.2.2.2.2.2.2.2.1))).1) ?_
  refine Y.aload X44 hx (hb hby at_479) rfl rfl ?_
  refine Y.bipush X44 hx (hb hby at_481) ?_
  refine Y.iload X44 hx (hb hby at_483) rfl ?_
  refine Y.iload X44 hx (hb hby at_485) rfl ?_
  refine Y.lload X44 hx (hb hby at_487) rfl ?_
  refine Y.iload X44 hx (hb hby at_489) rfl ?_
  obtain ⟨_, _, ⟨T45, L45, k45, n45⟩, -, X45, ⟨Lc45, hQ45, l45, y45, z45⟩, st45⟩ := Jvm.LawKit.callS X44 hx (y := (⟨"io/heapwire/FrameOutputPutVarlongPinLaw", "at", "([BIIIJB)Z"⟩ : MethodName)) hown (mvT hZ (W 69 rfl)) (mvT hZ (W 70 rfl)) (mvT hZ (W 67 rfl)) (mvT hZ (W 71 rfl)) (by decide) (backOf (W := 0) (rm9 l Z a0 hw [] b1 (13 : Int32) (p3 &&& (3 : Int32)) (own_n (own_v q1 p2)) (own_v q1 p2) (p4.toInt8.toInt32) (own_vl (own_fl (p4.toInt8.toInt32)) (p3 &&& (3 : Int32)) (own_v q1 p2)) T20.heap n0 Z20 V_b1 (by decide) (by rw [hlen]; decide)) hZ (W 71 rfl) (W 67 rfl) (by decide) (by decide)) (g := (mkF m 491 #[.val (.long q1), .second, .val (.int p2), .val (.int p3), .val (.int p4), .val (.long (own_v q1 p2)), .second, .val (.int (p3 &&& (3 : Int32))), .val (.int (p4.toInt8.toInt32)), .val (.ref b1), .val (.ref b16), .val (.int (own_n (own_v q1 p2))), .val (.int (1 : Int32))] [(.int (p4.toInt8.toInt32)), (.long (own_v q1 p2)), (.int (own_n (own_v q1 p2))), (.int (p3 &&& (3 : Int32))), (.int (13 : Int32)), (.ref b1)])) rfl (by rw [hml]; rfl) (argsL := [(.ref b1), (.int (13 : Int32)), (.int (p3 &&& (3 : Int32))), (.int (own_n (own_v q1 p2))), (.long (own_v q1 p2)), (.int (p4.toInt8.toInt32))]) (rest := []) (lenOf pd_5 rfl) rfl (by show 2 * 0 + _ ≤ _; exact Nat.le_of_eq rfl) (hb hby at_491) (fun _ _ => ⟨rfl, e44, (by decide : 6 + 0 ≤ _), (by decide : 32 + 0 ≤ _)⟩)
  dsimp only [Pt.U, Pt.locs, Pt.cells, Pt.slots] at X45 l45 y45 z45 st45 hQ45
  rewrite [l45, y45, z45] at X45
  obtain ⟨rfl, N45q, e45⟩ := hQ45
  have N45 := Fr.app N44 N45q
  refine Gl.pre (fun _ k => st45 _ k) ?_
  refine Y.ifNo X45 hx (hb hby at_494) rfl ((if0 _ _).trans (feq (fun q => (own_pi0 (P := (own_vl (own_fl (p4.toInt8.toInt32)) (p3 &&& (3 : Int32)) (own_v q1 p2)).getD ((13 : Int32)).toNatClampNeg 0 = own_ei ((13 : Int32) - (p3 &&& (3 : Int32))) (own_n (own_v q1 p2)) (own_v q1 p2) (p4.toInt8.toInt32))).mp q (show (own_vl (own_fl (p4.toInt8.toInt32)) (p3 &&& (3 : Int32)) (own_v q1 p2)).getD ((13 : Int32)).toNatClampNeg 0 = own_ei ((13 : Int32) - (p3 &&& (3 : Int32))) (own_n (own_v q1 p2)) (own_v q1 p2) (p4.toInt8.toInt32) from hfin.2.2.2.2.2.2.2.2.2.2.2.2.2.2))).1) ?_
  refine Y.iconst X45 hx (hb hby at_497) ?_
  refine Y.goto X45 hx (pc0 := 498) (pc' := 502) rfl (hb hby at_498) (by decide) (by decide) ?_
  refine Y.istore X45 hx (hb hby at_502) rfl (l' := #[.val (.long q1), .second, .val (.int p2), .val (.int p3), .val (.int p4), .val (.long (own_v q1 p2)), .second, .val (.int (p3 &&& (3 : Int32))), .val (.int (p4.toInt8.toInt32)), .val (.ref b1), .val (.ref b16), .val (.int (own_n (own_v q1 p2))), .val (.int (1 : Int32))]) rfl ?_
  refine Y.iload X45 hx (hb hby at_504) rfl ?_
  rw [hPP]
  refine own_finN (Q := (Q0 Z q1 p2 p3 p4 h0 n0)) X45 hx hlk Bd.returns (t := .boolean) (z' := (1 : Int32)) (by simp) (by decide) (hb hby at_506) ?_ (by decide) (by decide)
  show Q0 Z q1 p2 p3 p4 h0 n0 _ T45.heap _
  rw [e45]
  exact ⟨rfl, N45⟩
set_option maxRecDepth 65536 in
set_option maxHeartbeats 40000000 in
theorem comes_1 {Post : Tables → Env → Array Value → State → Outcome → State → Prop} (hpost : ∀ tb e args s v u, (limb_1_1.after args s (.returned v) u = true ∧ limb_1_2.after args s (.returned v) u = true ∧ True) → FrameEnd s (.returned v) u (Jvm.fieldLocs frame_1_writes args s ++ Jvm.arrayLocs frame_1_arrays args s ++ Jvm.staticLocs frame_1_statics s) 24 128 → Post tb e args s (.returned v) u) :
    ArmFor flags0 classFile x code maxLocals ret World_1 tables_1 room_1 Calls_1 rest_1 Pre_1 Post := by
  intro l hfl _ _ p e ha hc hk s m args below hf hA hF happ hP
  obtain ⟨hcalls, hrest, hpre⟩ := hP
  obtain ⟨-, -, -, hnamed, -, -, -, hat⟩ := (Spec.applies_iff hf).mp happ
  obtain ⟨hg, hn⟩ := and_e (Cond.before_iff.mp (show (Jvm.Cond.and given_1 narrow_1).before args s = true from hpre))
  obtain ⟨gc, gr0⟩ := and_e hg
  obtain ⟨ga0, gr1⟩ := and_e gr0
  obtain ⟨ga1, gr2⟩ := and_e gr1
  obtain ⟨ga2, gr3⟩ := and_e gr2
  obtain ⟨w0, w1, w2, w3, rfl⟩ : ∃ w0 w1 w2 w3 : Value, args = #[w0, w1, w2, w3] := by
    have hs : args.size = 4 := by simpa [Cond.value, given_1] using gc
    obtain ⟨L⟩ := args
    match L, hs with
    | [w0, w1, w2, w3], _ => exact ⟨w0, w1, w2, w3, rfl⟩
  have hw := fun d (hd : d ∈ tables_1) => atoms_spec (ws := Jvm.Cond.code x code maxLocals ret :: tables_1) hat d (List.mem_cons_of_mem _ hd)
  have hfit : Fit s := fun {y c} hc i hi => by
    obtain ⟨ha, rfl⟩ := Array.getElem?_eq_some_iff.mp hc
    have q := List.all_eq_true.mp ((Array.all_eq_true_iff_forall_mem.mp hF) _ (Array.getElem_mem ha)) i (List.mem_range.mpr hi)
    simpa [Array.getElem?_eq_getElem hi] using q
  obtain ⟨i0, ei0⟩ := isL_v ga0
  obtain rfl : w0 = (.long i0) := Option.some.inj ei0
  obtain ⟨i1, ei1⟩ := is_v ga1
  obtain rfl : w1 = (.int i1) := Option.some.inj ei1
  obtain ⟨i2, ei2⟩ := is_v ga2
  obtain rfl : w2 = (.int i2) := Option.some.inj ei2
  obtain ⟨i3, ei3⟩ := is_v gr3
  obtain rfl : w3 = (.int i3) := Option.some.inj ei3
  obtain ⟨n, o, h1, h2, h3, _, L, rfl, ⟨rfl, N⟩, hq⟩ := rm0 l s _ hw tables_1 i0 i1 i2 i3  s.heap s.heap.size (Nat.le_refl _)  p e ha hc hk s m _ below hf ((Spec.applies_iff_loose hf).mp happ).1 ⟨rfl, State.Warmed39.refl s, rfl⟩ trivial
  refine ⟨n, _, h1, h2, h3, hpost _ _ _ _ _ _ ⟨Cond.after_iff.mpr rfl, Cond.after_iff.mpr (eq_i res_at (Term.int_eval (1)) rfl), trivial⟩ ⟨hq.1, hq.2.1, (hq.2.2.sift fun y hy => Or.inr (N y hy)).mono (by decide) (by decide)⟩⟩
theorem main_1_1 : Claimed_1_1 := comes_1 fun _ _ _ _ _ _ h hF => ⟨h.1, ReturnedEndW.of_narrow hF.1 hF.2.1 hF.2.2⟩
theorem main_1_2 : Claimed_1_2 := comes_1 fun _ _ _ _ _ _ h hF => ⟨h.2.1, ReturnedEndW.of_narrow hF.1 hF.2.1 hF.2.2⟩
end Jvm.Pilot.@@N@@
namespace Jvm.Pilot.@@N@@
open Jvm Jvm.ClassFile Sem Op Lib Jvm.Free Jvm.Stand Jvm.Pilot.@@N@@.Jvm.D
/-! MADE BY PROGRAM (witnessworld.py) out of the Statement's table words and the real class files: 16 classes; the members and pool entries that the words name. The judged class is class 1, her method 1. -/
namespace start1
open Jvm.ClassFile
def u (s : String) : CpInfo := .utf8 (stringToUtf16 s)
/-- a pool by its gaps: so many unusable entries, then the entry; so many at the end -/
def gap : Nat → List CpInfo → List CpInfo
  | 0, r => r
  | n + 1, r => .unusable :: gap n r
def poolList (es : List (Nat × CpInfo)) (last : Nat) : List CpInfo := es.foldr (fun e r => gap e.1 (e.2 :: r)) (gap last [])
def pool (es : List (Nat × CpInfo)) (last : Nat) : Array CpInfo := ⟨poolList es last⟩
def fileOf (pool : Array CpInfo) (this : Nat) (attrs : Array Attribute := #[]) (ms : Array MethodInfo := #[]) (fl : Nat := 33) (sup : Nat := 0) (ifs : Array Nat := #[]) (fds : Array FieldInfo := #[]) : ClassFile where
  minorVersion := 0
  majorVersion := 65
  constantPool := pool
  accessFlags := fl
  thisClass := this
  superClass := sup
  interfaces := ifs
  fields := fds
  methods := ms
  attributes := attrs
def plain (name : String) (sup : Option ClassId) : Class where
  name := name
  kind := .ordinary
  loader := none
  accessFlags := 33
  super := sup
  interfaces := #[]
  cf := none
  fields := #[]
  methods := #[]
  instanceTypes := #[]
  staticTypes := #[]
  resolved := #[]
  callSites := []
  init := .initialized
  statics := none
  mirror := none

def pool0 : Array CpInfo := pool [(5, u "<init>"), (0, u "()V"), (1, .class_ 10), (1, u "java/lang/Object")] 113

def k0c0 : Code := { maxStack := 0, maxLocals := 1, code := object_method_1_code, exceptionTable := #[], attributes := #[] }
def k0m0 : Method := { name := "<init>", desc := "()V", sig := { parameters := [], returnType := none }, accessFlags := 1, code := some k0c0 }
/-- java/lang/Object -/
def k0 : Class := { plain "java/lang/Object" none with
  accessFlags := 33
  interfaces := #[]
  cf := some (fileOf pool0 8 #[] #[{ accessFlags := 1, nameIndex := 5, descriptorIndex := 6, attributes := #[] }] 33 0 #[] #[])
  fields := #[]
  methods := #[k0m0]
  instanceTypes := #[]
  staticTypes := #[]
  resolved := Array.replicate 124 none
  statics := none }

def pool1 : Array CpInfo := pool [(2, .class_ 4), (0, .nameAndType 5 6), (0, u "java/lang/Object"), (0, u "<init>"), (0, u "()V"), (0, .class_ 8), (0, u "io/heapwire/FrameOutput"), (0, .methodref 7 3), (0, .fieldref 7 11), (0, .nameAndType 12 13), (0, u "bytes"), (0, u "[B"), (0, .fieldref 7 15), (0, .nameAndType 16 17), (0, u "position"), (0, u "I"), (0, .methodref 7 19), (0, .nameAndType 20 21), (0, u "putVarlong"), (0, u "(J)V"), (0, .methodref 23 24), (0, .class_ 25), (0, .nameAndType 26 27), (0, u "io/heapwire/FrameOutputPutVarlongPinLaw"), (0, u "nz"), (0, u "(J)I"), (0, .methodref 23 29), (0, .nameAndType 30 31), (0, u "at"), (0, u "([BIIIJB)Z"), (0, .long 128), (3, u "law"), (0, u "(JIII)Z")] 4

def k1m0 : Method := { name := "<init>", desc := "()V", sig := { parameters := [], returnType := none }, accessFlags := 1, code := none }
def k1c1 : Code := { maxStack := 7, maxLocals := 13, code := code, exceptionTable := #[], attributes := #[] }
def k1m1 : Method := { name := "law", desc := "(JIII)Z", sig := { parameters := [.long, .int, .int, .int], returnType := some .boolean }, accessFlags := 9, code := some k1c1 }
def k1c2 : Code := { maxStack := 4, maxLocals := 2, code := method_3_code, exceptionTable := #[], attributes := #[] }
def k1m2 : Method := { name := "nz", desc := "(J)I", sig := { parameters := [.long], returnType := some .int }, accessFlags := 10, code := some k1c2 }
def k1c3 : Code := { maxStack := 4, maxLocals := 9, code := method_4_code, exceptionTable := #[], attributes := #[] }
def k1m3 : Method := { name := "at", desc := "([BIIIJB)Z", sig := { parameters := [(.array .byte), .int, .int, .int, .long, .byte], returnType := some .boolean }, accessFlags := 10, code := some k1c3 }
/-- io/heapwire/FrameOutputPutVarlongPinLaw -/
def k1 : Class := { plain "io/heapwire/FrameOutputPutVarlongPinLaw" (some 0) with
  accessFlags := 49
  interfaces := #[]
  cf := some (fileOf pool1 23 #[] #[{ accessFlags := 1, nameIndex := 5, descriptorIndex := 6, attributes := #[] }, { accessFlags := 9, nameIndex := 36, descriptorIndex := 37, attributes := #[] }, { accessFlags := 10, nameIndex := 26, descriptorIndex := 27, attributes := #[] }, { accessFlags := 10, nameIndex := 30, descriptorIndex := 31, attributes := #[] }] 49 2 #[] #[])
  fields := #[]
  methods := #[k1m0, k1m1, k1m2, k1m3]
  instanceTypes := #[]
  staticTypes := #[]
  resolved := Array.replicate 42 none
  statics := none }

def pool2 : Array CpInfo := pool [(1, .methodref 2 3), (0, .class_ 4), (0, .nameAndType 5 6), (0, u "java/lang/Object"), (0, u "<init>"), (0, u "()V"), (0, .class_ 8), (0, u "io/heapwire/SpareRoom"), (0, .class_ 10), (0, u "io/heapwire/FrameOutput"), (0, .methodref 7 12), (0, .nameAndType 5 13), (0, u "(I)V"), (0, .fieldref 9 15), (0, .nameAndType 16 17), (0, u "spare"), (0, u "Lio/heapwire/SpareRoom;"), (0, .class_ 19), (0, u "io/heapwire/IdleRoom"), (0, .invokeDynamic 0 21), (0, .nameAndType 22 23), (0, u "apply"), (0, u "()Ljava/util/function/UnaryOperator;"), (0, .methodref 18 25), (0, .nameAndType 5 26), (0, u "(Ljava/util/function/UnaryOperator;)V"), (0, .fieldref 9 28), (0, .nameAndType 29 30), (0, u "idle"), (0, u "Lio/heapwire/IdleRoom;"), (5, u "own"), (0, u "[B"), (6, u "inOwn"), (0, u "Z"), (0, .fieldref 9 47), (0, .nameAndType 48 37), (0, u "bytes"), (12, u "ownHeld"), (0, .fieldref 9 63), (0, .nameAndType 64 65), (0, u "position"), (0, u "I"), (2, u "start"), (50, .long 18446744073709551488), (1, .long 127), (1, .long 128), (3, u "putVarlong"), (0, u "(J)V"), (101, u "INITIAL_CAPACITY"), (26, u "lambda$new$0"), (0, u "([B)[B"), (3, .methodType 263), (0, u "(Ljava/lang/Object;)Ljava/lang/Object;"), (0, .methodHandle 6 265), (0, .methodref 9 266), (0, .nameAndType 257 258), (0, .methodType 258), (0, .methodHandle 6 269), (0, .methodref 270 271), (0, .class_ 272), (0, .nameAndType 273 274), (0, u "java/lang/invoke/LambdaMetafactory"), (0, u "metafactory"), (0, u "(Ljava/lang/invoke/MethodHandles$Lookup;Ljava/lang/String;Ljava/lang/invoke/MethodType;Ljava/lang/invoke/MethodType;Ljava/lang/invoke/MethodHandle;Ljava/lang/invoke/MethodType;)Ljava/lang/invoke/CallSite;")] 12

def k2c0 : Code := { maxStack := 4, maxLocals := 1, code := prog_30_method_1_code, exceptionTable := #[], attributes := #[] }
def k2m0 : Method := { name := "<init>", desc := "()V", sig := { parameters := [], returnType := none }, accessFlags := 0, code := some k2c0 }
def k2c1 : Code := { maxStack := 6, maxLocals := 5, code := prog_30_method_12_code, exceptionTable := #[], attributes := #[] }
def k2m1 : Method := { name := "putVarlong", desc := "(J)V", sig := { parameters := [.long], returnType := none }, accessFlags := 0, code := some k2c1 }
def k2c2 : Code := { maxStack := 1, maxLocals := 1, code := ⟨#[0x01, 0xb0]⟩, exceptionTable := #[], attributes := #[] }
def k2m2 : Method := { name := "lambda$new$0", desc := "([B)[B", sig := { parameters := [(.array .byte)], returnType := some (.array .byte) }, accessFlags := 4106, code := some k2c2 }
/-- io/heapwire/FrameOutput -/
def k2 : Class := { plain "io/heapwire/FrameOutput" (some 0) with
  accessFlags := 48
  interfaces := #[]
  cf := some (fileOf pool2 9 #[.bootstrapMethods #[⟨268, #[262, 264, 267]⟩]] #[{ accessFlags := 0, nameIndex := 5, descriptorIndex := 6, attributes := #[] }, { accessFlags := 0, nameIndex := 127, descriptorIndex := 128, attributes := #[] }, { accessFlags := 4106, nameIndex := 257, descriptorIndex := 258, attributes := #[] }] 48 2 #[] #[{ accessFlags := 26, nameIndex := 230, descriptorIndex := 65, attributes := #[] }, { accessFlags := 0, nameIndex := 48, descriptorIndex := 37, attributes := #[] }, { accessFlags := 0, nameIndex := 68, descriptorIndex := 65, attributes := #[] }, { accessFlags := 0, nameIndex := 64, descriptorIndex := 65, attributes := #[] }, { accessFlags := 2, nameIndex := 36, descriptorIndex := 37, attributes := #[] }, { accessFlags := 2, nameIndex := 44, descriptorIndex := 45, attributes := #[] }, { accessFlags := 18, nameIndex := 16, descriptorIndex := 17, attributes := #[] }, { accessFlags := 18, nameIndex := 29, descriptorIndex := 30, attributes := #[] }, { accessFlags := 2, nameIndex := 61, descriptorIndex := 45, attributes := #[] }])
  fields := #[{ name := "INITIAL_CAPACITY", type := .int, accessFlags := 26, slot := 0, constantValue := 0 }, { name := "bytes", type := (.array .byte), accessFlags := 0, slot := 0, constantValue := 0 }, { name := "start", type := .int, accessFlags := 0, slot := 1, constantValue := 0 }, { name := "position", type := .int, accessFlags := 0, slot := 2, constantValue := 0 }, { name := "own", type := (.array .byte), accessFlags := 2, slot := 3, constantValue := 0 }, { name := "inOwn", type := .boolean, accessFlags := 2, slot := 4, constantValue := 0 }, { name := "spare", type := (.object "io/heapwire/SpareRoom"), accessFlags := 18, slot := 5, constantValue := 0 }, { name := "idle", type := (.object "io/heapwire/IdleRoom"), accessFlags := 18, slot := 6, constantValue := 0 }, { name := "ownHeld", type := .boolean, accessFlags := 2, slot := 7, constantValue := 0 }]
  methods := #[k2m0, k2m1, k2m2]
  instanceTypes := #[(.array .byte), .int, .int, (.array .byte), .boolean, (.object "io/heapwire/SpareRoom"), (.object "io/heapwire/IdleRoom"), .boolean]
  staticTypes := #[.int]
  resolved := Array.replicate 287 none
  callSites := [(0, 23, .constant 0)]
  statics := none }

def pool3 : Array CpInfo := pool [(1, .methodref 2 3), (0, .class_ 4), (0, .nameAndType 5 6), (0, u "java/lang/Object"), (0, u "<init>"), (0, u "()V"), (0, .fieldref 8 9), (0, .class_ 10), (0, .nameAndType 11 12), (0, u "io/heapwire/SpareRoom"), (0, u "least"), (0, u "I"), (2, u "most"), (8, u "smallGraphs"), (2, u "mostOfSmall"), (0, u "SMALL_GRAPHS"), (2, u "(I)V")] 12

def k3c0 : Code := { maxStack := 2, maxLocals := 2, code := prog_190_method_1_code, exceptionTable := #[], attributes := #[] }
def k3m0 : Method := { name := "<init>", desc := "(I)V", sig := { parameters := [.int], returnType := none }, accessFlags := 0, code := some k3c0 }
/-- io/heapwire/SpareRoom -/
def k3 : Class := { plain "io/heapwire/SpareRoom" (some 0) with
  accessFlags := 48
  interfaces := #[]
  cf := some (fileOf pool3 8 #[] #[{ accessFlags := 0, nameIndex := 5, descriptorIndex := 31, attributes := #[] }] 48 2 #[] #[{ accessFlags := 24, nameIndex := 28, descriptorIndex := 12, attributes := #[] }, { accessFlags := 18, nameIndex := 11, descriptorIndex := 12, attributes := #[] }, { accessFlags := 2, nameIndex := 15, descriptorIndex := 12, attributes := #[] }, { accessFlags := 2, nameIndex := 24, descriptorIndex := 12, attributes := #[] }, { accessFlags := 2, nameIndex := 27, descriptorIndex := 12, attributes := #[] }])
  fields := #[{ name := "SMALL_GRAPHS", type := .int, accessFlags := 24, slot := 0, constantValue := 0 }, { name := "least", type := .int, accessFlags := 18, slot := 0, constantValue := 0 }, { name := "most", type := .int, accessFlags := 2, slot := 1, constantValue := 0 }, { name := "smallGraphs", type := .int, accessFlags := 2, slot := 2, constantValue := 0 }, { name := "mostOfSmall", type := .int, accessFlags := 2, slot := 3, constantValue := 0 }]
  methods := #[k3m0]
  instanceTypes := #[.int, .int, .int, .int]
  staticTypes := #[.int]
  resolved := Array.replicate 44 none
  statics := none }

def pool4 : Array CpInfo := pool [(1, .methodref 2 3), (0, .class_ 4), (0, .nameAndType 5 6), (0, u "java/lang/Object"), (0, u "<init>"), (0, u "()V"), (0, .class_ 8), (0, u "java/util/concurrent/atomic/AtomicReference"), (0, .methodref 7 3), (0, .fieldref 11 12), (0, .class_ 13), (0, .nameAndType 14 15), (0, u "io/heapwire/IdleRoom"), (0, u "held"), (0, u "Ljava/util/concurrent/atomic/AtomicReference;"), (0, .class_ 17), (0, u "java/util/concurrent/atomic/AtomicBoolean"), (0, .methodref 16 3), (0, .fieldref 11 20), (0, .nameAndType 21 22), (0, u "looking"), (0, u "Ljava/util/concurrent/atomic/AtomicBoolean;"), (0, .fieldref 11 24), (0, .nameAndType 25 26), (0, u "letGo"), (0, u "Ljava/util/function/UnaryOperator;"), (0, .class_ 28), (0, u "io/heapwire/IdleRoom$Held"), (9, u "HELD_NANOS"), (0, u "J"), (23, u "lastLetGo"), (0, u "Z"), (67, u "(Ljava/util/function/UnaryOperator;)V")] 40

def k4c0 : Code := { maxStack := 3, maxLocals := 2, code := prog_42_method_1_code, exceptionTable := #[], attributes := #[] }
def k4m0 : Method := { name := "<init>", desc := "(Ljava/util/function/UnaryOperator;)V", sig := { parameters := [(.object "java/util/function/UnaryOperator")], returnType := none }, accessFlags := 0, code := some k4c0 }
/-- io/heapwire/IdleRoom -/
def k4 : Class := { plain "io/heapwire/IdleRoom" (some 0) with
  accessFlags := 48
  interfaces := #[]
  cf := some (fileOf pool4 11 #[.nestMembers #[27]] #[{ accessFlags := 0, nameIndex := 5, descriptorIndex := 132, attributes := #[] }] 48 2 #[] #[{ accessFlags := 24, nameIndex := 38, descriptorIndex := 39, attributes := #[] }, { accessFlags := 18, nameIndex := 25, descriptorIndex := 26, attributes := #[] }, { accessFlags := 18, nameIndex := 14, descriptorIndex := 15, attributes := #[] }, { accessFlags := 18, nameIndex := 21, descriptorIndex := 22, attributes := #[] }, { accessFlags := 2, nameIndex := 63, descriptorIndex := 64, attributes := #[] }])
  fields := #[{ name := "HELD_NANOS", type := .long, accessFlags := 24, slot := 0, constantValue := 0 }, { name := "letGo", type := (.object "java/util/function/UnaryOperator"), accessFlags := 18, slot := 0, constantValue := 0 }, { name := "held", type := (.object "java/util/concurrent/atomic/AtomicReference"), accessFlags := 18, slot := 1, constantValue := 0 }, { name := "looking", type := (.object "java/util/concurrent/atomic/AtomicBoolean"), accessFlags := 18, slot := 2, constantValue := 0 }, { name := "lastLetGo", type := .boolean, accessFlags := 2, slot := 3, constantValue := 0 }]
  methods := #[k4m0]
  instanceTypes := #[(.object "java/util/function/UnaryOperator"), (.object "java/util/concurrent/atomic/AtomicReference"), (.object "java/util/concurrent/atomic/AtomicBoolean"), .boolean]
  staticTypes := #[.long]
  resolved := Array.replicate 173 none
  statics := none }

def pool5 : Array CpInfo := pool [(6, u "(Ljava/lang/Object;)Ljava/lang/Object;"), (2, u "apply"), (6, .class_ 18), (1, u "java/util/function/Function"), (0, .class_ 20), (0, u "java/lang/Object")] 56

def k5m0 : Method := { name := "apply", desc := "(Ljava/lang/Object;)Ljava/lang/Object;", sig := { parameters := [(.object "java/lang/Object")], returnType := some (.object "java/lang/Object") }, accessFlags := 1025, code := none }
/-- java/util/function/Function -/
def k5 : Class := { plain "java/util/function/Function" (some 0) with
  accessFlags := 1537
  interfaces := #[]
  cf := some (fileOf pool5 16 #[] #[{ accessFlags := 1025, nameIndex := 9, descriptorIndex := 6, attributes := #[] }] 1537 19 #[] #[])
  fields := #[]
  methods := #[k5m0]
  instanceTypes := #[]
  staticTypes := #[]
  resolved := Array.replicate 77 none
  statics := none }

def pool6 : Array CpInfo := pool [(5, .class_ 6), (0, u "java/util/function/UnaryOperator"), (0, .class_ 8), (0, u "java/lang/Object"), (0, .class_ 10), (0, u "java/util/function/Function")] 33

/-- java/util/function/UnaryOperator -/
def k6 : Class := { plain "java/util/function/UnaryOperator" (some 0) with
  accessFlags := 1537
  interfaces := #[5]
  cf := some (fileOf pool6 5 #[] #[] 1537 7 #[9] #[])
  fields := #[]
  methods := #[]
  instanceTypes := #[]
  staticTypes := #[]
  resolved := Array.replicate 44 none
  statics := none }

def pool7 : Array CpInfo := pool [(1, .class_ 2), (0, u "java/io/Serializable"), (0, .class_ 4), (0, u "java/lang/Object")] 2

/-- java/io/Serializable -/
def k7 : Class := { plain "java/io/Serializable" (some 0) with
  accessFlags := 1537
  interfaces := #[]
  cf := some (fileOf pool7 1 #[] #[] 1537 3 #[] #[])
  fields := #[]
  methods := #[]
  instanceTypes := #[]
  staticTypes := #[]
  resolved := Array.replicate 7 none
  statics := none }

def pool8 : Array CpInfo := pool [(1, .methodref 2 3), (0, .class_ 4), (0, .nameAndType 5 6), (0, u "java/lang/Object"), (0, u "<init>"), (0, u "()V"), (1, .class_ 10), (1, u "java/util/concurrent/atomic/AtomicReference"), (0, u "value"), (0, u "Ljava/lang/Object;"), (2, u "VALUE"), (0, u "Ljava/lang/invoke/VarHandle;"), (96, .class_ 114), (0, u "java/io/Serializable"), (0, u "serialVersionUID"), (0, u "J")] 61

def k8c0 : Code := { maxStack := 1, maxLocals := 1, code := jdk_2809_method_2_code, exceptionTable := #[], attributes := #[] }
def k8m0 : Method := { name := "<init>", desc := "()V", sig := { parameters := [], returnType := none }, accessFlags := 1, code := some k8c0 }
/-- java/util/concurrent/atomic/AtomicReference -/
def k8 : Class := { plain "java/util/concurrent/atomic/AtomicReference" (some 0) with
  accessFlags := 33
  interfaces := #[7]
  cf := some (fileOf pool8 8 #[] #[{ accessFlags := 1, nameIndex := 5, descriptorIndex := 6, attributes := #[] }] 33 2 #[113] #[{ accessFlags := 26, nameIndex := 115, descriptorIndex := 116, attributes := #[] }, { accessFlags := 26, nameIndex := 15, descriptorIndex := 16, attributes := #[] }, { accessFlags := 66, nameIndex := 11, descriptorIndex := 12, attributes := #[] }])
  fields := #[{ name := "serialVersionUID", type := .long, accessFlags := 26, slot := 0, constantValue := 0 }, { name := "VALUE", type := (.object "java/lang/invoke/VarHandle"), accessFlags := 26, slot := 1, constantValue := 0 }, { name := "value", type := (.object "java/lang/Object"), accessFlags := 66, slot := 0, constantValue := 0 }]
  methods := #[k8m0]
  instanceTypes := #[(.object "java/lang/Object")]
  staticTypes := #[.long, (.object "java/lang/invoke/VarHandle")]
  resolved := Array.replicate 178 none
  statics := none }

def pool9 : Array CpInfo := pool [(1, .methodref 2 3), (0, .class_ 4), (0, .nameAndType 5 6), (0, u "java/lang/Object"), (0, u "<init>"), (0, u "()V"), (1, .class_ 10), (1, u "java/util/concurrent/atomic/AtomicBoolean"), (0, u "value"), (0, u "I"), (2, u "VALUE"), (0, u "Ljava/lang/invoke/VarHandle;"), (87, .class_ 105), (0, u "java/io/Serializable"), (0, u "serialVersionUID"), (0, u "J")] 35

def k9c0 : Code := { maxStack := 1, maxLocals := 1, code := jdk_2802_method_2_code, exceptionTable := #[], attributes := #[] }
def k9m0 : Method := { name := "<init>", desc := "()V", sig := { parameters := [], returnType := none }, accessFlags := 1, code := some k9c0 }
/-- java/util/concurrent/atomic/AtomicBoolean -/
def k9 : Class := { plain "java/util/concurrent/atomic/AtomicBoolean" (some 0) with
  accessFlags := 33
  interfaces := #[7]
  cf := some (fileOf pool9 8 #[] #[{ accessFlags := 1, nameIndex := 5, descriptorIndex := 6, attributes := #[] }] 33 2 #[104] #[{ accessFlags := 26, nameIndex := 106, descriptorIndex := 107, attributes := #[] }, { accessFlags := 26, nameIndex := 15, descriptorIndex := 16, attributes := #[] }, { accessFlags := 66, nameIndex := 11, descriptorIndex := 12, attributes := #[] }])
  fields := #[{ name := "serialVersionUID", type := .long, accessFlags := 26, slot := 0, constantValue := 0 }, { name := "VALUE", type := (.object "java/lang/invoke/VarHandle"), accessFlags := 26, slot := 1, constantValue := 0 }, { name := "value", type := .int, accessFlags := 66, slot := 0, constantValue := 0 }]
  methods := #[k9m0]
  instanceTypes := #[.int]
  staticTypes := #[.long, (.object "java/lang/invoke/VarHandle")]
  resolved := Array.replicate 143 none
  statics := none }

def pool10 : Array CpInfo := pool [(1, u "java/lang/Cloneable"), (0, .class_ 1), (0, u "java/lang/Object"), (0, .class_ 3)] 3

/-- java/lang/Cloneable -/
def k10 : Class := { plain "java/lang/Cloneable" (some 0) with
  accessFlags := 1537
  interfaces := #[]
  cf := some (fileOf pool10 2 #[] #[] 1537 4 #[] #[])
  fields := #[]
  methods := #[]
  instanceTypes := #[]
  staticTypes := #[]
  resolved := Array.replicate 8 none
  statics := none }

/-- the primitive byte -/
def k11 : Class := { plain "byte" none with kind := .primitive 'B', accessFlags := 0x411 }
/-- [B -/
def k12 : Class := { plain "[B" (some 0) with kind := .array 11 .byte, interfaces := #[10, 7], accessFlags := 1041 }

/-- the primitive int -/
def k13 : Class := { plain "int" none with kind := .primitive 'I', accessFlags := 0x411 }
/-- [I -/
def k14 : Class := { plain "[I" (some 0) with kind := .array 13 .int, interfaces := #[10, 7], accessFlags := 1041 }

def classes0 : Array Class := #[k0, k1, k2, k3, k4, k5, k6, k7, k8, k9, k10, k11, k12, k13, k14]
/-- the class that the rule has made for the site at 23 of io/heapwire/FrameOutput.<init> -/
def k15 : Class := Jvm.LamKit.madeRec { classes := classes0 } "io/heapwire/FrameOutput" (Jvm.Lambda.Shape.mk "java/util/function/UnaryOperator" "apply" (Jvm.ClassFile.MethodDescriptor.mk ([(Jvm.ClassFile.FieldType.object "java/lang/Object")] : List Jvm.ClassFile.FieldType) (Option.some (Jvm.ClassFile.FieldType.object "java/lang/Object"))) ([] : List Jvm.ClassFile.FieldType) (6 : Nat) "io/heapwire/FrameOutput" "lambda$new$0" (Jvm.ClassFile.MethodDescriptor.mk ([(Jvm.ClassFile.FieldType.array Jvm.ClassFile.FieldType.byte)] : List Jvm.ClassFile.FieldType) (Option.some (Jvm.ClassFile.FieldType.array Jvm.ClassFile.FieldType.byte))) false (Jvm.ClassFile.MethodDescriptor.mk ([(Jvm.ClassFile.FieldType.array Jvm.ClassFile.FieldType.byte)] : List Jvm.ClassFile.FieldType) (Option.some (Jvm.ClassFile.FieldType.array Jvm.ClassFile.FieldType.byte)))) 15

def heap : Heap := #[{ cls := 15, slots := #[], vm := .none }]
def classes : Array Class := #[k0, k1, k2, k3, k4, k5, k6, k7, k8, k9, k10, k11, k12, k13, k14, k15]
def interned : List (Array UInt16 × Addr) := []
def slotsUsed : Nat := 0
def theMethod : MethodId := ⟨1, 1⟩
def args0 : Array Value := #[.long 300, .int 1, .int 2, .int 7]
def aboutOver (below : List Frame) : State where
  vm := { classes := classes, interned := interned.toArray }
  heap := heap
  slotsUsed := slotsUsed
  threads := #[{ frames := .invoking theMethod args0 :: below }]
def below0 : List Frame := [.native { method := ⟨0, 0⟩, args := #[] }]
def about1 : State := aboutOver below0
def p0 : Program := .bare "" "" ""
def e0 : Env := launch0.env 0 0 0
theorem w_frames : about1.frames = Frame.invoking theMethod args0 :: below0 := rfl
set_option maxRecDepth 65536 in
theorem w_args : argsFit about1.vm theMethod args0 = true := by decide +kernel
set_option maxRecDepth 65536 in
theorem w_heap : heapFits about1 = true := by decide +kernel
set_option maxRecDepth 65536 in
theorem w_runnable : about1.curStatus? = some .runnable := by decide +kernel
set_option maxRecDepth 65536 in
theorem w_alone : about1.alone = true := by decide +kernel
set_option maxRecDepth 65536 in
theorem w_named : about1.methodNamed? x = some theMethod := by decide +kernel
set_option maxRecDepth 65536 in
theorem w_hears : about1.hears theMethod below0 = true := by decide +kernel
set_option maxRecDepth 65536 in
theorem w_ripe : about1.ripe theMethod args0 below0 = true := by decide +kernel
theorem w_running : about1.status = .running := rfl
set_option maxRecDepth 65536 in
theorem w_room : about1.hasRoom e0.platform room_1 = true :=
  launch0.hasRoom_least _ room_1 (by decide +kernel) (by decide +kernel) (by decide +kernel) (by decide +kernel) (by decide +kernel) (by decide +kernel)
theorem allAtoms_all (ts : List Jvm.Cond) (a : Array Jvm.Value) (st : Jvm.State) : (allAtoms ts).before a st = ts.all (fun c => c.before a st) := by
  induction ts with
  | nil => rfl
  | cons c t ih =>
    show (Jvm.Cond.and c (allAtoms t)).before a st = _
    rw [Jvm.Cond.before_and, ih, List.all_cons]
def words1 : List Jvm.Cond := Jvm.Cond.code x code maxLocals ret :: tables_1
/-- a 'code' word, met by the world's own term for the bytes: nothing is compared byte by byte -/
theorem code_word {y : MethodName} {bytes : ByteArray} {mx : Nat} {rt : Option FieldType} {a : Array Value} {s : State} {m : MethodId} {meth : Method} {c : Code} (h1 : s.methodNamed? y = some m) (h2 : s.vm.method? m = some meth) (h3 : meth.code = some c) (h4 : c.code = bytes)
    (h5 : (c.maxLocals == mx && c.exceptionTable.isEmpty && decide (c.maxStack ≤ mostOperands) && decide (meth.sig.returnType = rt) && !meth.locks && decide (parseMethodDescriptor y.desc = some meth.sig)) = true) : (Jvm.Cond.code y bytes mx rt).before a s = true := by
  simp only [Bool.and_eq_true, beq_iff_eq, Bool.not_eq_true', decide_eq_true_eq] at h5
  obtain ⟨⟨⟨⟨⟨g1, g2⟩, g3⟩, g4⟩, g5⟩, g6⟩ := h5
  simp [Cond.before, Cond.holds, Cond.value, h1, h2, h3, h4, g1, g2, g3, g4, g5, g6]
def isCode : Jvm.Cond → Bool
  | .code _ _ _ _ => true
  | _ => false
theorem all_split {L : List Jvm.Cond} {P : Jvm.Cond → Bool} (h1 : L.all (fun c => isCode c || P c) = true) (h2 : ∀ c ∈ L.filter isCode, P c = true) : L.all P = true := by
  refine List.all_eq_true.mpr fun c hc => ?_
  have h := List.all_eq_true.mp h1 c hc
  rcases Bool.eq_false_or_eq_true (isCode c) with hi | hi
  · exact h2 c (List.mem_filter.mpr ⟨hc, hi⟩)
  · simpa [hi] using h
set_option maxRecDepth 65536 in
theorem w_c0 : (Jvm.Cond.code x code maxLocals ret).before args0 about1 = true := code_word (m := ⟨1, 1⟩) (meth := k1m1) (c := k1c1) (by decide +kernel) rfl rfl rfl (by decide +kernel)
set_option maxRecDepth 65536 in
theorem w_c1 : (Jvm.Cond.code ({ cls := "io/heapwire/FrameOutput", name := "<init>", desc := "()V" } : Jvm.MethodName) prog_30_method_1_code (1 : Nat) (Option.none : Option Jvm.ClassFile.FieldType)).before args0 about1 = true := code_word (m := ⟨2, 0⟩) (meth := k2m0) (c := k2c0) (by decide +kernel) rfl rfl rfl (by decide +kernel)
set_option maxRecDepth 65536 in
theorem w_c2 : (Jvm.Cond.code ({ cls := "java/lang/Object", name := "<init>", desc := "()V" } : Jvm.MethodName) object_method_1_code (1 : Nat) (Option.none : Option Jvm.ClassFile.FieldType)).before args0 about1 = true := code_word (m := ⟨0, 0⟩) (meth := k0m0) (c := k0c0) (by decide +kernel) rfl rfl rfl (by decide +kernel)
set_option maxRecDepth 65536 in
theorem w_c3 : (Jvm.Cond.code ({ cls := "io/heapwire/SpareRoom", name := "<init>", desc := "(I)V" } : Jvm.MethodName) prog_190_method_1_code (2 : Nat) (Option.none : Option Jvm.ClassFile.FieldType)).before args0 about1 = true := code_word (m := ⟨3, 0⟩) (meth := k3m0) (c := k3c0) (by decide +kernel) rfl rfl rfl (by decide +kernel)
set_option maxRecDepth 65536 in
theorem w_c4 : (Jvm.Cond.code ({ cls := "io/heapwire/IdleRoom", name := "<init>", desc := "(Ljava/util/function/UnaryOperator;)V" } : Jvm.MethodName) prog_42_method_1_code (2 : Nat) (Option.none : Option Jvm.ClassFile.FieldType)).before args0 about1 = true := code_word (m := ⟨4, 0⟩) (meth := k4m0) (c := k4c0) (by decide +kernel) rfl rfl rfl (by decide +kernel)
set_option maxRecDepth 65536 in
theorem w_c5 : (Jvm.Cond.code ({ cls := "java/util/concurrent/atomic/AtomicReference", name := "<init>", desc := "()V" } : Jvm.MethodName) jdk_2809_method_2_code (1 : Nat) (Option.none : Option Jvm.ClassFile.FieldType)).before args0 about1 = true := code_word (m := ⟨8, 0⟩) (meth := k8m0) (c := k8c0) (by decide +kernel) rfl rfl rfl (by decide +kernel)
set_option maxRecDepth 65536 in
theorem w_c6 : (Jvm.Cond.code ({ cls := "java/util/concurrent/atomic/AtomicBoolean", name := "<init>", desc := "()V" } : Jvm.MethodName) jdk_2802_method_2_code (1 : Nat) (Option.none : Option Jvm.ClassFile.FieldType)).before args0 about1 = true := code_word (m := ⟨9, 0⟩) (meth := k9m0) (c := k9c0) (by decide +kernel) rfl rfl rfl (by decide +kernel)
set_option maxRecDepth 65536 in
theorem w_c7 : (Jvm.Cond.code ({ cls := "io/heapwire/FrameOutput", name := "putVarlong", desc := "(J)V" } : Jvm.MethodName) prog_30_method_12_code (5 : Nat) (Option.none : Option Jvm.ClassFile.FieldType)).before args0 about1 = true := code_word (m := ⟨2, 1⟩) (meth := k2m1) (c := k2c1) (by decide +kernel) rfl rfl rfl (by decide +kernel)
set_option maxRecDepth 65536 in
theorem w_c8 : (Jvm.Cond.code ({ cls := "io/heapwire/FrameOutputPutVarlongPinLaw", name := "nz", desc := "(J)I" } : Jvm.MethodName) method_3_code (2 : Nat) (Option.some Jvm.ClassFile.FieldType.int)).before args0 about1 = true := code_word (m := ⟨1, 2⟩) (meth := k1m2) (c := k1c2) (by decide +kernel) rfl rfl rfl (by decide +kernel)
set_option maxRecDepth 65536 in
theorem w_c9 : (Jvm.Cond.code ({ cls := "io/heapwire/FrameOutputPutVarlongPinLaw", name := "at", desc := "([BIIIJB)Z" } : Jvm.MethodName) method_4_code (9 : Nat) (Option.some Jvm.ClassFile.FieldType.boolean)).before args0 about1 = true := code_word (m := ⟨1, 3⟩) (meth := k1m3) (c := k1c3) (by decide +kernel) rfl rfl rfl (by decide +kernel)
def codes1 : List Jvm.Cond := [Jvm.Cond.code x code maxLocals ret, Jvm.Cond.code ({ cls := "io/heapwire/FrameOutput", name := "<init>", desc := "()V" } : Jvm.MethodName) prog_30_method_1_code (1 : Nat) (Option.none : Option Jvm.ClassFile.FieldType), Jvm.Cond.code ({ cls := "java/lang/Object", name := "<init>", desc := "()V" } : Jvm.MethodName) object_method_1_code (1 : Nat) (Option.none : Option Jvm.ClassFile.FieldType), Jvm.Cond.code ({ cls := "io/heapwire/SpareRoom", name := "<init>", desc := "(I)V" } : Jvm.MethodName) prog_190_method_1_code (2 : Nat) (Option.none : Option Jvm.ClassFile.FieldType), Jvm.Cond.code ({ cls := "io/heapwire/IdleRoom", name := "<init>", desc := "(Ljava/util/function/UnaryOperator;)V" } : Jvm.MethodName) prog_42_method_1_code (2 : Nat) (Option.none : Option Jvm.ClassFile.FieldType), Jvm.Cond.code ({ cls := "java/util/concurrent/atomic/AtomicReference", name := "<init>", desc := "()V" } : Jvm.MethodName) jdk_2809_method_2_code (1 : Nat) (Option.none : Option Jvm.ClassFile.FieldType), Jvm.Cond.code ({ cls := "java/util/concurrent/atomic/AtomicBoolean", name := "<init>", desc := "()V" } : Jvm.MethodName) jdk_2802_method_2_code (1 : Nat) (Option.none : Option Jvm.ClassFile.FieldType), Jvm.Cond.code ({ cls := "io/heapwire/FrameOutput", name := "putVarlong", desc := "(J)V" } : Jvm.MethodName) prog_30_method_12_code (5 : Nat) (Option.none : Option Jvm.ClassFile.FieldType), Jvm.Cond.code ({ cls := "io/heapwire/FrameOutputPutVarlongPinLaw", name := "nz", desc := "(J)I" } : Jvm.MethodName) method_3_code (2 : Nat) (Option.some Jvm.ClassFile.FieldType.int), Jvm.Cond.code ({ cls := "io/heapwire/FrameOutputPutVarlongPinLaw", name := "at", desc := "([BIIIJB)Z" } : Jvm.MethodName) method_4_code (9 : Nat) (Option.some Jvm.ClassFile.FieldType.boolean)]
set_option maxRecDepth 65536 in
theorem codes_eq : words1.filter isCode = codes1 := rfl
theorem w_codes : ∀ c ∈ words1.filter isCode, c.before args0 about1 = true := by
  rw [codes_eq]
  intro c hc
  simp only [codes1, List.mem_cons, List.not_mem_nil, or_false] at hc
  rcases hc with rfl | rfl | rfl | rfl | rfl | rfl | rfl | rfl | rfl | rfl
  · exact w_c0
  · exact w_c1
  · exact w_c2
  · exact w_c3
  · exact w_c4
  · exact w_c5
  · exact w_c6
  · exact w_c7
  · exact w_c8
  · exact w_c9
set_option maxRecDepth 65536 in
theorem w_t1 : (words1.take 24).all (fun c => isCode c || c.before args0 about1) = true := by decide +kernel
set_option maxRecDepth 65536 in
theorem w_t2 : ((words1.drop 24).take 24).all (fun c => isCode c || c.before args0 about1) = true := by decide +kernel
set_option maxRecDepth 65536 in
theorem w_t3 : (((words1.drop 24).drop 24).take 24).all (fun c => isCode c || c.before args0 about1) = true := by decide +kernel
set_option maxRecDepth 65536 in
theorem w_t4 : (((words1.drop 24).drop 24).drop 24).all (fun c => isCode c || c.before args0 about1) = true := by decide +kernel
theorem w_tables : (allAtoms (Jvm.Cond.code x code maxLocals ret :: tables_1)).before args0 about1 = true := by
  rw [allAtoms_all]
  show words1.all (fun c => c.before args0 about1) = true
  refine all_split ?_ w_codes
  rw [← List.take_append_drop 24 words1, List.all_append, w_t1, ← List.take_append_drop 24 (words1.drop 24), List.all_append, w_t2, ← List.take_append_drop 24 ((words1.drop 24).drop 24), List.all_append, w_t3, w_t4]
  rfl
set_option maxRecDepth 65536 in
theorem w_case : (Jvm.Cond.and given_1 narrow_1).before args0 about1 = true := by decide +kernel
theorem w_applies : (headSpec (Jvm.Cond.code x code maxLocals ret :: tables_1) room_1).applies x e0.platform about1 = true :=
  (Spec.applies_iff w_frames).mpr ⟨w_running, w_runnable, w_alone, w_named, w_hears, w_ripe, w_room, w_tables⟩
theorem atStart : AtStart classFile x code maxLocals ret World_1 tables_1 room_1 Calls_1 rest_1 Pre_1 launch0 p0 e0 about1 theMethod args0 below0 :=
  ⟨lists_1, trivial, launch0.admits_env _ _ _, launch0.least_env, fairChoices_fair.cas, fairChoices_fair.clock, w_frames, w_args, w_heap, w_applies, trivial, trivial, w_case⟩
end start1
theorem witness_1 : WitnessClaimed_1 := ⟨start1.p0, start1.e0, start1.about1, start1.theMethod, start1.args0, start1.below0, start1.atStart⟩
end Jvm.Pilot.@@N@@
