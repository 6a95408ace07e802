import JvmDerived
import JvmDerived.Pilot.@@N@@Statement
import JvmDerived.Pilot.@@N@@Code
set_option linter.unusedVariables false
set_option linter.unusedSimpArgs false
namespace Jvm.RoadKit
open Sem ClassFile Op Lib Jvm.Stand Jvm.Free Jvm.LawKit
section New
variable {p : Program} {l : Launch} {e : Env} {R : Room} {s : State} {m : MethodId} {args : Array Value} {below : List Frame} {meth : Method} {c : Code} {T : State} {locs : List Loc} {cells slots : Nat}
theorem retI (X : Stand p l e R s m args below meth c T locs cells slots) (hx : p.tables.exec = Jvm.exec) {pc : Nat} {Ls : Array Slot} {z : Int32} {rest : List Value} (hret : meth.sig.returnType = some .int) (hd : decode c.code pc = .ok (.ireturn, 1)) {fs : List Frame}
    (hl : ∀ (f : JFrame) (acts : List Action), f.method = m → f.locked = none → f.entered = [] → (doReturn e (T.setTop f) acts (some (.int z))).1 = T.setFrames fs) : Steps p.tables e below (T.setTop (mkF m pc Ls (.int z :: rest))) (T.setFrames fs) := by
  have hm' : T.vm.method? m = some meth := X.method'
  have hn : narrow .int (.int z) = .int z := rfl
  show Steps p.tables e below (T.setTop { method := m, pc := pc, locals := Ls, stack := _ :: rest, locked := none }) _
  jvm_step X.here [X.here.top, hx, hd, hm', hret, hn]
  first | (intro acts; rw [hl _ acts rfl rfl rfl]) | rw [hl _ _ rfl rfl rfl]
  exact Steps.refl _
/-- a run from A that ends in an outcome with P -/
def Gl (tb : Tables) (e : Env) (below : List Frame) (P : Outcome → State → Prop) (A : State) : Prop := ∃ s₂ o, Steps tb e below A s₂ ∧ s₂.status = .running ∧ Ended s₂ below o ∧ P o s₂
theorem Gl.pre {tb : Tables} {e : Env} {below : List Frame} {P : Outcome → State → Prop} {A B : State} (h : ∀ t, Steps tb e below B t → Steps tb e below A t) (g : Gl tb e below P B) : Gl tb e below P A := by
  obtain ⟨s2, o, h1, r⟩ := g; exact ⟨s2, o, h _ h1, r⟩
theorem own_finI (X : Stand p l e R s m args below meth c T locs cells slots) (hx : p.tables.exec = Jvm.exec) (hlk : meth.locks = false) {pc : Nat} {Ls : Array Slot} {z : Int32} {rest : List Value} (hret : meth.sig.returnType = some .int) (hd : decode c.code pc = .ok (.ireturn, 1)) {Q : Option Value → Heap → List Loc → Prop} {C S : Nat}
    (hq : Q (some (.int z)) T.heap locs) (hc : cells ≤ C) (hs : slots ≤ S) : Gl p.tables e below (fun o U' => ∃ v L, o = .returned v ∧ Q v U'.heap L ∧ FrameEnd s o U' L C S) (T.setTop (mkF m pc Ls (.int z :: rest))) := by
  obtain ⟨fs, hr, hrun, hended, hW, hsame⟩ := X.leave (v := some (.int z)) (fun h => by rw [hret] at h; cases h) hlk
  exact ⟨_, _, retI X hx hret hd hr, hrun, hended, _, _, rfl, hq, ⟨_, rfl⟩, hW, hsame.mono hc hs⟩
theorem own_finN (X : Stand p l e R s m args below meth c T locs cells slots) (hx : p.tables.exec = Jvm.exec) (hlk : meth.locks = false) {pc : Nat} {Ls : Array Slot} {z z' : Int32} {rest : List Value} {t : FieldType} (hret : meth.sig.returnType = some t) (ht : t = .boolean ∨ t = .byte ∨ t = .char ∨ t = .short) (hz : nar t z = z') (hd : decode c.code pc = .ok (.ireturn, 1)) {Q : Option Value → Heap → List Loc → Prop} {C S : Nat}
    (hq : Q (some (.int z')) T.heap locs) (hc : cells ≤ C) (hs : slots ≤ S) : Gl p.tables e below (fun o U' => ∃ v L, o = .returned v ∧ Q v U'.heap L ∧ FrameEnd s o U' L C S) (T.setTop (mkF m pc Ls (.int z :: rest))) := by
  subst hz
  obtain ⟨fs, hr, hrun, hended, hW, hsame⟩ := X.leave (v := some (.int (nar t z))) (fun h => by rw [hret] at h; cases h) hlk
  exact ⟨_, _, retN X hx hret ht hd hr, hrun, hended, _, _, rfl, hq, ⟨_, rfl⟩, hW, hsame.mono hc hs⟩
theorem own_finV (X : Stand p l e R s m args below meth c T locs cells slots) (hx : p.tables.exec = Jvm.exec) (hlk : meth.locks = false) {pc : Nat} {Ls : Array Slot} (hret : meth.sig.returnType = none) (hd : decode c.code pc = .ok (.return_, 1)) {Q : Option Value → Heap → List Loc → Prop} {C S : Nat}
    (hq : Q none T.heap locs) (hc : cells ≤ C) (hs : slots ≤ S) : Gl p.tables e below (fun o U' => ∃ v L, o = .returned v ∧ Q v U'.heap L ∧ FrameEnd s o U' L C S) (T.setTop (mkF m pc Ls [])) := by
  obtain ⟨fs, hr, hrun, hended, hW, hsame⟩ := X.leave (v := none) (fun _ => rfl) hlk
  exact ⟨_, _, X.returnOut hx hret hd hr, hrun, hended, _, _, rfl, hq, ⟨_, rfl⟩, hW, hsame.mono hc hs⟩
theorem own_finA (X : Stand p l e R s m args below meth c T locs cells slots) (hx : p.tables.exec = Jvm.exec) (hlk : meth.locks = false) {pc : Nat} {Ls : Array Slot} {w : Value} {rest : List Value} {t : FieldType} (hret : meth.sig.returnType = some t) (hw : w.isRef = true) (ht : t.isReference = true) (hd : decode c.code pc = .ok (.areturn, 1)) {Q : Option Value → Heap → List Loc → Prop} {C S : Nat}
    (hq : Q (some w) T.heap locs) (hc : cells ≤ C) (hs : slots ≤ S) : Gl p.tables e below (fun o U' => ∃ v L, o = .returned v ∧ Q v U'.heap L ∧ FrameEnd s o U' L C S) (T.setTop (mkF m pc Ls (w :: rest))) := by
  obtain ⟨fs, hr, hrun, hended, hW, hsame⟩ := X.leave (v := some w) (fun h => by rw [hret] at h; cases h) hlk
  have hn : narrow t w = w := by rcases ref_cases hw with rfl | ⟨z, rfl⟩ <;> cases t <;> rfl
  exact ⟨_, _, retOut X hx hret hn (Or.inr (Or.inr (Or.inr (Or.inr ⟨rfl, ht, hw⟩)))) hd hr, hrun, hended, _, _, rfl, hq, ⟨_, rfl⟩, hW, hsame.mono hc hs⟩
/-- Java's >>> -/
def own_ushr (x y : Int32) : Int32 := (x.toUInt32 >>> (y &&& 31).toUInt32).toInt32
def own_ushrL (x : Int64) (y : Int32) : Int64 := (x.toUInt64 >>> (y &&& 0x3f).toInt64.toUInt64).toInt64
/-- 1 where P holds, else 0 -/
def own_pi (P : Prop) [Decidable P] : Int32 := if P then 1 else 0
theorem own_pi_t {P : Prop} [Decidable P] (h : P) : own_pi P = 1 := if_pos h
theorem own_pi_f {P : Prop} [Decidable P] (h : ¬ P) : own_pi P = 0 := if_neg h
theorem own_pi_nt {P : Prop} [Decidable P] (h : P) : own_pi (¬ P) = 0 := if_neg (fun q => q h)
theorem own_pi_nf {P : Prop} [Decidable P] (h : ¬ P) : own_pi (¬ P) = 1 := if_pos h
theorem own_pi0 {P : Prop} [Decidable P] : own_pi P = 0 ↔ ¬ P := by unfold own_pi; split <;> simp_all
theorem own_pi_eq {P Q : Prop} [Decidable P] [Decidable Q] (h : P ↔ Q) : own_pi P = own_pi Q := by unfold own_pi; simp [h]
theorem own_nar_pi {P : Prop} [i : Decidable P] : nar .boolean (@own_pi P i) = @own_pi P i := by unfold own_pi; split <;> decide
end New
/-- the array at a (of kind ty) holds the ints xs -/
def Bal (Z : State) (h : Heap) (a : Addr) (ty : FieldType) (xs : List Int32) : Prop := ∃ c : Cell, Arr Z h a c ty ∧ c.slots.size = xs.length ∧ ∀ i, i < xs.length → c.slots[i]? = some (.int (xs.getD i 0))
section Arrays
variable {Z : State} {h h' : Heap} {a b : Addr} {ty : FieldType} {xs : List Int32} {ws : List Addr}
theorem Bal.lt (F : Bal Z h a ty xs) : a < h.size := by obtain ⟨c, A, -⟩ := F; exact A.lt
theorem Bal.ext (F : Bal Z h a ty xs) (E : Ext h h') : Bal Z h' a ty xs := by obtain ⟨c, A, r⟩ := F; exact ⟨c, A.ext E, r⟩
theorem Bal.other {sl : Nat} {v : Value} (F : Bal Z h b ty xs) (W : Wr h h' a sl v) (q : b ≠ a) : Bal Z h' b ty xs := by obtain ⟨c, A, r⟩ := F; exact ⟨c, A.other W q, r⟩
theorem Bal.keep (F : Bal Z h a ty xs) (K : Keep h h' ws) (q : a ∉ ws) : Bal Z h' a ty xs := by obtain ⟨c, A, r⟩ := F; exact ⟨c, ⟨K.2.1 a c A.1 q, A.2⟩, r⟩
theorem Bal.new {k : ClassId} {z : Int32} {n : Nat} (A : Arr Z h a (newA k ty z) ty) (hz : z.toNatClampNeg = n) (hd : defaultValue ty = .int 0) : Bal Z h a ty (List.replicate n 0) := by
  subst hz
  refine ⟨_, A, by rw [sz_new, List.length_replicate], fun i hi => ?_⟩
  rw [List.length_replicate] at hi
  simp [newA, hd, hi, List.getD_eq_getElem?_getD]
theorem Bal.set {i : Nat} {v : Int32} (F : Bal Z h a ty xs) (W : Wr h h' a i (.int v)) (hi : i < xs.length) : Bal Z h' a ty (xs.set i v) := by
  obtain ⟨c, A, S, H⟩ := F
  refine ⟨_, A.same W, by rw [sz_set, S, List.length_set], fun k hk => ?_⟩
  rw [List.length_set] at hk
  show (c.slots.setIfInBounds i (.int v))[k]? = _
  rw [Array.getElem?_setIfInBounds, List.getD_eq_getElem?_getD, List.getElem?_set]
  by_cases q : i = k
  · subst q; simp [S, hk]
  · rw [if_neg q, if_neg q, ← List.getD_eq_getElem?_getD]; exact H k hk
theorem Bal.inb {c : Cell} {j : Int32} {i : Nat} (S : c.slots.size = xs.length) (h0 : ¬ j < 0) (hj : j.toNatClampNeg = i) (hi : i < xs.length) : ¬ (j < 0 ∨ c.slots.size ≤ j.toNatClampNeg) := by
  rintro (q | q)
  · exact h0 q
  · omega
variable {p : Program} {l : Launch} {e : Env} {R : Room} {s : State} {m : MethodId} {args : Array Value} {below : List Frame} {meth : Method} {c : Code} {T : State} {locs : List Loc} {cells slots : Nat}
theorem own_stB (X : Stand p l e R s m args below meth c T locs cells slots) (hx : p.tables.exec = Jvm.exec) (hZ : Z.Warmed39 s.vm) (eT : T.heap = h) (F : Bal Z h a .byte xs) {j x : Int32} {i : Nat} (h0 : ¬ j < 0) (hj : j.toNatClampNeg = i) (hi : i < xs.length) {g : JFrame} (hg : g.method = m) {rest : List Value} (hs : g.stack = .int x :: .int j :: .ref a :: rest) (hd : decode c.code g.pc = .ok (.bastore, 1)) :
    ∃ T' h', Stand p l e R s m args below meth c T' (locs ++ [⟨a, i⟩]) cells slots ∧ T'.heap = h' ∧ Wr h h' a i (.int (nar .byte x)) ∧ Bal Z h' a .byte (xs.set i (nar .byte x)) ∧ ∀ target, Steps p.tables e below (T'.setTop { g with pc := g.pc + 1, stack := rest }) target → Steps p.tables e below (T.setTop g) target := by
  have F' := F
  obtain ⟨cl, A, S, H⟩ := F
  obtain ⟨T', h', X', e', W, st⟩ := stB X hx hZ eT A (j := j) (Bal.inb S h0 hj hi) hg hs hd
  subst hj
  exact ⟨T', h', X', e', W, F'.set W hi, st⟩
theorem own_stC (X : Stand p l e R s m args below meth c T locs cells slots) (hx : p.tables.exec = Jvm.exec) (hZ : Z.Warmed39 s.vm) (eT : T.heap = h) (F : Bal Z h a .char xs) {j x : Int32} {i : Nat} (h0 : ¬ j < 0) (hj : j.toNatClampNeg = i) (hi : i < xs.length) {g : JFrame} (hg : g.method = m) {rest : List Value} (hs : g.stack = .int x :: .int j :: .ref a :: rest) (hd : decode c.code g.pc = .ok (.castore, 1)) :
    ∃ T' h', Stand p l e R s m args below meth c T' (locs ++ [⟨a, i⟩]) cells slots ∧ T'.heap = h' ∧ Wr h h' a i (.int (nar .char x)) ∧ Bal Z h' a .char (xs.set i (nar .char x)) ∧ ∀ target, Steps p.tables e below (T'.setTop { g with pc := g.pc + 1, stack := rest }) target → Steps p.tables e below (T.setTop g) target := by
  have F' := F
  obtain ⟨cl, A, S, H⟩ := F
  obtain ⟨T', h', X', e', W, st⟩ := stC X hx hZ eT A (j := j) (Bal.inb S h0 hj hi) hg hs hd
  subst hj
  exact ⟨T', h', X', e', W, F'.set W hi, st⟩
theorem own_ldB (X : Stand p l e R s m args below meth c T locs cells slots) (hx : p.tables.exec = Jvm.exec) (hZ : Z.Warmed39 s.vm) (eT : T.heap = h) (F : Bal Z h a .byte xs) {j : Int32} {i : Nat} (h0 : ¬ j < 0) (hj : j.toNatClampNeg = i) (hi : i < xs.length) {v : Int32} (hv : xs.getD i 0 = v) {g : JFrame} (hg : g.method = m) {rest : List Value} (hs : g.stack = .int j :: .ref a :: rest) (hd : decode c.code g.pc = .ok (.baload, 1)) (target : State)
    (k : Steps p.tables e below (T.setTop { g with pc := g.pc + 1, stack := .int v :: rest }) target) : Steps p.tables e below (T.setTop g) target := by
  obtain ⟨cl, A, S, H⟩ := F
  subst hv
  exact X.baloadBytes hx (j := j) (v := .int (xs.getD i 0)) (by rw [eT]; exact A.1) (State.isArrayOf_alike hZ.alike A.2.1) A.2.2 (Bal.inb S h0 hj hi) (by rw [hj]; exact H i hi) hg hs hd _ k
theorem own_ldC (X : Stand p l e R s m args below meth c T locs cells slots) (hx : p.tables.exec = Jvm.exec) (hZ : Z.Warmed39 s.vm) (eT : T.heap = h) (F : Bal Z h a .char xs) {j : Int32} {i : Nat} (h0 : ¬ j < 0) (hj : j.toNatClampNeg = i) (hi : i < xs.length) {v : Int32} (hv : xs.getD i 0 = v) {g : JFrame} (hg : g.method = m) {rest : List Value} (hs : g.stack = .int j :: .ref a :: rest) (hd : decode c.code g.pc = .ok (.caload, 1)) (target : State)
    (k : Steps p.tables e below (T.setTop { g with pc := g.pc + 1, stack := .int v :: rest }) target) : Steps p.tables e below (T.setTop g) target := by
  obtain ⟨cl, A, S, H⟩ := F
  subst hv
  exact X.caload hx (j := j) (v := .int (xs.getD i 0)) (by rw [eT]; exact A.1) (State.isArrayOf_alike hZ.alike A.2.1) A.2.2 (Bal.inb S h0 hj hi) (by rw [hj]; exact H i hi) hg hs hd _ k
theorem own_len (X : Stand p l e R s m args below meth c T locs cells slots) (hx : p.tables.exec = Jvm.exec) (hZ : Z.Warmed39 s.vm) (eT : T.heap = h) (F : Bal Z h a ty xs) {v : Int32} (hv : xs.length.toInt32 = v) {g : JFrame} (hg : g.method = m) {rest : List Value} (hs : g.stack = .ref a :: rest) (hd : decode c.code g.pc = .ok (.arraylength, 1)) (target : State)
    (k : Steps p.tables e below (T.setTop { g with pc := g.pc + 1, stack := .int v :: rest }) target) : Steps p.tables e below (T.setTop g) target := by
  obtain ⟨cl, A, S, H⟩ := F
  subst hv
  refine X.arraylength hx (by rw [eT]; exact A.1) (State.isArrayOf_alike hZ.alike A.2.1) hg hs hd _ ?_
  rw [S]; exact k
theorem own_balOf {k : ClassId} {z : Int32} (F : Arv Z h a k .byte z (xs.map Value.int) (.int 0)) (hz : z.toNatClampNeg = xs.length) : Bal Z h a .byte xs := by
  obtain ⟨c, A, -, S, -, H, -⟩ := F
  refine ⟨c, A, by rw [S, hz], fun i hi => ?_⟩
  have q := H i (by rw [S, hz]; exact hi)
  rw [q]
  simp [List.getD_eq_getElem?_getD, List.getElem?_map, List.getElem?_eq_getElem hi]
theorem own_arvC (F : Bal Z h a .char xs) (hf : ∀ x ∈ xs, fits .char (.int x) = true) (hl : xs.length < 2 ^ 31) : ∃ k, Arv Z h a k .char (Int32.ofNat xs.length) (xs.map Value.int) (.int 0) := by
  obtain ⟨c, A, S, H⟩ := F
  have hi : (Int32.ofNat xs.length).toInt = xs.length := Int32.toInt_ofNat_of_lt hl
  refine ⟨c.cls, c, A, rfl, ?_, ?_, ?_, ?_⟩
  · rw [S, Int32.toNatClampNeg, hi]; rfl
  · rw [Int32.lt_iff_toInt_lt, hi, show (0 : Int32).toInt = 0 from rfl]; omega
  · intro i hi'
    rw [S] at hi'
    rw [H i hi']
    simp [List.getD_eq_getElem?_getD, List.getElem?_map, List.getElem?_eq_getElem hi']
  · intro i hi'
    rw [S] at hi'
    have : (xs.map Value.int).getD i (.int 0) = .int xs[i] := by simp [List.getD_eq_getElem?_getD, List.getElem?_map, List.getElem?_eq_getElem hi']
    rw [this]; exact hf _ (List.getElem_mem hi')
theorem own_piN {P : Prop} [Decidable P] : (¬ own_pi P = 0) ↔ P := by unfold own_pi; split <;> simp_all
end Arrays
section Wide
variable {p : Program} {l : Launch} {e : Env} {R : Room} {s Z : State} {EL : List (String × Nat)} {vm0 : Vm} {k0 : Nat} {m : MethodId} {args : Array Value} {below : List Frame} {meth : Method} {c : Code} {T : State} {locs : List Loc} {cells slots : Nat}
theorem own_monoW {t : State} {o : Outcome} {L : List Loc} {k n k' n' : Nat} (h : ReturnedEndW s o t L k n) (hk : k ≤ k') (hn : n ≤ n') : ReturnedEndW s o t L k' n' := ⟨h.1, h.2.1, h.2.2.1, h.2.2.2.mono hk hn⟩
theorem own_finIW (X : Stand p l e R (s.setVm vm0) m args below meth c T locs cells slots) (hx : p.tables.exec = Jvm.exec) (hlk : meth.locks = false) (hS : s.Since vm0 k0) (hk : k0 ≤ T.heap.size) {pc : Nat} {Ls : Array Slot} {z : Int32} {rest : List Value} (hret : meth.sig.returnType = some .int) (hd : decode c.code pc = .ok (.ireturn, 1)) {Q : Option Value → Heap → List Loc → Prop} {C S : Nat}
    (hq : Q (some (.int z)) T.heap locs) (hC : CHr Z EL s.vm s.heap T.vm T.heap) (hc : cells ≤ C) (hs : slots ≤ S) : Gl p.tables e below (fun o U' => ∃ v L, o = .returned v ∧ Q v U'.heap L ∧ CHr Z EL s.vm s.heap U'.vm U'.heap ∧ ReturnedEndW s o U' L C S) (T.setTop (mkF m pc Ls (.int z :: rest))) := by
  obtain ⟨fs, hr, hrun, hended, hW⟩ := X.leaveW hS hk (v := some (.int z)) (fun h => by rw [hret] at h; cases h) hlk
  exact ⟨_, _, retI X hx hret hd hr, hrun, hended, _, _, rfl, hq, hC, own_monoW hW hc hs⟩
theorem own_finNW (X : Stand p l e R (s.setVm vm0) m args below meth c T locs cells slots) (hx : p.tables.exec = Jvm.exec) (hlk : meth.locks = false) (hS : s.Since vm0 k0) (hk : k0 ≤ T.heap.size) {pc : Nat} {Ls : Array Slot} {z z' : Int32} {rest : List Value} {t : FieldType} (hret : meth.sig.returnType = some t) (ht : t = .boolean ∨ t = .byte ∨ t = .char ∨ t = .short) (hz : nar t z = z') (hd : decode c.code pc = .ok (.ireturn, 1)) {Q : Option Value → Heap → List Loc → Prop} {C S : Nat}
    (hq : Q (some (.int z')) T.heap locs) (hC : CHr Z EL s.vm s.heap T.vm T.heap) (hc : cells ≤ C) (hs : slots ≤ S) : Gl p.tables e below (fun o U' => ∃ v L, o = .returned v ∧ Q v U'.heap L ∧ CHr Z EL s.vm s.heap U'.vm U'.heap ∧ ReturnedEndW s o U' L C S) (T.setTop (mkF m pc Ls (.int z :: rest))) := by
  subst hz
  obtain ⟨fs, hr, hrun, hended, hW⟩ := X.leaveW hS hk (v := some (.int (nar t z))) (fun h => by rw [hret] at h; cases h) hlk
  exact ⟨_, _, retN X hx hret ht hd hr, hrun, hended, _, _, rfl, hq, hC, own_monoW hW hc hs⟩
theorem own_finVW (X : Stand p l e R (s.setVm vm0) m args below meth c T locs cells slots) (hx : p.tables.exec = Jvm.exec) (hlk : meth.locks = false) (hS : s.Since vm0 k0) (hk : k0 ≤ T.heap.size) {pc : Nat} {Ls : Array Slot} (hret : meth.sig.returnType = none) (hd : decode c.code pc = .ok (.return_, 1)) {Q : Option Value → Heap → List Loc → Prop} {C S : Nat}
    (hq : Q none T.heap locs) (hC : CHr Z EL s.vm s.heap T.vm T.heap) (hc : cells ≤ C) (hs : slots ≤ S) : Gl p.tables e below (fun o U' => ∃ v L, o = .returned v ∧ Q v U'.heap L ∧ CHr Z EL s.vm s.heap U'.vm U'.heap ∧ ReturnedEndW s o U' L C S) (T.setTop (mkF m pc Ls [])) := by
  obtain ⟨fs, hr, hrun, hended, hW⟩ := X.leaveW hS hk (v := none) (fun _ => rfl) hlk
  exact ⟨_, _, X.returnOut hx hret hd hr, hrun, hended, _, _, rfl, hq, hC, own_monoW hW hc hs⟩
theorem own_finAW (X : Stand p l e R (s.setVm vm0) m args below meth c T locs cells slots) (hx : p.tables.exec = Jvm.exec) (hlk : meth.locks = false) (hS : s.Since vm0 k0) (hk : k0 ≤ T.heap.size) {pc : Nat} {Ls : Array Slot} {w : Value} {rest : List Value} {t : FieldType} (hret : meth.sig.returnType = some t) (hw : w.isRef = true) (ht : t.isReference = true) (hd : decode c.code pc = .ok (.areturn, 1)) {Q : Option Value → Heap → List Loc → Prop} {C S : Nat}
    (hq : Q (some w) T.heap locs) (hC : CHr Z EL s.vm s.heap T.vm T.heap) (hc : cells ≤ C) (hs : slots ≤ S) : Gl p.tables e below (fun o U' => ∃ v L, o = .returned v ∧ Q v U'.heap L ∧ CHr Z EL s.vm s.heap U'.vm U'.heap ∧ ReturnedEndW s o U' L C S) (T.setTop (mkF m pc Ls (w :: rest))) := by
  obtain ⟨fs, hr, hrun, hended, hW⟩ := X.leaveW hS hk (v := some w) (fun h => by rw [hret] at h; cases h) hlk
  have hn : narrow t w = w := by rcases ref_cases hw with rfl | ⟨z, rfl⟩ <;> cases t <;> rfl
  exact ⟨_, _, retOut X hx hret hn (Or.inr (Or.inr (Or.inr (Or.inr ⟨rfl, ht, hw⟩)))) hd hr, hrun, hended, _, _, rfl, hq, hC, own_monoW hW hc hs⟩
/-- a callee that keeps the constants' invariant; SL: objects that it may write, none of them a constant's -/
theorem own_backH {a0 : Array Value} {h : Heap} {y : MethodName} {bytes : ByteArray} {maxL : Nat} {ret : Option FieldType} {rm : Room} {len W : Nat} {as' : Array Value} {Q : Option Value → Heap → List Loc → Prop} {SL : List Addr}
    (hM : MetFree l y (head1 [Cond.code y bytes maxL ret] rm) (fun a U => a = as' ∧ Z.Warmed39 U.vm ∧ U.heap = h ∧ CHv Z EL U.vm h ∧ ∀ x ∈ SL, Safe Z EL U.vm h x) (fun _ _ _ _ _ => True) (fun _ U o U' => ∃ v L, o = .returned v ∧ Q v U'.heap L ∧ CHr Z EL U.vm U.heap U'.vm U'.heap ∧ ReturnedEndW U o U' L rm.cells rm.slots))
    (hZ : Z.Warmed39 vm0) (wc : (Cond.code y bytes maxL ret).before a0 Z = true) (wz : (Cond.initialized y.cls).before a0 Z = true) (hf : rm.frames + 1 ≤ R.frames) (hl : W + (maxL + 11) + rm.locals ≤ R.locals) (hEL : EW Z a0 EL) (H : CHv Z EL vm0 h) (hSL : ∀ x ∈ SL, x < h.size ∧ Safe Z EL vm0 h x) :
    BackS l R p e below (s.setVm vm0) args y len W (fun A a => a = as' ∧ A.U.heap = h ∧ A.cells + rm.cells ≤ R.cells ∧ A.slots + rm.slots ≤ R.slots)
      (fun A _ v B => ∃ L, Q v B.U.heap L ∧ B.locs = A.locs ++ L ∧ B.cells = A.cells + rm.cells ∧ B.slots = A.slots + rm.slots ∧ CHr Z EL vm0 h B.U.vm B.U.heap) := by
  refine BackS.of_freeW (bytes := bytes) (maxL := maxL) (ret := ret) (E := fun _ first o t L k n => k = rm.cells ∧ n = rm.slots ∧ (∃ v, o = .returned v ∧ Q v t.heap L) ∧ CHr Z EL first.vm first.heap t.vm t.heap) hM hf hl ?_ ?_ (fun _ _ _ _ _ _ _ _ _ => trivial) (fun _ _ _ _ ⟨v, L, h1, h2, h3, h4⟩ => ⟨L, _, _, h4, rfl, rfl, ⟨v, h1, h2⟩, h3⟩) ?_
  · intro m meth c A a Y hp
    have hU : Z.Warmed39 A.U.vm := wtrans (s := s.setVm vm0) hZ Y.warmed
    refine ⟨?_, mv hU wc, mv hU wz, hp.2.2.1, hp.2.2.2⟩
    show (Cond.and _ .tt).before a A.U = true
    rw [Cond.before_and, mv hU wc]; rfl
  · intro m meth c A a g mk Y hp
    have q := CHv.at Y hZ hEL H
    exact ⟨hp.1, wtrans (s := s.setVm vm0) hZ Y.warmed, hp.2.1, q.1, fun x hx => q.safe (hSL x hx).1 (hSL x hx).2⟩
  · rintro m meth c A a g mk v t L k n Y hp _ _ ⟨e1, e2, ⟨v', e3, e4⟩, e5⟩
    cases e3; subst e1 e2
    refine ⟨L, e4, rfl, rfl, rfl, (CHv.at Y hZ hEL H).trans ?_⟩
    rw [← hp.2.1]; exact e5
end Wide
theorem own_fits_pi {P : Prop} [i : Decidable P] : fits .boolean (.int (@own_pi P i)) = true := by unfold own_pi; split <;> rfl
/-- the array at a, of the class k over C, holds the values vs -/
def Ral (Z : State) (h : Heap) (a : Addr) (k : ClassId) (C : String) (vs : List Value) : Prop := ∃ c : Cell, Arr Z h a c (.object C) ∧ c.cls = k ∧ c.slots.size = vs.length ∧ ∀ i, i < vs.length → c.slots[i]? = some (vs.getD i .null)
section Refs
variable {Z : State} {h h' : Heap} {a b : Addr} {k : ClassId} {C : String} {vs : List Value} {ws : List Addr}
theorem Ral.lt (F : Ral Z h a k C vs) : a < h.size := by obtain ⟨c, A, -⟩ := F; exact A.lt
theorem Ral.ext (F : Ral Z h a k C vs) (E : Ext h h') : Ral Z h' a k C vs := by obtain ⟨c, A, r⟩ := F; exact ⟨c, A.ext E, r⟩
theorem Ral.other {sl : Nat} {v : Value} (F : Ral Z h b k C vs) (W : Wr h h' a sl v) (q : b ≠ a) : Ral Z h' b k C vs := by obtain ⟨c, A, r⟩ := F; exact ⟨c, A.other W q, r⟩
theorem Ral.keep (F : Ral Z h a k C vs) (K : Keep h h' ws) (q : a ∉ ws) : Ral Z h' a k C vs := by obtain ⟨c, A, r⟩ := F; exact ⟨c, ⟨K.2.1 a c A.1 q, A.2⟩, r⟩
theorem Ral.new {z : Int32} {n : Nat} (A : Arr Z h a (newA k (.object C) z) (.object C)) (hz : z.toNatClampNeg = n) : Ral Z h a k C (List.replicate n .null) := by
  subst hz
  refine ⟨_, A, rfl, by rw [sz_new, List.length_replicate], fun i hi => ?_⟩
  rw [List.length_replicate] at hi
  simp [newA, defaultValue, hi, List.getD_eq_getElem?_getD]
theorem Ral.set {i : Nat} {v : Value} (F : Ral Z h a k C vs) (W : Wr h h' a i v) (hi : i < vs.length) : Ral Z h' a k C (vs.set i v) := by
  obtain ⟨c, A, q0, S, H⟩ := F
  refine ⟨_, A.same W, q0, by rw [sz_set, S, List.length_set], fun k hk => ?_⟩
  rw [List.length_set] at hk
  show (c.slots.setIfInBounds i v)[k]? = _
  rw [Array.getElem?_setIfInBounds, List.getD_eq_getElem?_getD, List.getElem?_set]
  by_cases q : i = k
  · subst q; simp [S, hk]
  · rw [if_neg q, if_neg q, ← List.getD_eq_getElem?_getD]; exact H k hk
variable {p : Program} {l : Launch} {e : Env} {R : Room} {s : State} {m : MethodId} {args : Array Value} {below : List Frame} {meth : Method} {c : Code} {T : State} {locs : List Loc} {cells slots : Nat}
theorem own_stR (X : Stand p l e R s m args below meth c T locs cells slots) (hx : p.tables.exec = Jvm.exec) (hZ : Z.Warmed39 s.vm) (eT : T.heap = h) (F : Ral Z h a k C vs) (O : Ovr Z k C) {y : Addr} (I : Ins Z h y C true) {j : Int32} {i : Nat} (h0 : ¬ j < 0) (hj : j.toNatClampNeg = i) (hi : i < vs.length) {g : JFrame} (hg : g.method = m) {rest : List Value} (hs : g.stack = .ref y :: .int j :: .ref a :: rest) (hd : decode c.code g.pc = .ok (.aastore, 1)) :
    ∃ T' h', Stand p l e R s m args below meth c T' (locs ++ [⟨a, i⟩]) cells slots ∧ T'.heap = h' ∧ Wr h h' a i (.ref y) ∧ Ral Z h' a k C (vs.set i (.ref y)) ∧ ∀ target, Steps p.tables e below (T'.setTop { g with pc := g.pc + 1, stack := rest }) target → Steps p.tables e below (T.setTop g) target := by
  have F' := F
  obtain ⟨cl, A, q0, S, H⟩ := F
  have hin : ¬ (j < 0 ∨ cl.slots.size ≤ j.toNatClampNeg) := by
    rintro (q | q)
    · exact h0 q
    · omega
  subst q0
  obtain ⟨T', h', X', e', W, st⟩ := stR X hx hZ eT A (j := j) hin rfl (Sto.of A O I) hg hs hd
  subst hj
  exact ⟨T', h', X', e', W, F'.set W hi, st⟩
theorem own_ldR (X : Stand p l e R s m args below meth c T locs cells slots) (hx : p.tables.exec = Jvm.exec) (hZ : Z.Warmed39 s.vm) (eT : T.heap = h) (F : Ral Z h a k C vs) {j : Int32} {i : Nat} (h0 : ¬ j < 0) (hj : j.toNatClampNeg = i) (hi : i < vs.length) {v : Value} (hv : vs.getD i .null = v) {g : JFrame} (hg : g.method = m) {rest : List Value} (hs : g.stack = .int j :: .ref a :: rest) (hd : decode c.code g.pc = .ok (.aaload, 1)) (target : State)
    (kk : Steps p.tables e below (T.setTop { g with pc := g.pc + 1, stack := v :: rest }) target) : Steps p.tables e below (T.setTop g) target := by
  obtain ⟨cl, A, q0, S, H⟩ := F
  have hin : ¬ (j < 0 ∨ cl.slots.size ≤ j.toNatClampNeg) := by
    rintro (q | q)
    · exact h0 q
    · omega
  subst hv
  exact X.aaload hx (j := j) (v := vs.getD i .null) (by rw [eT]; exact A.1) (State.isArrayOf_alike hZ.alike A.2.1) rfl A.2.2 hin (by rw [hj]; exact H i hi) hg hs hd _ kk
end Refs
section Starts
variable {s : State} {args : Array Value} {t : Term} {a : Addr} {C n d : String}
theorem own_fldI {z : Int32} (ev : t.eval args s none [] s = some (.ref a)) (h : (Cond.eq (Term.field t C n d) (Term.int z)).value args s none s [] = some true) : Fld s s.heap a C n d (.int z) := by
  refine Fld.start ?_
  rw [← fld_at (args := args) (first := s) (o := none) (idx := []) ev]
  cases hf : (Term.field t C n d).eval args s none [] s with
  | none => simp [Cond.value, hf] at h
  | some x =>
    have hz : (Term.int z).eval args s none [] s = some (.int z) := rfl
    cases x <;> simp [Cond.value, hf, hz] at h
    rw [h]
theorem own_fldN (ev : t.eval args s none [] s = some (.ref a)) (h : (Cond.eq (Term.field t C n d) Term.null).value args s none s [] = some true) : Fld s s.heap a C n d .null := by
  refine Fld.start ?_
  rw [← fld_at (args := args) (first := s) (o := none) (idx := []) ev]
  exact null_v h
theorem own_fldE {K : String} (ev : t.eval args s none [] s = some (.ref a)) (h : (Cond.exactly (Term.field t C n d) K).value args s none s [] = some true) : ∃ y, Fld s s.heap a C n d (.ref y) := by
  obtain ⟨y, hy⟩ := exa_v h
  refine ⟨y, Fld.start ?_⟩
  rw [← fld_at (args := args) (first := s) (o := none) (idx := []) ev]
  exact hy
theorem own_fldS {u : Term} {b : Addr} (ev : t.eval args s none [] s = some (.ref a)) (eu : u.eval args s none [] s = some (.ref b)) (h : (Cond.eq (Term.field t C n d) u).value args s none s [] = some true) : Fld s s.heap a C n d (.ref b) := by
  refine Fld.start ?_
  rw [← fld_at (args := args) (first := s) (o := none) (idx := []) ev]
  cases hf : (Term.field t C n d).eval args s none [] s with
  | none => simp [Cond.value, hf] at h
  | some x =>
    cases x <;> simp [Cond.value, hf, eu] at h
    rw [h]
theorem own_statI {t : Term} {z : Int32} (h : (Cond.eq t (Term.int z)).value args s none s [] = some true) : t.eval args s none [] s = some (.int z) := by
  cases hf : t.eval args s none [] s with
  | none => simp [Cond.value, hf] at h
  | some x =>
    have hz : (Term.int z).eval args s none [] s = some (.int z) := rfl
    cases x <;> simp [Cond.value, hf, hz] at h
    rw [h]
theorem own_empty {cl : Cell} {ty : FieldType} (ev : t.eval args s none [] s = some (.ref a)) (A : Arr s s.heap a cl ty) (h : (Cond.eq (Term.length t) (Term.int 0)).value args s none s [] = some true) : Bal s s.heap a ty [] := by
  have ha : s.arrayAt? a = some cl := A.fin (Vm.Alike.refl _)
  have hsz : cl.slots.size = 0 := by
    by_cases hl : cl.slots.size < 2 ^ 31
    · have hv := len_f (args := args) (first := s) (o := none) (idx := []) ev ha hl
      have hz : (Term.int 0).eval args s none [] s = some (.int 0) := rfl
      simp only [Cond.value, hv, hz] at h
      have q := len_toInt hl
      have q2 : cl.slots.size.toInt32 = 0 := by simpa using h
      rw [q2] at q
      have : (0 : Int32).toInt = 0 := rfl
      omega
    · exfalso
      cases hf : (Term.length t).eval args s none [] s with
      | none => simp [Cond.value, hf] at h
      | some x => simp [Term.eval, ev, ha, hl] at hf
  exact ⟨cl, A, hsz, fun i hi => absurd hi (Nat.not_lt_zero i)⟩
end Starts
end Jvm.RoadKit
namespace Jvm.Pilot.@@N@@
open Jvm Jvm.ClassFile Sem Op Lib Jvm.Free Jvm.Stand Jvm.LawKit Jvm.RoadKit Bundle Jvm.Pilot.@@N@@.Jvm.D
theorem own_pi01 {P : Prop} [Decidable P] : own_pi P = 0 ∨ own_pi P = 1 := by unfold own_pi; split <;> simp
theorem pd_0 : parseMethodDescriptor "()V" = some ⟨[], none⟩ := by decide +kernel
theorem pd_1 : parseMethodDescriptor "()Ljava/util/Map;" = some ⟨[], some (.object "java/util/Map")⟩ := by decide +kernel
theorem pd_2 : parseMethodDescriptor "(I)I" = some ⟨[.int], some .int⟩ := by decide +kernel
theorem pd_3 : parseMethodDescriptor "(I)V" = some ⟨[.int], none⟩ := by decide +kernel
theorem pd_4 : parseMethodDescriptor "(Ljava/util/HashMap;)V" = some ⟨[(.object "java/util/HashMap")], none⟩ := by decide +kernel
theorem pd_5 : parseMethodDescriptor "()Ljava/util/Set;" = some ⟨[], some (.object "java/util/Set")⟩ := by decide +kernel
theorem pd_6 : parseMethodDescriptor "()Ljava/util/Iterator;" = some ⟨[], some (.object "java/util/Iterator")⟩ := by decide +kernel
theorem pd_7 : parseMethodDescriptor "()Z" = some ⟨[], some .boolean⟩ := by decide +kernel
theorem pd_8 : parseMethodDescriptor "(II)I" = some ⟨[.int, .int], some .int⟩ := by decide +kernel
theorem pd_9 : parseMethodDescriptor "(Ljava/util/Collection;)Z" = some ⟨[(.object "java/util/Collection")], some .boolean⟩ := by decide +kernel
theorem pd_10 : parseMethodDescriptor "(Ljava/util/BitSet;)V" = some ⟨[(.object "java/util/BitSet")], none⟩ := by decide +kernel
theorem pd_11 : parseMethodDescriptor "(Lcom/example/rules_for_records/rulesforrecords/Evaluated;)V" = some ⟨[(.object "com/example/rules_for_records/rulesforrecords/Evaluated")], none⟩ := by decide +kernel
theorem pd_12 : parseMethodDescriptor "(ZZ)V" = some ⟨[.boolean, .boolean], none⟩ := by decide +kernel
theorem pd_13 : parseMethodDescriptor "()Lcom/example/rules_for_records/rulesforrecords/Evaluated;" = some ⟨[], some (.object "com/example/rules_for_records/rulesforrecords/Evaluated")⟩ := by decide +kernel
theorem d5_0 : decode jdk_22_method_1_code 0 = .ok (.aload_n 0, 1) := by decide +kernel
theorem d5_1 : decode jdk_22_method_1_code 1 = .ok (.invokespecial 1, 3) := by decide +kernel
theorem d5_4 : decode jdk_22_method_1_code 4 = .ok (.return_, 1) := by decide +kernel
theorem pn_5 : plainName "java/util/AbstractCollection" = true := by first | (simp [plainName, overriddenIn]; done) | decide +kernel
theorem ef_5 (m : MethodId) (a1 : Addr) : entryFrame m #[(.ref a1)] 1 = mkF m 0 #[.val (.ref a1)] [] := by first | (simp [entryFrame, mkF, argsToLocals, Value.category]; done) | rfl
def Q5 (Z : State) (a1 : Addr) (h0 : Heap) (n0 : Nat) (v : Option Value) (h : Heap) (L : List Loc) : Prop := v = none ∧ Fr n0 L ∧ h = h0
set_option maxRecDepth 65536 in
set_option maxHeartbeats 40000000 in
theorem rm5 (l : Launch) (Z : State) (a0 : Array Value) (hw : ∀ d ∈ tables_1, d.before a0 Z = true) (ws : List Jvm.Cond) (a1 : Addr) (h0 : Heap) (n0 : Nat) (Z0 : n0 ≤ h0.size)  :
    MetFree l (⟨"java/util/AbstractCollection", "<init>", "()V"⟩ : MethodName) (head1 (Jvm.Cond.code (⟨"java/util/AbstractCollection", "<init>", "()V"⟩ : MethodName) jdk_22_method_1_code 1 none :: ws) ({ frames := 1, cells := 0, slots := 0, locals := 12 } : Room)) (fun a U => a = #[(.ref a1)] ∧ Z.Warmed39 U.vm ∧ U.heap = h0) (fun _ _ _ _ _ => True) (fun _ U o U' => ∃ v L, o = .returned v ∧ Q5 Z a1 h0 n0 v U'.heap L ∧ FrameEnd U o U' L ({ frames := 1, cells := 0, slots := 0, locals := 12 } : Room).cells ({ frames := 1, cells := 0, slots := 0, locals := 12 } : Room).slots) := by
  refine MetFree.of_bodySF (plainFor_of_name pn_5) hisR ?_
  intro p e s m args below meth c s₁ Bd hml0 hP hK
  obtain ⟨rfl, hZ, hh⟩ := hP
  have hx := Bd.exec
  have hby := Bd.bytes
  have hlk : meth.locks = false := BodyLoose.notSynchronized Bd
  have hml : c.maxLocals = 1 := hml0
  have hown : s.vm.findClass "java/util/AbstractCollection" = some m.cls := findClass_of_methodNamed Bd.named
  have hnm := (name_of_methodNamed Bd.named Bd.method).1
  have X0 : Stand p l e ({ frames := 1, cells := 0, slots := 0, locals := 12 } : Room) s m #[(.ref a1)] below meth c s₁ [] 0 0 := Stand.of_body Bd
  have e0 : s₁.heap = h0 := by rw [← hh, Bd.state]; rfl
  have N0 := Fr.nil n0
  show Gl p.tables e below (fun (o : Outcome) (U' : State) => ∃ v L, o = .returned v ∧ Q5 Z a1 h0 n0 v U'.heap L ∧ FrameEnd s o U' L ({ frames := 1, cells := 0, slots := 0, locals := 12 } : Room).cells ({ frames := 1, cells := 0, slots := 0, locals := 12 } : Room).slots) _
  refine Gl.pre (fun t k => castTop (ef_5 m a1) k) ?_
  obtain ⟨PP, hPP⟩ : ∃ P : Outcome → State → Prop, P = (fun (o : Outcome) (U' : State) => ∃ v L, o = .returned v ∧ Q5 Z a1 h0 n0 v U'.heap L ∧ FrameEnd s o U' L ({ frames := 1, cells := 0, slots := 0, locals := 12 } : Room).cells ({ frames := 1, cells := 0, slots := 0, locals := 12 } : Room).slots) := ⟨_, rfl⟩
  rw [← hPP]
  show Gl p.tables e below PP (s₁.setTop (mkF m 0 #[.val (.ref a1)] []))
  refine Gl.pre (fun _ k => XS.aloadN X0.here hx rfl (hb hby d5_0) rfl rfl k) ?_
  show Gl p.tables e below PP (s₁.setTop (mkF m 1 #[.val (.ref a1)] [(.ref a1)]))
  obtain ⟨T1, X1, e1, st1⟩ := initO X0 hx hZ hown (hw _ (List.mem_of_getElem? (i := 27) rfl)) (hw _ (List.mem_of_getElem? (i := 7) rfl)) (hw _ (List.mem_of_getElem? (i := 8) rfl)) e0 (g := (mkF m 1 #[.val (.ref a1)] [(.ref a1)])) rfl (by rw [hml]; rfl) rfl (hb hby d5_1) (by decide) (W := 0) (by show 2 * 0 + _ ≤ _; exact Nat.le_of_eq rfl) (by decide)
  refine Gl.pre (fun _ k => st1 _ k) ?_
  show Gl p.tables e below PP (T1.setTop (mkF m 4 #[.val (.ref a1)] []))
  rw [hPP]
  refine own_finV (Q := (Q5 Z a1 h0 n0)) X1 hx hlk Bd.returns (hb hby d5_4) ?_ (by decide) (by decide)
  show Q5 Z a1 h0 n0 _ T1.heap _
  rw [e1]
  exact ⟨rfl, N0, rfl⟩
theorem d9_0 : decode jdk_71_method_1_code 0 = .ok (.aload_n 0, 1) := by decide +kernel
theorem d9_1 : decode jdk_71_method_1_code 1 = .ok (.invokespecial 1, 3) := by decide +kernel
theorem d9_4 : decode jdk_71_method_1_code 4 = .ok (.return_, 1) := by decide +kernel
theorem pn_9 : plainName "java/util/AbstractMap" = true := by first | (simp [plainName, overriddenIn]; done) | decide +kernel
theorem ef_9 (m : MethodId) (a1 : Addr) : entryFrame m #[(.ref a1)] 1 = mkF m 0 #[.val (.ref a1)] [] := by first | (simp [entryFrame, mkF, argsToLocals, Value.category]; done) | rfl
def Q9 (Z : State) (a1 : Addr) (h0 : Heap) (n0 : Nat) (v : Option Value) (h : Heap) (L : List Loc) : Prop := v = none ∧ Fr n0 L ∧ h = h0
set_option maxRecDepth 65536 in
set_option maxHeartbeats 40000000 in
theorem rm9 (l : Launch) (Z : State) (a0 : Array Value) (hw : ∀ d ∈ tables_1, d.before a0 Z = true) (ws : List Jvm.Cond) (a1 : Addr) (h0 : Heap) (n0 : Nat) (Z0 : n0 ≤ h0.size)  :
    MetFree l (⟨"java/util/AbstractMap", "<init>", "()V"⟩ : MethodName) (head1 (Jvm.Cond.code (⟨"java/util/AbstractMap", "<init>", "()V"⟩ : MethodName) jdk_71_method_1_code 1 none :: ws) ({ frames := 1, cells := 0, slots := 0, locals := 12 } : Room)) (fun a U => a = #[(.ref a1)] ∧ Z.Warmed39 U.vm ∧ U.heap = h0) (fun _ _ _ _ _ => True) (fun _ U o U' => ∃ v L, o = .returned v ∧ Q9 Z a1 h0 n0 v U'.heap L ∧ FrameEnd U o U' L ({ frames := 1, cells := 0, slots := 0, locals := 12 } : Room).cells ({ frames := 1, cells := 0, slots := 0, locals := 12 } : Room).slots) := by
  refine MetFree.of_bodySF (plainFor_of_name pn_9) hisR ?_
  intro p e s m args below meth c s₁ Bd hml0 hP hK
  obtain ⟨rfl, hZ, hh⟩ := hP
  have hx := Bd.exec
  have hby := Bd.bytes
  have hlk : meth.locks = false := BodyLoose.notSynchronized Bd
  have hml : c.maxLocals = 1 := hml0
  have hown : s.vm.findClass "java/util/AbstractMap" = some m.cls := findClass_of_methodNamed Bd.named
  have hnm := (name_of_methodNamed Bd.named Bd.method).1
  have X0 : Stand p l e ({ frames := 1, cells := 0, slots := 0, locals := 12 } : Room) s m #[(.ref a1)] below meth c s₁ [] 0 0 := Stand.of_body Bd
  have e0 : s₁.heap = h0 := by rw [← hh, Bd.state]; rfl
  have N0 := Fr.nil n0
  show Gl p.tables e below (fun (o : Outcome) (U' : State) => ∃ v L, o = .returned v ∧ Q9 Z a1 h0 n0 v U'.heap L ∧ FrameEnd s o U' L ({ frames := 1, cells := 0, slots := 0, locals := 12 } : Room).cells ({ frames := 1, cells := 0, slots := 0, locals := 12 } : Room).slots) _
  refine Gl.pre (fun t k => castTop (ef_9 m a1) k) ?_
  obtain ⟨PP, hPP⟩ : ∃ P : Outcome → State → Prop, P = (fun (o : Outcome) (U' : State) => ∃ v L, o = .returned v ∧ Q9 Z a1 h0 n0 v U'.heap L ∧ FrameEnd s o U' L ({ frames := 1, cells := 0, slots := 0, locals := 12 } : Room).cells ({ frames := 1, cells := 0, slots := 0, locals := 12 } : Room).slots) := ⟨_, rfl⟩
  rw [← hPP]
  show Gl p.tables e below PP (s₁.setTop (mkF m 0 #[.val (.ref a1)] []))
  refine Gl.pre (fun _ k => XS.aloadN X0.here hx rfl (hb hby d9_0) rfl rfl k) ?_
  show Gl p.tables e below PP (s₁.setTop (mkF m 1 #[.val (.ref a1)] [(.ref a1)]))
  obtain ⟨T1, X1, e1, st1⟩ := initO X0 hx hZ hown (hw _ (List.mem_of_getElem? (i := 73) rfl)) (hw _ (List.mem_of_getElem? (i := 7) rfl)) (hw _ (List.mem_of_getElem? (i := 8) rfl)) e0 (g := (mkF m 1 #[.val (.ref a1)] [(.ref a1)])) rfl (by rw [hml]; rfl) rfl (hb hby d9_1) (by decide) (W := 0) (by show 2 * 0 + _ ≤ _; exact Nat.le_of_eq rfl) (by decide)
  refine Gl.pre (fun _ k => st1 _ k) ?_
  show Gl p.tables e below PP (T1.setTop (mkF m 4 #[.val (.ref a1)] []))
  rw [hPP]
  refine own_finV (Q := (Q9 Z a1 h0 n0)) X1 hx hlk Bd.returns (hb hby d9_4) ?_ (by decide) (by decide)
  show Q9 Z a1 h0 n0 _ T1.heap _
  rw [e1]
  exact ⟨rfl, N0, rfl⟩
theorem d14_0 : decode jdk_91_method_1_code 0 = .ok (.aload_n 0, 1) := by decide +kernel
theorem d14_1 : decode jdk_91_method_1_code 1 = .ok (.invokespecial 1, 3) := by decide +kernel
theorem d14_4 : decode jdk_91_method_1_code 4 = .ok (.return_, 1) := by decide +kernel
theorem pn_14 : plainName "java/util/AbstractSet" = true := by first | (simp [plainName, overriddenIn]; done) | decide +kernel
theorem ef_14 (m : MethodId) (a1 : Addr) : entryFrame m #[(.ref a1)] 1 = mkF m 0 #[.val (.ref a1)] [] := by first | (simp [entryFrame, mkF, argsToLocals, Value.category]; done) | rfl
def Q14 (Z : State) (a1 : Addr) (h0 : Heap) (n0 : Nat) (v : Option Value) (h : Heap) (L : List Loc) : Prop := v = none ∧ Fr n0 L ∧ h = h0
set_option maxRecDepth 65536 in
set_option maxHeartbeats 40000000 in
theorem rm14 (l : Launch) (Z : State) (a0 : Array Value) (hw : ∀ d ∈ tables_1, d.before a0 Z = true) (ws : List Jvm.Cond) (a1 : Addr) (h0 : Heap) (n0 : Nat) (Z0 : n0 ≤ h0.size)  :
    MetFree l (⟨"java/util/AbstractSet", "<init>", "()V"⟩ : MethodName) (head1 (Jvm.Cond.code (⟨"java/util/AbstractSet", "<init>", "()V"⟩ : MethodName) jdk_91_method_1_code 1 none :: ws) ({ frames := 2, cells := 0, slots := 0, locals := 24 } : Room)) (fun a U => a = #[(.ref a1)] ∧ Z.Warmed39 U.vm ∧ U.heap = h0) (fun _ _ _ _ _ => True) (fun _ U o U' => ∃ v L, o = .returned v ∧ Q14 Z a1 h0 n0 v U'.heap L ∧ FrameEnd U o U' L ({ frames := 2, cells := 0, slots := 0, locals := 24 } : Room).cells ({ frames := 2, cells := 0, slots := 0, locals := 24 } : Room).slots) := by
  refine MetFree.of_bodySF (plainFor_of_name pn_14) hisR ?_
  intro p e s m args below meth c s₁ Bd hml0 hP hK
  obtain ⟨rfl, hZ, hh⟩ := hP
  have hx := Bd.exec
  have hby := Bd.bytes
  have hlk : meth.locks = false := BodyLoose.notSynchronized Bd
  have hml : c.maxLocals = 1 := hml0
  have hown : s.vm.findClass "java/util/AbstractSet" = some m.cls := findClass_of_methodNamed Bd.named
  have hnm := (name_of_methodNamed Bd.named Bd.method).1
  have X0 : Stand p l e ({ frames := 2, cells := 0, slots := 0, locals := 24 } : Room) s m #[(.ref a1)] below meth c s₁ [] 0 0 := Stand.of_body Bd
  have e0 : s₁.heap = h0 := by rw [← hh, Bd.state]; rfl
  have N0 := Fr.nil n0
  show Gl p.tables e below (fun (o : Outcome) (U' : State) => ∃ v L, o = .returned v ∧ Q14 Z a1 h0 n0 v U'.heap L ∧ FrameEnd s o U' L ({ frames := 2, cells := 0, slots := 0, locals := 24 } : Room).cells ({ frames := 2, cells := 0, slots := 0, locals := 24 } : Room).slots) _
  refine Gl.pre (fun t k => castTop (ef_14 m a1) k) ?_
  obtain ⟨PP, hPP⟩ : ∃ P : Outcome → State → Prop, P = (fun (o : Outcome) (U' : State) => ∃ v L, o = .returned v ∧ Q14 Z a1 h0 n0 v U'.heap L ∧ FrameEnd s o U' L ({ frames := 2, cells := 0, slots := 0, locals := 24 } : Room).cells ({ frames := 2, cells := 0, slots := 0, locals := 24 } : Room).slots) := ⟨_, rfl⟩
  rw [← hPP]
  show Gl p.tables e below PP (s₁.setTop (mkF m 0 #[.val (.ref a1)] []))
  refine Gl.pre (fun _ k => XS.aloadN X0.here hx rfl (hb hby d14_0) rfl rfl k) ?_
  show Gl p.tables e below PP (s₁.setTop (mkF m 1 #[.val (.ref a1)] [(.ref a1)]))
  obtain ⟨_, _, ⟨T1, L1, k1, n1⟩, -, X1, ⟨Lc1, hQ1, l1, y1, z1⟩, st1⟩ := X0.specialBack hx (y := (⟨"java/util/AbstractCollection", "<init>", "()V"⟩ : MethodName)) rfl hown (mvT hZ (hw _ (List.mem_of_getElem? (i := 114) rfl))) (mvT hZ (hw _ (List.mem_of_getElem? (i := 22) rfl))) (mvT hZ (hw _ (List.mem_of_getElem? (i := 26) rfl))) (by decide) (backOf (W := 0) (rm5 l Z a0 hw [] a1 h0 n0 Z0 ) hZ (hw _ (List.mem_of_getElem? (i := 26) rfl)) (hw _ (List.mem_of_getElem? (i := 25) rfl)) (by decide) (by decide)) (g := (mkF m 1 #[.val (.ref a1)] [(.ref a1)])) rfl (by rw [hml]; rfl) (Steps.refl _) (a := a1) (argsL := []) (rest := []) (lenOf pd_0 rfl) rfl (by show 2 * 0 + _ ≤ _; exact Nat.le_of_eq rfl) (hb hby d14_1) (fun _ _ => ⟨rfl, e0, (by decide : 0 + 0 ≤ _), (by decide : 0 + 0 ≤ _)⟩)
  dsimp only [Pt.U, Pt.locs, Pt.cells, Pt.slots] at X1 l1 y1 z1 st1 hQ1
  subst l1 y1 z1
  obtain ⟨rfl, N1q, e1⟩ := hQ1
  have N1 := Fr.app N0 N1q
  refine Gl.pre (fun _ k => st1.trans k) ?_
  show Gl p.tables e below PP (T1.setTop (mkF m 4 #[.val (.ref a1)] []))
  rw [hPP]
  refine own_finV (Q := (Q14 Z a1 h0 n0)) X1 hx hlk Bd.returns (hb hby d14_4) ?_ (by decide) (by decide)
  show Q14 Z a1 h0 n0 _ T1.heap _
  rw [e1]
  exact ⟨rfl, N1, rfl⟩
theorem d4_0 : decode jdk_39_method_1_code 0 = .ok (.aload_n 0, 1) := by decide +kernel
theorem d4_1 : decode jdk_39_method_1_code 1 = .ok (.invokespecial 1, 3) := by decide +kernel
theorem d4_4 : decode jdk_39_method_1_code 4 = .ok (.aload_n 0, 1) := by decide +kernel
theorem d4_5 : decode jdk_39_method_1_code 5 = .ok (.iconst 0, 1) := by decide +kernel
theorem d4_6 : decode jdk_39_method_1_code 6 = .ok (.putfield 7, 3) := by decide +kernel
theorem d4_9 : decode jdk_39_method_1_code 9 = .ok (.return_, 1) := by decide +kernel
theorem pn_4 : plainName "java/util/AbstractList" = true := by first | (simp [plainName, overriddenIn]; done) | decide +kernel
theorem ef_4 (m : MethodId) (a1 : Addr) : entryFrame m #[(.ref a1)] 1 = mkF m 0 #[.val (.ref a1)] [] := by first | (simp [entryFrame, mkF, argsToLocals, Value.category]; done) | rfl
def Q4 (Z : State) (a1 : Addr) (h0 : Heap) (n0 : Nat) (v : Option Value) (h : Heap) (L : List Loc) : Prop := v = none ∧ Fr n0 L ∧ Keep h0 h [a1] ∧ Fld Z h a1 "java/util/ArrayList" "elementData" "[Ljava/lang/Object;" .null
set_option maxRecDepth 65536 in
set_option maxHeartbeats 40000000 in
theorem rm4 (l : Launch) (Z : State) (a0 : Array Value) (hw : ∀ d ∈ tables_1, d.before a0 Z = true) (ws : List Jvm.Cond) (a1 : Addr) (h0 : Heap) (n0 : Nat) (Z0 : n0 ≤ h0.size) (E_a1 : Exa Z h0 a1 "java/util/ArrayList") (F_modCount_a1 : Fld Z h0 a1 "java/util/AbstractList" "modCount" "I" (.int (0 : Int32))) (F_elementData_a1 : Fld Z h0 a1 "java/util/ArrayList" "elementData" "[Ljava/lang/Object;" .null) (g_a1 : n0 ≤ a1) :
    MetFree l (⟨"java/util/AbstractList", "<init>", "()V"⟩ : MethodName) (head1 (Jvm.Cond.code (⟨"java/util/AbstractList", "<init>", "()V"⟩ : MethodName) jdk_39_method_1_code 1 none :: ws) ({ frames := 2, cells := 0, slots := 0, locals := 24 } : Room)) (fun a U => a = #[(.ref a1)] ∧ Z.Warmed39 U.vm ∧ U.heap = h0) (fun _ _ _ _ _ => True) (fun _ U o U' => ∃ v L, o = .returned v ∧ Q4 Z a1 h0 n0 v U'.heap L ∧ FrameEnd U o U' L ({ frames := 2, cells := 0, slots := 0, locals := 24 } : Room).cells ({ frames := 2, cells := 0, slots := 0, locals := 24 } : Room).slots) := by
  refine MetFree.of_bodySF (plainFor_of_name pn_4) hisR ?_
  intro p e s m args below meth c s₁ Bd hml0 hP hK
  obtain ⟨rfl, hZ, hh⟩ := hP
  have hx := Bd.exec
  have hby := Bd.bytes
  have hlk : meth.locks = false := BodyLoose.notSynchronized Bd
  have hml : c.maxLocals = 1 := hml0
  have hown : s.vm.findClass "java/util/AbstractList" = some m.cls := findClass_of_methodNamed Bd.named
  have hnm := (name_of_methodNamed Bd.named Bd.method).1
  have X0 : Stand p l e ({ frames := 2, cells := 0, slots := 0, locals := 24 } : Room) s m #[(.ref a1)] below meth c s₁ [] 0 0 := Stand.of_body Bd
  have e0 : s₁.heap = h0 := by rw [← hh, Bd.state]; rfl
  have N0 := Fr.nil n0
  show Gl p.tables e below (fun (o : Outcome) (U' : State) => ∃ v L, o = .returned v ∧ Q4 Z a1 h0 n0 v U'.heap L ∧ FrameEnd s o U' L ({ frames := 2, cells := 0, slots := 0, locals := 24 } : Room).cells ({ frames := 2, cells := 0, slots := 0, locals := 24 } : Room).slots) _
  refine Gl.pre (fun t k => castTop (ef_4 m a1) k) ?_
  obtain ⟨PP, hPP⟩ : ∃ P : Outcome → State → Prop, P = (fun (o : Outcome) (U' : State) => ∃ v L, o = .returned v ∧ Q4 Z a1 h0 n0 v U'.heap L ∧ FrameEnd s o U' L ({ frames := 2, cells := 0, slots := 0, locals := 24 } : Room).cells ({ frames := 2, cells := 0, slots := 0, locals := 24 } : Room).slots) := ⟨_, rfl⟩
  rw [← hPP]
  have K0 : Keep h0 h0 [a1] := Keep.refl h0 _
  show Gl p.tables e below PP (s₁.setTop (mkF m 0 #[.val (.ref a1)] []))
  refine Gl.pre (fun _ k => XS.aloadN X0.here hx rfl (hb hby d4_0) rfl rfl k) ?_
  show Gl p.tables e below PP (s₁.setTop (mkF m 1 #[.val (.ref a1)] [(.ref a1)]))
  obtain ⟨_, _, ⟨T1, L1, k1, n1⟩, -, X1, ⟨Lc1, hQ1, l1, y1, z1⟩, st1⟩ := X0.specialBack hx (y := (⟨"java/util/AbstractCollection", "<init>", "()V"⟩ : MethodName)) rfl hown (mvT hZ (hw _ (List.mem_of_getElem? (i := 21) rfl))) (mvT hZ (hw _ (List.mem_of_getElem? (i := 22) rfl))) (mvT hZ (hw _ (List.mem_of_getElem? (i := 26) rfl))) (by decide) (backOf (W := 0) (rm5 l Z a0 hw [] a1 h0 n0 Z0 ) hZ (hw _ (List.mem_of_getElem? (i := 26) rfl)) (hw _ (List.mem_of_getElem? (i := 25) rfl)) (by decide) (by decide)) (g := (mkF m 1 #[.val (.ref a1)] [(.ref a1)])) rfl (by rw [hml]; rfl) (Steps.refl _) (a := a1) (argsL := []) (rest := []) (lenOf pd_0 rfl) rfl (by show 2 * 0 + _ ≤ _; exact Nat.le_of_eq rfl) (hb hby d4_1) (fun _ _ => ⟨rfl, e0, (by decide : 0 + 0 ≤ _), (by decide : 0 + 0 ≤ _)⟩)
  dsimp only [Pt.U, Pt.locs, Pt.cells, Pt.slots] at X1 l1 y1 z1 st1 hQ1
  subst l1 y1 z1
  obtain ⟨rfl, N1q, e1⟩ := hQ1
  have N1 := Fr.app N0 N1q
  refine Gl.pre (fun _ k => st1.trans k) ?_
  show Gl p.tables e below PP (T1.setTop (mkF m 4 #[.val (.ref a1)] []))
  refine Gl.pre (fun _ k => XS.aloadN X1.here hx rfl (hb hby d4_4) rfl rfl k) ?_
  show Gl p.tables e below PP (T1.setTop (mkF m 5 #[.val (.ref a1)] [(.ref a1)]))
  refine Gl.pre (fun _ k => XS.iconst X1.here hx rfl (hb hby d4_5) k) ?_
  show Gl p.tables e below PP (T1.setTop (mkF m 6 #[.val (.ref a1)] [(.int (0 : Int32)), (.ref a1)]))
  obtain ⟨T2, h2, X2, e2, W2, st2⟩ := putF X1 hx hZ hown (host := "") (Or.inl (hw _ (List.mem_of_getElem? (i := 28) rfl))) Via.refl e1 F_modCount_a1 E_a1 (Or.inl (hw _ (List.mem_of_getElem? (i := 29) rfl))) (hw _ (List.mem_of_getElem? (i := 10) rfl)) (ty := .int) (by decide) rfl rfl (g := (mkF m 6 #[.val (.ref a1)] [(.int (0 : Int32)), (.ref a1)])) rfl rfl (hb hby d4_6)
  refine Gl.pre (fun _ k => st2 _ k) ?_
  have E_a1 := E_a1.wr W2
  have F_modCount_a1 := F_modCount_a1.same W2
  have F_elementData_a1 := F_elementData_a1.other W2 (Or.inr (slot_ne (Or.inl (hw _ (List.mem_of_getElem? (i := 32) rfl))) (Or.inl (hw _ (List.mem_of_getElem? (i := 29) rfl))) (by decide) (t := (.array (.object "java/lang/Object"))) (t' := .int) (by decide) (by decide)))
  have Z2 : n0 ≤ h2.size := by rw [W2.size]; exact Z0
  have N2 := Fr.snoc X2 N1 g_a1
  have K2 := K0.wr W2 (Or.inl (List.mem_of_getElem? (i := 0) rfl))
  show Gl p.tables e below PP (T2.setTop (mkF m 9 #[.val (.ref a1)] []))
  rw [hPP]
  refine own_finV (Q := (Q4 Z a1 h0 n0)) X2 hx hlk Bd.returns (hb hby d4_9) ?_ (by decide) (by decide)
  show Q4 Z a1 h0 n0 _ T2.heap _
  rw [e2]
  exact ⟨rfl, N2, K2, F_elementData_a1⟩
theorem d3_0 : decode jdk_38_method_2_code 0 = .ok (.aload_n 0, 1) := by decide +kernel
theorem d3_1 : decode jdk_38_method_2_code 1 = .ok (.invokespecial 1, 3) := by decide +kernel
theorem d3_4 : decode jdk_38_method_2_code 4 = .ok (.aload_n 0, 1) := by decide +kernel
theorem d3_5 : decode jdk_38_method_2_code 5 = .ok (.getstatic 39, 3) := by decide +kernel
theorem d3_8 : decode jdk_38_method_2_code 8 = .ok (.putfield 9, 3) := by decide +kernel
theorem d3_11 : decode jdk_38_method_2_code 11 = .ok (.return_, 1) := by decide +kernel
theorem pn_3 : plainName "java/util/ArrayList" = true := by first | (simp [plainName, overriddenIn]; done) | decide +kernel
theorem ef_3 (m : MethodId) (a1 : Addr) (dc : Addr) : entryFrame m #[(.ref a1)] 1 = mkF m 0 #[.val (.ref a1)] [] := by first | (simp [entryFrame, mkF, argsToLocals, Value.category]; done) | rfl
def Q3 (Z : State) (a1 : Addr) (dc : Addr) (h0 : Heap) (n0 : Nat) (v : Option Value) (h : Heap) (L : List Loc) : Prop := v = none ∧ Fr n0 L ∧ Keep h0 h [a1]
set_option maxRecDepth 65536 in
set_option maxHeartbeats 40000000 in
theorem rm3 (l : Launch) (Z : State) (a0 : Array Value) (hw : ∀ d ∈ tables_1, d.before a0 Z = true) (ws : List Jvm.Cond) (a1 : Addr) (dc : Addr) (h0 : Heap) (n0 : Nat) (Z0 : n0 ≤ h0.size) (E_a1 : Exa Z h0 a1 "java/util/ArrayList") (F_modCount_a1 : Fld Z h0 a1 "java/util/AbstractList" "modCount" "I" (.int (0 : Int32))) (F_elementData_a1 : Fld Z h0 a1 "java/util/ArrayList" "elementData" "[Ljava/lang/Object;" .null) (g_a1 : n0 ≤ a1) (SDC : Sta Z Z.heap "java/util/ArrayList" "DEFAULTCAPACITY_EMPTY_ELEMENTDATA" "[Ljava/lang/Object;" (.ref dc)) (O_ : Old Z n0 h0) :
    MetFree l (⟨"java/util/ArrayList", "<init>", "()V"⟩ : MethodName) (head1 (Jvm.Cond.code (⟨"java/util/ArrayList", "<init>", "()V"⟩ : MethodName) jdk_38_method_2_code 1 none :: ws) ({ frames := 3, cells := 0, slots := 0, locals := 36 } : Room)) (fun a U => a = #[(.ref a1)] ∧ Z.Warmed39 U.vm ∧ U.heap = h0) (fun _ _ _ _ _ => True) (fun _ U o U' => ∃ v L, o = .returned v ∧ Q3 Z a1 dc h0 n0 v U'.heap L ∧ FrameEnd U o U' L ({ frames := 3, cells := 0, slots := 0, locals := 36 } : Room).cells ({ frames := 3, cells := 0, slots := 0, locals := 36 } : Room).slots) := by
  refine MetFree.of_bodySF (plainFor_of_name pn_3) hisR ?_
  intro p e s m args below meth c s₁ Bd hml0 hP hK
  obtain ⟨rfl, hZ, hh⟩ := hP
  have hx := Bd.exec
  have hby := Bd.bytes
  have hlk : meth.locks = false := BodyLoose.notSynchronized Bd
  have hml : c.maxLocals = 1 := hml0
  have hown : s.vm.findClass "java/util/ArrayList" = some m.cls := findClass_of_methodNamed Bd.named
  have hnm := (name_of_methodNamed Bd.named Bd.method).1
  have X0 : Stand p l e ({ frames := 3, cells := 0, slots := 0, locals := 36 } : Room) s m #[(.ref a1)] below meth c s₁ [] 0 0 := Stand.of_body Bd
  have e0 : s₁.heap = h0 := by rw [← hh, Bd.state]; rfl
  have N0 := Fr.nil n0
  show Gl p.tables e below (fun (o : Outcome) (U' : State) => ∃ v L, o = .returned v ∧ Q3 Z a1 dc h0 n0 v U'.heap L ∧ FrameEnd s o U' L ({ frames := 3, cells := 0, slots := 0, locals := 36 } : Room).cells ({ frames := 3, cells := 0, slots := 0, locals := 36 } : Room).slots) _
  refine Gl.pre (fun t k => castTop (ef_3 m a1 dc) k) ?_
  obtain ⟨PP, hPP⟩ : ∃ P : Outcome → State → Prop, P = (fun (o : Outcome) (U' : State) => ∃ v L, o = .returned v ∧ Q3 Z a1 dc h0 n0 v U'.heap L ∧ FrameEnd s o U' L ({ frames := 3, cells := 0, slots := 0, locals := 36 } : Room).cells ({ frames := 3, cells := 0, slots := 0, locals := 36 } : Room).slots) := ⟨_, rfl⟩
  rw [← hPP]
  have K0 : Keep h0 h0 [a1] := Keep.refl h0 _
  show Gl p.tables e below PP (s₁.setTop (mkF m 0 #[.val (.ref a1)] []))
  refine Gl.pre (fun _ k => XS.aloadN X0.here hx rfl (hb hby d3_0) rfl rfl k) ?_
  show Gl p.tables e below PP (s₁.setTop (mkF m 1 #[.val (.ref a1)] [(.ref a1)]))
  obtain ⟨_, _, ⟨T1, L1, k1, n1⟩, -, X1, ⟨Lc1, hQ1, l1, y1, z1⟩, st1⟩ := X0.specialBack hx (y := (⟨"java/util/AbstractList", "<init>", "()V"⟩ : MethodName)) rfl hown (mvT hZ (hw _ (List.mem_of_getElem? (i := 15) rfl))) (mvT hZ (hw _ (List.mem_of_getElem? (i := 16) rfl))) (mvT hZ (hw _ (List.mem_of_getElem? (i := 20) rfl))) (by decide) (backOf (W := 0) (rm4 l Z a0 hw [] a1 h0 n0 Z0 E_a1 F_modCount_a1 F_elementData_a1 g_a1) hZ (hw _ (List.mem_of_getElem? (i := 20) rfl)) (hw _ (List.mem_of_getElem? (i := 19) rfl)) (by decide) (by decide)) (g := (mkF m 1 #[.val (.ref a1)] [(.ref a1)])) rfl (by rw [hml]; rfl) (Steps.refl _) (a := a1) (argsL := []) (rest := []) (lenOf pd_0 rfl) rfl (by show 2 * 0 + _ ≤ _; exact Nat.le_of_eq rfl) (hb hby d3_1) (fun _ _ => ⟨rfl, e0, (by decide : 0 + 0 ≤ _), (by decide : 0 + 0 ≤ _)⟩)
  dsimp only [Pt.U, Pt.locs, Pt.cells, Pt.slots] at X1 l1 y1 z1 st1 hQ1
  subst l1 y1 z1
  obtain ⟨rfl, N1q, K1, x1_0⟩ := hQ1
  have N1 := Fr.app N0 N1q
  refine Gl.pre (fun _ k => st1.trans k) ?_
  have E_a1 := E_a1.keep K1
  have O_ := O_.keep K1 (allS g_a1 all0)
  have Z1 : n0 ≤ T1.heap.size := Nat.le_trans Z0 K1.1
  have K1k := K0.trans K1 (allS (Or.inl (List.mem_of_getElem? (i := 0) rfl)) all0)
  have F_elementData_a1 := x1_0
  show Gl p.tables e below PP (T1.setTop (mkF m 4 #[.val (.ref a1)] []))
  refine Gl.pre (fun _ k => XS.aloadN X1.here hx rfl (hb hby d3_4) rfl rfl k) ?_
  show Gl p.tables e below PP (T1.setTop (mkF m 5 #[.val (.ref a1)] [(.ref a1)]))
  obtain ⟨T2, X2, e2, st2⟩ := getS2 X1 hx hZ hown (host := "") (Or.inl (hw _ (List.mem_of_getElem? (i := 30) rfl))) Via.refl rfl (SDC.ext O_.2) (g := (mkF m 5 #[.val (.ref a1)] [(.ref a1)])) rfl (hb hby d3_5)
  refine Gl.pre (fun _ k => st2 _ k) ?_
  show Gl p.tables e below PP (T2.setTop (mkF m 8 #[.val (.ref a1)] [(.ref dc), (.ref a1)]))
  obtain ⟨T3, h3, X3, e3, W3, st3⟩ := putF X2 hx hZ hown (host := "") (Or.inl (hw _ (List.mem_of_getElem? (i := 31) rfl))) Via.refl e2 F_elementData_a1 E_a1 (Or.inl (hw _ (List.mem_of_getElem? (i := 32) rfl))) (hw _ (List.mem_of_getElem? (i := 10) rfl)) (ty := (.array (.object "java/lang/Object"))) (by decide) rfl rfl (g := (mkF m 8 #[.val (.ref a1)] [(.ref dc), (.ref a1)])) rfl rfl (hb hby d3_8)
  refine Gl.pre (fun _ k => st3 _ k) ?_
  have E_a1 := E_a1.wr W3
  have O_ := O_.wr W3 g_a1
  have F_elementData_a1 := F_elementData_a1.same W3
  have Z3 : n0 ≤ h3.size := by rw [W3.size]; exact Z1
  have N3 := Fr.snoc X3 N1 g_a1
  have K3 := K1k.wr W3 (Or.inl (List.mem_of_getElem? (i := 0) rfl))
  show Gl p.tables e below PP (T3.setTop (mkF m 11 #[.val (.ref a1)] []))
  rw [hPP]
  refine own_finV (Q := (Q3 Z a1 dc h0 n0)) X3 hx hlk Bd.returns (hb hby d3_11) ?_ (by decide) (by decide)
  show Q3 Z a1 dc h0 n0 _ T3.heap _
  rw [e3]
  exact ⟨rfl, N3, K3⟩
theorem d6_0 : decode jdk_72_method_26_code 0 = .ok (.getstatic 81, 3) := by decide +kernel
theorem d6_3 : decode jdk_72_method_26_code 3 = .ok (.areturn, 1) := by decide +kernel
theorem pn_6 : plainName "java/util/Map" = true := by first | (simp [plainName, overriddenIn]; done) | decide +kernel
theorem ef_6 (m : MethodId) (em : Addr) : entryFrame m #[] 0 = mkF m 0 #[] [] := by first | (simp [entryFrame, mkF, argsToLocals, Value.category]; done) | rfl
def Q6 (Z : State) (em : Addr) (h0 : Heap) (n0 : Nat) (v : Option Value) (h : Heap) (L : List Loc) : Prop := v = some (.ref em) ∧ Fr n0 L ∧ h = h0
set_option maxRecDepth 65536 in
set_option maxHeartbeats 40000000 in
theorem rm6 (l : Launch) (Z : State) (a0 : Array Value) (hw : ∀ d ∈ tables_1, d.before a0 Z = true) (ws : List Jvm.Cond) (em : Addr) (h0 : Heap) (n0 : Nat) (Z0 : n0 ≤ h0.size) (SEM : Sta Z Z.heap "java/util/ImmutableCollections" "EMPTY_MAP" "Ljava/util/ImmutableCollections$MapN;" (.ref em)) (O_ : Old Z n0 h0) :
    MetFree l (⟨"java/util/Map", "of", "()Ljava/util/Map;"⟩ : MethodName) (head1 (Jvm.Cond.code (⟨"java/util/Map", "of", "()Ljava/util/Map;"⟩ : MethodName) jdk_72_method_26_code 0 (some (.object "java/util/Map")) :: ws) ({ frames := 0, cells := 0, slots := 0, locals := 0 } : Room)) (fun a U => a = #[] ∧ Z.Warmed39 U.vm ∧ U.heap = h0) (fun _ _ _ _ _ => True) (fun _ U o U' => ∃ v L, o = .returned v ∧ Q6 Z em h0 n0 v U'.heap L ∧ FrameEnd U o U' L ({ frames := 0, cells := 0, slots := 0, locals := 0 } : Room).cells ({ frames := 0, cells := 0, slots := 0, locals := 0 } : Room).slots) := by
  refine MetFree.of_bodySF (plainFor_of_name pn_6) hisR ?_
  intro p e s m args below meth c s₁ Bd hml0 hP hK
  obtain ⟨rfl, hZ, hh⟩ := hP
  have hx := Bd.exec
  have hby := Bd.bytes
  have hlk : meth.locks = false := BodyLoose.notSynchronized Bd
  have hml : c.maxLocals = 0 := hml0
  have hown : s.vm.findClass "java/util/Map" = some m.cls := findClass_of_methodNamed Bd.named
  have hnm := (name_of_methodNamed Bd.named Bd.method).1
  have X0 : Stand p l e ({ frames := 0, cells := 0, slots := 0, locals := 0 } : Room) s m #[] below meth c s₁ [] 0 0 := Stand.of_body Bd
  have e0 : s₁.heap = h0 := by rw [← hh, Bd.state]; rfl
  have N0 := Fr.nil n0
  show Gl p.tables e below (fun (o : Outcome) (U' : State) => ∃ v L, o = .returned v ∧ Q6 Z em h0 n0 v U'.heap L ∧ FrameEnd s o U' L ({ frames := 0, cells := 0, slots := 0, locals := 0 } : Room).cells ({ frames := 0, cells := 0, slots := 0, locals := 0 } : Room).slots) _
  refine Gl.pre (fun t k => castTop (ef_6 m em) k) ?_
  obtain ⟨PP, hPP⟩ : ∃ P : Outcome → State → Prop, P = (fun (o : Outcome) (U' : State) => ∃ v L, o = .returned v ∧ Q6 Z em h0 n0 v U'.heap L ∧ FrameEnd s o U' L ({ frames := 0, cells := 0, slots := 0, locals := 0 } : Room).cells ({ frames := 0, cells := 0, slots := 0, locals := 0 } : Room).slots) := ⟨_, rfl⟩
  rw [← hPP]
  show Gl p.tables e below PP (s₁.setTop (mkF m 0 #[] []))
  obtain ⟨T1, X1, e1, st1⟩ := getS2 X0 hx hZ hown (host := "") (Or.inl (hw _ (List.mem_of_getElem? (i := 43) rfl))) Via.refl e0 (SEM.ext O_.2) (g := (mkF m 0 #[] [])) rfl (hb hby d6_0)
  refine Gl.pre (fun _ k => st1 _ k) ?_
  show Gl p.tables e below PP (T1.setTop (mkF m 3 #[] [(.ref em)]))
  rw [hPP]
  refine own_finA (Q := (Q6 Z em h0 n0)) X1 hx hlk Bd.returns rfl rfl (hb hby d6_3) ?_ (by decide) (by decide)
  show Q6 Z em h0 n0 _ T1.heap _
  rw [e1]
  exact ⟨rfl, N0, rfl⟩
theorem d7_0 : decode jdk_21_method_3_code 0 = .ok (.aload_n 0, 1) := by decide +kernel
theorem d7_1 : decode jdk_21_method_3_code 1 = .ok (.invokespecial 42, 3) := by decide +kernel
theorem d7_4 : decode jdk_21_method_3_code 4 = .ok (.aload_n 0, 1) := by decide +kernel
theorem d7_5 : decode jdk_21_method_3_code 5 = .ok (.bipush 17, 2) := by decide +kernel
theorem d7_7 : decode jdk_21_method_3_code 7 = .ok (.anewarray 47, 3) := by decide +kernel
theorem d7_10 : decode jdk_21_method_3_code 10 = .ok (.putfield 3, 3) := by decide +kernel
theorem d7_13 : decode jdk_21_method_3_code 13 = .ok (.return_, 1) := by decide +kernel
theorem pn_7 : plainName "java/util/ArrayDeque" = true := by first | (simp [plainName, overriddenIn]; done) | decide +kernel
theorem ef_7 (m : MethodId) (a1 : Addr) : entryFrame m #[(.ref a1)] 1 = mkF m 0 #[.val (.ref a1)] [] := by first | (simp [entryFrame, mkF, argsToLocals, Value.category]; done) | rfl
def Q7 (Z : State) (a1 : Addr) (h0 : Heap) (n0 : Nat) (v : Option Value) (h : Heap) (L : List Loc) : Prop := v = none ∧ Fr n0 L ∧ Keep h0 h [a1]
set_option maxRecDepth 65536 in
set_option maxHeartbeats 40000000 in
theorem rm7 (l : Launch) (Z : State) (a0 : Array Value) (hw : ∀ d ∈ tables_1, d.before a0 Z = true) (ws : List Jvm.Cond) (a1 : Addr) (h0 : Heap) (n0 : Nat) (Z0 : n0 ≤ h0.size) (E_a1 : Exa Z h0 a1 "java/util/ArrayDeque") (F_elements_a1 : Fld Z h0 a1 "java/util/ArrayDeque" "elements" "[Ljava/lang/Object;" .null) (g_a1 : n0 ≤ a1) :
    MetFree l (⟨"java/util/ArrayDeque", "<init>", "()V"⟩ : MethodName) (head1 (Jvm.Cond.code (⟨"java/util/ArrayDeque", "<init>", "()V"⟩ : MethodName) jdk_21_method_3_code 1 none :: ws) ({ frames := 2, cells := 1, slots := 17, locals := 24 } : Room)) (fun a U => a = #[(.ref a1)] ∧ Z.Warmed39 U.vm ∧ U.heap = h0) (fun _ _ _ _ _ => True) (fun _ U o U' => ∃ v L, o = .returned v ∧ Q7 Z a1 h0 n0 v U'.heap L ∧ FrameEnd U o U' L ({ frames := 2, cells := 1, slots := 17, locals := 24 } : Room).cells ({ frames := 2, cells := 1, slots := 17, locals := 24 } : Room).slots) := by
  refine MetFree.of_bodySF (plainFor_of_name pn_7) hisR ?_
  intro p e s m args below meth c s₁ Bd hml0 hP hK
  obtain ⟨rfl, hZ, hh⟩ := hP
  have hx := Bd.exec
  have hby := Bd.bytes
  have hlk : meth.locks = false := BodyLoose.notSynchronized Bd
  have hml : c.maxLocals = 1 := hml0
  have hown : s.vm.findClass "java/util/ArrayDeque" = some m.cls := findClass_of_methodNamed Bd.named
  have hnm := (name_of_methodNamed Bd.named Bd.method).1
  have X0 : Stand p l e ({ frames := 2, cells := 1, slots := 17, locals := 24 } : Room) s m #[(.ref a1)] below meth c s₁ [] 0 0 := Stand.of_body Bd
  have e0 : s₁.heap = h0 := by rw [← hh, Bd.state]; rfl
  have N0 := Fr.nil n0
  show Gl p.tables e below (fun (o : Outcome) (U' : State) => ∃ v L, o = .returned v ∧ Q7 Z a1 h0 n0 v U'.heap L ∧ FrameEnd s o U' L ({ frames := 2, cells := 1, slots := 17, locals := 24 } : Room).cells ({ frames := 2, cells := 1, slots := 17, locals := 24 } : Room).slots) _
  refine Gl.pre (fun t k => castTop (ef_7 m a1) k) ?_
  obtain ⟨PP, hPP⟩ : ∃ P : Outcome → State → Prop, P = (fun (o : Outcome) (U' : State) => ∃ v L, o = .returned v ∧ Q7 Z a1 h0 n0 v U'.heap L ∧ FrameEnd s o U' L ({ frames := 2, cells := 1, slots := 17, locals := 24 } : Room).cells ({ frames := 2, cells := 1, slots := 17, locals := 24 } : Room).slots) := ⟨_, rfl⟩
  rw [← hPP]
  have K0 : Keep h0 h0 [a1] := Keep.refl h0 _
  show Gl p.tables e below PP (s₁.setTop (mkF m 0 #[.val (.ref a1)] []))
  refine Gl.pre (fun _ k => XS.aloadN X0.here hx rfl (hb hby d7_0) rfl rfl k) ?_
  show Gl p.tables e below PP (s₁.setTop (mkF m 1 #[.val (.ref a1)] [(.ref a1)]))
  obtain ⟨_, _, ⟨T1, L1, k1, n1⟩, -, X1, ⟨Lc1, hQ1, l1, y1, z1⟩, st1⟩ := X0.specialBack hx (y := (⟨"java/util/AbstractCollection", "<init>", "()V"⟩ : MethodName)) rfl hown (mvT hZ (hw _ (List.mem_of_getElem? (i := 53) rfl))) (mvT hZ (hw _ (List.mem_of_getElem? (i := 22) rfl))) (mvT hZ (hw _ (List.mem_of_getElem? (i := 26) rfl))) (by decide) (backOf (W := 0) (rm5 l Z a0 hw [] a1 h0 n0 Z0 ) hZ (hw _ (List.mem_of_getElem? (i := 26) rfl)) (hw _ (List.mem_of_getElem? (i := 25) rfl)) (by decide) (by decide)) (g := (mkF m 1 #[.val (.ref a1)] [(.ref a1)])) rfl (by rw [hml]; rfl) (Steps.refl _) (a := a1) (argsL := []) (rest := []) (lenOf pd_0 rfl) rfl (by show 2 * 0 + _ ≤ _; exact Nat.le_of_eq rfl) (hb hby d7_1) (fun _ _ => ⟨rfl, e0, (by decide : 0 + 0 ≤ _), (by decide : 0 + 0 ≤ _)⟩)
  dsimp only [Pt.U, Pt.locs, Pt.cells, Pt.slots] at X1 l1 y1 z1 st1 hQ1
  subst l1 y1 z1
  obtain ⟨rfl, N1q, e1⟩ := hQ1
  have N1 := Fr.app N0 N1q
  refine Gl.pre (fun _ k => st1.trans k) ?_
  show Gl p.tables e below PP (T1.setTop (mkF m 4 #[.val (.ref a1)] []))
  refine Gl.pre (fun _ k => XS.aloadN X1.here hx rfl (hb hby d7_4) rfl rfl k) ?_
  show Gl p.tables e below PP (T1.setTop (mkF m 5 #[.val (.ref a1)] [(.ref a1)]))
  refine Gl.pre (fun _ k => XS.bipush X1.here hx rfl (hb hby d7_5) k) ?_
  show Gl p.tables e below PP (T1.setTop (mkF m 7 #[.val (.ref a1)] [(.int (17 : Int32)), (.ref a1)]))
  obtain ⟨T2, h2, k2, X2, e2, E2, A2, O2, st2⟩ := newR X1 hx hZ hown (hw _ (List.mem_of_getElem? (i := 55) rfl)) (hw _ (List.mem_of_getElem? (i := 56) rfl)) e1 (g := (mkF m 7 #[.val (.ref a1)] [(.int (17 : Int32)), (.ref a1)])) rfl (hb hby d7_7) rfl (by decide) (cap := 17) (by decide) (by decide) (by decide) (by decide)
  obtain ⟨b2, g2⟩ : ∃ z, z = h0.size := ⟨_, rfl⟩
  rw [← g2] at A2 st2
  refine Gl.pre (fun _ k => st2 _ k) ?_
  have own_ne_a1_b2 : a1 ≠ b2 := by have q := E_a1.lt; rw [g2]; exact Nat.ne_of_lt q
  have own_ne_b2_a1 : b2 ≠ a1 := own_ne_a1_b2.symm
  have g_b2 : n0 ≤ b2 := Nat.le_trans Z0 (Nat.le_of_eq g2.symm)
  have sz_b2 : h0.size ≤ b2 := Nat.le_trans K0.1 (Nat.le_of_eq g2.symm)
  have E_a1 := E_a1.ext E2
  have F_elements_a1 := F_elements_a1.ext E2
  have Z2 : n0 ≤ h2.size := Nat.le_trans Z0 E2.1
  have K2 := K0.ext E2
  have V_b2 : Ral Z h2 b2 k2 "java/lang/Object" [.null, .null, .null, .null, .null, .null, .null, .null, .null, .null, .null, .null, .null, .null, .null, .null, .null] := Ral.new A2 (n := 17) (by decide)
  show Gl p.tables e below PP (T2.setTop (mkF m 10 #[.val (.ref a1)] [(.ref b2), (.ref a1)]))
  obtain ⟨T3, h3, X3, e3, W3, st3⟩ := putF X2 hx hZ hown (host := "") (Or.inl (hw _ (List.mem_of_getElem? (i := 57) rfl))) Via.refl e2 F_elements_a1 E_a1 (Or.inl (hw _ (List.mem_of_getElem? (i := 58) rfl))) (hw _ (List.mem_of_getElem? (i := 48) rfl)) (ty := (.array (.object "java/lang/Object"))) (by decide) rfl rfl (g := (mkF m 10 #[.val (.ref a1)] [(.ref b2), (.ref a1)])) rfl rfl (hb hby d7_10)
  refine Gl.pre (fun _ k => st3 _ k) ?_
  have E_a1 := E_a1.wr W3
  have F_elements_a1 := F_elements_a1.same W3
  have V_b2 := V_b2.other W3 (own_ne_b2_a1)
  have Z3 : n0 ≤ h3.size := by rw [W3.size]; exact Z2
  have N3 := Fr.snoc X3 N1 g_a1
  have K3 := K2.wr W3 (Or.inl (List.mem_of_getElem? (i := 0) rfl))
  show Gl p.tables e below PP (T3.setTop (mkF m 13 #[.val (.ref a1)] []))
  rw [hPP]
  refine own_finV (Q := (Q7 Z a1 h0 n0)) X3 hx hlk Bd.returns (hb hby d7_13) ?_ (by decide) (by decide)
  show Q7 Z a1 h0 n0 _ T3.heap _
  rw [e3]
  exact ⟨rfl, N3, K3⟩
theorem d8_0 : decode jdk_69_method_7_code 0 = .ok (.aload_n 0, 1) := by decide +kernel
theorem d8_1 : decode jdk_69_method_7_code 1 = .ok (.invokespecial 43, 3) := by decide +kernel
theorem d8_4 : decode jdk_69_method_7_code 4 = .ok (.aload_n 0, 1) := by decide +kernel
theorem d8_5 : decode jdk_69_method_7_code 5 = .ok (.ldc 92, 2) := by decide +kernel
theorem d8_7 : decode jdk_69_method_7_code 7 = .ok (.putfield 81, 3) := by decide +kernel
theorem d8_10 : decode jdk_69_method_7_code 10 = .ok (.return_, 1) := by decide +kernel
theorem pn_8 : plainName "java/util/HashMap" = true := by first | (simp [plainName, overriddenIn]; done) | decide +kernel
theorem ef_8 (m : MethodId) (a1 : Addr) : entryFrame m #[(.ref a1)] 1 = mkF m 0 #[.val (.ref a1)] [] := by first | (simp [entryFrame, mkF, argsToLocals, Value.category]; done) | rfl
def Q8 (Z : State) (a1 : Addr) (h0 : Heap) (n0 : Nat) (v : Option Value) (h : Heap) (L : List Loc) : Prop := v = none ∧ Fr n0 L ∧ Keep h0 h [a1] ∧ Fld Z h a1 "java/util/AbstractMap" "keySet" "Ljava/util/Set;" .null ∧ Fld Z h a1 "java/util/HashMap" "modCount" "I" (.int (0 : Int32)) ∧ Fld Z h a1 "java/util/HashMap" "table" "[Ljava/util/HashMap$Node;" .null
set_option maxRecDepth 65536 in
set_option maxHeartbeats 40000000 in
theorem rm8 (l : Launch) (Z : State) (a0 : Array Value) (hw : ∀ d ∈ tables_1, d.before a0 Z = true) (ws : List Jvm.Cond) (a1 : Addr) (h0 : Heap) (n0 : Nat) (Z0 : n0 ≤ h0.size) (E_a1 : Exa Z h0 a1 "java/util/HashMap") (F_loadFactor_a1 : Fld Z h0 a1 "java/util/HashMap" "loadFactor" "F" (.float 0)) (F_keySet_a1 : Fld Z h0 a1 "java/util/AbstractMap" "keySet" "Ljava/util/Set;" .null) (F_modCount_a1 : Fld Z h0 a1 "java/util/HashMap" "modCount" "I" (.int (0 : Int32))) (F_table_a1 : Fld Z h0 a1 "java/util/HashMap" "table" "[Ljava/util/HashMap$Node;" .null) (g_a1 : n0 ≤ a1) :
    MetFree l (⟨"java/util/HashMap", "<init>", "()V"⟩ : MethodName) (head1 (Jvm.Cond.code (⟨"java/util/HashMap", "<init>", "()V"⟩ : MethodName) jdk_69_method_7_code 1 none :: ws) ({ frames := 2, cells := 0, slots := 0, locals := 24 } : Room)) (fun a U => a = #[(.ref a1)] ∧ Z.Warmed39 U.vm ∧ U.heap = h0) (fun _ _ _ _ _ => True) (fun _ U o U' => ∃ v L, o = .returned v ∧ Q8 Z a1 h0 n0 v U'.heap L ∧ FrameEnd U o U' L ({ frames := 2, cells := 0, slots := 0, locals := 24 } : Room).cells ({ frames := 2, cells := 0, slots := 0, locals := 24 } : Room).slots) := by
  refine MetFree.of_bodySF (plainFor_of_name pn_8) hisR ?_
  intro p e s m args below meth c s₁ Bd hml0 hP hK
  obtain ⟨rfl, hZ, hh⟩ := hP
  have hx := Bd.exec
  have hby := Bd.bytes
  have hlk : meth.locks = false := BodyLoose.notSynchronized Bd
  have hml : c.maxLocals = 1 := hml0
  have hown : s.vm.findClass "java/util/HashMap" = some m.cls := findClass_of_methodNamed Bd.named
  have hnm := (name_of_methodNamed Bd.named Bd.method).1
  have X0 : Stand p l e ({ frames := 2, cells := 0, slots := 0, locals := 24 } : Room) s m #[(.ref a1)] below meth c s₁ [] 0 0 := Stand.of_body Bd
  have e0 : s₁.heap = h0 := by rw [← hh, Bd.state]; rfl
  have N0 := Fr.nil n0
  show Gl p.tables e below (fun (o : Outcome) (U' : State) => ∃ v L, o = .returned v ∧ Q8 Z a1 h0 n0 v U'.heap L ∧ FrameEnd s o U' L ({ frames := 2, cells := 0, slots := 0, locals := 24 } : Room).cells ({ frames := 2, cells := 0, slots := 0, locals := 24 } : Room).slots) _
  refine Gl.pre (fun t k => castTop (ef_8 m a1) k) ?_
  obtain ⟨PP, hPP⟩ : ∃ P : Outcome → State → Prop, P = (fun (o : Outcome) (U' : State) => ∃ v L, o = .returned v ∧ Q8 Z a1 h0 n0 v U'.heap L ∧ FrameEnd s o U' L ({ frames := 2, cells := 0, slots := 0, locals := 24 } : Room).cells ({ frames := 2, cells := 0, slots := 0, locals := 24 } : Room).slots) := ⟨_, rfl⟩
  rw [← hPP]
  have K0 : Keep h0 h0 [a1] := Keep.refl h0 _
  show Gl p.tables e below PP (s₁.setTop (mkF m 0 #[.val (.ref a1)] []))
  refine Gl.pre (fun _ k => XS.aloadN X0.here hx rfl (hb hby d8_0) rfl rfl k) ?_
  show Gl p.tables e below PP (s₁.setTop (mkF m 1 #[.val (.ref a1)] [(.ref a1)]))
  obtain ⟨_, _, ⟨T1, L1, k1, n1⟩, -, X1, ⟨Lc1, hQ1, l1, y1, z1⟩, st1⟩ := X0.specialBack hx (y := (⟨"java/util/AbstractMap", "<init>", "()V"⟩ : MethodName)) rfl hown (mvT hZ (hw _ (List.mem_of_getElem? (i := 67) rfl))) (mvT hZ (hw _ (List.mem_of_getElem? (i := 68) rfl))) (mvT hZ (hw _ (List.mem_of_getElem? (i := 72) rfl))) (by decide) (backOf (W := 0) (rm9 l Z a0 hw [] a1 h0 n0 Z0 ) hZ (hw _ (List.mem_of_getElem? (i := 72) rfl)) (hw _ (List.mem_of_getElem? (i := 71) rfl)) (by decide) (by decide)) (g := (mkF m 1 #[.val (.ref a1)] [(.ref a1)])) rfl (by rw [hml]; rfl) (Steps.refl _) (a := a1) (argsL := []) (rest := []) (lenOf pd_0 rfl) rfl (by show 2 * 0 + _ ≤ _; exact Nat.le_of_eq rfl) (hb hby d8_1) (fun _ _ => ⟨rfl, e0, (by decide : 0 + 0 ≤ _), (by decide : 0 + 0 ≤ _)⟩)
  dsimp only [Pt.U, Pt.locs, Pt.cells, Pt.slots] at X1 l1 y1 z1 st1 hQ1
  subst l1 y1 z1
  obtain ⟨rfl, N1q, e1⟩ := hQ1
  have N1 := Fr.app N0 N1q
  refine Gl.pre (fun _ k => st1.trans k) ?_
  show Gl p.tables e below PP (T1.setTop (mkF m 4 #[.val (.ref a1)] []))
  refine Gl.pre (fun _ k => XS.aloadN X1.here hx rfl (hb hby d8_4) rfl rfl k) ?_
  show Gl p.tables e below PP (T1.setTop (mkF m 5 #[.val (.ref a1)] [(.ref a1)]))
  refine Gl.pre (fun _ k => X1.ldcFloatC hx hown (mvT hZ (hw _ (List.mem_of_getElem? (i := 74) rfl))) (g := (mkF m 5 #[.val (.ref a1)] [(.ref a1)])) rfl (hb hby d8_5) _ k) ?_
  show Gl p.tables e below PP (T1.setTop (mkF m 7 #[.val (.ref a1)] [(.float (1061158912 : UInt32)), (.ref a1)]))
  obtain ⟨T2, h2, X2, e2, W2, st2⟩ := putF X1 hx hZ hown (host := "") (Or.inl (hw _ (List.mem_of_getElem? (i := 75) rfl))) Via.refl e1 F_loadFactor_a1 E_a1 (Or.inr ⟨(hw _ (List.mem_of_getElem? (i := 76) rfl)), rfl, hnm⟩) (hw _ (List.mem_of_getElem? (i := 62) rfl)) (ty := .float) (by decide) rfl rfl (g := (mkF m 7 #[.val (.ref a1)] [(.float (1061158912 : UInt32)), (.ref a1)])) rfl rfl (hb hby d8_7)
  refine Gl.pre (fun _ k => st2 _ k) ?_
  have E_a1 := E_a1.wr W2
  have F_loadFactor_a1 := F_loadFactor_a1.same W2
  have F_keySet_a1 := F_keySet_a1.other W2 (Or.inr (slot_ne (Or.inl (hw _ (List.mem_of_getElem? (i := 182) rfl))) (Or.inr (hw _ (List.mem_of_getElem? (i := 76) rfl))) (by decide) (t := (.object "java/util/Set")) (t' := .float) (by decide) (by decide)))
  have F_modCount_a1 := F_modCount_a1.other W2 (Or.inr (slot_ne (Or.inl (hw _ (List.mem_of_getElem? (i := 221) rfl))) (Or.inr (hw _ (List.mem_of_getElem? (i := 76) rfl))) (by decide) (t := .int) (t' := .float) (by decide) (by decide)))
  have F_table_a1 := F_table_a1.other W2 (Or.inr (slot_ne (Or.inl (hw _ (List.mem_of_getElem? (i := 225) rfl))) (Or.inr (hw _ (List.mem_of_getElem? (i := 76) rfl))) (by decide) (t := (.array (.object "java/util/HashMap$Node"))) (t' := .float) (by decide) (by decide)))
  have Z2 : n0 ≤ h2.size := by rw [W2.size]; exact Z0
  have N2 := Fr.snoc X2 N1 g_a1
  have K2 := K0.wr W2 (Or.inl (List.mem_of_getElem? (i := 0) rfl))
  show Gl p.tables e below PP (T2.setTop (mkF m 10 #[.val (.ref a1)] []))
  rw [hPP]
  refine own_finV (Q := (Q8 Z a1 h0 n0)) X2 hx hlk Bd.returns (hb hby d8_10) ?_ (by decide) (by decide)
  show Q8 Z a1 h0 n0 _ T2.heap _
  rw [e2]
  exact ⟨rfl, N2, K2, F_keySet_a1, F_modCount_a1, F_table_a1⟩
theorem d1_0 : decode prog_10_method_1_code 0 = .ok (.aload_n 0, 1) := by decide +kernel
theorem d1_1 : decode prog_10_method_1_code 1 = .ok (.invokespecial 1, 3) := by decide +kernel
theorem d1_4 : decode prog_10_method_1_code 4 = .ok (.aload_n 0, 1) := by decide +kernel
theorem d1_5 : decode prog_10_method_1_code 5 = .ok (.new 7, 3) := by decide +kernel
theorem d1_8 : decode prog_10_method_1_code 8 = .ok (.dup, 1) := by decide +kernel
theorem d1_9 : decode prog_10_method_1_code 9 = .ok (.invokespecial 9, 3) := by decide +kernel
theorem d1_12 : decode prog_10_method_1_code 12 = .ok (.putfield 10, 3) := by decide +kernel
theorem d1_15 : decode prog_10_method_1_code 15 = .ok (.aload_n 0, 1) := by decide +kernel
theorem d1_16 : decode prog_10_method_1_code 16 = .ok (.new 7, 3) := by decide +kernel
theorem d1_19 : decode prog_10_method_1_code 19 = .ok (.dup, 1) := by decide +kernel
theorem d1_20 : decode prog_10_method_1_code 20 = .ok (.invokespecial 9, 3) := by decide +kernel
theorem d1_23 : decode prog_10_method_1_code 23 = .ok (.putfield 16, 3) := by decide +kernel
theorem d1_26 : decode prog_10_method_1_code 26 = .ok (.aload_n 0, 1) := by decide +kernel
theorem d1_27 : decode prog_10_method_1_code 27 = .ok (.new 7, 3) := by decide +kernel
theorem d1_30 : decode prog_10_method_1_code 30 = .ok (.dup, 1) := by decide +kernel
theorem d1_31 : decode prog_10_method_1_code 31 = .ok (.invokespecial 9, 3) := by decide +kernel
theorem d1_34 : decode prog_10_method_1_code 34 = .ok (.putfield 19, 3) := by decide +kernel
theorem d1_37 : decode prog_10_method_1_code 37 = .ok (.aload_n 0, 1) := by decide +kernel
theorem d1_38 : decode prog_10_method_1_code 38 = .ok (.invokestatic 22, 3) := by decide +kernel
theorem d1_41 : decode prog_10_method_1_code 41 = .ok (.putfield 28, 3) := by decide +kernel
theorem d1_44 : decode prog_10_method_1_code 44 = .ok (.aload_n 0, 1) := by decide +kernel
theorem d1_45 : decode prog_10_method_1_code 45 = .ok (.new 32, 3) := by decide +kernel
theorem d1_48 : decode prog_10_method_1_code 48 = .ok (.dup, 1) := by decide +kernel
theorem d1_49 : decode prog_10_method_1_code 49 = .ok (.invokespecial 34, 3) := by decide +kernel
theorem d1_52 : decode prog_10_method_1_code 52 = .ok (.putfield 35, 3) := by decide +kernel
theorem d1_55 : decode prog_10_method_1_code 55 = .ok (.aload_n 0, 1) := by decide +kernel
theorem d1_56 : decode prog_10_method_1_code 56 = .ok (.new 39, 3) := by decide +kernel
theorem d1_59 : decode prog_10_method_1_code 59 = .ok (.dup, 1) := by decide +kernel
theorem d1_60 : decode prog_10_method_1_code 60 = .ok (.invokespecial 41, 3) := by decide +kernel
theorem d1_63 : decode prog_10_method_1_code 63 = .ok (.putfield 42, 3) := by decide +kernel
theorem d1_66 : decode prog_10_method_1_code 66 = .ok (.aload_n 0, 1) := by decide +kernel
theorem d1_67 : decode prog_10_method_1_code 67 = .ok (.iload_n 1, 1) := by decide +kernel
theorem d1_68 : decode prog_10_method_1_code 68 = .ok (.putfield 45, 3) := by decide +kernel
theorem d1_71 : decode prog_10_method_1_code 71 = .ok (.aload_n 0, 1) := by decide +kernel
theorem d1_72 : decode prog_10_method_1_code 72 = .ok (.iload_n 2, 1) := by decide +kernel
theorem d1_73 : decode prog_10_method_1_code 73 = .ok (.putfield 49, 3) := by decide +kernel
theorem d1_76 : decode prog_10_method_1_code 76 = .ok (.return_, 1) := by decide +kernel
theorem pn_1 : plainName "com/example/rules_for_records/rulesforrecords/Evaluation" = true := by first | (simp [plainName, overriddenIn]; done) | decide +kernel
theorem ef_1 (m : MethodId) (a1 : Addr) (cf : Int32) (an : Int32) (dc : Addr) (em : Addr) : entryFrame m #[(.ref a1), (.int cf), (.int an)] 3 = mkF m 0 #[.val (.ref a1), .val (.int cf), .val (.int an)] [] := by first | (simp [entryFrame, mkF, argsToLocals, Value.category]; done) | rfl
def Q1 (Z : State) (a1 : Addr) (cf : Int32) (an : Int32) (dc : Addr) (em : Addr) (h0 : Heap) (n0 : Nat) (v : Option Value) (h : Heap) (L : List Loc) : Prop := v = none ∧ Fr n0 L ∧ Keep h0 h [a1] ∧ Fld Z h a1 "com/example/rules_for_records/rulesforrecords/Evaluation" "evaluated" "Lcom/example/rules_for_records/rulesforrecords/Evaluated;" .null ∧ Fld Z h a1 "com/example/rules_for_records/rulesforrecords/Evaluation" "annotating" "Z" (.int an)
set_option maxRecDepth 65536 in
set_option maxHeartbeats 40000000 in
theorem rm1 (l : Launch) (Z : State) (a0 : Array Value) (hw : ∀ d ∈ tables_1, d.before a0 Z = true) (ws : List Jvm.Cond) (a1 : Addr) (cf : Int32) (an : Int32) (dc : Addr) (em : Addr) (h0 : Heap) (n0 : Nat) (Z0 : n0 ≤ h0.size) (E_a1 : Exa Z h0 a1 "com/example/rules_for_records/rulesforrecords/Evaluation") (F_errors_a1 : Fld Z h0 a1 "com/example/rules_for_records/rulesforrecords/Evaluation" "errors" "Ljava/util/List;" .null) (F_secrets_a1 : Fld Z h0 a1 "com/example/rules_for_records/rulesforrecords/Evaluation" "secrets" "Ljava/util/List;" .null) (F_notes_a1 : Fld Z h0 a1 "com/example/rules_for_records/rulesforrecords/Evaluation" "notes" "Ljava/util/List;" .null) (F_scope_a1 : Fld Z h0 a1 "com/example/rules_for_records/rulesforrecords/Evaluation" "scope" "Ljava/util/Map;" .null) (F_outerScopes_a1 : Fld Z h0 a1 "com/example/rules_for_records/rulesforrecords/Evaluation" "outerScopes" "Ljava/util/Deque;" .null) (F_outcomes_a1 : Fld Z h0 a1 "com/example/rules_for_records/rulesforrecords/Evaluation" "outcomes" "Ljava/util/Map;" .null) (F_configuring_a1 : Fld Z h0 a1 "com/example/rules_for_records/rulesforrecords/Evaluation" "configuring" "Z" (.int (0 : Int32))) (F_annotating_a1 : Fld Z h0 a1 "com/example/rules_for_records/rulesforrecords/Evaluation" "annotating" "Z" (.int (0 : Int32))) (F_evaluated_a1 : Fld Z h0 a1 "com/example/rules_for_records/rulesforrecords/Evaluation" "evaluated" "Lcom/example/rules_for_records/rulesforrecords/Evaluated;" .null) (g_a1 : n0 ≤ a1) (hcf : cf = 0 ∨ cf = 1) (han : an = 0 ∨ an = 1) (SDC : Sta Z Z.heap "java/util/ArrayList" "DEFAULTCAPACITY_EMPTY_ELEMENTDATA" "[Ljava/lang/Object;" (.ref dc)) (SEM : Sta Z Z.heap "java/util/ImmutableCollections" "EMPTY_MAP" "Ljava/util/ImmutableCollections$MapN;" (.ref em)) (O_ : Old Z n0 h0) :
    MetFree l (⟨"com/example/rules_for_records/rulesforrecords/Evaluation", "<init>", "(ZZ)V"⟩ : MethodName) (head1 (Jvm.Cond.code (⟨"com/example/rules_for_records/rulesforrecords/Evaluation", "<init>", "(ZZ)V"⟩ : MethodName) prog_10_method_1_code 3 none :: ws) ({ frames := 4, cells := 6, slots := 37, locals := 50 } : Room)) (fun a U => a = #[(.ref a1), (.int cf), (.int an)] ∧ Z.Warmed39 U.vm ∧ U.heap = h0) (fun _ _ _ _ _ => True) (fun _ U o U' => ∃ v L, o = .returned v ∧ Q1 Z a1 cf an dc em h0 n0 v U'.heap L ∧ FrameEnd U o U' L ({ frames := 4, cells := 6, slots := 37, locals := 50 } : Room).cells ({ frames := 4, cells := 6, slots := 37, locals := 50 } : Room).slots) := by
  refine MetFree.of_bodySF (plainFor_of_name pn_1) hisR ?_
  intro p e s m args below meth c s₁ Bd hml0 hP hK
  obtain ⟨rfl, hZ, hh⟩ := hP
  have hx := Bd.exec
  have hby := Bd.bytes
  have hlk : meth.locks = false := BodyLoose.notSynchronized Bd
  have hml : c.maxLocals = 3 := hml0
  have hown : s.vm.findClass "com/example/rules_for_records/rulesforrecords/Evaluation" = some m.cls := findClass_of_methodNamed Bd.named
  have hnm := (name_of_methodNamed Bd.named Bd.method).1
  have X0 : Stand p l e ({ frames := 4, cells := 6, slots := 37, locals := 50 } : Room) s m #[(.ref a1), (.int cf), (.int an)] below meth c s₁ [] 0 0 := Stand.of_body Bd
  have e0 : s₁.heap = h0 := by rw [← hh, Bd.state]; rfl
  have N0 := Fr.nil n0
  show Gl p.tables e below (fun (o : Outcome) (U' : State) => ∃ v L, o = .returned v ∧ Q1 Z a1 cf an dc em h0 n0 v U'.heap L ∧ FrameEnd s o U' L ({ frames := 4, cells := 6, slots := 37, locals := 50 } : Room).cells ({ frames := 4, cells := 6, slots := 37, locals := 50 } : Room).slots) _
  refine Gl.pre (fun t k => castTop (ef_1 m a1 cf an dc em) k) ?_
  obtain ⟨PP, hPP⟩ : ∃ P : Outcome → State → Prop, P = (fun (o : Outcome) (U' : State) => ∃ v L, o = .returned v ∧ Q1 Z a1 cf an dc em h0 n0 v U'.heap L ∧ FrameEnd s o U' L ({ frames := 4, cells := 6, slots := 37, locals := 50 } : Room).cells ({ frames := 4, cells := 6, slots := 37, locals := 50 } : Room).slots) := ⟨_, rfl⟩
  rw [← hPP]
  have K0 : Keep h0 h0 [a1] := Keep.refl h0 _
  show Gl p.tables e below PP (s₁.setTop (mkF m 0 #[.val (.ref a1), .val (.int cf), .val (.int an)] []))
  refine Gl.pre (fun _ k => XS.aloadN X0.here hx rfl (hb hby d1_0) rfl rfl k) ?_
  show Gl p.tables e below PP (s₁.setTop (mkF m 1 #[.val (.ref a1), .val (.int cf), .val (.int an)] [(.ref a1)]))
  obtain ⟨T1, X1, e1, st1⟩ := initO X0 hx hZ hown (hw _ (List.mem_of_getElem? (i := 6) rfl)) (hw _ (List.mem_of_getElem? (i := 7) rfl)) (hw _ (List.mem_of_getElem? (i := 8) rfl)) e0 (g := (mkF m 1 #[.val (.ref a1), .val (.int cf), .val (.int an)] [(.ref a1)])) rfl (by rw [hml]; rfl) rfl (hb hby d1_1) (by decide) (W := 0) (by show 2 * 0 + _ ≤ _; exact Nat.le_of_eq rfl) (by decide)
  refine Gl.pre (fun _ k => st1 _ k) ?_
  show Gl p.tables e below PP (T1.setTop (mkF m 4 #[.val (.ref a1), .val (.int cf), .val (.int an)] []))
  refine Gl.pre (fun _ k => XS.aloadN X1.here hx rfl (hb hby d1_4) rfl rfl k) ?_
  show Gl p.tables e below PP (T1.setTop (mkF m 5 #[.val (.ref a1), .val (.int cf), .val (.int an)] [(.ref a1)]))
  obtain ⟨T2, h2, X2, e2, E2, A2, D2, -, st2⟩ := newO X1 hx hZ hown (hw _ (List.mem_of_getElem? (i := 9) rfl)) (hw _ (List.mem_of_getElem? (i := 10) rfl)) (hw _ (List.mem_of_getElem? (i := 11) rfl)) e1 (g := (mkF m 5 #[.val (.ref a1), .val (.int cf), .val (.int an)] [(.ref a1)])) rfl (hb hby d1_5) (by decide) (by decide)
  obtain ⟨b2, g2⟩ : ∃ z, z = h0.size := ⟨_, rfl⟩
  rw [← g2] at A2 D2 st2
  refine Gl.pre (fun _ k => st2 _ k) ?_
  have own_ne_a1_b2 : a1 ≠ b2 := by have q := E_a1.lt; rw [g2]; exact Nat.ne_of_lt q
  have own_ne_b2_a1 : b2 ≠ a1 := own_ne_a1_b2.symm
  have g_b2 : n0 ≤ b2 := Nat.le_trans Z0 (Nat.le_of_eq g2.symm)
  have sz_b2 : h0.size ≤ b2 := Nat.le_trans K0.1 (Nat.le_of_eq g2.symm)
  have E_a1 := E_a1.ext E2
  have F_errors_a1 := F_errors_a1.ext E2
  have F_secrets_a1 := F_secrets_a1.ext E2
  have F_notes_a1 := F_notes_a1.ext E2
  have F_scope_a1 := F_scope_a1.ext E2
  have F_outerScopes_a1 := F_outerScopes_a1.ext E2
  have F_outcomes_a1 := F_outcomes_a1.ext E2
  have F_configuring_a1 := F_configuring_a1.ext E2
  have F_annotating_a1 := F_annotating_a1.ext E2
  have F_evaluated_a1 := F_evaluated_a1.ext E2
  have O_ := O_.ext E2
  have Z2 : n0 ≤ h2.size := Nat.le_trans Z0 E2.1
  have K2 := K0.ext E2
  have E_b2 := A2
  have F_modCount_b2 : Fld Z h2 b2 "java/util/AbstractList" "modCount" "I" (.int (0 : Int32)) := D2 (Or.inl (hw _ (List.mem_of_getElem? (i := 29) rfl))) (ty := .int) (by decide)
  have F_elementData_b2 : Fld Z h2 b2 "java/util/ArrayList" "elementData" "[Ljava/lang/Object;" .null := D2 (Or.inl (hw _ (List.mem_of_getElem? (i := 32) rfl))) (ty := (.array (.object "java/lang/Object"))) (by decide)
  show Gl p.tables e below PP (T2.setTop (mkF m 8 #[.val (.ref a1), .val (.int cf), .val (.int an)] [(.ref b2), (.ref a1)]))
  refine Gl.pre (fun _ k => XS.dup X2.here hx rfl (hb hby d1_8) rfl rfl k) ?_
  show Gl p.tables e below PP (T2.setTop (mkF m 9 #[.val (.ref a1), .val (.int cf), .val (.int an)] [(.ref b2), (.ref b2), (.ref a1)]))
  obtain ⟨_, _, ⟨T3, L3, k3, n3⟩, -, X3, ⟨Lc3, hQ3, l3, y3, z3⟩, st3⟩ := X2.specialBack hx (y := (⟨"java/util/ArrayList", "<init>", "()V"⟩ : MethodName)) rfl hown (mvT hZ (hw _ (List.mem_of_getElem? (i := 12) rfl))) (mvT hZ (hw _ (List.mem_of_getElem? (i := 13) rfl))) (mvT hZ (hw _ (List.mem_of_getElem? (i := 14) rfl))) (by decide) (backOf (W := 2) (rm3 l Z a0 hw [] b2 dc h2 n0 Z2 E_b2 F_modCount_b2 F_elementData_b2 g_b2 SDC O_) hZ (hw _ (List.mem_of_getElem? (i := 14) rfl)) (hw _ (List.mem_of_getElem? (i := 11) rfl)) (by decide) (by decide)) (g := (mkF m 9 #[.val (.ref a1), .val (.int cf), .val (.int an)] [(.ref b2), (.ref b2), (.ref a1)])) rfl (by rw [hml]; rfl) (Steps.refl _) (a := b2) (argsL := []) (rest := [(.ref b2), (.ref a1)]) (lenOf pd_0 rfl) rfl (by show 2 * 0 + _ ≤ _; exact Nat.le_of_eq rfl) (hb hby d1_9) (fun _ _ => ⟨rfl, e2, (by decide : 1 + 0 ≤ _), (by decide : 3 + 0 ≤ _)⟩)
  dsimp only [Pt.U, Pt.locs, Pt.cells, Pt.slots] at X3 l3 y3 z3 st3 hQ3
  subst l3 y3 z3
  obtain ⟨rfl, N3q, K3⟩ := hQ3
  have N3 := Fr.app N0 N3q
  refine Gl.pre (fun _ k => st3.trans k) ?_
  have E_a1 := E_a1.keep K3
  have F_errors_a1 := F_errors_a1.keep K3 (ninS (own_ne_a1_b2) nin0)
  have F_secrets_a1 := F_secrets_a1.keep K3 (ninS (own_ne_a1_b2) nin0)
  have F_notes_a1 := F_notes_a1.keep K3 (ninS (own_ne_a1_b2) nin0)
  have F_scope_a1 := F_scope_a1.keep K3 (ninS (own_ne_a1_b2) nin0)
  have F_outerScopes_a1 := F_outerScopes_a1.keep K3 (ninS (own_ne_a1_b2) nin0)
  have F_outcomes_a1 := F_outcomes_a1.keep K3 (ninS (own_ne_a1_b2) nin0)
  have F_configuring_a1 := F_configuring_a1.keep K3 (ninS (own_ne_a1_b2) nin0)
  have F_annotating_a1 := F_annotating_a1.keep K3 (ninS (own_ne_a1_b2) nin0)
  have F_evaluated_a1 := F_evaluated_a1.keep K3 (ninS (own_ne_a1_b2) nin0)
  have O_ := O_.keep K3 (allS g_b2 all0)
  have E_b2 := E_b2.keep K3
  have Z3 : n0 ≤ T3.heap.size := Nat.le_trans Z2 K3.1
  have K3k := K2.trans K3 (allS (Or.inr sz_b2) all0)
  show Gl p.tables e below PP (T3.setTop (mkF m 12 #[.val (.ref a1), .val (.int cf), .val (.int an)] [(.ref b2), (.ref a1)]))
  obtain ⟨T4, h4, X4, e4, W4, st4⟩ := putF X3 hx hZ hown (host := "") (Or.inl (hw _ (List.mem_of_getElem? (i := 33) rfl))) Via.refl rfl F_errors_a1 E_a1 (Or.inr ⟨(hw _ (List.mem_of_getElem? (i := 34) rfl)), rfl, hnm⟩) (hw _ (List.mem_of_getElem? (i := 1) rfl)) (ty := (.object "java/util/List")) (by decide) rfl rfl (g := (mkF m 12 #[.val (.ref a1), .val (.int cf), .val (.int an)] [(.ref b2), (.ref a1)])) rfl rfl (hb hby d1_12)
  refine Gl.pre (fun _ k => st4 _ k) ?_
  have E_a1 := E_a1.wr W4
  have F_errors_a1 := F_errors_a1.same W4
  have F_secrets_a1 := F_secrets_a1.other W4 (Or.inr (slot_ne (Or.inr (hw _ (List.mem_of_getElem? (i := 36) rfl))) (Or.inr (hw _ (List.mem_of_getElem? (i := 34) rfl))) (by decide) (t := (.object "java/util/List")) (t' := (.object "java/util/List")) (by decide) (by decide)))
  have F_notes_a1 := F_notes_a1.other W4 (Or.inr (slot_ne (Or.inr (hw _ (List.mem_of_getElem? (i := 38) rfl))) (Or.inr (hw _ (List.mem_of_getElem? (i := 34) rfl))) (by decide) (t := (.object "java/util/List")) (t' := (.object "java/util/List")) (by decide) (by decide)))
  have F_scope_a1 := F_scope_a1.other W4 (Or.inr (slot_ne (Or.inl (hw _ (List.mem_of_getElem? (i := 46) rfl))) (Or.inr (hw _ (List.mem_of_getElem? (i := 34) rfl))) (by decide) (t := (.object "java/util/Map")) (t' := (.object "java/util/List")) (by decide) (by decide)))
  have F_outerScopes_a1 := F_outerScopes_a1.other W4 (Or.inr (slot_ne (Or.inr (hw _ (List.mem_of_getElem? (i := 60) rfl))) (Or.inr (hw _ (List.mem_of_getElem? (i := 34) rfl))) (by decide) (t := (.object "java/util/Deque")) (t' := (.object "java/util/List")) (by decide) (by decide)))
  have F_outcomes_a1 := F_outcomes_a1.other W4 (Or.inr (slot_ne (Or.inr (hw _ (List.mem_of_getElem? (i := 78) rfl))) (Or.inr (hw _ (List.mem_of_getElem? (i := 34) rfl))) (by decide) (t := (.object "java/util/Map")) (t' := (.object "java/util/List")) (by decide) (by decide)))
  have F_configuring_a1 := F_configuring_a1.other W4 (Or.inr (slot_ne (Or.inr (hw _ (List.mem_of_getElem? (i := 80) rfl))) (Or.inr (hw _ (List.mem_of_getElem? (i := 34) rfl))) (by decide) (t := .boolean) (t' := (.object "java/util/List")) (by decide) (by decide)))
  have F_annotating_a1 := F_annotating_a1.other W4 (Or.inr (slot_ne (Or.inr (hw _ (List.mem_of_getElem? (i := 82) rfl))) (Or.inr (hw _ (List.mem_of_getElem? (i := 34) rfl))) (by decide) (t := .boolean) (t' := (.object "java/util/List")) (by decide) (by decide)))
  have F_evaluated_a1 := F_evaluated_a1.other W4 (Or.inr (slot_ne (Or.inl (hw _ (List.mem_of_getElem? (i := 89) rfl))) (Or.inr (hw _ (List.mem_of_getElem? (i := 34) rfl))) (by decide) (t := (.object "com/example/rules_for_records/rulesforrecords/Evaluated")) (t' := (.object "java/util/List")) (by decide) (by decide)))
  have O_ := O_.wr W4 g_a1
  have E_b2 := E_b2.wr W4
  have Z4 : n0 ≤ h4.size := by rw [W4.size]; exact Z3
  have N4 := Fr.snoc X4 N3 g_a1
  have K4 := K3k.wr W4 (Or.inl (List.mem_of_getElem? (i := 0) rfl))
  show Gl p.tables e below PP (T4.setTop (mkF m 15 #[.val (.ref a1), .val (.int cf), .val (.int an)] []))
  refine Gl.pre (fun _ k => XS.aloadN X4.here hx rfl (hb hby d1_15) rfl rfl k) ?_
  show Gl p.tables e below PP (T4.setTop (mkF m 16 #[.val (.ref a1), .val (.int cf), .val (.int an)] [(.ref a1)]))
  obtain ⟨T5, h5, X5, e5, E5, A5, D5, -, st5⟩ := newO X4 hx hZ hown (hw _ (List.mem_of_getElem? (i := 9) rfl)) (hw _ (List.mem_of_getElem? (i := 10) rfl)) (hw _ (List.mem_of_getElem? (i := 11) rfl)) e4 (g := (mkF m 16 #[.val (.ref a1), .val (.int cf), .val (.int an)] [(.ref a1)])) rfl (hb hby d1_16) (by decide) (by decide)
  obtain ⟨b5, g5⟩ : ∃ z, z = h4.size := ⟨_, rfl⟩
  rw [← g5] at A5 D5 st5
  refine Gl.pre (fun _ k => st5 _ k) ?_
  have own_ne_a1_b5 : a1 ≠ b5 := by have q := E_a1.lt; rw [g5]; exact Nat.ne_of_lt q
  have own_ne_b5_a1 : b5 ≠ a1 := own_ne_a1_b5.symm
  have own_ne_b2_b5 : b2 ≠ b5 := by have q := E_b2.lt; rw [g5]; exact Nat.ne_of_lt q
  have own_ne_b5_b2 : b5 ≠ b2 := own_ne_b2_b5.symm
  have g_b5 : n0 ≤ b5 := Nat.le_trans Z4 (Nat.le_of_eq g5.symm)
  have sz_b5 : h0.size ≤ b5 := Nat.le_trans K4.1 (Nat.le_of_eq g5.symm)
  have E_a1 := E_a1.ext E5
  have F_errors_a1 := F_errors_a1.ext E5
  have F_secrets_a1 := F_secrets_a1.ext E5
  have F_notes_a1 := F_notes_a1.ext E5
  have F_scope_a1 := F_scope_a1.ext E5
  have F_outerScopes_a1 := F_outerScopes_a1.ext E5
  have F_outcomes_a1 := F_outcomes_a1.ext E5
  have F_configuring_a1 := F_configuring_a1.ext E5
  have F_annotating_a1 := F_annotating_a1.ext E5
  have F_evaluated_a1 := F_evaluated_a1.ext E5
  have O_ := O_.ext E5
  have E_b2 := E_b2.ext E5
  have Z5 : n0 ≤ h5.size := Nat.le_trans Z4 E5.1
  have K5 := K4.ext E5
  have E_b5 := A5
  have F_modCount_b5 : Fld Z h5 b5 "java/util/AbstractList" "modCount" "I" (.int (0 : Int32)) := D5 (Or.inl (hw _ (List.mem_of_getElem? (i := 29) rfl))) (ty := .int) (by decide)
  have F_elementData_b5 : Fld Z h5 b5 "java/util/ArrayList" "elementData" "[Ljava/lang/Object;" .null := D5 (Or.inl (hw _ (List.mem_of_getElem? (i := 32) rfl))) (ty := (.array (.object "java/lang/Object"))) (by decide)
  show Gl p.tables e below PP (T5.setTop (mkF m 19 #[.val (.ref a1), .val (.int cf), .val (.int an)] [(.ref b5), (.ref a1)]))
  refine Gl.pre (fun _ k => XS.dup X5.here hx rfl (hb hby d1_19) rfl rfl k) ?_
  show Gl p.tables e below PP (T5.setTop (mkF m 20 #[.val (.ref a1), .val (.int cf), .val (.int an)] [(.ref b5), (.ref b5), (.ref a1)]))
  obtain ⟨_, _, ⟨T6, L6, k6, n6⟩, -, X6, ⟨Lc6, hQ6, l6, y6, z6⟩, st6⟩ := X5.specialBack hx (y := (⟨"java/util/ArrayList", "<init>", "()V"⟩ : MethodName)) rfl hown (mvT hZ (hw _ (List.mem_of_getElem? (i := 12) rfl))) (mvT hZ (hw _ (List.mem_of_getElem? (i := 13) rfl))) (mvT hZ (hw _ (List.mem_of_getElem? (i := 14) rfl))) (by decide) (backOf (W := 2) (rm3 l Z a0 hw [] b5 dc h5 n0 Z5 E_b5 F_modCount_b5 F_elementData_b5 g_b5 SDC O_) hZ (hw _ (List.mem_of_getElem? (i := 14) rfl)) (hw _ (List.mem_of_getElem? (i := 11) rfl)) (by decide) (by decide)) (g := (mkF m 20 #[.val (.ref a1), .val (.int cf), .val (.int an)] [(.ref b5), (.ref b5), (.ref a1)])) rfl (by rw [hml]; rfl) (Steps.refl _) (a := b5) (argsL := []) (rest := [(.ref b5), (.ref a1)]) (lenOf pd_0 rfl) rfl (by show 2 * 0 + _ ≤ _; exact Nat.le_of_eq rfl) (hb hby d1_20) (fun _ _ => ⟨rfl, e5, (by decide : 2 + 0 ≤ _), (by decide : 6 + 0 ≤ _)⟩)
  dsimp only [Pt.U, Pt.locs, Pt.cells, Pt.slots] at X6 l6 y6 z6 st6 hQ6
  subst l6 y6 z6
  obtain ⟨rfl, N6q, K6⟩ := hQ6
  have N6 := Fr.app N4 N6q
  refine Gl.pre (fun _ k => st6.trans k) ?_
  have E_a1 := E_a1.keep K6
  have F_errors_a1 := F_errors_a1.keep K6 (ninS (own_ne_a1_b5) nin0)
  have F_secrets_a1 := F_secrets_a1.keep K6 (ninS (own_ne_a1_b5) nin0)
  have F_notes_a1 := F_notes_a1.keep K6 (ninS (own_ne_a1_b5) nin0)
  have F_scope_a1 := F_scope_a1.keep K6 (ninS (own_ne_a1_b5) nin0)
  have F_outerScopes_a1 := F_outerScopes_a1.keep K6 (ninS (own_ne_a1_b5) nin0)
  have F_outcomes_a1 := F_outcomes_a1.keep K6 (ninS (own_ne_a1_b5) nin0)
  have F_configuring_a1 := F_configuring_a1.keep K6 (ninS (own_ne_a1_b5) nin0)
  have F_annotating_a1 := F_annotating_a1.keep K6 (ninS (own_ne_a1_b5) nin0)
  have F_evaluated_a1 := F_evaluated_a1.keep K6 (ninS (own_ne_a1_b5) nin0)
  have O_ := O_.keep K6 (allS g_b5 all0)
  have E_b2 := E_b2.keep K6
  have E_b5 := E_b5.keep K6
  have Z6 : n0 ≤ T6.heap.size := Nat.le_trans Z5 K6.1
  have K6k := K5.trans K6 (allS (Or.inr sz_b5) all0)
  show Gl p.tables e below PP (T6.setTop (mkF m 23 #[.val (.ref a1), .val (.int cf), .val (.int an)] [(.ref b5), (.ref a1)]))
  obtain ⟨T7, h7, X7, e7, W7, st7⟩ := putF X6 hx hZ hown (host := "") (Or.inl (hw _ (List.mem_of_getElem? (i := 35) rfl))) Via.refl rfl F_secrets_a1 E_a1 (Or.inr ⟨(hw _ (List.mem_of_getElem? (i := 36) rfl)), rfl, hnm⟩) (hw _ (List.mem_of_getElem? (i := 1) rfl)) (ty := (.object "java/util/List")) (by decide) rfl rfl (g := (mkF m 23 #[.val (.ref a1), .val (.int cf), .val (.int an)] [(.ref b5), (.ref a1)])) rfl rfl (hb hby d1_23)
  refine Gl.pre (fun _ k => st7 _ k) ?_
  have E_a1 := E_a1.wr W7
  have F_errors_a1 := F_errors_a1.other W7 (Or.inr (slot_ne (Or.inr (hw _ (List.mem_of_getElem? (i := 34) rfl))) (Or.inr (hw _ (List.mem_of_getElem? (i := 36) rfl))) (by decide) (t := (.object "java/util/List")) (t' := (.object "java/util/List")) (by decide) (by decide)))
  have F_secrets_a1 := F_secrets_a1.same W7
  have F_notes_a1 := F_notes_a1.other W7 (Or.inr (slot_ne (Or.inr (hw _ (List.mem_of_getElem? (i := 38) rfl))) (Or.inr (hw _ (List.mem_of_getElem? (i := 36) rfl))) (by decide) (t := (.object "java/util/List")) (t' := (.object "java/util/List")) (by decide) (by decide)))
  have F_scope_a1 := F_scope_a1.other W7 (Or.inr (slot_ne (Or.inl (hw _ (List.mem_of_getElem? (i := 46) rfl))) (Or.inr (hw _ (List.mem_of_getElem? (i := 36) rfl))) (by decide) (t := (.object "java/util/Map")) (t' := (.object "java/util/List")) (by decide) (by decide)))
  have F_outerScopes_a1 := F_outerScopes_a1.other W7 (Or.inr (slot_ne (Or.inr (hw _ (List.mem_of_getElem? (i := 60) rfl))) (Or.inr (hw _ (List.mem_of_getElem? (i := 36) rfl))) (by decide) (t := (.object "java/util/Deque")) (t' := (.object "java/util/List")) (by decide) (by decide)))
  have F_outcomes_a1 := F_outcomes_a1.other W7 (Or.inr (slot_ne (Or.inr (hw _ (List.mem_of_getElem? (i := 78) rfl))) (Or.inr (hw _ (List.mem_of_getElem? (i := 36) rfl))) (by decide) (t := (.object "java/util/Map")) (t' := (.object "java/util/List")) (by decide) (by decide)))
  have F_configuring_a1 := F_configuring_a1.other W7 (Or.inr (slot_ne (Or.inr (hw _ (List.mem_of_getElem? (i := 80) rfl))) (Or.inr (hw _ (List.mem_of_getElem? (i := 36) rfl))) (by decide) (t := .boolean) (t' := (.object "java/util/List")) (by decide) (by decide)))
  have F_annotating_a1 := F_annotating_a1.other W7 (Or.inr (slot_ne (Or.inr (hw _ (List.mem_of_getElem? (i := 82) rfl))) (Or.inr (hw _ (List.mem_of_getElem? (i := 36) rfl))) (by decide) (t := .boolean) (t' := (.object "java/util/List")) (by decide) (by decide)))
  have F_evaluated_a1 := F_evaluated_a1.other W7 (Or.inr (slot_ne (Or.inl (hw _ (List.mem_of_getElem? (i := 89) rfl))) (Or.inr (hw _ (List.mem_of_getElem? (i := 36) rfl))) (by decide) (t := (.object "com/example/rules_for_records/rulesforrecords/Evaluated")) (t' := (.object "java/util/List")) (by decide) (by decide)))
  have O_ := O_.wr W7 g_a1
  have E_b2 := E_b2.wr W7
  have E_b5 := E_b5.wr W7
  have Z7 : n0 ≤ h7.size := by rw [W7.size]; exact Z6
  have N7 := Fr.snoc X7 N6 g_a1
  have K7 := K6k.wr W7 (Or.inl (List.mem_of_getElem? (i := 0) rfl))
  show Gl p.tables e below PP (T7.setTop (mkF m 26 #[.val (.ref a1), .val (.int cf), .val (.int an)] []))
  refine Gl.pre (fun _ k => XS.aloadN X7.here hx rfl (hb hby d1_26) rfl rfl k) ?_
  show Gl p.tables e below PP (T7.setTop (mkF m 27 #[.val (.ref a1), .val (.int cf), .val (.int an)] [(.ref a1)]))
  obtain ⟨T8, h8, X8, e8, E8, A8, D8, -, st8⟩ := newO X7 hx hZ hown (hw _ (List.mem_of_getElem? (i := 9) rfl)) (hw _ (List.mem_of_getElem? (i := 10) rfl)) (hw _ (List.mem_of_getElem? (i := 11) rfl)) e7 (g := (mkF m 27 #[.val (.ref a1), .val (.int cf), .val (.int an)] [(.ref a1)])) rfl (hb hby d1_27) (by decide) (by decide)
  obtain ⟨b8, g8⟩ : ∃ z, z = h7.size := ⟨_, rfl⟩
  rw [← g8] at A8 D8 st8
  refine Gl.pre (fun _ k => st8 _ k) ?_
  have own_ne_a1_b8 : a1 ≠ b8 := by have q := E_a1.lt; rw [g8]; exact Nat.ne_of_lt q
  have own_ne_b8_a1 : b8 ≠ a1 := own_ne_a1_b8.symm
  have own_ne_b2_b8 : b2 ≠ b8 := by have q := E_b2.lt; rw [g8]; exact Nat.ne_of_lt q
  have own_ne_b8_b2 : b8 ≠ b2 := own_ne_b2_b8.symm
  have own_ne_b5_b8 : b5 ≠ b8 := by have q := E_b5.lt; rw [g8]; exact Nat.ne_of_lt q
  have own_ne_b8_b5 : b8 ≠ b5 := own_ne_b5_b8.symm
  have g_b8 : n0 ≤ b8 := Nat.le_trans Z7 (Nat.le_of_eq g8.symm)
  have sz_b8 : h0.size ≤ b8 := Nat.le_trans K7.1 (Nat.le_of_eq g8.symm)
  have E_a1 := E_a1.ext E8
  have F_errors_a1 := F_errors_a1.ext E8
  have F_secrets_a1 := F_secrets_a1.ext E8
  have F_notes_a1 := F_notes_a1.ext E8
  have F_scope_a1 := F_scope_a1.ext E8
  have F_outerScopes_a1 := F_outerScopes_a1.ext E8
  have F_outcomes_a1 := F_outcomes_a1.ext E8
  have F_configuring_a1 := F_configuring_a1.ext E8
  have F_annotating_a1 := F_annotating_a1.ext E8
  have F_evaluated_a1 := F_evaluated_a1.ext E8
  have O_ := O_.ext E8
  have E_b2 := E_b2.ext E8
  have E_b5 := E_b5.ext E8
  have Z8 : n0 ≤ h8.size := Nat.le_trans Z7 E8.1
  have K8 := K7.ext E8
  have E_b8 := A8
  have F_modCount_b8 : Fld Z h8 b8 "java/util/AbstractList" "modCount" "I" (.int (0 : Int32)) := D8 (Or.inl (hw _ (List.mem_of_getElem? (i := 29) rfl))) (ty := .int) (by decide)
  have F_elementData_b8 : Fld Z h8 b8 "java/util/ArrayList" "elementData" "[Ljava/lang/Object;" .null := D8 (Or.inl (hw _ (List.mem_of_getElem? (i := 32) rfl))) (ty := (.array (.object "java/lang/Object"))) (by decide)
  show Gl p.tables e below PP (T8.setTop (mkF m 30 #[.val (.ref a1), .val (.int cf), .val (.int an)] [(.ref b8), (.ref a1)]))
  refine Gl.pre (fun _ k => XS.dup X8.here hx rfl (hb hby d1_30) rfl rfl k) ?_
  show Gl p.tables e below PP (T8.setTop (mkF m 31 #[.val (.ref a1), .val (.int cf), .val (.int an)] [(.ref b8), (.ref b8), (.ref a1)]))
  obtain ⟨_, _, ⟨T9, L9, k9, n9⟩, -, X9, ⟨Lc9, hQ9, l9, y9, z9⟩, st9⟩ := X8.specialBack hx (y := (⟨"java/util/ArrayList", "<init>", "()V"⟩ : MethodName)) rfl hown (mvT hZ (hw _ (List.mem_of_getElem? (i := 12) rfl))) (mvT hZ (hw _ (List.mem_of_getElem? (i := 13) rfl))) (mvT hZ (hw _ (List.mem_of_getElem? (i := 14) rfl))) (by decide) (backOf (W := 2) (rm3 l Z a0 hw [] b8 dc h8 n0 Z8 E_b8 F_modCount_b8 F_elementData_b8 g_b8 SDC O_) hZ (hw _ (List.mem_of_getElem? (i := 14) rfl)) (hw _ (List.mem_of_getElem? (i := 11) rfl)) (by decide) (by decide)) (g := (mkF m 31 #[.val (.ref a1), .val (.int cf), .val (.int an)] [(.ref b8), (.ref b8), (.ref a1)])) rfl (by rw [hml]; rfl) (Steps.refl _) (a := b8) (argsL := []) (rest := [(.ref b8), (.ref a1)]) (lenOf pd_0 rfl) rfl (by show 2 * 0 + _ ≤ _; exact Nat.le_of_eq rfl) (hb hby d1_31) (fun _ _ => ⟨rfl, e8, (by decide : 3 + 0 ≤ _), (by decide : 9 + 0 ≤ _)⟩)
  dsimp only [Pt.U, Pt.locs, Pt.cells, Pt.slots] at X9 l9 y9 z9 st9 hQ9
  subst l9 y9 z9
  obtain ⟨rfl, N9q, K9⟩ := hQ9
  have N9 := Fr.app N7 N9q
  refine Gl.pre (fun _ k => st9.trans k) ?_
  have E_a1 := E_a1.keep K9
  have F_errors_a1 := F_errors_a1.keep K9 (ninS (own_ne_a1_b8) nin0)
  have F_secrets_a1 := F_secrets_a1.keep K9 (ninS (own_ne_a1_b8) nin0)
  have F_notes_a1 := F_notes_a1.keep K9 (ninS (own_ne_a1_b8) nin0)
  have F_scope_a1 := F_scope_a1.keep K9 (ninS (own_ne_a1_b8) nin0)
  have F_outerScopes_a1 := F_outerScopes_a1.keep K9 (ninS (own_ne_a1_b8) nin0)
  have F_outcomes_a1 := F_outcomes_a1.keep K9 (ninS (own_ne_a1_b8) nin0)
  have F_configuring_a1 := F_configuring_a1.keep K9 (ninS (own_ne_a1_b8) nin0)
  have F_annotating_a1 := F_annotating_a1.keep K9 (ninS (own_ne_a1_b8) nin0)
  have F_evaluated_a1 := F_evaluated_a1.keep K9 (ninS (own_ne_a1_b8) nin0)
  have O_ := O_.keep K9 (allS g_b8 all0)
  have E_b2 := E_b2.keep K9
  have E_b5 := E_b5.keep K9
  have E_b8 := E_b8.keep K9
  have Z9 : n0 ≤ T9.heap.size := Nat.le_trans Z8 K9.1
  have K9k := K8.trans K9 (allS (Or.inr sz_b8) all0)
  show Gl p.tables e below PP (T9.setTop (mkF m 34 #[.val (.ref a1), .val (.int cf), .val (.int an)] [(.ref b8), (.ref a1)]))
  obtain ⟨T10, h10, X10, e10, W10, st10⟩ := putF X9 hx hZ hown (host := "") (Or.inl (hw _ (List.mem_of_getElem? (i := 37) rfl))) Via.refl rfl F_notes_a1 E_a1 (Or.inr ⟨(hw _ (List.mem_of_getElem? (i := 38) rfl)), rfl, hnm⟩) (hw _ (List.mem_of_getElem? (i := 1) rfl)) (ty := (.object "java/util/List")) (by decide) rfl rfl (g := (mkF m 34 #[.val (.ref a1), .val (.int cf), .val (.int an)] [(.ref b8), (.ref a1)])) rfl rfl (hb hby d1_34)
  refine Gl.pre (fun _ k => st10 _ k) ?_
  have E_a1 := E_a1.wr W10
  have F_errors_a1 := F_errors_a1.other W10 (Or.inr (slot_ne (Or.inr (hw _ (List.mem_of_getElem? (i := 34) rfl))) (Or.inr (hw _ (List.mem_of_getElem? (i := 38) rfl))) (by decide) (t := (.object "java/util/List")) (t' := (.object "java/util/List")) (by decide) (by decide)))
  have F_secrets_a1 := F_secrets_a1.other W10 (Or.inr (slot_ne (Or.inr (hw _ (List.mem_of_getElem? (i := 36) rfl))) (Or.inr (hw _ (List.mem_of_getElem? (i := 38) rfl))) (by decide) (t := (.object "java/util/List")) (t' := (.object "java/util/List")) (by decide) (by decide)))
  have F_notes_a1 := F_notes_a1.same W10
  have F_scope_a1 := F_scope_a1.other W10 (Or.inr (slot_ne (Or.inl (hw _ (List.mem_of_getElem? (i := 46) rfl))) (Or.inr (hw _ (List.mem_of_getElem? (i := 38) rfl))) (by decide) (t := (.object "java/util/Map")) (t' := (.object "java/util/List")) (by decide) (by decide)))
  have F_outerScopes_a1 := F_outerScopes_a1.other W10 (Or.inr (slot_ne (Or.inr (hw _ (List.mem_of_getElem? (i := 60) rfl))) (Or.inr (hw _ (List.mem_of_getElem? (i := 38) rfl))) (by decide) (t := (.object "java/util/Deque")) (t' := (.object "java/util/List")) (by decide) (by decide)))
  have F_outcomes_a1 := F_outcomes_a1.other W10 (Or.inr (slot_ne (Or.inr (hw _ (List.mem_of_getElem? (i := 78) rfl))) (Or.inr (hw _ (List.mem_of_getElem? (i := 38) rfl))) (by decide) (t := (.object "java/util/Map")) (t' := (.object "java/util/List")) (by decide) (by decide)))
  have F_configuring_a1 := F_configuring_a1.other W10 (Or.inr (slot_ne (Or.inr (hw _ (List.mem_of_getElem? (i := 80) rfl))) (Or.inr (hw _ (List.mem_of_getElem? (i := 38) rfl))) (by decide) (t := .boolean) (t' := (.object "java/util/List")) (by decide) (by decide)))
  have F_annotating_a1 := F_annotating_a1.other W10 (Or.inr (slot_ne (Or.inr (hw _ (List.mem_of_getElem? (i := 82) rfl))) (Or.inr (hw _ (List.mem_of_getElem? (i := 38) rfl))) (by decide) (t := .boolean) (t' := (.object "java/util/List")) (by decide) (by decide)))
  have F_evaluated_a1 := F_evaluated_a1.other W10 (Or.inr (slot_ne (Or.inl (hw _ (List.mem_of_getElem? (i := 89) rfl))) (Or.inr (hw _ (List.mem_of_getElem? (i := 38) rfl))) (by decide) (t := (.object "com/example/rules_for_records/rulesforrecords/Evaluated")) (t' := (.object "java/util/List")) (by decide) (by decide)))
  have O_ := O_.wr W10 g_a1
  have E_b2 := E_b2.wr W10
  have E_b5 := E_b5.wr W10
  have E_b8 := E_b8.wr W10
  have Z10 : n0 ≤ h10.size := by rw [W10.size]; exact Z9
  have N10 := Fr.snoc X10 N9 g_a1
  have K10 := K9k.wr W10 (Or.inl (List.mem_of_getElem? (i := 0) rfl))
  show Gl p.tables e below PP (T10.setTop (mkF m 37 #[.val (.ref a1), .val (.int cf), .val (.int an)] []))
  refine Gl.pre (fun _ k => XS.aloadN X10.here hx rfl (hb hby d1_37) rfl rfl k) ?_
  show Gl p.tables e below PP (T10.setTop (mkF m 38 #[.val (.ref a1), .val (.int cf), .val (.int an)] [(.ref a1)]))
  obtain ⟨_, _, ⟨T11, L11, k11, n11⟩, -, X11, ⟨Lc11, hQ11, l11, y11, z11⟩, st11⟩ := Jvm.LawKit.callS X10 hx (y := (⟨"java/util/Map", "of", "()Ljava/util/Map;"⟩ : MethodName)) hown (mvT hZ (hw _ (List.mem_of_getElem? (i := 39) rfl))) (mvT hZ (hw _ (List.mem_of_getElem? (i := 40) rfl))) (mvT hZ (hw _ (List.mem_of_getElem? (i := 41) rfl))) (mvT hZ (hw _ (List.mem_of_getElem? (i := 42) rfl))) (by decide) (backOf (W := 1) (rm6 l Z a0 hw [] em h10 n0 Z10 SEM O_) hZ (hw _ (List.mem_of_getElem? (i := 42) rfl)) (hw _ (List.mem_of_getElem? (i := 41) rfl)) (by decide) (by decide)) (g := (mkF m 38 #[.val (.ref a1), .val (.int cf), .val (.int an)] [(.ref a1)])) rfl (by rw [hml]; rfl) (argsL := []) (rest := [(.ref a1)]) (lenOf pd_1 rfl) rfl (by show 2 * 0 + _ ≤ _; exact Nat.le_of_eq rfl) (hb hby d1_38) (fun _ _ => ⟨rfl, e10, (by decide : 3 + 0 ≤ _), (by decide : 9 + 0 ≤ _)⟩)
  dsimp only [Pt.U, Pt.locs, Pt.cells, Pt.slots] at X11 l11 y11 z11 st11 hQ11
  subst l11 y11 z11
  obtain ⟨rfl, N11q, e11⟩ := hQ11
  have N11 := Fr.app N10 N11q
  refine Gl.pre (fun _ k => st11 _ k) ?_
  show Gl p.tables e below PP (T11.setTop (mkF m 41 #[.val (.ref a1), .val (.int cf), .val (.int an)] [(.ref em), (.ref a1)]))
  obtain ⟨T12, h12, X12, e12, W12, st12⟩ := putF X11 hx hZ hown (host := "") (Or.inl (hw _ (List.mem_of_getElem? (i := 45) rfl))) Via.refl e11 F_scope_a1 E_a1 (Or.inl (hw _ (List.mem_of_getElem? (i := 46) rfl))) (hw _ (List.mem_of_getElem? (i := 1) rfl)) (ty := (.object "java/util/Map")) (by decide) rfl rfl (g := (mkF m 41 #[.val (.ref a1), .val (.int cf), .val (.int an)] [(.ref em), (.ref a1)])) rfl rfl (hb hby d1_41)
  refine Gl.pre (fun _ k => st12 _ k) ?_
  have E_a1 := E_a1.wr W12
  have F_errors_a1 := F_errors_a1.other W12 (Or.inr (slot_ne (Or.inr (hw _ (List.mem_of_getElem? (i := 34) rfl))) (Or.inl (hw _ (List.mem_of_getElem? (i := 46) rfl))) (by decide) (t := (.object "java/util/List")) (t' := (.object "java/util/Map")) (by decide) (by decide)))
  have F_secrets_a1 := F_secrets_a1.other W12 (Or.inr (slot_ne (Or.inr (hw _ (List.mem_of_getElem? (i := 36) rfl))) (Or.inl (hw _ (List.mem_of_getElem? (i := 46) rfl))) (by decide) (t := (.object "java/util/List")) (t' := (.object "java/util/Map")) (by decide) (by decide)))
  have F_notes_a1 := F_notes_a1.other W12 (Or.inr (slot_ne (Or.inr (hw _ (List.mem_of_getElem? (i := 38) rfl))) (Or.inl (hw _ (List.mem_of_getElem? (i := 46) rfl))) (by decide) (t := (.object "java/util/List")) (t' := (.object "java/util/Map")) (by decide) (by decide)))
  have F_scope_a1 := F_scope_a1.same W12
  have F_outerScopes_a1 := F_outerScopes_a1.other W12 (Or.inr (slot_ne (Or.inr (hw _ (List.mem_of_getElem? (i := 60) rfl))) (Or.inl (hw _ (List.mem_of_getElem? (i := 46) rfl))) (by decide) (t := (.object "java/util/Deque")) (t' := (.object "java/util/Map")) (by decide) (by decide)))
  have F_outcomes_a1 := F_outcomes_a1.other W12 (Or.inr (slot_ne (Or.inr (hw _ (List.mem_of_getElem? (i := 78) rfl))) (Or.inl (hw _ (List.mem_of_getElem? (i := 46) rfl))) (by decide) (t := (.object "java/util/Map")) (t' := (.object "java/util/Map")) (by decide) (by decide)))
  have F_configuring_a1 := F_configuring_a1.other W12 (Or.inr (slot_ne (Or.inr (hw _ (List.mem_of_getElem? (i := 80) rfl))) (Or.inl (hw _ (List.mem_of_getElem? (i := 46) rfl))) (by decide) (t := .boolean) (t' := (.object "java/util/Map")) (by decide) (by decide)))
  have F_annotating_a1 := F_annotating_a1.other W12 (Or.inr (slot_ne (Or.inr (hw _ (List.mem_of_getElem? (i := 82) rfl))) (Or.inl (hw _ (List.mem_of_getElem? (i := 46) rfl))) (by decide) (t := .boolean) (t' := (.object "java/util/Map")) (by decide) (by decide)))
  have F_evaluated_a1 := F_evaluated_a1.other W12 (Or.inr (slot_ne (Or.inl (hw _ (List.mem_of_getElem? (i := 89) rfl))) (Or.inl (hw _ (List.mem_of_getElem? (i := 46) rfl))) (by decide) (t := (.object "com/example/rules_for_records/rulesforrecords/Evaluated")) (t' := (.object "java/util/Map")) (by decide) (by decide)))
  have O_ := O_.wr W12 g_a1
  have E_b2 := E_b2.wr W12
  have E_b5 := E_b5.wr W12
  have E_b8 := E_b8.wr W12
  have Z12 : n0 ≤ h12.size := by rw [W12.size]; exact Z10
  have N12 := Fr.snoc X12 N11 g_a1
  have K12 := K10.wr W12 (Or.inl (List.mem_of_getElem? (i := 0) rfl))
  show Gl p.tables e below PP (T12.setTop (mkF m 44 #[.val (.ref a1), .val (.int cf), .val (.int an)] []))
  refine Gl.pre (fun _ k => XS.aloadN X12.here hx rfl (hb hby d1_44) rfl rfl k) ?_
  show Gl p.tables e below PP (T12.setTop (mkF m 45 #[.val (.ref a1), .val (.int cf), .val (.int an)] [(.ref a1)]))
  obtain ⟨T13, h13, X13, e13, E13, A13, D13, -, st13⟩ := newO X12 hx hZ hown (hw _ (List.mem_of_getElem? (i := 47) rfl)) (hw _ (List.mem_of_getElem? (i := 48) rfl)) (hw _ (List.mem_of_getElem? (i := 49) rfl)) e12 (g := (mkF m 45 #[.val (.ref a1), .val (.int cf), .val (.int an)] [(.ref a1)])) rfl (hb hby d1_45) (by decide) (by decide)
  obtain ⟨b13, g13⟩ : ∃ z, z = h12.size := ⟨_, rfl⟩
  rw [← g13] at A13 D13 st13
  refine Gl.pre (fun _ k => st13 _ k) ?_
  have own_ne_a1_b13 : a1 ≠ b13 := by have q := E_a1.lt; rw [g13]; exact Nat.ne_of_lt q
  have own_ne_b13_a1 : b13 ≠ a1 := own_ne_a1_b13.symm
  have own_ne_b2_b13 : b2 ≠ b13 := by have q := E_b2.lt; rw [g13]; exact Nat.ne_of_lt q
  have own_ne_b13_b2 : b13 ≠ b2 := own_ne_b2_b13.symm
  have own_ne_b5_b13 : b5 ≠ b13 := by have q := E_b5.lt; rw [g13]; exact Nat.ne_of_lt q
  have own_ne_b13_b5 : b13 ≠ b5 := own_ne_b5_b13.symm
  have own_ne_b8_b13 : b8 ≠ b13 := by have q := E_b8.lt; rw [g13]; exact Nat.ne_of_lt q
  have own_ne_b13_b8 : b13 ≠ b8 := own_ne_b8_b13.symm
  have g_b13 : n0 ≤ b13 := Nat.le_trans Z12 (Nat.le_of_eq g13.symm)
  have sz_b13 : h0.size ≤ b13 := Nat.le_trans K12.1 (Nat.le_of_eq g13.symm)
  have E_a1 := E_a1.ext E13
  have F_errors_a1 := F_errors_a1.ext E13
  have F_secrets_a1 := F_secrets_a1.ext E13
  have F_notes_a1 := F_notes_a1.ext E13
  have F_scope_a1 := F_scope_a1.ext E13
  have F_outerScopes_a1 := F_outerScopes_a1.ext E13
  have F_outcomes_a1 := F_outcomes_a1.ext E13
  have F_configuring_a1 := F_configuring_a1.ext E13
  have F_annotating_a1 := F_annotating_a1.ext E13
  have F_evaluated_a1 := F_evaluated_a1.ext E13
  have O_ := O_.ext E13
  have E_b2 := E_b2.ext E13
  have E_b5 := E_b5.ext E13
  have E_b8 := E_b8.ext E13
  have Z13 : n0 ≤ h13.size := Nat.le_trans Z12 E13.1
  have K13 := K12.ext E13
  have E_b13 := A13
  have F_elements_b13 : Fld Z h13 b13 "java/util/ArrayDeque" "elements" "[Ljava/lang/Object;" .null := D13 (Or.inl (hw _ (List.mem_of_getElem? (i := 58) rfl))) (ty := (.array (.object "java/lang/Object"))) (by decide)
  show Gl p.tables e below PP (T13.setTop (mkF m 48 #[.val (.ref a1), .val (.int cf), .val (.int an)] [(.ref b13), (.ref a1)]))
  refine Gl.pre (fun _ k => XS.dup X13.here hx rfl (hb hby d1_48) rfl rfl k) ?_
  show Gl p.tables e below PP (T13.setTop (mkF m 49 #[.val (.ref a1), .val (.int cf), .val (.int an)] [(.ref b13), (.ref b13), (.ref a1)]))
  obtain ⟨_, _, ⟨T14, L14, k14, n14⟩, -, X14, ⟨Lc14, hQ14, l14, y14, z14⟩, st14⟩ := X13.specialBack hx (y := (⟨"java/util/ArrayDeque", "<init>", "()V"⟩ : MethodName)) rfl hown (mvT hZ (hw _ (List.mem_of_getElem? (i := 50) rfl))) (mvT hZ (hw _ (List.mem_of_getElem? (i := 51) rfl))) (mvT hZ (hw _ (List.mem_of_getElem? (i := 52) rfl))) (by decide) (backOf (W := 2) (rm7 l Z a0 hw [] b13 h13 n0 Z13 E_b13 F_elements_b13 g_b13) hZ (hw _ (List.mem_of_getElem? (i := 52) rfl)) (hw _ (List.mem_of_getElem? (i := 49) rfl)) (by decide) (by decide)) (g := (mkF m 49 #[.val (.ref a1), .val (.int cf), .val (.int an)] [(.ref b13), (.ref b13), (.ref a1)])) rfl (by rw [hml]; rfl) (Steps.refl _) (a := b13) (argsL := []) (rest := [(.ref b13), (.ref a1)]) (lenOf pd_0 rfl) rfl (by show 2 * 0 + _ ≤ _; exact Nat.le_of_eq rfl) (hb hby d1_49) (fun _ _ => ⟨rfl, e13, (by decide : 4 + 1 ≤ _), (by decide : 12 + 17 ≤ _)⟩)
  dsimp only [Pt.U, Pt.locs, Pt.cells, Pt.slots] at X14 l14 y14 z14 st14 hQ14
  subst l14 y14 z14
  obtain ⟨rfl, N14q, K14⟩ := hQ14
  have N14 := Fr.app N12 N14q
  refine Gl.pre (fun _ k => st14.trans k) ?_
  have E_a1 := E_a1.keep K14
  have F_errors_a1 := F_errors_a1.keep K14 (ninS (own_ne_a1_b13) nin0)
  have F_secrets_a1 := F_secrets_a1.keep K14 (ninS (own_ne_a1_b13) nin0)
  have F_notes_a1 := F_notes_a1.keep K14 (ninS (own_ne_a1_b13) nin0)
  have F_scope_a1 := F_scope_a1.keep K14 (ninS (own_ne_a1_b13) nin0)
  have F_outerScopes_a1 := F_outerScopes_a1.keep K14 (ninS (own_ne_a1_b13) nin0)
  have F_outcomes_a1 := F_outcomes_a1.keep K14 (ninS (own_ne_a1_b13) nin0)
  have F_configuring_a1 := F_configuring_a1.keep K14 (ninS (own_ne_a1_b13) nin0)
  have F_annotating_a1 := F_annotating_a1.keep K14 (ninS (own_ne_a1_b13) nin0)
  have F_evaluated_a1 := F_evaluated_a1.keep K14 (ninS (own_ne_a1_b13) nin0)
  have O_ := O_.keep K14 (allS g_b13 all0)
  have E_b2 := E_b2.keep K14
  have E_b5 := E_b5.keep K14
  have E_b8 := E_b8.keep K14
  have E_b13 := E_b13.keep K14
  have Z14 : n0 ≤ T14.heap.size := Nat.le_trans Z13 K14.1
  have K14k := K13.trans K14 (allS (Or.inr sz_b13) all0)
  show Gl p.tables e below PP (T14.setTop (mkF m 52 #[.val (.ref a1), .val (.int cf), .val (.int an)] [(.ref b13), (.ref a1)]))
  obtain ⟨T15, h15, X15, e15, W15, st15⟩ := putF X14 hx hZ hown (host := "") (Or.inl (hw _ (List.mem_of_getElem? (i := 59) rfl))) Via.refl rfl F_outerScopes_a1 E_a1 (Or.inr ⟨(hw _ (List.mem_of_getElem? (i := 60) rfl)), rfl, hnm⟩) (hw _ (List.mem_of_getElem? (i := 1) rfl)) (ty := (.object "java/util/Deque")) (by decide) rfl rfl (g := (mkF m 52 #[.val (.ref a1), .val (.int cf), .val (.int an)] [(.ref b13), (.ref a1)])) rfl rfl (hb hby d1_52)
  refine Gl.pre (fun _ k => st15 _ k) ?_
  have E_a1 := E_a1.wr W15
  have F_errors_a1 := F_errors_a1.other W15 (Or.inr (slot_ne (Or.inr (hw _ (List.mem_of_getElem? (i := 34) rfl))) (Or.inr (hw _ (List.mem_of_getElem? (i := 60) rfl))) (by decide) (t := (.object "java/util/List")) (t' := (.object "java/util/Deque")) (by decide) (by decide)))
  have F_secrets_a1 := F_secrets_a1.other W15 (Or.inr (slot_ne (Or.inr (hw _ (List.mem_of_getElem? (i := 36) rfl))) (Or.inr (hw _ (List.mem_of_getElem? (i := 60) rfl))) (by decide) (t := (.object "java/util/List")) (t' := (.object "java/util/Deque")) (by decide) (by decide)))
  have F_notes_a1 := F_notes_a1.other W15 (Or.inr (slot_ne (Or.inr (hw _ (List.mem_of_getElem? (i := 38) rfl))) (Or.inr (hw _ (List.mem_of_getElem? (i := 60) rfl))) (by decide) (t := (.object "java/util/List")) (t' := (.object "java/util/Deque")) (by decide) (by decide)))
  have F_scope_a1 := F_scope_a1.other W15 (Or.inr (slot_ne (Or.inl (hw _ (List.mem_of_getElem? (i := 46) rfl))) (Or.inr (hw _ (List.mem_of_getElem? (i := 60) rfl))) (by decide) (t := (.object "java/util/Map")) (t' := (.object "java/util/Deque")) (by decide) (by decide)))
  have F_outerScopes_a1 := F_outerScopes_a1.same W15
  have F_outcomes_a1 := F_outcomes_a1.other W15 (Or.inr (slot_ne (Or.inr (hw _ (List.mem_of_getElem? (i := 78) rfl))) (Or.inr (hw _ (List.mem_of_getElem? (i := 60) rfl))) (by decide) (t := (.object "java/util/Map")) (t' := (.object "java/util/Deque")) (by decide) (by decide)))
  have F_configuring_a1 := F_configuring_a1.other W15 (Or.inr (slot_ne (Or.inr (hw _ (List.mem_of_getElem? (i := 80) rfl))) (Or.inr (hw _ (List.mem_of_getElem? (i := 60) rfl))) (by decide) (t := .boolean) (t' := (.object "java/util/Deque")) (by decide) (by decide)))
  have F_annotating_a1 := F_annotating_a1.other W15 (Or.inr (slot_ne (Or.inr (hw _ (List.mem_of_getElem? (i := 82) rfl))) (Or.inr (hw _ (List.mem_of_getElem? (i := 60) rfl))) (by decide) (t := .boolean) (t' := (.object "java/util/Deque")) (by decide) (by decide)))
  have F_evaluated_a1 := F_evaluated_a1.other W15 (Or.inr (slot_ne (Or.inl (hw _ (List.mem_of_getElem? (i := 89) rfl))) (Or.inr (hw _ (List.mem_of_getElem? (i := 60) rfl))) (by decide) (t := (.object "com/example/rules_for_records/rulesforrecords/Evaluated")) (t' := (.object "java/util/Deque")) (by decide) (by decide)))
  have O_ := O_.wr W15 g_a1
  have E_b2 := E_b2.wr W15
  have E_b5 := E_b5.wr W15
  have E_b8 := E_b8.wr W15
  have E_b13 := E_b13.wr W15
  have Z15 : n0 ≤ h15.size := by rw [W15.size]; exact Z14
  have N15 := Fr.snoc X15 N14 g_a1
  have K15 := K14k.wr W15 (Or.inl (List.mem_of_getElem? (i := 0) rfl))
  show Gl p.tables e below PP (T15.setTop (mkF m 55 #[.val (.ref a1), .val (.int cf), .val (.int an)] []))
  refine Gl.pre (fun _ k => XS.aloadN X15.here hx rfl (hb hby d1_55) rfl rfl k) ?_
  show Gl p.tables e below PP (T15.setTop (mkF m 56 #[.val (.ref a1), .val (.int cf), .val (.int an)] [(.ref a1)]))
  obtain ⟨T16, h16, X16, e16, E16, A16, D16, -, st16⟩ := newO X15 hx hZ hown (hw _ (List.mem_of_getElem? (i := 61) rfl)) (hw _ (List.mem_of_getElem? (i := 62) rfl)) (hw _ (List.mem_of_getElem? (i := 63) rfl)) e15 (g := (mkF m 56 #[.val (.ref a1), .val (.int cf), .val (.int an)] [(.ref a1)])) rfl (hb hby d1_56) (by decide) (by decide)
  obtain ⟨b16, g16⟩ : ∃ z, z = h15.size := ⟨_, rfl⟩
  rw [← g16] at A16 D16 st16
  refine Gl.pre (fun _ k => st16 _ k) ?_
  have own_ne_a1_b16 : a1 ≠ b16 := by have q := E_a1.lt; rw [g16]; exact Nat.ne_of_lt q
  have own_ne_b16_a1 : b16 ≠ a1 := own_ne_a1_b16.symm
  have own_ne_b2_b16 : b2 ≠ b16 := by have q := E_b2.lt; rw [g16]; exact Nat.ne_of_lt q
  have own_ne_b16_b2 : b16 ≠ b2 := own_ne_b2_b16.symm
  have own_ne_b5_b16 : b5 ≠ b16 := by have q := E_b5.lt; rw [g16]; exact Nat.ne_of_lt q
  have own_ne_b16_b5 : b16 ≠ b5 := own_ne_b5_b16.symm
  have own_ne_b8_b16 : b8 ≠ b16 := by have q := E_b8.lt; rw [g16]; exact Nat.ne_of_lt q
  have own_ne_b16_b8 : b16 ≠ b8 := own_ne_b8_b16.symm
  have own_ne_b13_b16 : b13 ≠ b16 := by have q := E_b13.lt; rw [g16]; exact Nat.ne_of_lt q
  have own_ne_b16_b13 : b16 ≠ b13 := own_ne_b13_b16.symm
  have g_b16 : n0 ≤ b16 := Nat.le_trans Z15 (Nat.le_of_eq g16.symm)
  have sz_b16 : h0.size ≤ b16 := Nat.le_trans K15.1 (Nat.le_of_eq g16.symm)
  have E_a1 := E_a1.ext E16
  have F_errors_a1 := F_errors_a1.ext E16
  have F_secrets_a1 := F_secrets_a1.ext E16
  have F_notes_a1 := F_notes_a1.ext E16
  have F_scope_a1 := F_scope_a1.ext E16
  have F_outerScopes_a1 := F_outerScopes_a1.ext E16
  have F_outcomes_a1 := F_outcomes_a1.ext E16
  have F_configuring_a1 := F_configuring_a1.ext E16
  have F_annotating_a1 := F_annotating_a1.ext E16
  have F_evaluated_a1 := F_evaluated_a1.ext E16
  have O_ := O_.ext E16
  have E_b2 := E_b2.ext E16
  have E_b5 := E_b5.ext E16
  have E_b8 := E_b8.ext E16
  have E_b13 := E_b13.ext E16
  have Z16 : n0 ≤ h16.size := Nat.le_trans Z15 E16.1
  have K16 := K15.ext E16
  have E_b16 := A16
  have F_loadFactor_b16 : Fld Z h16 b16 "java/util/HashMap" "loadFactor" "F" (.float 0) := D16 (Or.inr (hw _ (List.mem_of_getElem? (i := 76) rfl))) (ty := .float) (by decide)
  have F_keySet_b16 : Fld Z h16 b16 "java/util/AbstractMap" "keySet" "Ljava/util/Set;" .null := D16 (Or.inl (hw _ (List.mem_of_getElem? (i := 182) rfl))) (ty := (.object "java/util/Set")) (by decide)
  have F_modCount_b16 : Fld Z h16 b16 "java/util/HashMap" "modCount" "I" (.int (0 : Int32)) := D16 (Or.inl (hw _ (List.mem_of_getElem? (i := 221) rfl))) (ty := .int) (by decide)
  have F_table_b16 : Fld Z h16 b16 "java/util/HashMap" "table" "[Ljava/util/HashMap$Node;" .null := D16 (Or.inl (hw _ (List.mem_of_getElem? (i := 225) rfl))) (ty := (.array (.object "java/util/HashMap$Node"))) (by decide)
  show Gl p.tables e below PP (T16.setTop (mkF m 59 #[.val (.ref a1), .val (.int cf), .val (.int an)] [(.ref b16), (.ref a1)]))
  refine Gl.pre (fun _ k => XS.dup X16.here hx rfl (hb hby d1_59) rfl rfl k) ?_
  show Gl p.tables e below PP (T16.setTop (mkF m 60 #[.val (.ref a1), .val (.int cf), .val (.int an)] [(.ref b16), (.ref b16), (.ref a1)]))
  obtain ⟨_, _, ⟨T17, L17, k17, n17⟩, -, X17, ⟨Lc17, hQ17, l17, y17, z17⟩, st17⟩ := X16.specialBack hx (y := (⟨"java/util/HashMap", "<init>", "()V"⟩ : MethodName)) rfl hown (mvT hZ (hw _ (List.mem_of_getElem? (i := 64) rfl))) (mvT hZ (hw _ (List.mem_of_getElem? (i := 65) rfl))) (mvT hZ (hw _ (List.mem_of_getElem? (i := 66) rfl))) (by decide) (backOf (W := 2) (rm8 l Z a0 hw [] b16 h16 n0 Z16 E_b16 F_loadFactor_b16 F_keySet_b16 F_modCount_b16 F_table_b16 g_b16) hZ (hw _ (List.mem_of_getElem? (i := 66) rfl)) (hw _ (List.mem_of_getElem? (i := 63) rfl)) (by decide) (by decide)) (g := (mkF m 60 #[.val (.ref a1), .val (.int cf), .val (.int an)] [(.ref b16), (.ref b16), (.ref a1)])) rfl (by rw [hml]; rfl) (Steps.refl _) (a := b16) (argsL := []) (rest := [(.ref b16), (.ref a1)]) (lenOf pd_0 rfl) rfl (by show 2 * 0 + _ ≤ _; exact Nat.le_of_eq rfl) (hb hby d1_60) (fun _ _ => ⟨rfl, e16, (by decide : 6 + 0 ≤ _), (by decide : 37 + 0 ≤ _)⟩)
  dsimp only [Pt.U, Pt.locs, Pt.cells, Pt.slots] at X17 l17 y17 z17 st17 hQ17
  subst l17 y17 z17
  obtain ⟨rfl, N17q, K17, x17_0, x17_1, x17_2⟩ := hQ17
  have N17 := Fr.app N15 N17q
  refine Gl.pre (fun _ k => st17.trans k) ?_
  have E_a1 := E_a1.keep K17
  have F_errors_a1 := F_errors_a1.keep K17 (ninS (own_ne_a1_b16) nin0)
  have F_secrets_a1 := F_secrets_a1.keep K17 (ninS (own_ne_a1_b16) nin0)
  have F_notes_a1 := F_notes_a1.keep K17 (ninS (own_ne_a1_b16) nin0)
  have F_scope_a1 := F_scope_a1.keep K17 (ninS (own_ne_a1_b16) nin0)
  have F_outerScopes_a1 := F_outerScopes_a1.keep K17 (ninS (own_ne_a1_b16) nin0)
  have F_outcomes_a1 := F_outcomes_a1.keep K17 (ninS (own_ne_a1_b16) nin0)
  have F_configuring_a1 := F_configuring_a1.keep K17 (ninS (own_ne_a1_b16) nin0)
  have F_annotating_a1 := F_annotating_a1.keep K17 (ninS (own_ne_a1_b16) nin0)
  have F_evaluated_a1 := F_evaluated_a1.keep K17 (ninS (own_ne_a1_b16) nin0)
  have O_ := O_.keep K17 (allS g_b16 all0)
  have E_b2 := E_b2.keep K17
  have E_b5 := E_b5.keep K17
  have E_b8 := E_b8.keep K17
  have E_b13 := E_b13.keep K17
  have E_b16 := E_b16.keep K17
  have Z17 : n0 ≤ T17.heap.size := Nat.le_trans Z16 K17.1
  have K17k := K16.trans K17 (allS (Or.inr sz_b16) all0)
  have F_keySet_b16 := x17_0
  have F_modCount_b16 := x17_1
  have F_table_b16 := x17_2
  show Gl p.tables e below PP (T17.setTop (mkF m 63 #[.val (.ref a1), .val (.int cf), .val (.int an)] [(.ref b16), (.ref a1)]))
  obtain ⟨T18, h18, X18, e18, W18, st18⟩ := putF X17 hx hZ hown (host := "") (Or.inl (hw _ (List.mem_of_getElem? (i := 77) rfl))) Via.refl rfl F_outcomes_a1 E_a1 (Or.inr ⟨(hw _ (List.mem_of_getElem? (i := 78) rfl)), rfl, hnm⟩) (hw _ (List.mem_of_getElem? (i := 1) rfl)) (ty := (.object "java/util/Map")) (by decide) rfl rfl (g := (mkF m 63 #[.val (.ref a1), .val (.int cf), .val (.int an)] [(.ref b16), (.ref a1)])) rfl rfl (hb hby d1_63)
  refine Gl.pre (fun _ k => st18 _ k) ?_
  have E_a1 := E_a1.wr W18
  have F_errors_a1 := F_errors_a1.other W18 (Or.inr (slot_ne (Or.inr (hw _ (List.mem_of_getElem? (i := 34) rfl))) (Or.inr (hw _ (List.mem_of_getElem? (i := 78) rfl))) (by decide) (t := (.object "java/util/List")) (t' := (.object "java/util/Map")) (by decide) (by decide)))
  have F_secrets_a1 := F_secrets_a1.other W18 (Or.inr (slot_ne (Or.inr (hw _ (List.mem_of_getElem? (i := 36) rfl))) (Or.inr (hw _ (List.mem_of_getElem? (i := 78) rfl))) (by decide) (t := (.object "java/util/List")) (t' := (.object "java/util/Map")) (by decide) (by decide)))
  have F_notes_a1 := F_notes_a1.other W18 (Or.inr (slot_ne (Or.inr (hw _ (List.mem_of_getElem? (i := 38) rfl))) (Or.inr (hw _ (List.mem_of_getElem? (i := 78) rfl))) (by decide) (t := (.object "java/util/List")) (t' := (.object "java/util/Map")) (by decide) (by decide)))
  have F_scope_a1 := F_scope_a1.other W18 (Or.inr (slot_ne (Or.inl (hw _ (List.mem_of_getElem? (i := 46) rfl))) (Or.inr (hw _ (List.mem_of_getElem? (i := 78) rfl))) (by decide) (t := (.object "java/util/Map")) (t' := (.object "java/util/Map")) (by decide) (by decide)))
  have F_outerScopes_a1 := F_outerScopes_a1.other W18 (Or.inr (slot_ne (Or.inr (hw _ (List.mem_of_getElem? (i := 60) rfl))) (Or.inr (hw _ (List.mem_of_getElem? (i := 78) rfl))) (by decide) (t := (.object "java/util/Deque")) (t' := (.object "java/util/Map")) (by decide) (by decide)))
  have F_outcomes_a1 := F_outcomes_a1.same W18
  have F_configuring_a1 := F_configuring_a1.other W18 (Or.inr (slot_ne (Or.inr (hw _ (List.mem_of_getElem? (i := 80) rfl))) (Or.inr (hw _ (List.mem_of_getElem? (i := 78) rfl))) (by decide) (t := .boolean) (t' := (.object "java/util/Map")) (by decide) (by decide)))
  have F_annotating_a1 := F_annotating_a1.other W18 (Or.inr (slot_ne (Or.inr (hw _ (List.mem_of_getElem? (i := 82) rfl))) (Or.inr (hw _ (List.mem_of_getElem? (i := 78) rfl))) (by decide) (t := .boolean) (t' := (.object "java/util/Map")) (by decide) (by decide)))
  have F_evaluated_a1 := F_evaluated_a1.other W18 (Or.inr (slot_ne (Or.inl (hw _ (List.mem_of_getElem? (i := 89) rfl))) (Or.inr (hw _ (List.mem_of_getElem? (i := 78) rfl))) (by decide) (t := (.object "com/example/rules_for_records/rulesforrecords/Evaluated")) (t' := (.object "java/util/Map")) (by decide) (by decide)))
  have O_ := O_.wr W18 g_a1
  have E_b2 := E_b2.wr W18
  have E_b5 := E_b5.wr W18
  have E_b8 := E_b8.wr W18
  have E_b13 := E_b13.wr W18
  have E_b16 := E_b16.wr W18
  have F_keySet_b16 := F_keySet_b16.other W18 (Or.inl (own_ne_b16_a1))
  have F_modCount_b16 := F_modCount_b16.other W18 (Or.inl (own_ne_b16_a1))
  have F_table_b16 := F_table_b16.other W18 (Or.inl (own_ne_b16_a1))
  have Z18 : n0 ≤ h18.size := by rw [W18.size]; exact Z17
  have N18 := Fr.snoc X18 N17 g_a1
  have K18 := K17k.wr W18 (Or.inl (List.mem_of_getElem? (i := 0) rfl))
  show Gl p.tables e below PP (T18.setTop (mkF m 66 #[.val (.ref a1), .val (.int cf), .val (.int an)] []))
  refine Gl.pre (fun _ k => XS.aloadN X18.here hx rfl (hb hby d1_66) rfl rfl k) ?_
  show Gl p.tables e below PP (T18.setTop (mkF m 67 #[.val (.ref a1), .val (.int cf), .val (.int an)] [(.ref a1)]))
  refine Gl.pre (fun _ k => XS.iloadN X18.here hx rfl (hb hby d1_67) rfl k) ?_
  show Gl p.tables e below PP (T18.setTop (mkF m 68 #[.val (.ref a1), .val (.int cf), .val (.int an)] [(.int cf), (.ref a1)]))
  obtain ⟨T19, h19, X19, e19, W19, st19⟩ := putFN X18 hx hZ hown (hw _ (List.mem_of_getElem? (i := 79) rfl)) Via.refl e18 F_configuring_a1 E_a1 (Or.inr ⟨(hw _ (List.mem_of_getElem? (i := 80) rfl)), rfl, hnm⟩) (hw _ (List.mem_of_getElem? (i := 1) rfl)) (ty := .boolean) (v' := (.int cf)) (by decide) (by rcases hcf with rfl | rfl <;> rfl) (by rcases hcf with rfl | rfl <;> rfl) (g := (mkF m 68 #[.val (.ref a1), .val (.int cf), .val (.int an)] [(.int cf), (.ref a1)])) rfl rfl (hb hby d1_68)
  refine Gl.pre (fun _ k => st19 _ k) ?_
  have E_a1 := E_a1.wr W19
  have F_errors_a1 := F_errors_a1.other W19 (Or.inr (slot_ne (Or.inr (hw _ (List.mem_of_getElem? (i := 34) rfl))) (Or.inr (hw _ (List.mem_of_getElem? (i := 80) rfl))) (by decide) (t := (.object "java/util/List")) (t' := .boolean) (by decide) (by decide)))
  have F_secrets_a1 := F_secrets_a1.other W19 (Or.inr (slot_ne (Or.inr (hw _ (List.mem_of_getElem? (i := 36) rfl))) (Or.inr (hw _ (List.mem_of_getElem? (i := 80) rfl))) (by decide) (t := (.object "java/util/List")) (t' := .boolean) (by decide) (by decide)))
  have F_notes_a1 := F_notes_a1.other W19 (Or.inr (slot_ne (Or.inr (hw _ (List.mem_of_getElem? (i := 38) rfl))) (Or.inr (hw _ (List.mem_of_getElem? (i := 80) rfl))) (by decide) (t := (.object "java/util/List")) (t' := .boolean) (by decide) (by decide)))
  have F_scope_a1 := F_scope_a1.other W19 (Or.inr (slot_ne (Or.inl (hw _ (List.mem_of_getElem? (i := 46) rfl))) (Or.inr (hw _ (List.mem_of_getElem? (i := 80) rfl))) (by decide) (t := (.object "java/util/Map")) (t' := .boolean) (by decide) (by decide)))
  have F_outerScopes_a1 := F_outerScopes_a1.other W19 (Or.inr (slot_ne (Or.inr (hw _ (List.mem_of_getElem? (i := 60) rfl))) (Or.inr (hw _ (List.mem_of_getElem? (i := 80) rfl))) (by decide) (t := (.object "java/util/Deque")) (t' := .boolean) (by decide) (by decide)))
  have F_outcomes_a1 := F_outcomes_a1.other W19 (Or.inr (slot_ne (Or.inr (hw _ (List.mem_of_getElem? (i := 78) rfl))) (Or.inr (hw _ (List.mem_of_getElem? (i := 80) rfl))) (by decide) (t := (.object "java/util/Map")) (t' := .boolean) (by decide) (by decide)))
  have F_configuring_a1 := F_configuring_a1.same W19
  have F_annotating_a1 := F_annotating_a1.other W19 (Or.inr (slot_ne (Or.inr (hw _ (List.mem_of_getElem? (i := 82) rfl))) (Or.inr (hw _ (List.mem_of_getElem? (i := 80) rfl))) (by decide) (t := .boolean) (t' := .boolean) (by decide) (by decide)))
  have F_evaluated_a1 := F_evaluated_a1.other W19 (Or.inr (slot_ne (Or.inl (hw _ (List.mem_of_getElem? (i := 89) rfl))) (Or.inr (hw _ (List.mem_of_getElem? (i := 80) rfl))) (by decide) (t := (.object "com/example/rules_for_records/rulesforrecords/Evaluated")) (t' := .boolean) (by decide) (by decide)))
  have O_ := O_.wr W19 g_a1
  have E_b2 := E_b2.wr W19
  have E_b5 := E_b5.wr W19
  have E_b8 := E_b8.wr W19
  have E_b13 := E_b13.wr W19
  have E_b16 := E_b16.wr W19
  have F_keySet_b16 := F_keySet_b16.other W19 (Or.inl (own_ne_b16_a1))
  have F_modCount_b16 := F_modCount_b16.other W19 (Or.inl (own_ne_b16_a1))
  have F_table_b16 := F_table_b16.other W19 (Or.inl (own_ne_b16_a1))
  have Z19 : n0 ≤ h19.size := by rw [W19.size]; exact Z18
  have N19 := Fr.snoc X19 N18 g_a1
  have K19 := K18.wr W19 (Or.inl (List.mem_of_getElem? (i := 0) rfl))
  show Gl p.tables e below PP (T19.setTop (mkF m 71 #[.val (.ref a1), .val (.int cf), .val (.int an)] []))
  refine Gl.pre (fun _ k => XS.aloadN X19.here hx rfl (hb hby d1_71) rfl rfl k) ?_
  show Gl p.tables e below PP (T19.setTop (mkF m 72 #[.val (.ref a1), .val (.int cf), .val (.int an)] [(.ref a1)]))
  refine Gl.pre (fun _ k => XS.iloadN X19.here hx rfl (hb hby d1_72) rfl k) ?_
  show Gl p.tables e below PP (T19.setTop (mkF m 73 #[.val (.ref a1), .val (.int cf), .val (.int an)] [(.int an), (.ref a1)]))
  obtain ⟨T20, h20, X20, e20, W20, st20⟩ := putFN X19 hx hZ hown (hw _ (List.mem_of_getElem? (i := 81) rfl)) Via.refl e19 F_annotating_a1 E_a1 (Or.inr ⟨(hw _ (List.mem_of_getElem? (i := 82) rfl)), rfl, hnm⟩) (hw _ (List.mem_of_getElem? (i := 1) rfl)) (ty := .boolean) (v' := (.int an)) (by decide) (by rcases han with rfl | rfl <;> rfl) (by rcases han with rfl | rfl <;> rfl) (g := (mkF m 73 #[.val (.ref a1), .val (.int cf), .val (.int an)] [(.int an), (.ref a1)])) rfl rfl (hb hby d1_73)
  refine Gl.pre (fun _ k => st20 _ k) ?_
  have E_a1 := E_a1.wr W20
  have F_errors_a1 := F_errors_a1.other W20 (Or.inr (slot_ne (Or.inr (hw _ (List.mem_of_getElem? (i := 34) rfl))) (Or.inr (hw _ (List.mem_of_getElem? (i := 82) rfl))) (by decide) (t := (.object "java/util/List")) (t' := .boolean) (by decide) (by decide)))
  have F_secrets_a1 := F_secrets_a1.other W20 (Or.inr (slot_ne (Or.inr (hw _ (List.mem_of_getElem? (i := 36) rfl))) (Or.inr (hw _ (List.mem_of_getElem? (i := 82) rfl))) (by decide) (t := (.object "java/util/List")) (t' := .boolean) (by decide) (by decide)))
  have F_notes_a1 := F_notes_a1.other W20 (Or.inr (slot_ne (Or.inr (hw _ (List.mem_of_getElem? (i := 38) rfl))) (Or.inr (hw _ (List.mem_of_getElem? (i := 82) rfl))) (by decide) (t := (.object "java/util/List")) (t' := .boolean) (by decide) (by decide)))
  have F_scope_a1 := F_scope_a1.other W20 (Or.inr (slot_ne (Or.inl (hw _ (List.mem_of_getElem? (i := 46) rfl))) (Or.inr (hw _ (List.mem_of_getElem? (i := 82) rfl))) (by decide) (t := (.object "java/util/Map")) (t' := .boolean) (by decide) (by decide)))
  have F_outerScopes_a1 := F_outerScopes_a1.other W20 (Or.inr (slot_ne (Or.inr (hw _ (List.mem_of_getElem? (i := 60) rfl))) (Or.inr (hw _ (List.mem_of_getElem? (i := 82) rfl))) (by decide) (t := (.object "java/util/Deque")) (t' := .boolean) (by decide) (by decide)))
  have F_outcomes_a1 := F_outcomes_a1.other W20 (Or.inr (slot_ne (Or.inr (hw _ (List.mem_of_getElem? (i := 78) rfl))) (Or.inr (hw _ (List.mem_of_getElem? (i := 82) rfl))) (by decide) (t := (.object "java/util/Map")) (t' := .boolean) (by decide) (by decide)))
  have F_configuring_a1 := F_configuring_a1.other W20 (Or.inr (slot_ne (Or.inr (hw _ (List.mem_of_getElem? (i := 80) rfl))) (Or.inr (hw _ (List.mem_of_getElem? (i := 82) rfl))) (by decide) (t := .boolean) (t' := .boolean) (by decide) (by decide)))
  have F_annotating_a1 := F_annotating_a1.same W20
  have F_evaluated_a1 := F_evaluated_a1.other W20 (Or.inr (slot_ne (Or.inl (hw _ (List.mem_of_getElem? (i := 89) rfl))) (Or.inr (hw _ (List.mem_of_getElem? (i := 82) rfl))) (by decide) (t := (.object "com/example/rules_for_records/rulesforrecords/Evaluated")) (t' := .boolean) (by decide) (by decide)))
  have O_ := O_.wr W20 g_a1
  have E_b2 := E_b2.wr W20
  have E_b5 := E_b5.wr W20
  have E_b8 := E_b8.wr W20
  have E_b13 := E_b13.wr W20
  have E_b16 := E_b16.wr W20
  have F_keySet_b16 := F_keySet_b16.other W20 (Or.inl (own_ne_b16_a1))
  have F_modCount_b16 := F_modCount_b16.other W20 (Or.inl (own_ne_b16_a1))
  have F_table_b16 := F_table_b16.other W20 (Or.inl (own_ne_b16_a1))
  have Z20 : n0 ≤ h20.size := by rw [W20.size]; exact Z19
  have N20 := Fr.snoc X20 N19 g_a1
  have K20 := K19.wr W20 (Or.inl (List.mem_of_getElem? (i := 0) rfl))
  show Gl p.tables e below PP (T20.setTop (mkF m 76 #[.val (.ref a1), .val (.int cf), .val (.int an)] []))
  rw [hPP]
  refine own_finV (Q := (Q1 Z a1 cf an dc em h0 n0)) X20 hx hlk Bd.returns (hb hby d1_76) ?_ (by decide) (by decide)
  show Q1 Z a1 cf an dc em h0 n0 _ T20.heap _
  rw [e20]
  exact ⟨rfl, N20, K20, F_evaluated_a1, F_annotating_a1⟩
theorem d10_0 : decode prog_10_method_9_code 0 = .ok (.aload_n 0, 1) := by decide +kernel
theorem d10_1 : decode prog_10_method_9_code 1 = .ok (.getfield 207, 3) := by decide +kernel
theorem d10_4 : decode prog_10_method_9_code 4 = .ok (.ifnonnull 10, 3) := by decide +kernel
theorem d10_7 : decode prog_10_method_9_code 7 = .ok (.aload_n 0, 1) := by decide +kernel
theorem d10_8 : decode prog_10_method_9_code 8 = .ok (.getfield 49, 3) := by decide +kernel
theorem d10_11 : decode prog_10_method_9_code 11 = .ok (.ifCond .eq 7, 3) := by decide +kernel
theorem d10_14 : decode prog_10_method_9_code 14 = .ok (.iconst 1, 1) := by decide +kernel
theorem d10_15 : decode prog_10_method_9_code 15 = .ok (.goto 4, 3) := by decide +kernel
theorem d10_18 : decode prog_10_method_9_code 18 = .ok (.iconst 0, 1) := by decide +kernel
theorem d10_19 : decode prog_10_method_9_code 19 = .ok (.ireturn, 1) := by decide +kernel
theorem pn_10 : plainName "com/example/rules_for_records/rulesforrecords/Evaluation" = true := by first | (simp [plainName, overriddenIn]; done) | decide +kernel
theorem ef_10a (m : MethodId) (a1 : Addr) (an : Int32) : entryFrame m #[(.ref a1)] 1 = mkF m 0 #[.val (.ref a1)] [] := by first | (simp [entryFrame, mkF, argsToLocals, Value.category]; done) | rfl
def Q10a (Z : State) (a1 : Addr) (an : Int32) (h0 : Heap) (n0 : Nat) (v : Option Value) (h : Heap) (L : List Loc) : Prop := v = some (.int (own_pi (¬ (an = (0 : Int32))))) ∧ Fr n0 L ∧ h = h0
set_option maxRecDepth 65536 in
set_option maxHeartbeats 40000000 in
theorem rm10a (l : Launch) (Z : State) (a0 : Array Value) (hw : ∀ d ∈ tables_1, d.before a0 Z = true) (ws : List Jvm.Cond) (a1 : Addr) (an : Int32) (h0 : Heap) (n0 : Nat) (Z0 : n0 ≤ h0.size) (F_evaluated_a1 : Fld Z h0 a1 "com/example/rules_for_records/rulesforrecords/Evaluation" "evaluated" "Lcom/example/rules_for_records/rulesforrecords/Evaluated;" .null) (F_annotating_a1 : Fld Z h0 a1 "com/example/rules_for_records/rulesforrecords/Evaluation" "annotating" "Z" (.int an)) :
    MetFree l (⟨"com/example/rules_for_records/rulesforrecords/Evaluation", "appliesEvery", "()Z"⟩ : MethodName) (head1 (Jvm.Cond.code (⟨"com/example/rules_for_records/rulesforrecords/Evaluation", "appliesEvery", "()Z"⟩ : MethodName) prog_10_method_9_code 1 (some .boolean) :: ws) ({ frames := 0, cells := 0, slots := 0, locals := 0 } : Room)) (fun a U => a = #[(.ref a1)] ∧ Z.Warmed39 U.vm ∧ U.heap = h0) (fun _ _ _ _ _ => True) (fun _ U o U' => ∃ v L, o = .returned v ∧ Q10a Z a1 an h0 n0 v U'.heap L ∧ FrameEnd U o U' L ({ frames := 0, cells := 0, slots := 0, locals := 0 } : Room).cells ({ frames := 0, cells := 0, slots := 0, locals := 0 } : Room).slots) := by
  refine MetFree.of_bodySF (plainFor_of_name pn_10) hisR ?_
  intro p e s m args below meth c s₁ Bd hml0 hP hK
  obtain ⟨rfl, hZ, hh⟩ := hP
  have hx := Bd.exec
  have hby := Bd.bytes
  have hlk : meth.locks = false := BodyLoose.notSynchronized Bd
  have hml : c.maxLocals = 1 := hml0
  have hown : s.vm.findClass "com/example/rules_for_records/rulesforrecords/Evaluation" = some m.cls := findClass_of_methodNamed Bd.named
  have hnm := (name_of_methodNamed Bd.named Bd.method).1
  have X0 : Stand p l e ({ frames := 0, cells := 0, slots := 0, locals := 0 } : Room) s m #[(.ref a1)] below meth c s₁ [] 0 0 := Stand.of_body Bd
  have e0 : s₁.heap = h0 := by rw [← hh, Bd.state]; rfl
  have N0 := Fr.nil n0
  show Gl p.tables e below (fun (o : Outcome) (U' : State) => ∃ v L, o = .returned v ∧ Q10a Z a1 an h0 n0 v U'.heap L ∧ FrameEnd s o U' L ({ frames := 0, cells := 0, slots := 0, locals := 0 } : Room).cells ({ frames := 0, cells := 0, slots := 0, locals := 0 } : Room).slots) _
  refine Gl.pre (fun t k => castTop (ef_10a m a1 an) k) ?_
  obtain ⟨PP, hPP⟩ : ∃ P : Outcome → State → Prop, P = (fun (o : Outcome) (U' : State) => ∃ v L, o = .returned v ∧ Q10a Z a1 an h0 n0 v U'.heap L ∧ FrameEnd s o U' L ({ frames := 0, cells := 0, slots := 0, locals := 0 } : Room).cells ({ frames := 0, cells := 0, slots := 0, locals := 0 } : Room).slots) := ⟨_, rfl⟩
  rw [← hPP]
  show Gl p.tables e below PP (s₁.setTop (mkF m 0 #[.val (.ref a1)] []))
  refine Gl.pre (fun _ k => XS.aloadN X0.here hx rfl (hb hby d10_0) rfl rfl k) ?_
  show Gl p.tables e below PP (s₁.setTop (mkF m 1 #[.val (.ref a1)] [(.ref a1)]))
  obtain ⟨T1, X1, e1, st1⟩ := getF X0 hx hZ hown (host := "") (Or.inl (hw _ (List.mem_of_getElem? (i := 88) rfl))) Via.refl e0 F_evaluated_a1 (g := (mkF m 1 #[.val (.ref a1)] [(.ref a1)])) rfl rfl (hb hby d10_1)
  refine Gl.pre (fun _ k => st1 _ k) ?_
  show Gl p.tables e below PP (T1.setTop (mkF m 4 #[.val (.ref a1)] [.null]))
  refine Gl.pre (fun _ k => XS.ifnonnullNo X1.here hx rfl (hb hby d10_4) rfl k) ?_
  show Gl p.tables e below PP (T1.setTop (mkF m 7 #[.val (.ref a1)] []))
  refine Gl.pre (fun _ k => XS.aloadN X1.here hx rfl (hb hby d10_7) rfl rfl k) ?_
  show Gl p.tables e below PP (T1.setTop (mkF m 8 #[.val (.ref a1)] [(.ref a1)]))
  obtain ⟨T2, X2, e2, st2⟩ := getF X1 hx hZ hown (host := "") (Or.inl (hw _ (List.mem_of_getElem? (i := 81) rfl))) Via.refl e1 F_annotating_a1 (g := (mkF m 8 #[.val (.ref a1)] [(.ref a1)])) rfl rfl (hb hby d10_8)
  refine Gl.pre (fun _ k => st2 _ k) ?_
  show Gl p.tables e below PP (T2.setTop (mkF m 11 #[.val (.ref a1)] [(.int an)]))
  suffices J3 : Gl p.tables e below PP (T2.setTop (mkF m 19 #[.val (.ref a1)] [(.int (own_pi (¬ (an = (0 : Int32)))))])) by
    by_cases hd3 : an = (0 : Int32)
    · rw [own_pi_nt hd3] at J3
      refine Gl.pre (fun _ k => XS.ifYes X2.here hx rfl (pc0 := 11) (pc' := 18) rfl (hb hby d10_11) rfl ((if0 _ _).trans (teq hd3).1) (by decide) (by decide) k) ?_
      show Gl p.tables e below PP (T2.setTop (mkF m 18 #[.val (.ref a1)] []))
      refine Gl.pre (fun _ k => XS.iconst X2.here hx rfl (hb hby d10_18) k) ?_
      show Gl p.tables e below PP (T2.setTop (mkF m 19 #[.val (.ref a1)] [(.int (0 : Int32))]))
      exact J3
    · rw [own_pi_nf hd3] at J3
      refine Gl.pre (fun _ k => XS.ifNo X2.here hx rfl (hb hby d10_11) rfl ((if0 _ _).trans (feq hd3).1) k) ?_
      show Gl p.tables e below PP (T2.setTop (mkF m 14 #[.val (.ref a1)] []))
      refine Gl.pre (fun _ k => XS.iconst X2.here hx rfl (hb hby d10_14) k) ?_
      show Gl p.tables e below PP (T2.setTop (mkF m 15 #[.val (.ref a1)] [(.int (1 : Int32))]))
      refine Gl.pre (fun _ k => XS.goto X2.here hx rfl (pc0 := 15) (pc' := 19) rfl (hb hby d10_15) (by decide) (by decide) k) ?_
      show Gl p.tables e below PP (T2.setTop (mkF m 19 #[.val (.ref a1)] [(.int (1 : Int32))]))
      exact J3
  show Gl p.tables e below PP (T2.setTop (mkF m 19 #[.val (.ref a1)] [(.int (own_pi (¬ (an = (0 : Int32)))))]))
  rw [hPP]
  refine own_finN (Q := (Q10a Z a1 an h0 n0)) X2 hx hlk Bd.returns (t := .boolean) (z' := (own_pi (¬ (an = (0 : Int32))))) (by simp) own_nar_pi (hb hby d10_19) ?_ (by decide) (by decide)
  show Q10a Z a1 an h0 n0 _ T2.heap _
  rw [e2]
  exact ⟨rfl, N0, rfl⟩
theorem ef_10b (m : MethodId) (a1 : Addr) (ev : Addr) : entryFrame m #[(.ref a1)] 1 = mkF m 0 #[.val (.ref a1)] [] := by first | (simp [entryFrame, mkF, argsToLocals, Value.category]; done) | rfl
def Q10b (Z : State) (a1 : Addr) (ev : Addr) (h0 : Heap) (n0 : Nat) (v : Option Value) (h : Heap) (L : List Loc) : Prop := v = some (.int (1 : Int32)) ∧ Fr n0 L ∧ h = h0
set_option maxRecDepth 65536 in
set_option maxHeartbeats 40000000 in
theorem rm10b (l : Launch) (Z : State) (a0 : Array Value) (hw : ∀ d ∈ tables_1, d.before a0 Z = true) (ws : List Jvm.Cond) (a1 : Addr) (ev : Addr) (h0 : Heap) (n0 : Nat) (Z0 : n0 ≤ h0.size) (F_evaluated_a1 : Fld Z h0 a1 "com/example/rules_for_records/rulesforrecords/Evaluation" "evaluated" "Lcom/example/rules_for_records/rulesforrecords/Evaluated;" (.ref ev)) :
    MetFree l (⟨"com/example/rules_for_records/rulesforrecords/Evaluation", "appliesEvery", "()Z"⟩ : MethodName) (head1 (Jvm.Cond.code (⟨"com/example/rules_for_records/rulesforrecords/Evaluation", "appliesEvery", "()Z"⟩ : MethodName) prog_10_method_9_code 1 (some .boolean) :: ws) ({ frames := 0, cells := 0, slots := 0, locals := 0 } : Room)) (fun a U => a = #[(.ref a1)] ∧ Z.Warmed39 U.vm ∧ U.heap = h0) (fun _ _ _ _ _ => True) (fun _ U o U' => ∃ v L, o = .returned v ∧ Q10b Z a1 ev h0 n0 v U'.heap L ∧ FrameEnd U o U' L ({ frames := 0, cells := 0, slots := 0, locals := 0 } : Room).cells ({ frames := 0, cells := 0, slots := 0, locals := 0 } : Room).slots) := by
  refine MetFree.of_bodySF (plainFor_of_name pn_10) hisR ?_
  intro p e s m args below meth c s₁ Bd hml0 hP hK
  obtain ⟨rfl, hZ, hh⟩ := hP
  have hx := Bd.exec
  have hby := Bd.bytes
  have hlk : meth.locks = false := BodyLoose.notSynchronized Bd
  have hml : c.maxLocals = 1 := hml0
  have hown : s.vm.findClass "com/example/rules_for_records/rulesforrecords/Evaluation" = some m.cls := findClass_of_methodNamed Bd.named
  have hnm := (name_of_methodNamed Bd.named Bd.method).1
  have X0 : Stand p l e ({ frames := 0, cells := 0, slots := 0, locals := 0 } : Room) s m #[(.ref a1)] below meth c s₁ [] 0 0 := Stand.of_body Bd
  have e0 : s₁.heap = h0 := by rw [← hh, Bd.state]; rfl
  have N0 := Fr.nil n0
  show Gl p.tables e below (fun (o : Outcome) (U' : State) => ∃ v L, o = .returned v ∧ Q10b Z a1 ev h0 n0 v U'.heap L ∧ FrameEnd s o U' L ({ frames := 0, cells := 0, slots := 0, locals := 0 } : Room).cells ({ frames := 0, cells := 0, slots := 0, locals := 0 } : Room).slots) _
  refine Gl.pre (fun t k => castTop (ef_10b m a1 ev) k) ?_
  obtain ⟨PP, hPP⟩ : ∃ P : Outcome → State → Prop, P = (fun (o : Outcome) (U' : State) => ∃ v L, o = .returned v ∧ Q10b Z a1 ev h0 n0 v U'.heap L ∧ FrameEnd s o U' L ({ frames := 0, cells := 0, slots := 0, locals := 0 } : Room).cells ({ frames := 0, cells := 0, slots := 0, locals := 0 } : Room).slots) := ⟨_, rfl⟩
  rw [← hPP]
  show Gl p.tables e below PP (s₁.setTop (mkF m 0 #[.val (.ref a1)] []))
  refine Gl.pre (fun _ k => XS.aloadN X0.here hx rfl (hb hby d10_0) rfl rfl k) ?_
  show Gl p.tables e below PP (s₁.setTop (mkF m 1 #[.val (.ref a1)] [(.ref a1)]))
  obtain ⟨T1, X1, e1, st1⟩ := getF X0 hx hZ hown (host := "") (Or.inl (hw _ (List.mem_of_getElem? (i := 88) rfl))) Via.refl e0 F_evaluated_a1 (g := (mkF m 1 #[.val (.ref a1)] [(.ref a1)])) rfl rfl (hb hby d10_1)
  refine Gl.pre (fun _ k => st1 _ k) ?_
  show Gl p.tables e below PP (T1.setTop (mkF m 4 #[.val (.ref a1)] [(.ref ev)]))
  refine Gl.pre (fun _ k => XS.ifnonnullYes X1.here hx rfl (pc0 := 4) (pc' := 14) rfl (hb hby d10_4) rfl (by decide) (by decide) k) ?_
  show Gl p.tables e below PP (T1.setTop (mkF m 14 #[.val (.ref a1)] []))
  refine Gl.pre (fun _ k => XS.iconst X1.here hx rfl (hb hby d10_14) k) ?_
  show Gl p.tables e below PP (T1.setTop (mkF m 15 #[.val (.ref a1)] [(.int (1 : Int32))]))
  refine Gl.pre (fun _ k => XS.goto X1.here hx rfl (pc0 := 15) (pc' := 19) rfl (hb hby d10_15) (by decide) (by decide) k) ?_
  show Gl p.tables e below PP (T1.setTop (mkF m 19 #[.val (.ref a1)] [(.int (1 : Int32))]))
  rw [hPP]
  refine own_finN (Q := (Q10b Z a1 ev h0 n0)) X1 hx hlk Bd.returns (t := .boolean) (z' := (1 : Int32)) (by simp) (by decide) (hb hby d10_19) ?_ (by decide) (by decide)
  show Q10b Z a1 ev h0 n0 _ T1.heap _
  rw [e1]
  exact ⟨rfl, N0, rfl⟩
theorem d17_0 : decode jdk_92_method_1_code 0 = .ok (.iload_n 0, 1) := by decide +kernel
theorem d17_1 : decode jdk_92_method_1_code 1 = .ok (.bipush 6, 2) := by decide +kernel
theorem d17_3 : decode jdk_92_method_1_code 3 = .ok (.ishr, 1) := by decide +kernel
theorem d17_4 : decode jdk_92_method_1_code 4 = .ok (.ireturn, 1) := by decide +kernel
theorem pn_17 : plainName "java/util/BitSet" = true := by first | (simp [plainName, overriddenIn]; done) | decide +kernel
theorem ef_17 (m : MethodId)  : entryFrame m #[(.int (63 : Int32))] 1 = mkF m 0 #[.val (.int (63 : Int32))] [] := by first | (simp [entryFrame, mkF, argsToLocals, Value.category]; done) | rfl
def Q17 (Z : State)  (h0 : Heap) (n0 : Nat) (v : Option Value) (h : Heap) (L : List Loc) : Prop := v = some (.int (0 : Int32)) ∧ Fr n0 L ∧ h = h0
set_option maxRecDepth 65536 in
set_option maxHeartbeats 40000000 in
theorem rm17 (l : Launch) (Z : State) (a0 : Array Value) (hw : ∀ d ∈ tables_1, d.before a0 Z = true) (ws : List Jvm.Cond)  (h0 : Heap) (n0 : Nat) (Z0 : n0 ≤ h0.size)  :
    MetFree l (⟨"java/util/BitSet", "wordIndex", "(I)I"⟩ : MethodName) (head1 (Jvm.Cond.code (⟨"java/util/BitSet", "wordIndex", "(I)I"⟩ : MethodName) jdk_92_method_1_code 1 (some .int) :: ws) ({ frames := 0, cells := 0, slots := 0, locals := 0 } : Room)) (fun a U => a = #[(.int (63 : Int32))] ∧ Z.Warmed39 U.vm ∧ U.heap = h0) (fun _ _ _ _ _ => True) (fun _ U o U' => ∃ v L, o = .returned v ∧ Q17 Z  h0 n0 v U'.heap L ∧ FrameEnd U o U' L ({ frames := 0, cells := 0, slots := 0, locals := 0 } : Room).cells ({ frames := 0, cells := 0, slots := 0, locals := 0 } : Room).slots) := by
  refine MetFree.of_bodySF (plainFor_of_name pn_17) hisR ?_
  intro p e s m args below meth c s₁ Bd hml0 hP hK
  obtain ⟨rfl, hZ, hh⟩ := hP
  have hx := Bd.exec
  have hby := Bd.bytes
  have hlk : meth.locks = false := BodyLoose.notSynchronized Bd
  have hml : c.maxLocals = 1 := hml0
  have hown : s.vm.findClass "java/util/BitSet" = some m.cls := findClass_of_methodNamed Bd.named
  have hnm := (name_of_methodNamed Bd.named Bd.method).1
  have X0 : Stand p l e ({ frames := 0, cells := 0, slots := 0, locals := 0 } : Room) s m #[(.int (63 : Int32))] below meth c s₁ [] 0 0 := Stand.of_body Bd
  have e0 : s₁.heap = h0 := by rw [← hh, Bd.state]; rfl
  have N0 := Fr.nil n0
  show Gl p.tables e below (fun (o : Outcome) (U' : State) => ∃ v L, o = .returned v ∧ Q17 Z  h0 n0 v U'.heap L ∧ FrameEnd s o U' L ({ frames := 0, cells := 0, slots := 0, locals := 0 } : Room).cells ({ frames := 0, cells := 0, slots := 0, locals := 0 } : Room).slots) _
  refine Gl.pre (fun t k => castTop (ef_17 m ) k) ?_
  obtain ⟨PP, hPP⟩ : ∃ P : Outcome → State → Prop, P = (fun (o : Outcome) (U' : State) => ∃ v L, o = .returned v ∧ Q17 Z  h0 n0 v U'.heap L ∧ FrameEnd s o U' L ({ frames := 0, cells := 0, slots := 0, locals := 0 } : Room).cells ({ frames := 0, cells := 0, slots := 0, locals := 0 } : Room).slots) := ⟨_, rfl⟩
  rw [← hPP]
  show Gl p.tables e below PP (s₁.setTop (mkF m 0 #[.val (.int (63 : Int32))] []))
  refine Gl.pre (fun _ k => XS.iloadN X0.here hx rfl (hb hby d17_0) rfl k) ?_
  show Gl p.tables e below PP (s₁.setTop (mkF m 1 #[.val (.int (63 : Int32))] [(.int (63 : Int32))]))
  refine Gl.pre (fun _ k => XS.bipush X0.here hx rfl (hb hby d17_1) k) ?_
  show Gl p.tables e below PP (s₁.setTop (mkF m 3 #[.val (.int (63 : Int32))] [(.int (6 : Int32)), (.int (63 : Int32))]))
  refine Gl.pre (fun _ k => XS.ishr X0.here hx rfl (hb hby d17_3) rfl k) ?_
  show Gl p.tables e below PP (s₁.setTop (mkF m 4 #[.val (.int (63 : Int32))] [(.int ((63 : Int32) >>> ((6 : Int32) &&& 31)))]))
  rw [show ((63 : Int32) >>> ((6 : Int32) &&& 31)) = (0 : Int32) by decide]
  show Gl p.tables e below PP (s₁.setTop (mkF m 4 #[.val (.int (63 : Int32))] [(.int (0 : Int32))]))
  rw [hPP]
  refine own_finI (Q := (Q17 Z  h0 n0)) X0 hx hlk Bd.returns (hb hby d17_4) ?_ (by decide) (by decide)
  show Q17 Z  h0 n0 _ s₁.heap _
  rw [e0]
  exact ⟨rfl, N0, rfl⟩
theorem d16_0 : decode jdk_92_method_6_code 0 = .ok (.aload_n 0, 1) := by decide +kernel
theorem d16_1 : decode jdk_92_method_6_code 1 = .ok (.iload_n 1, 1) := by decide +kernel
theorem d16_2 : decode jdk_92_method_6_code 2 = .ok (.iconst 1, 1) := by decide +kernel
theorem d16_3 : decode jdk_92_method_6_code 3 = .ok (.isub, 1) := by decide +kernel
theorem d16_4 : decode jdk_92_method_6_code 4 = .ok (.invokestatic 52, 3) := by decide +kernel
theorem d16_7 : decode jdk_92_method_6_code 7 = .ok (.iconst 1, 1) := by decide +kernel
theorem d16_8 : decode jdk_92_method_6_code 8 = .ok (.iadd, 1) := by decide +kernel
theorem d16_9 : decode jdk_92_method_6_code 9 = .ok (.newarray .long, 2) := by decide +kernel
theorem d16_11 : decode jdk_92_method_6_code 11 = .ok (.putfield 11, 3) := by decide +kernel
theorem d16_14 : decode jdk_92_method_6_code 14 = .ok (.return_, 1) := by decide +kernel
theorem pn_16 : plainName "java/util/BitSet" = true := by first | (simp [plainName, overriddenIn]; done) | decide +kernel
theorem ef_16 (m : MethodId) (a1 : Addr) : entryFrame m #[(.ref a1), (.int (64 : Int32))] 2 = mkF m 0 #[.val (.ref a1), .val (.int (64 : Int32))] [] := by first | (simp [entryFrame, mkF, argsToLocals, Value.category]; done) | rfl
def Q16 (Z : State) (a1 : Addr) (h0 : Heap) (n0 : Nat) (v : Option Value) (h : Heap) (L : List Loc) : Prop := v = none ∧ Fr n0 L ∧ Keep h0 h [a1] ∧ Fld Z h a1 "java/util/BitSet" "wordsInUse" "I" (.int (0 : Int32)) ∧ Fld Z h a1 "java/util/BitSet" "sizeIsSticky" "Z" (.int (0 : Int32))
set_option maxRecDepth 65536 in
set_option maxHeartbeats 40000000 in
theorem rm16 (l : Launch) (Z : State) (a0 : Array Value) (hw : ∀ d ∈ tables_1, d.before a0 Z = true) (ws : List Jvm.Cond) (a1 : Addr) (h0 : Heap) (n0 : Nat) (Z0 : n0 ≤ h0.size) (E_a1 : Exa Z h0 a1 "java/util/BitSet") (F_wordsInUse_a1 : Fld Z h0 a1 "java/util/BitSet" "wordsInUse" "I" (.int (0 : Int32))) (F_sizeIsSticky_a1 : Fld Z h0 a1 "java/util/BitSet" "sizeIsSticky" "Z" (.int (0 : Int32))) (F_words_a1 : Fld Z h0 a1 "java/util/BitSet" "words" "[J" .null) (g_a1 : n0 ≤ a1) :
    MetFree l (⟨"java/util/BitSet", "initWords", "(I)V"⟩ : MethodName) (head1 (Jvm.Cond.code (⟨"java/util/BitSet", "initWords", "(I)V"⟩ : MethodName) jdk_92_method_6_code 2 none :: ws) ({ frames := 1, cells := 1, slots := 1, locals := 13 } : Room)) (fun a U => a = #[(.ref a1), (.int (64 : Int32))] ∧ Z.Warmed39 U.vm ∧ U.heap = h0) (fun _ _ _ _ _ => True) (fun _ U o U' => ∃ v L, o = .returned v ∧ Q16 Z a1 h0 n0 v U'.heap L ∧ FrameEnd U o U' L ({ frames := 1, cells := 1, slots := 1, locals := 13 } : Room).cells ({ frames := 1, cells := 1, slots := 1, locals := 13 } : Room).slots) := by
  refine MetFree.of_bodySF (plainFor_of_name pn_16) hisR ?_
  intro p e s m args below meth c s₁ Bd hml0 hP hK
  obtain ⟨rfl, hZ, hh⟩ := hP
  have hx := Bd.exec
  have hby := Bd.bytes
  have hlk : meth.locks = false := BodyLoose.notSynchronized Bd
  have hml : c.maxLocals = 2 := hml0
  have hown : s.vm.findClass "java/util/BitSet" = some m.cls := findClass_of_methodNamed Bd.named
  have hnm := (name_of_methodNamed Bd.named Bd.method).1
  have X0 : Stand p l e ({ frames := 1, cells := 1, slots := 1, locals := 13 } : Room) s m #[(.ref a1), (.int (64 : Int32))] below meth c s₁ [] 0 0 := Stand.of_body Bd
  have e0 : s₁.heap = h0 := by rw [← hh, Bd.state]; rfl
  have N0 := Fr.nil n0
  show Gl p.tables e below (fun (o : Outcome) (U' : State) => ∃ v L, o = .returned v ∧ Q16 Z a1 h0 n0 v U'.heap L ∧ FrameEnd s o U' L ({ frames := 1, cells := 1, slots := 1, locals := 13 } : Room).cells ({ frames := 1, cells := 1, slots := 1, locals := 13 } : Room).slots) _
  refine Gl.pre (fun t k => castTop (ef_16 m a1) k) ?_
  obtain ⟨PP, hPP⟩ : ∃ P : Outcome → State → Prop, P = (fun (o : Outcome) (U' : State) => ∃ v L, o = .returned v ∧ Q16 Z a1 h0 n0 v U'.heap L ∧ FrameEnd s o U' L ({ frames := 1, cells := 1, slots := 1, locals := 13 } : Room).cells ({ frames := 1, cells := 1, slots := 1, locals := 13 } : Room).slots) := ⟨_, rfl⟩
  rw [← hPP]
  have K0 : Keep h0 h0 [a1] := Keep.refl h0 _
  show Gl p.tables e below PP (s₁.setTop (mkF m 0 #[.val (.ref a1), .val (.int (64 : Int32))] []))
  refine Gl.pre (fun _ k => XS.aloadN X0.here hx rfl (hb hby d16_0) rfl rfl k) ?_
  show Gl p.tables e below PP (s₁.setTop (mkF m 1 #[.val (.ref a1), .val (.int (64 : Int32))] [(.ref a1)]))
  refine Gl.pre (fun _ k => XS.iloadN X0.here hx rfl (hb hby d16_1) rfl k) ?_
  show Gl p.tables e below PP (s₁.setTop (mkF m 2 #[.val (.ref a1), .val (.int (64 : Int32))] [(.int (64 : Int32)), (.ref a1)]))
  refine Gl.pre (fun _ k => XS.iconst X0.here hx rfl (hb hby d16_2) k) ?_
  show Gl p.tables e below PP (s₁.setTop (mkF m 3 #[.val (.ref a1), .val (.int (64 : Int32))] [(.int (1 : Int32)), (.int (64 : Int32)), (.ref a1)]))
  refine Gl.pre (fun _ k => XS.isub X0.here hx rfl (hb hby d16_3) rfl k) ?_
  show Gl p.tables e below PP (s₁.setTop (mkF m 4 #[.val (.ref a1), .val (.int (64 : Int32))] [(.int ((64 : Int32) - (1 : Int32))), (.ref a1)]))
  rw [show ((64 : Int32) - (1 : Int32)) = (63 : Int32) by decide]
  show Gl p.tables e below PP (s₁.setTop (mkF m 4 #[.val (.ref a1), .val (.int (64 : Int32))] [(.int (63 : Int32)), (.ref a1)]))
  obtain ⟨_, _, ⟨T1, L1, k1, n1⟩, -, X1, ⟨Lc1, hQ1, l1, y1, z1⟩, st1⟩ := Jvm.LawKit.callS X0 hx (y := (⟨"java/util/BitSet", "wordIndex", "(I)I"⟩ : MethodName)) hown (mvT hZ (hw _ (List.mem_of_getElem? (i := 139) rfl))) (mvT hZ (hw _ (List.mem_of_getElem? (i := 140) rfl))) (mvT hZ (hw _ (List.mem_of_getElem? (i := 125) rfl))) (mvT hZ (hw _ (List.mem_of_getElem? (i := 141) rfl))) (by decide) (backOf (W := 1) (rm17 l Z a0 hw []  h0 n0 Z0 ) hZ (hw _ (List.mem_of_getElem? (i := 141) rfl)) (hw _ (List.mem_of_getElem? (i := 125) rfl)) (by decide) (by decide)) (g := (mkF m 4 #[.val (.ref a1), .val (.int (64 : Int32))] [(.int (63 : Int32)), (.ref a1)])) rfl (by rw [hml]; rfl) (argsL := [(.int (63 : Int32))]) (rest := [(.ref a1)]) (lenOf pd_2 rfl) rfl (by show 2 * 0 + _ ≤ _; exact Nat.le_of_eq rfl) (hb hby d16_4) (fun _ _ => ⟨rfl, e0, (by decide : 0 + 0 ≤ _), (by decide : 0 + 0 ≤ _)⟩)
  dsimp only [Pt.U, Pt.locs, Pt.cells, Pt.slots] at X1 l1 y1 z1 st1 hQ1
  subst l1 y1 z1
  obtain ⟨rfl, N1q, e1⟩ := hQ1
  have N1 := Fr.app N0 N1q
  refine Gl.pre (fun _ k => st1 _ k) ?_
  show Gl p.tables e below PP (T1.setTop (mkF m 7 #[.val (.ref a1), .val (.int (64 : Int32))] [(.int (0 : Int32)), (.ref a1)]))
  refine Gl.pre (fun _ k => XS.iconst X1.here hx rfl (hb hby d16_7) k) ?_
  show Gl p.tables e below PP (T1.setTop (mkF m 8 #[.val (.ref a1), .val (.int (64 : Int32))] [(.int (1 : Int32)), (.int (0 : Int32)), (.ref a1)]))
  refine Gl.pre (fun _ k => XS.iadd X1.here hx rfl (hb hby d16_8) rfl k) ?_
  show Gl p.tables e below PP (T1.setTop (mkF m 9 #[.val (.ref a1), .val (.int (64 : Int32))] [(.int ((0 : Int32) + (1 : Int32))), (.ref a1)]))
  rw [show ((0 : Int32) + (1 : Int32)) = (1 : Int32) by decide]
  show Gl p.tables e below PP (T1.setTop (mkF m 9 #[.val (.ref a1), .val (.int (64 : Int32))] [(.int (1 : Int32)), (.ref a1)]))
  obtain ⟨T2, h2, k2, X2, e2, E2, A2, st2⟩ := newP X1 hx hZ (hw _ (List.mem_of_getElem? (i := 142) rfl)) e1 (g := (mkF m 9 #[.val (.ref a1), .val (.int (64 : Int32))] [(.int (1 : Int32)), (.ref a1)])) rfl (hb hby d16_9) rfl (by decide) (cap := 1) (by decide) (by decide) (by decide) (by decide)
  obtain ⟨b2, g2⟩ : ∃ z, z = h0.size := ⟨_, rfl⟩
  rw [← g2] at A2 st2
  refine Gl.pre (fun _ k => st2 _ k) ?_
  have own_ne_a1_b2 : a1 ≠ b2 := by have q := E_a1.lt; rw [g2]; exact Nat.ne_of_lt q
  have own_ne_b2_a1 : b2 ≠ a1 := own_ne_a1_b2.symm
  have g_b2 : n0 ≤ b2 := Nat.le_trans Z0 (Nat.le_of_eq g2.symm)
  have sz_b2 : h0.size ≤ b2 := Nat.le_trans K0.1 (Nat.le_of_eq g2.symm)
  have E_a1 := E_a1.ext E2
  have F_wordsInUse_a1 := F_wordsInUse_a1.ext E2
  have F_sizeIsSticky_a1 := F_sizeIsSticky_a1.ext E2
  have F_words_a1 := F_words_a1.ext E2
  have Z2 : n0 ≤ h2.size := Nat.le_trans Z0 E2.1
  have K2 := K0.ext E2
  show Gl p.tables e below PP (T2.setTop (mkF m 11 #[.val (.ref a1), .val (.int (64 : Int32))] [(.ref b2), (.ref a1)]))
  obtain ⟨T3, h3, X3, e3, W3, st3⟩ := putF X2 hx hZ hown (host := "") (Or.inl (hw _ (List.mem_of_getElem? (i := 143) rfl))) Via.refl e2 F_words_a1 E_a1 (Or.inl (hw _ (List.mem_of_getElem? (i := 144) rfl))) (hw _ (List.mem_of_getElem? (i := 124) rfl)) (ty := (.array .long)) (by decide) rfl rfl (g := (mkF m 11 #[.val (.ref a1), .val (.int (64 : Int32))] [(.ref b2), (.ref a1)])) rfl rfl (hb hby d16_11)
  refine Gl.pre (fun _ k => st3 _ k) ?_
  have E_a1 := E_a1.wr W3
  have F_wordsInUse_a1 := F_wordsInUse_a1.other W3 (Or.inr (slot_ne (Or.inl (hw _ (List.mem_of_getElem? (i := 131) rfl))) (Or.inl (hw _ (List.mem_of_getElem? (i := 144) rfl))) (by decide) (t := .int) (t' := (.array .long)) (by decide) (by decide)))
  have F_sizeIsSticky_a1 := F_sizeIsSticky_a1.other W3 (Or.inr (slot_ne (Or.inl (hw _ (List.mem_of_getElem? (i := 133) rfl))) (Or.inl (hw _ (List.mem_of_getElem? (i := 144) rfl))) (by decide) (t := .boolean) (t' := (.array .long)) (by decide) (by decide)))
  have F_words_a1 := F_words_a1.same W3
  have Z3 : n0 ≤ h3.size := by rw [W3.size]; exact Z2
  have N3 := Fr.snoc X3 N1 g_a1
  have K3 := K2.wr W3 (Or.inl (List.mem_of_getElem? (i := 0) rfl))
  show Gl p.tables e below PP (T3.setTop (mkF m 14 #[.val (.ref a1), .val (.int (64 : Int32))] []))
  rw [hPP]
  refine own_finV (Q := (Q16 Z a1 h0 n0)) X3 hx hlk Bd.returns (hb hby d16_14) ?_ (by decide) (by decide)
  show Q16 Z a1 h0 n0 _ T3.heap _
  rw [e3]
  exact ⟨rfl, N3, K3, F_wordsInUse_a1, F_sizeIsSticky_a1⟩
theorem d15_0 : decode jdk_92_method_4_code 0 = .ok (.aload_n 0, 1) := by decide +kernel
theorem d15_1 : decode jdk_92_method_4_code 1 = .ok (.invokespecial 21, 3) := by decide +kernel
theorem d15_4 : decode jdk_92_method_4_code 4 = .ok (.aload_n 0, 1) := by decide +kernel
theorem d15_5 : decode jdk_92_method_4_code 5 = .ok (.iconst 0, 1) := by decide +kernel
theorem d15_6 : decode jdk_92_method_4_code 6 = .ok (.putfield 7, 3) := by decide +kernel
theorem d15_9 : decode jdk_92_method_4_code 9 = .ok (.aload_n 0, 1) := by decide +kernel
theorem d15_10 : decode jdk_92_method_4_code 10 = .ok (.iconst 0, 1) := by decide +kernel
theorem d15_11 : decode jdk_92_method_4_code 11 = .ok (.putfield 24, 3) := by decide +kernel
theorem d15_14 : decode jdk_92_method_4_code 14 = .ok (.aload_n 0, 1) := by decide +kernel
theorem d15_15 : decode jdk_92_method_4_code 15 = .ok (.bipush 64, 2) := by decide +kernel
theorem d15_17 : decode jdk_92_method_4_code 17 = .ok (.invokevirtual 27, 3) := by decide +kernel
theorem d15_20 : decode jdk_92_method_4_code 20 = .ok (.aload_n 0, 1) := by decide +kernel
theorem d15_21 : decode jdk_92_method_4_code 21 = .ok (.iconst 0, 1) := by decide +kernel
theorem d15_22 : decode jdk_92_method_4_code 22 = .ok (.putfield 24, 3) := by decide +kernel
theorem d15_25 : decode jdk_92_method_4_code 25 = .ok (.return_, 1) := by decide +kernel
theorem pn_15 : plainName "java/util/BitSet" = true := by first | (simp [plainName, overriddenIn]; done) | decide +kernel
theorem ef_15 (m : MethodId) (a1 : Addr) : entryFrame m #[(.ref a1)] 1 = mkF m 0 #[.val (.ref a1)] [] := by first | (simp [entryFrame, mkF, argsToLocals, Value.category]; done) | rfl
def Q15 (Z : State) (a1 : Addr) (h0 : Heap) (n0 : Nat) (v : Option Value) (h : Heap) (L : List Loc) : Prop := v = none ∧ Fr n0 L ∧ Keep h0 h [a1] ∧ Fld Z h a1 "java/util/BitSet" "wordsInUse" "I" (.int (0 : Int32))
set_option maxRecDepth 65536 in
set_option maxHeartbeats 40000000 in
theorem rm15 (l : Launch) (Z : State) (a0 : Array Value) (hw : ∀ d ∈ tables_1, d.before a0 Z = true) (ws : List Jvm.Cond) (a1 : Addr) (h0 : Heap) (n0 : Nat) (Z0 : n0 ≤ h0.size) (E_a1 : Exa Z h0 a1 "java/util/BitSet") (F_wordsInUse_a1 : Fld Z h0 a1 "java/util/BitSet" "wordsInUse" "I" (.int (0 : Int32))) (F_sizeIsSticky_a1 : Fld Z h0 a1 "java/util/BitSet" "sizeIsSticky" "Z" (.int (0 : Int32))) (F_words_a1 : Fld Z h0 a1 "java/util/BitSet" "words" "[J" .null) (g_a1 : n0 ≤ a1) :
    MetFree l (⟨"java/util/BitSet", "<init>", "()V"⟩ : MethodName) (head1 (Jvm.Cond.code (⟨"java/util/BitSet", "<init>", "()V"⟩ : MethodName) jdk_92_method_4_code 1 none :: ws) ({ frames := 2, cells := 1, slots := 1, locals := 26 } : Room)) (fun a U => a = #[(.ref a1)] ∧ Z.Warmed39 U.vm ∧ U.heap = h0) (fun _ _ _ _ _ => True) (fun _ U o U' => ∃ v L, o = .returned v ∧ Q15 Z a1 h0 n0 v U'.heap L ∧ FrameEnd U o U' L ({ frames := 2, cells := 1, slots := 1, locals := 26 } : Room).cells ({ frames := 2, cells := 1, slots := 1, locals := 26 } : Room).slots) := by
  refine MetFree.of_bodySF (plainFor_of_name pn_15) hisR ?_
  intro p e s m args below meth c s₁ Bd hml0 hP hK
  obtain ⟨rfl, hZ, hh⟩ := hP
  have hx := Bd.exec
  have hby := Bd.bytes
  have hlk : meth.locks = false := BodyLoose.notSynchronized Bd
  have hml : c.maxLocals = 1 := hml0
  have hown : s.vm.findClass "java/util/BitSet" = some m.cls := findClass_of_methodNamed Bd.named
  have hnm := (name_of_methodNamed Bd.named Bd.method).1
  have X0 : Stand p l e ({ frames := 2, cells := 1, slots := 1, locals := 26 } : Room) s m #[(.ref a1)] below meth c s₁ [] 0 0 := Stand.of_body Bd
  have e0 : s₁.heap = h0 := by rw [← hh, Bd.state]; rfl
  have N0 := Fr.nil n0
  show Gl p.tables e below (fun (o : Outcome) (U' : State) => ∃ v L, o = .returned v ∧ Q15 Z a1 h0 n0 v U'.heap L ∧ FrameEnd s o U' L ({ frames := 2, cells := 1, slots := 1, locals := 26 } : Room).cells ({ frames := 2, cells := 1, slots := 1, locals := 26 } : Room).slots) _
  refine Gl.pre (fun t k => castTop (ef_15 m a1) k) ?_
  obtain ⟨PP, hPP⟩ : ∃ P : Outcome → State → Prop, P = (fun (o : Outcome) (U' : State) => ∃ v L, o = .returned v ∧ Q15 Z a1 h0 n0 v U'.heap L ∧ FrameEnd s o U' L ({ frames := 2, cells := 1, slots := 1, locals := 26 } : Room).cells ({ frames := 2, cells := 1, slots := 1, locals := 26 } : Room).slots) := ⟨_, rfl⟩
  rw [← hPP]
  have K0 : Keep h0 h0 [a1] := Keep.refl h0 _
  show Gl p.tables e below PP (s₁.setTop (mkF m 0 #[.val (.ref a1)] []))
  refine Gl.pre (fun _ k => XS.aloadN X0.here hx rfl (hb hby d15_0) rfl rfl k) ?_
  show Gl p.tables e below PP (s₁.setTop (mkF m 1 #[.val (.ref a1)] [(.ref a1)]))
  obtain ⟨T1, X1, e1, st1⟩ := initO X0 hx hZ hown (hw _ (List.mem_of_getElem? (i := 129) rfl)) (hw _ (List.mem_of_getElem? (i := 7) rfl)) (hw _ (List.mem_of_getElem? (i := 8) rfl)) e0 (g := (mkF m 1 #[.val (.ref a1)] [(.ref a1)])) rfl (by rw [hml]; rfl) rfl (hb hby d15_1) (by decide) (W := 0) (by show 2 * 0 + _ ≤ _; exact Nat.le_of_eq rfl) (by decide)
  refine Gl.pre (fun _ k => st1 _ k) ?_
  show Gl p.tables e below PP (T1.setTop (mkF m 4 #[.val (.ref a1)] []))
  refine Gl.pre (fun _ k => XS.aloadN X1.here hx rfl (hb hby d15_4) rfl rfl k) ?_
  show Gl p.tables e below PP (T1.setTop (mkF m 5 #[.val (.ref a1)] [(.ref a1)]))
  refine Gl.pre (fun _ k => XS.iconst X1.here hx rfl (hb hby d15_5) k) ?_
  show Gl p.tables e below PP (T1.setTop (mkF m 6 #[.val (.ref a1)] [(.int (0 : Int32)), (.ref a1)]))
  obtain ⟨T2, h2, X2, e2, W2, st2⟩ := putF X1 hx hZ hown (host := "") (Or.inl (hw _ (List.mem_of_getElem? (i := 130) rfl))) Via.refl e1 F_wordsInUse_a1 E_a1 (Or.inl (hw _ (List.mem_of_getElem? (i := 131) rfl))) (hw _ (List.mem_of_getElem? (i := 124) rfl)) (ty := .int) (by decide) rfl rfl (g := (mkF m 6 #[.val (.ref a1)] [(.int (0 : Int32)), (.ref a1)])) rfl rfl (hb hby d15_6)
  refine Gl.pre (fun _ k => st2 _ k) ?_
  have E_a1 := E_a1.wr W2
  have F_wordsInUse_a1 := F_wordsInUse_a1.same W2
  have F_sizeIsSticky_a1 := F_sizeIsSticky_a1.other W2 (Or.inr (slot_ne (Or.inl (hw _ (List.mem_of_getElem? (i := 133) rfl))) (Or.inl (hw _ (List.mem_of_getElem? (i := 131) rfl))) (by decide) (t := .boolean) (t' := .int) (by decide) (by decide)))
  have F_words_a1 := F_words_a1.other W2 (Or.inr (slot_ne (Or.inl (hw _ (List.mem_of_getElem? (i := 144) rfl))) (Or.inl (hw _ (List.mem_of_getElem? (i := 131) rfl))) (by decide) (t := (.array .long)) (t' := .int) (by decide) (by decide)))
  have Z2 : n0 ≤ h2.size := by rw [W2.size]; exact Z0
  have N2 := Fr.snoc X2 N0 g_a1
  have K2 := K0.wr W2 (Or.inl (List.mem_of_getElem? (i := 0) rfl))
  show Gl p.tables e below PP (T2.setTop (mkF m 9 #[.val (.ref a1)] []))
  refine Gl.pre (fun _ k => XS.aloadN X2.here hx rfl (hb hby d15_9) rfl rfl k) ?_
  show Gl p.tables e below PP (T2.setTop (mkF m 10 #[.val (.ref a1)] [(.ref a1)]))
  refine Gl.pre (fun _ k => XS.iconst X2.here hx rfl (hb hby d15_10) k) ?_
  show Gl p.tables e below PP (T2.setTop (mkF m 11 #[.val (.ref a1)] [(.int (0 : Int32)), (.ref a1)]))
  obtain ⟨T3, h3, X3, e3, W3, st3⟩ := putFN X2 hx hZ hown (hw _ (List.mem_of_getElem? (i := 132) rfl)) Via.refl e2 F_sizeIsSticky_a1 E_a1 (Or.inl (hw _ (List.mem_of_getElem? (i := 133) rfl))) (hw _ (List.mem_of_getElem? (i := 124) rfl)) (ty := .boolean) (v' := (.int (0 : Int32))) (by decide) rfl rfl (g := (mkF m 11 #[.val (.ref a1)] [(.int (0 : Int32)), (.ref a1)])) rfl rfl (hb hby d15_11)
  refine Gl.pre (fun _ k => st3 _ k) ?_
  have E_a1 := E_a1.wr W3
  have F_wordsInUse_a1 := F_wordsInUse_a1.other W3 (Or.inr (slot_ne (Or.inl (hw _ (List.mem_of_getElem? (i := 131) rfl))) (Or.inl (hw _ (List.mem_of_getElem? (i := 133) rfl))) (by decide) (t := .int) (t' := .boolean) (by decide) (by decide)))
  have F_sizeIsSticky_a1 := F_sizeIsSticky_a1.same W3
  have F_words_a1 := F_words_a1.other W3 (Or.inr (slot_ne (Or.inl (hw _ (List.mem_of_getElem? (i := 144) rfl))) (Or.inl (hw _ (List.mem_of_getElem? (i := 133) rfl))) (by decide) (t := (.array .long)) (t' := .boolean) (by decide) (by decide)))
  have Z3 : n0 ≤ h3.size := by rw [W3.size]; exact Z2
  have N3 := Fr.snoc X3 N2 g_a1
  have K3 := K2.wr W3 (Or.inl (List.mem_of_getElem? (i := 0) rfl))
  show Gl p.tables e below PP (T3.setTop (mkF m 14 #[.val (.ref a1)] []))
  refine Gl.pre (fun _ k => XS.aloadN X3.here hx rfl (hb hby d15_14) rfl rfl k) ?_
  show Gl p.tables e below PP (T3.setTop (mkF m 15 #[.val (.ref a1)] [(.ref a1)]))
  refine Gl.pre (fun _ k => XS.bipush X3.here hx rfl (hb hby d15_15) k) ?_
  show Gl p.tables e below PP (T3.setTop (mkF m 17 #[.val (.ref a1)] [(.int (64 : Int32)), (.ref a1)]))
  obtain ⟨cq4, qa4, qb4⟩ := E_a1.cell
  obtain ⟨_, _, ⟨T4, L4, k4, n4⟩, -, X4, ⟨Lc4, hQ4, l4, y4, z4⟩, st4⟩ := X3.privateBack hx (y := (⟨"java/util/BitSet", "initWords", "(I)V"⟩ : MethodName)) hown (mvT hZ (hw _ (List.mem_of_getElem? (i := 134) rfl))) (mvT hZ (hw _ (List.mem_of_getElem? (i := 135) rfl))) (mvT hZ (hw _ (List.mem_of_getElem? (i := 137) rfl))) (Cond.privateMethod_at (mvP hZ (hw _ (List.mem_of_getElem? (i := 136) rfl)) (args := #[]))) (mvT hZ (hw _ (List.mem_of_getElem? (i := 138) rfl))) (by decide) (backOf (W := 0) (rm16 l Z a0 hw [] a1 h3 n0 Z3 E_a1 F_wordsInUse_a1 F_sizeIsSticky_a1 F_words_a1 g_a1) hZ (hw _ (List.mem_of_getElem? (i := 138) rfl)) (hw _ (List.mem_of_getElem? (i := 125) rfl)) (by decide) (by decide)) (g := (mkF m 17 #[.val (.ref a1)] [(.int (64 : Int32)), (.ref a1)])) rfl (by rw [hml]; rfl) (Steps.refl _) (a := a1) (by rw [e3]; exact qa4) qb4 (argsL := [(.int (64 : Int32))]) (rest := []) (lenOf pd_3 rfl) rfl (by show 2 * 0 + _ ≤ _; exact Nat.le_of_eq rfl) (hb hby d15_17) (fun _ _ => ⟨rfl, e3, (by decide : 0 + 1 ≤ _), (by decide : 0 + 1 ≤ _)⟩)
  dsimp only [Pt.U, Pt.locs, Pt.cells, Pt.slots] at X4 l4 y4 z4 st4 hQ4
  subst l4 y4 z4
  obtain ⟨rfl, N4q, K4, x4_0, x4_1⟩ := hQ4
  have N4 := Fr.app N3 N4q
  refine Gl.pre (fun _ k => st4.trans k) ?_
  have E_a1 := E_a1.keep K4
  have Z4 : n0 ≤ T4.heap.size := Nat.le_trans Z3 K4.1
  have K4k := K3.trans K4 (allS (Or.inl (List.mem_of_getElem? (i := 0) rfl)) all0)
  have F_wordsInUse_a1 := x4_0
  have F_sizeIsSticky_a1 := x4_1
  show Gl p.tables e below PP (T4.setTop (mkF m 20 #[.val (.ref a1)] []))
  refine Gl.pre (fun _ k => XS.aloadN X4.here hx rfl (hb hby d15_20) rfl rfl k) ?_
  show Gl p.tables e below PP (T4.setTop (mkF m 21 #[.val (.ref a1)] [(.ref a1)]))
  refine Gl.pre (fun _ k => XS.iconst X4.here hx rfl (hb hby d15_21) k) ?_
  show Gl p.tables e below PP (T4.setTop (mkF m 22 #[.val (.ref a1)] [(.int (0 : Int32)), (.ref a1)]))
  obtain ⟨T5, h5, X5, e5, W5, st5⟩ := putFN X4 hx hZ hown (hw _ (List.mem_of_getElem? (i := 132) rfl)) Via.refl rfl F_sizeIsSticky_a1 E_a1 (Or.inl (hw _ (List.mem_of_getElem? (i := 133) rfl))) (hw _ (List.mem_of_getElem? (i := 124) rfl)) (ty := .boolean) (v' := (.int (0 : Int32))) (by decide) rfl rfl (g := (mkF m 22 #[.val (.ref a1)] [(.int (0 : Int32)), (.ref a1)])) rfl rfl (hb hby d15_22)
  refine Gl.pre (fun _ k => st5 _ k) ?_
  have E_a1 := E_a1.wr W5
  have F_wordsInUse_a1 := F_wordsInUse_a1.other W5 (Or.inr (slot_ne (Or.inl (hw _ (List.mem_of_getElem? (i := 131) rfl))) (Or.inl (hw _ (List.mem_of_getElem? (i := 133) rfl))) (by decide) (t := .int) (t' := .boolean) (by decide) (by decide)))
  have F_sizeIsSticky_a1 := F_sizeIsSticky_a1.same W5
  have Z5 : n0 ≤ h5.size := by rw [W5.size]; exact Z4
  have N5 := Fr.snoc X5 N4 g_a1
  have K5 := K4k.wr W5 (Or.inl (List.mem_of_getElem? (i := 0) rfl))
  show Gl p.tables e below PP (T5.setTop (mkF m 25 #[.val (.ref a1)] []))
  rw [hPP]
  refine own_finV (Q := (Q15 Z a1 h0 n0)) X5 hx hlk Bd.returns (hb hby d15_25) ?_ (by decide) (by decide)
  show Q15 Z a1 h0 n0 _ T5.heap _
  rw [e5]
  exact ⟨rfl, N5, K5, F_wordsInUse_a1⟩
theorem d13_0 : decode jdk_93_method_1_code 0 = .ok (.aload_n 0, 1) := by decide +kernel
theorem d13_1 : decode jdk_93_method_1_code 1 = .ok (.invokespecial 1, 3) := by decide +kernel
theorem d13_4 : decode jdk_93_method_1_code 4 = .ok (.aload_n 0, 1) := by decide +kernel
theorem d13_5 : decode jdk_93_method_1_code 5 = .ok (.new 7, 3) := by decide +kernel
theorem d13_8 : decode jdk_93_method_1_code 8 = .ok (.dup, 1) := by decide +kernel
theorem d13_9 : decode jdk_93_method_1_code 9 = .ok (.invokespecial 9, 3) := by decide +kernel
theorem d13_12 : decode jdk_93_method_1_code 12 = .ok (.putfield 10, 3) := by decide +kernel
theorem d13_15 : decode jdk_93_method_1_code 15 = .ok (.return_, 1) := by decide +kernel
theorem pn_13 : plainName "java/util/HashSet" = true := by first | (simp [plainName, overriddenIn]; done) | decide +kernel
theorem ef_13 (m : MethodId) (a1 : Addr) : entryFrame m #[(.ref a1)] 1 = mkF m 0 #[.val (.ref a1)] [] := by first | (simp [entryFrame, mkF, argsToLocals, Value.category]; done) | rfl
def Q13 (Z : State) (a1 : Addr) (h0 : Heap) (n0 : Nat) (v : Option Value) (h : Heap) (L : List Loc) : Prop := ∃ om : Addr, v = none ∧ Fr n0 L ∧ Keep h0 h [a1] ∧ h0.size ≤ om ∧ Fld Z h a1 "java/util/HashSet" "map" "Ljava/util/HashMap;" (.ref om) ∧ Exa Z h om "java/util/HashMap" ∧ Fld Z h om "java/util/AbstractMap" "keySet" "Ljava/util/Set;" .null ∧ Fld Z h om "java/util/HashMap" "modCount" "I" (.int (0 : Int32)) ∧ Fld Z h om "java/util/HashMap" "table" "[Ljava/util/HashMap$Node;" .null
set_option maxRecDepth 65536 in
set_option maxHeartbeats 40000000 in
theorem rm13 (l : Launch) (Z : State) (a0 : Array Value) (hw : ∀ d ∈ tables_1, d.before a0 Z = true) (ws : List Jvm.Cond) (a1 : Addr) (h0 : Heap) (n0 : Nat) (Z0 : n0 ≤ h0.size) (E_a1 : Exa Z h0 a1 "java/util/HashSet") (F_map_a1 : Fld Z h0 a1 "java/util/HashSet" "map" "Ljava/util/HashMap;" .null) (g_a1 : n0 ≤ a1) :
    MetFree l (⟨"java/util/HashSet", "<init>", "()V"⟩ : MethodName) (head1 (Jvm.Cond.code (⟨"java/util/HashSet", "<init>", "()V"⟩ : MethodName) jdk_93_method_1_code 1 none :: ws) ({ frames := 3, cells := 1, slots := 8, locals := 38 } : Room)) (fun a U => a = #[(.ref a1)] ∧ Z.Warmed39 U.vm ∧ U.heap = h0) (fun _ _ _ _ _ => True) (fun _ U o U' => ∃ v L, o = .returned v ∧ Q13 Z a1 h0 n0 v U'.heap L ∧ FrameEnd U o U' L ({ frames := 3, cells := 1, slots := 8, locals := 38 } : Room).cells ({ frames := 3, cells := 1, slots := 8, locals := 38 } : Room).slots) := by
  refine MetFree.of_bodySF (plainFor_of_name pn_13) hisR ?_
  intro p e s m args below meth c s₁ Bd hml0 hP hK
  obtain ⟨rfl, hZ, hh⟩ := hP
  have hx := Bd.exec
  have hby := Bd.bytes
  have hlk : meth.locks = false := BodyLoose.notSynchronized Bd
  have hml : c.maxLocals = 1 := hml0
  have hown : s.vm.findClass "java/util/HashSet" = some m.cls := findClass_of_methodNamed Bd.named
  have hnm := (name_of_methodNamed Bd.named Bd.method).1
  have X0 : Stand p l e ({ frames := 3, cells := 1, slots := 8, locals := 38 } : Room) s m #[(.ref a1)] below meth c s₁ [] 0 0 := Stand.of_body Bd
  have e0 : s₁.heap = h0 := by rw [← hh, Bd.state]; rfl
  have N0 := Fr.nil n0
  show Gl p.tables e below (fun (o : Outcome) (U' : State) => ∃ v L, o = .returned v ∧ Q13 Z a1 h0 n0 v U'.heap L ∧ FrameEnd s o U' L ({ frames := 3, cells := 1, slots := 8, locals := 38 } : Room).cells ({ frames := 3, cells := 1, slots := 8, locals := 38 } : Room).slots) _
  refine Gl.pre (fun t k => castTop (ef_13 m a1) k) ?_
  obtain ⟨PP, hPP⟩ : ∃ P : Outcome → State → Prop, P = (fun (o : Outcome) (U' : State) => ∃ v L, o = .returned v ∧ Q13 Z a1 h0 n0 v U'.heap L ∧ FrameEnd s o U' L ({ frames := 3, cells := 1, slots := 8, locals := 38 } : Room).cells ({ frames := 3, cells := 1, slots := 8, locals := 38 } : Room).slots) := ⟨_, rfl⟩
  rw [← hPP]
  have K0 : Keep h0 h0 [a1] := Keep.refl h0 _
  show Gl p.tables e below PP (s₁.setTop (mkF m 0 #[.val (.ref a1)] []))
  refine Gl.pre (fun _ k => XS.aloadN X0.here hx rfl (hb hby d13_0) rfl rfl k) ?_
  show Gl p.tables e below PP (s₁.setTop (mkF m 1 #[.val (.ref a1)] [(.ref a1)]))
  obtain ⟨_, _, ⟨T1, L1, k1, n1⟩, -, X1, ⟨Lc1, hQ1, l1, y1, z1⟩, st1⟩ := X0.specialBack hx (y := (⟨"java/util/AbstractSet", "<init>", "()V"⟩ : MethodName)) rfl hown (mvT hZ (hw _ (List.mem_of_getElem? (i := 108) rfl))) (mvT hZ (hw _ (List.mem_of_getElem? (i := 109) rfl))) (mvT hZ (hw _ (List.mem_of_getElem? (i := 113) rfl))) (by decide) (backOf (W := 0) (rm14 l Z a0 hw [] a1 h0 n0 Z0 ) hZ (hw _ (List.mem_of_getElem? (i := 113) rfl)) (hw _ (List.mem_of_getElem? (i := 112) rfl)) (by decide) (by decide)) (g := (mkF m 1 #[.val (.ref a1)] [(.ref a1)])) rfl (by rw [hml]; rfl) (Steps.refl _) (a := a1) (argsL := []) (rest := []) (lenOf pd_0 rfl) rfl (by show 2 * 0 + _ ≤ _; exact Nat.le_of_eq rfl) (hb hby d13_1) (fun _ _ => ⟨rfl, e0, (by decide : 0 + 0 ≤ _), (by decide : 0 + 0 ≤ _)⟩)
  dsimp only [Pt.U, Pt.locs, Pt.cells, Pt.slots] at X1 l1 y1 z1 st1 hQ1
  subst l1 y1 z1
  obtain ⟨rfl, N1q, e1⟩ := hQ1
  have N1 := Fr.app N0 N1q
  refine Gl.pre (fun _ k => st1.trans k) ?_
  show Gl p.tables e below PP (T1.setTop (mkF m 4 #[.val (.ref a1)] []))
  refine Gl.pre (fun _ k => XS.aloadN X1.here hx rfl (hb hby d13_4) rfl rfl k) ?_
  show Gl p.tables e below PP (T1.setTop (mkF m 5 #[.val (.ref a1)] [(.ref a1)]))
  obtain ⟨T2, h2, X2, e2, E2, A2, D2, -, st2⟩ := newO X1 hx hZ hown (hw _ (List.mem_of_getElem? (i := 116) rfl)) (hw _ (List.mem_of_getElem? (i := 62) rfl)) (hw _ (List.mem_of_getElem? (i := 63) rfl)) e1 (g := (mkF m 5 #[.val (.ref a1)] [(.ref a1)])) rfl (hb hby d13_5) (by decide) (by decide)
  obtain ⟨b2, g2⟩ : ∃ z, z = h0.size := ⟨_, rfl⟩
  rw [← g2] at A2 D2 st2
  refine Gl.pre (fun _ k => st2 _ k) ?_
  have own_ne_a1_b2 : a1 ≠ b2 := by have q := E_a1.lt; rw [g2]; exact Nat.ne_of_lt q
  have own_ne_b2_a1 : b2 ≠ a1 := own_ne_a1_b2.symm
  have g_b2 : n0 ≤ b2 := Nat.le_trans Z0 (Nat.le_of_eq g2.symm)
  have sz_b2 : h0.size ≤ b2 := Nat.le_trans K0.1 (Nat.le_of_eq g2.symm)
  have E_a1 := E_a1.ext E2
  have F_map_a1 := F_map_a1.ext E2
  have Z2 : n0 ≤ h2.size := Nat.le_trans Z0 E2.1
  have K2 := K0.ext E2
  have E_b2 := A2
  have F_loadFactor_b2 : Fld Z h2 b2 "java/util/HashMap" "loadFactor" "F" (.float 0) := D2 (Or.inr (hw _ (List.mem_of_getElem? (i := 76) rfl))) (ty := .float) (by decide)
  have F_keySet_b2 : Fld Z h2 b2 "java/util/AbstractMap" "keySet" "Ljava/util/Set;" .null := D2 (Or.inl (hw _ (List.mem_of_getElem? (i := 182) rfl))) (ty := (.object "java/util/Set")) (by decide)
  have F_modCount_b2 : Fld Z h2 b2 "java/util/HashMap" "modCount" "I" (.int (0 : Int32)) := D2 (Or.inl (hw _ (List.mem_of_getElem? (i := 221) rfl))) (ty := .int) (by decide)
  have F_table_b2 : Fld Z h2 b2 "java/util/HashMap" "table" "[Ljava/util/HashMap$Node;" .null := D2 (Or.inl (hw _ (List.mem_of_getElem? (i := 225) rfl))) (ty := (.array (.object "java/util/HashMap$Node"))) (by decide)
  show Gl p.tables e below PP (T2.setTop (mkF m 8 #[.val (.ref a1)] [(.ref b2), (.ref a1)]))
  refine Gl.pre (fun _ k => XS.dup X2.here hx rfl (hb hby d13_8) rfl rfl k) ?_
  show Gl p.tables e below PP (T2.setTop (mkF m 9 #[.val (.ref a1)] [(.ref b2), (.ref b2), (.ref a1)]))
  obtain ⟨_, _, ⟨T3, L3, k3, n3⟩, -, X3, ⟨Lc3, hQ3, l3, y3, z3⟩, st3⟩ := X2.specialBack hx (y := (⟨"java/util/HashMap", "<init>", "()V"⟩ : MethodName)) rfl hown (mvT hZ (hw _ (List.mem_of_getElem? (i := 117) rfl))) (mvT hZ (hw _ (List.mem_of_getElem? (i := 65) rfl))) (mvT hZ (hw _ (List.mem_of_getElem? (i := 66) rfl))) (by decide) (backOf (W := 2) (rm8 l Z a0 hw [] b2 h2 n0 Z2 E_b2 F_loadFactor_b2 F_keySet_b2 F_modCount_b2 F_table_b2 g_b2) hZ (hw _ (List.mem_of_getElem? (i := 66) rfl)) (hw _ (List.mem_of_getElem? (i := 63) rfl)) (by decide) (by decide)) (g := (mkF m 9 #[.val (.ref a1)] [(.ref b2), (.ref b2), (.ref a1)])) rfl (by rw [hml]; rfl) (Steps.refl _) (a := b2) (argsL := []) (rest := [(.ref b2), (.ref a1)]) (lenOf pd_0 rfl) rfl (by show 2 * 0 + _ ≤ _; exact Nat.le_of_eq rfl) (hb hby d13_9) (fun _ _ => ⟨rfl, e2, (by decide : 1 + 0 ≤ _), (by decide : 8 + 0 ≤ _)⟩)
  dsimp only [Pt.U, Pt.locs, Pt.cells, Pt.slots] at X3 l3 y3 z3 st3 hQ3
  subst l3 y3 z3
  obtain ⟨rfl, N3q, K3, x3_0, x3_1, x3_2⟩ := hQ3
  have N3 := Fr.app N1 N3q
  refine Gl.pre (fun _ k => st3.trans k) ?_
  have E_a1 := E_a1.keep K3
  have F_map_a1 := F_map_a1.keep K3 (ninS (own_ne_a1_b2) nin0)
  have E_b2 := E_b2.keep K3
  have Z3 : n0 ≤ T3.heap.size := Nat.le_trans Z2 K3.1
  have K3k := K2.trans K3 (allS (Or.inr sz_b2) all0)
  have F_keySet_b2 := x3_0
  have F_modCount_b2 := x3_1
  have F_table_b2 := x3_2
  show Gl p.tables e below PP (T3.setTop (mkF m 12 #[.val (.ref a1)] [(.ref b2), (.ref a1)]))
  obtain ⟨T4, h4, X4, e4, W4, st4⟩ := putF X3 hx hZ hown (host := "") (Or.inl (hw _ (List.mem_of_getElem? (i := 119) rfl))) Via.refl rfl F_map_a1 E_a1 (Or.inl (hw _ (List.mem_of_getElem? (i := 120) rfl))) (hw _ (List.mem_of_getElem? (i := 103) rfl)) (ty := (.object "java/util/HashMap")) (by decide) rfl rfl (g := (mkF m 12 #[.val (.ref a1)] [(.ref b2), (.ref a1)])) rfl rfl (hb hby d13_12)
  refine Gl.pre (fun _ k => st4 _ k) ?_
  have E_a1 := E_a1.wr W4
  have F_map_a1 := F_map_a1.same W4
  have E_b2 := E_b2.wr W4
  have F_keySet_b2 := F_keySet_b2.other W4 (Or.inl (own_ne_b2_a1))
  have F_modCount_b2 := F_modCount_b2.other W4 (Or.inl (own_ne_b2_a1))
  have F_table_b2 := F_table_b2.other W4 (Or.inl (own_ne_b2_a1))
  have Z4 : n0 ≤ h4.size := by rw [W4.size]; exact Z3
  have N4 := Fr.snoc X4 N3 g_a1
  have K4 := K3k.wr W4 (Or.inl (List.mem_of_getElem? (i := 0) rfl))
  show Gl p.tables e below PP (T4.setTop (mkF m 15 #[.val (.ref a1)] []))
  rw [hPP]
  refine own_finV (Q := (Q13 Z a1 h0 n0)) X4 hx hlk Bd.returns (hb hby d13_15) ?_ (by decide) (by decide)
  show Q13 Z a1 h0 n0 _ T4.heap _
  rw [e4]
  exact ⟨b2, rfl, N4, K4, sz_b2, F_map_a1, E_b2, F_keySet_b2, F_modCount_b2, F_table_b2⟩
theorem d12_0 : decode prog_9_method_1_code 0 = .ok (.aload_n 0, 1) := by decide +kernel
theorem d12_1 : decode prog_9_method_1_code 1 = .ok (.invokespecial 1, 3) := by decide +kernel
theorem d12_4 : decode prog_9_method_1_code 4 = .ok (.aload_n 0, 1) := by decide +kernel
theorem d12_5 : decode prog_9_method_1_code 5 = .ok (.new 7, 3) := by decide +kernel
theorem d12_8 : decode prog_9_method_1_code 8 = .ok (.dup, 1) := by decide +kernel
theorem d12_9 : decode prog_9_method_1_code 9 = .ok (.invokespecial 9, 3) := by decide +kernel
theorem d12_12 : decode prog_9_method_1_code 12 = .ok (.putfield 10, 3) := by decide +kernel
theorem d12_15 : decode prog_9_method_1_code 15 = .ok (.aload_n 0, 1) := by decide +kernel
theorem d12_16 : decode prog_9_method_1_code 16 = .ok (.new 16, 3) := by decide +kernel
theorem d12_19 : decode prog_9_method_1_code 19 = .ok (.dup, 1) := by decide +kernel
theorem d12_20 : decode prog_9_method_1_code 20 = .ok (.invokespecial 18, 3) := by decide +kernel
theorem d12_23 : decode prog_9_method_1_code 23 = .ok (.putfield 19, 3) := by decide +kernel
theorem d12_26 : decode prog_9_method_1_code 26 = .ok (.return_, 1) := by decide +kernel
theorem pn_12 : plainName "com/example/rules_for_records/rulesforrecords/Evaluated" = true := by first | (simp [plainName, overriddenIn]; done) | decide +kernel
theorem ef_12 (m : MethodId) (a1 : Addr) : entryFrame m #[(.ref a1)] 1 = mkF m 0 #[.val (.ref a1)] [] := by first | (simp [entryFrame, mkF, argsToLocals, Value.category]; done) | rfl
def Q12 (Z : State) (a1 : Addr) (h0 : Heap) (n0 : Nat) (v : Option Value) (h : Heap) (L : List Loc) : Prop := ∃ oh om ob : Addr, v = none ∧ Fr n0 L ∧ Keep h0 h [a1] ∧ h0.size ≤ oh ∧ h0.size ≤ om ∧ h0.size ≤ ob ∧ Fld Z h a1 "com/example/rules_for_records/rulesforrecords/Evaluated" "names" "Ljava/util/Set;" (.ref oh) ∧ Fld Z h a1 "com/example/rules_for_records/rulesforrecords/Evaluated" "items" "Ljava/util/BitSet;" (.ref ob) ∧ Fld Z h a1 "com/example/rules_for_records/rulesforrecords/Evaluated" "keysNamed" "Z" (.int (0 : Int32)) ∧ Exa Z h oh "java/util/HashSet" ∧ Fld Z h oh "java/util/HashSet" "map" "Ljava/util/HashMap;" (.ref om) ∧ Exa Z h om "java/util/HashMap" ∧ Fld Z h om "java/util/AbstractMap" "keySet" "Ljava/util/Set;" .null ∧ Fld Z h om "java/util/HashMap" "modCount" "I" (.int (0 : Int32)) ∧ Fld Z h om "java/util/HashMap" "table" "[Ljava/util/HashMap$Node;" .null ∧ Exa Z h ob "java/util/BitSet" ∧ Fld Z h ob "java/util/BitSet" "wordsInUse" "I" (.int (0 : Int32)) ∧ ob ≠ om
set_option maxRecDepth 65536 in
set_option maxHeartbeats 40000000 in
theorem rm12 (l : Launch) (Z : State) (a0 : Array Value) (hw : ∀ d ∈ tables_1, d.before a0 Z = true) (ws : List Jvm.Cond) (a1 : Addr) (h0 : Heap) (n0 : Nat) (Z0 : n0 ≤ h0.size) (E_a1 : Exa Z h0 a1 "com/example/rules_for_records/rulesforrecords/Evaluated") (F_names_a1 : Fld Z h0 a1 "com/example/rules_for_records/rulesforrecords/Evaluated" "names" "Ljava/util/Set;" .null) (F_items_a1 : Fld Z h0 a1 "com/example/rules_for_records/rulesforrecords/Evaluated" "items" "Ljava/util/BitSet;" .null) (F_keysNamed_a1 : Fld Z h0 a1 "com/example/rules_for_records/rulesforrecords/Evaluated" "keysNamed" "Z" (.int (0 : Int32))) (g_a1 : n0 ≤ a1) :
    MetFree l (⟨"com/example/rules_for_records/rulesforrecords/Evaluated", "<init>", "()V"⟩ : MethodName) (head1 (Jvm.Cond.code (⟨"com/example/rules_for_records/rulesforrecords/Evaluated", "<init>", "()V"⟩ : MethodName) prog_9_method_1_code 1 none :: ws) ({ frames := 4, cells := 4, slots := 13, locals := 52 } : Room)) (fun a U => a = #[(.ref a1)] ∧ Z.Warmed39 U.vm ∧ U.heap = h0) (fun _ _ _ _ _ => True) (fun _ U o U' => ∃ v L, o = .returned v ∧ Q12 Z a1 h0 n0 v U'.heap L ∧ FrameEnd U o U' L ({ frames := 4, cells := 4, slots := 13, locals := 52 } : Room).cells ({ frames := 4, cells := 4, slots := 13, locals := 52 } : Room).slots) := by
  refine MetFree.of_bodySF (plainFor_of_name pn_12) hisR ?_
  intro p e s m args below meth c s₁ Bd hml0 hP hK
  obtain ⟨rfl, hZ, hh⟩ := hP
  have hx := Bd.exec
  have hby := Bd.bytes
  have hlk : meth.locks = false := BodyLoose.notSynchronized Bd
  have hml : c.maxLocals = 1 := hml0
  have hown : s.vm.findClass "com/example/rules_for_records/rulesforrecords/Evaluated" = some m.cls := findClass_of_methodNamed Bd.named
  have hnm := (name_of_methodNamed Bd.named Bd.method).1
  have X0 : Stand p l e ({ frames := 4, cells := 4, slots := 13, locals := 52 } : Room) s m #[(.ref a1)] below meth c s₁ [] 0 0 := Stand.of_body Bd
  have e0 : s₁.heap = h0 := by rw [← hh, Bd.state]; rfl
  have N0 := Fr.nil n0
  show Gl p.tables e below (fun (o : Outcome) (U' : State) => ∃ v L, o = .returned v ∧ Q12 Z a1 h0 n0 v U'.heap L ∧ FrameEnd s o U' L ({ frames := 4, cells := 4, slots := 13, locals := 52 } : Room).cells ({ frames := 4, cells := 4, slots := 13, locals := 52 } : Room).slots) _
  refine Gl.pre (fun t k => castTop (ef_12 m a1) k) ?_
  obtain ⟨PP, hPP⟩ : ∃ P : Outcome → State → Prop, P = (fun (o : Outcome) (U' : State) => ∃ v L, o = .returned v ∧ Q12 Z a1 h0 n0 v U'.heap L ∧ FrameEnd s o U' L ({ frames := 4, cells := 4, slots := 13, locals := 52 } : Room).cells ({ frames := 4, cells := 4, slots := 13, locals := 52 } : Room).slots) := ⟨_, rfl⟩
  rw [← hPP]
  have K0 : Keep h0 h0 [a1] := Keep.refl h0 _
  show Gl p.tables e below PP (s₁.setTop (mkF m 0 #[.val (.ref a1)] []))
  refine Gl.pre (fun _ k => XS.aloadN X0.here hx rfl (hb hby d12_0) rfl rfl k) ?_
  show Gl p.tables e below PP (s₁.setTop (mkF m 1 #[.val (.ref a1)] [(.ref a1)]))
  obtain ⟨T1, X1, e1, st1⟩ := initO X0 hx hZ hown (hw _ (List.mem_of_getElem? (i := 101) rfl)) (hw _ (List.mem_of_getElem? (i := 7) rfl)) (hw _ (List.mem_of_getElem? (i := 8) rfl)) e0 (g := (mkF m 1 #[.val (.ref a1)] [(.ref a1)])) rfl (by rw [hml]; rfl) rfl (hb hby d12_1) (by decide) (W := 0) (by show 2 * 0 + _ ≤ _; exact Nat.le_of_eq rfl) (by decide)
  refine Gl.pre (fun _ k => st1 _ k) ?_
  show Gl p.tables e below PP (T1.setTop (mkF m 4 #[.val (.ref a1)] []))
  refine Gl.pre (fun _ k => XS.aloadN X1.here hx rfl (hb hby d12_4) rfl rfl k) ?_
  show Gl p.tables e below PP (T1.setTop (mkF m 5 #[.val (.ref a1)] [(.ref a1)]))
  obtain ⟨T2, h2, X2, e2, E2, A2, D2, -, st2⟩ := newO X1 hx hZ hown (hw _ (List.mem_of_getElem? (i := 102) rfl)) (hw _ (List.mem_of_getElem? (i := 103) rfl)) (hw _ (List.mem_of_getElem? (i := 104) rfl)) e1 (g := (mkF m 5 #[.val (.ref a1)] [(.ref a1)])) rfl (hb hby d12_5) (by decide) (by decide)
  obtain ⟨b2, g2⟩ : ∃ z, z = h0.size := ⟨_, rfl⟩
  rw [← g2] at A2 D2 st2
  refine Gl.pre (fun _ k => st2 _ k) ?_
  have own_ne_a1_b2 : a1 ≠ b2 := by have q := E_a1.lt; rw [g2]; exact Nat.ne_of_lt q
  have own_ne_b2_a1 : b2 ≠ a1 := own_ne_a1_b2.symm
  have g_b2 : n0 ≤ b2 := Nat.le_trans Z0 (Nat.le_of_eq g2.symm)
  have sz_b2 : h0.size ≤ b2 := Nat.le_trans K0.1 (Nat.le_of_eq g2.symm)
  have E_a1 := E_a1.ext E2
  have F_names_a1 := F_names_a1.ext E2
  have F_items_a1 := F_items_a1.ext E2
  have F_keysNamed_a1 := F_keysNamed_a1.ext E2
  have Z2 : n0 ≤ h2.size := Nat.le_trans Z0 E2.1
  have K2 := K0.ext E2
  have E_b2 := A2
  have F_map_b2 : Fld Z h2 b2 "java/util/HashSet" "map" "Ljava/util/HashMap;" .null := D2 (Or.inl (hw _ (List.mem_of_getElem? (i := 120) rfl))) (ty := (.object "java/util/HashMap")) (by decide)
  show Gl p.tables e below PP (T2.setTop (mkF m 8 #[.val (.ref a1)] [(.ref b2), (.ref a1)]))
  refine Gl.pre (fun _ k => XS.dup X2.here hx rfl (hb hby d12_8) rfl rfl k) ?_
  show Gl p.tables e below PP (T2.setTop (mkF m 9 #[.val (.ref a1)] [(.ref b2), (.ref b2), (.ref a1)]))
  obtain ⟨_, _, ⟨T3, L3, k3, n3⟩, -, X3, ⟨Lc3, hQ3, l3, y3, z3⟩, st3⟩ := X2.specialBack hx (y := (⟨"java/util/HashSet", "<init>", "()V"⟩ : MethodName)) rfl hown (mvT hZ (hw _ (List.mem_of_getElem? (i := 105) rfl))) (mvT hZ (hw _ (List.mem_of_getElem? (i := 106) rfl))) (mvT hZ (hw _ (List.mem_of_getElem? (i := 107) rfl))) (by decide) (backOf (W := 2) (rm13 l Z a0 hw [] b2 h2 n0 Z2 E_b2 F_map_b2 g_b2) hZ (hw _ (List.mem_of_getElem? (i := 107) rfl)) (hw _ (List.mem_of_getElem? (i := 104) rfl)) (by decide) (by decide)) (g := (mkF m 9 #[.val (.ref a1)] [(.ref b2), (.ref b2), (.ref a1)])) rfl (by rw [hml]; rfl) (Steps.refl _) (a := b2) (argsL := []) (rest := [(.ref b2), (.ref a1)]) (lenOf pd_0 rfl) rfl (by show 2 * 0 + _ ≤ _; exact Nat.le_of_eq rfl) (hb hby d12_9) (fun _ _ => ⟨rfl, e2, (by decide : 1 + 1 ≤ _), (by decide : 1 + 8 ≤ _)⟩)
  dsimp only [Pt.U, Pt.locs, Pt.cells, Pt.slots] at X3 l3 y3 z3 st3 hQ3
  subst l3 y3 z3
  obtain ⟨om3, rfl, N3q, K3, hzom3, x3_0, x3_1, x3_2, x3_3, x3_4⟩ := hQ3
  have N3 := Fr.app N0 N3q
  refine Gl.pre (fun _ k => st3.trans k) ?_
  have own_ne_a1_om3 : a1 ≠ om3 := Nat.ne_of_lt (Nat.lt_of_lt_of_le E_a1.lt hzom3)
  have own_ne_om3_a1 := own_ne_a1_om3.symm
  have own_ne_b2_om3 : b2 ≠ om3 := Nat.ne_of_lt (Nat.lt_of_lt_of_le E_b2.lt hzom3)
  have own_ne_om3_b2 := own_ne_b2_om3.symm
  have g_om3 : n0 ≤ om3 := Nat.le_trans Z2 hzom3
  have sz_om3 : h0.size ≤ om3 := Nat.le_trans K2.1 hzom3
  have E_a1 := E_a1.keep K3
  have F_names_a1 := F_names_a1.keep K3 (ninS (own_ne_a1_b2) nin0)
  have F_items_a1 := F_items_a1.keep K3 (ninS (own_ne_a1_b2) nin0)
  have F_keysNamed_a1 := F_keysNamed_a1.keep K3 (ninS (own_ne_a1_b2) nin0)
  have E_b2 := E_b2.keep K3
  have Z3 : n0 ≤ T3.heap.size := Nat.le_trans Z2 K3.1
  have K3k := K2.trans K3 (allS (Or.inr sz_b2) all0)
  have F_map_b2 := x3_0
  have E_om3 := x3_1
  have F_keySet_om3 := x3_2
  have F_modCount_om3 := x3_3
  have F_table_om3 := x3_4
  show Gl p.tables e below PP (T3.setTop (mkF m 12 #[.val (.ref a1)] [(.ref b2), (.ref a1)]))
  obtain ⟨T4, h4, X4, e4, W4, st4⟩ := putF X3 hx hZ hown (host := "") (Or.inl (hw _ (List.mem_of_getElem? (i := 121) rfl))) Via.refl rfl F_names_a1 E_a1 (Or.inr ⟨(hw _ (List.mem_of_getElem? (i := 122) rfl)), rfl, hnm⟩) (hw _ (List.mem_of_getElem? (i := 96) rfl)) (ty := (.object "java/util/Set")) (by decide) rfl rfl (g := (mkF m 12 #[.val (.ref a1)] [(.ref b2), (.ref a1)])) rfl rfl (hb hby d12_12)
  refine Gl.pre (fun _ k => st4 _ k) ?_
  have E_a1 := E_a1.wr W4
  have F_names_a1 := F_names_a1.same W4
  have F_items_a1 := F_items_a1.other W4 (Or.inr (slot_ne (Or.inr (hw _ (List.mem_of_getElem? (i := 146) rfl))) (Or.inr (hw _ (List.mem_of_getElem? (i := 122) rfl))) (by decide) (t := (.object "java/util/BitSet")) (t' := (.object "java/util/Set")) (by decide) (by decide)))
  have F_keysNamed_a1 := F_keysNamed_a1.other W4 (Or.inr (slot_ne (Or.inl (hw _ (List.mem_of_getElem? (i := 257) rfl))) (Or.inr (hw _ (List.mem_of_getElem? (i := 122) rfl))) (by decide) (t := .boolean) (t' := (.object "java/util/Set")) (by decide) (by decide)))
  have E_b2 := E_b2.wr W4
  have F_map_b2 := F_map_b2.other W4 (Or.inl (own_ne_b2_a1))
  have E_om3 := E_om3.wr W4
  have F_keySet_om3 := F_keySet_om3.other W4 (Or.inl (own_ne_om3_a1))
  have F_modCount_om3 := F_modCount_om3.other W4 (Or.inl (own_ne_om3_a1))
  have F_table_om3 := F_table_om3.other W4 (Or.inl (own_ne_om3_a1))
  have Z4 : n0 ≤ h4.size := by rw [W4.size]; exact Z3
  have N4 := Fr.snoc X4 N3 g_a1
  have K4 := K3k.wr W4 (Or.inl (List.mem_of_getElem? (i := 0) rfl))
  show Gl p.tables e below PP (T4.setTop (mkF m 15 #[.val (.ref a1)] []))
  refine Gl.pre (fun _ k => XS.aloadN X4.here hx rfl (hb hby d12_15) rfl rfl k) ?_
  show Gl p.tables e below PP (T4.setTop (mkF m 16 #[.val (.ref a1)] [(.ref a1)]))
  obtain ⟨T5, h5, X5, e5, E5, A5, D5, -, st5⟩ := newO X4 hx hZ hown (hw _ (List.mem_of_getElem? (i := 123) rfl)) (hw _ (List.mem_of_getElem? (i := 124) rfl)) (hw _ (List.mem_of_getElem? (i := 125) rfl)) e4 (g := (mkF m 16 #[.val (.ref a1)] [(.ref a1)])) rfl (hb hby d12_16) (by decide) (by decide)
  obtain ⟨b5, g5⟩ : ∃ z, z = h4.size := ⟨_, rfl⟩
  rw [← g5] at A5 D5 st5
  refine Gl.pre (fun _ k => st5 _ k) ?_
  have own_ne_a1_b5 : a1 ≠ b5 := by have q := E_a1.lt; rw [g5]; exact Nat.ne_of_lt q
  have own_ne_b5_a1 : b5 ≠ a1 := own_ne_a1_b5.symm
  have own_ne_b2_b5 : b2 ≠ b5 := by have q := E_b2.lt; rw [g5]; exact Nat.ne_of_lt q
  have own_ne_b5_b2 : b5 ≠ b2 := own_ne_b2_b5.symm
  have own_ne_om3_b5 : om3 ≠ b5 := by have q := E_om3.lt; rw [g5]; exact Nat.ne_of_lt q
  have own_ne_b5_om3 : b5 ≠ om3 := own_ne_om3_b5.symm
  have g_b5 : n0 ≤ b5 := Nat.le_trans Z4 (Nat.le_of_eq g5.symm)
  have sz_b5 : h0.size ≤ b5 := Nat.le_trans K4.1 (Nat.le_of_eq g5.symm)
  have E_a1 := E_a1.ext E5
  have F_names_a1 := F_names_a1.ext E5
  have F_items_a1 := F_items_a1.ext E5
  have F_keysNamed_a1 := F_keysNamed_a1.ext E5
  have E_b2 := E_b2.ext E5
  have F_map_b2 := F_map_b2.ext E5
  have E_om3 := E_om3.ext E5
  have F_keySet_om3 := F_keySet_om3.ext E5
  have F_modCount_om3 := F_modCount_om3.ext E5
  have F_table_om3 := F_table_om3.ext E5
  have Z5 : n0 ≤ h5.size := Nat.le_trans Z4 E5.1
  have K5 := K4.ext E5
  have E_b5 := A5
  have F_wordsInUse_b5 : Fld Z h5 b5 "java/util/BitSet" "wordsInUse" "I" (.int (0 : Int32)) := D5 (Or.inl (hw _ (List.mem_of_getElem? (i := 131) rfl))) (ty := .int) (by decide)
  have F_sizeIsSticky_b5 : Fld Z h5 b5 "java/util/BitSet" "sizeIsSticky" "Z" (.int (0 : Int32)) := D5 (Or.inl (hw _ (List.mem_of_getElem? (i := 133) rfl))) (ty := .boolean) (by decide)
  have F_words_b5 : Fld Z h5 b5 "java/util/BitSet" "words" "[J" .null := D5 (Or.inl (hw _ (List.mem_of_getElem? (i := 144) rfl))) (ty := (.array .long)) (by decide)
  show Gl p.tables e below PP (T5.setTop (mkF m 19 #[.val (.ref a1)] [(.ref b5), (.ref a1)]))
  refine Gl.pre (fun _ k => XS.dup X5.here hx rfl (hb hby d12_19) rfl rfl k) ?_
  show Gl p.tables e below PP (T5.setTop (mkF m 20 #[.val (.ref a1)] [(.ref b5), (.ref b5), (.ref a1)]))
  obtain ⟨_, _, ⟨T6, L6, k6, n6⟩, -, X6, ⟨Lc6, hQ6, l6, y6, z6⟩, st6⟩ := X5.specialBack hx (y := (⟨"java/util/BitSet", "<init>", "()V"⟩ : MethodName)) rfl hown (mvT hZ (hw _ (List.mem_of_getElem? (i := 126) rfl))) (mvT hZ (hw _ (List.mem_of_getElem? (i := 127) rfl))) (mvT hZ (hw _ (List.mem_of_getElem? (i := 128) rfl))) (by decide) (backOf (W := 2) (rm15 l Z a0 hw [] b5 h5 n0 Z5 E_b5 F_wordsInUse_b5 F_sizeIsSticky_b5 F_words_b5 g_b5) hZ (hw _ (List.mem_of_getElem? (i := 128) rfl)) (hw _ (List.mem_of_getElem? (i := 125) rfl)) (by decide) (by decide)) (g := (mkF m 20 #[.val (.ref a1)] [(.ref b5), (.ref b5), (.ref a1)])) rfl (by rw [hml]; rfl) (Steps.refl _) (a := b5) (argsL := []) (rest := [(.ref b5), (.ref a1)]) (lenOf pd_0 rfl) rfl (by show 2 * 0 + _ ≤ _; exact Nat.le_of_eq rfl) (hb hby d12_20) (fun _ _ => ⟨rfl, e5, (by decide : 3 + 1 ≤ _), (by decide : 12 + 1 ≤ _)⟩)
  dsimp only [Pt.U, Pt.locs, Pt.cells, Pt.slots] at X6 l6 y6 z6 st6 hQ6
  subst l6 y6 z6
  obtain ⟨rfl, N6q, K6, x6_0⟩ := hQ6
  have N6 := Fr.app N4 N6q
  refine Gl.pre (fun _ k => st6.trans k) ?_
  have E_a1 := E_a1.keep K6
  have F_names_a1 := F_names_a1.keep K6 (ninS (own_ne_a1_b5) nin0)
  have F_items_a1 := F_items_a1.keep K6 (ninS (own_ne_a1_b5) nin0)
  have F_keysNamed_a1 := F_keysNamed_a1.keep K6 (ninS (own_ne_a1_b5) nin0)
  have E_b2 := E_b2.keep K6
  have F_map_b2 := F_map_b2.keep K6 (ninS (own_ne_b2_b5) nin0)
  have E_om3 := E_om3.keep K6
  have F_keySet_om3 := F_keySet_om3.keep K6 (ninS (own_ne_om3_b5) nin0)
  have F_modCount_om3 := F_modCount_om3.keep K6 (ninS (own_ne_om3_b5) nin0)
  have F_table_om3 := F_table_om3.keep K6 (ninS (own_ne_om3_b5) nin0)
  have E_b5 := E_b5.keep K6
  have Z6 : n0 ≤ T6.heap.size := Nat.le_trans Z5 K6.1
  have K6k := K5.trans K6 (allS (Or.inr sz_b5) all0)
  have F_wordsInUse_b5 := x6_0
  show Gl p.tables e below PP (T6.setTop (mkF m 23 #[.val (.ref a1)] [(.ref b5), (.ref a1)]))
  obtain ⟨T7, h7, X7, e7, W7, st7⟩ := putF X6 hx hZ hown (host := "") (Or.inl (hw _ (List.mem_of_getElem? (i := 145) rfl))) Via.refl rfl F_items_a1 E_a1 (Or.inr ⟨(hw _ (List.mem_of_getElem? (i := 146) rfl)), rfl, hnm⟩) (hw _ (List.mem_of_getElem? (i := 96) rfl)) (ty := (.object "java/util/BitSet")) (by decide) rfl rfl (g := (mkF m 23 #[.val (.ref a1)] [(.ref b5), (.ref a1)])) rfl rfl (hb hby d12_23)
  refine Gl.pre (fun _ k => st7 _ k) ?_
  have E_a1 := E_a1.wr W7
  have F_names_a1 := F_names_a1.other W7 (Or.inr (slot_ne (Or.inr (hw _ (List.mem_of_getElem? (i := 122) rfl))) (Or.inr (hw _ (List.mem_of_getElem? (i := 146) rfl))) (by decide) (t := (.object "java/util/Set")) (t' := (.object "java/util/BitSet")) (by decide) (by decide)))
  have F_items_a1 := F_items_a1.same W7
  have F_keysNamed_a1 := F_keysNamed_a1.other W7 (Or.inr (slot_ne (Or.inl (hw _ (List.mem_of_getElem? (i := 257) rfl))) (Or.inr (hw _ (List.mem_of_getElem? (i := 146) rfl))) (by decide) (t := .boolean) (t' := (.object "java/util/BitSet")) (by decide) (by decide)))
  have E_b2 := E_b2.wr W7
  have F_map_b2 := F_map_b2.other W7 (Or.inl (own_ne_b2_a1))
  have E_om3 := E_om3.wr W7
  have F_keySet_om3 := F_keySet_om3.other W7 (Or.inl (own_ne_om3_a1))
  have F_modCount_om3 := F_modCount_om3.other W7 (Or.inl (own_ne_om3_a1))
  have F_table_om3 := F_table_om3.other W7 (Or.inl (own_ne_om3_a1))
  have E_b5 := E_b5.wr W7
  have F_wordsInUse_b5 := F_wordsInUse_b5.other W7 (Or.inl (own_ne_b5_a1))
  have Z7 : n0 ≤ h7.size := by rw [W7.size]; exact Z6
  have N7 := Fr.snoc X7 N6 g_a1
  have K7 := K6k.wr W7 (Or.inl (List.mem_of_getElem? (i := 0) rfl))
  show Gl p.tables e below PP (T7.setTop (mkF m 26 #[.val (.ref a1)] []))
  rw [hPP]
  refine own_finV (Q := (Q12 Z a1 h0 n0)) X7 hx hlk Bd.returns (hb hby d12_26) ?_ (by decide) (by decide)
  show Q12 Z a1 h0 n0 _ T7.heap _
  rw [e7]
  exact ⟨b2, om3, b5, rfl, N7, K7, sz_b2, sz_om3, sz_b5, F_names_a1, F_items_a1, F_keysNamed_a1, E_b2, F_map_b2, E_om3, F_keySet_om3, F_modCount_om3, F_table_om3, E_b5, F_wordsInUse_b5, own_ne_b5_om3⟩
theorem d11_0 : decode prog_10_method_11_code 0 = .ok (.aload_n 0, 1) := by decide +kernel
theorem d11_1 : decode prog_10_method_11_code 1 = .ok (.getfield 207, 3) := by decide +kernel
theorem d11_4 : decode prog_10_method_11_code 4 = .ok (.astore_n 1, 1) := by decide +kernel
theorem d11_5 : decode prog_10_method_11_code 5 = .ok (.aload_n 0, 1) := by decide +kernel
theorem d11_6 : decode prog_10_method_11_code 6 = .ok (.new 132, 3) := by decide +kernel
theorem d11_9 : decode prog_10_method_11_code 9 = .ok (.dup, 1) := by decide +kernel
theorem d11_10 : decode prog_10_method_11_code 10 = .ok (.invokespecial 210, 3) := by decide +kernel
theorem d11_13 : decode prog_10_method_11_code 13 = .ok (.putfield 207, 3) := by decide +kernel
theorem d11_16 : decode prog_10_method_11_code 16 = .ok (.aload_n 1, 1) := by decide +kernel
theorem d11_17 : decode prog_10_method_11_code 17 = .ok (.areturn, 1) := by decide +kernel
theorem pn_11 : plainName "com/example/rules_for_records/rulesforrecords/Evaluation" = true := by first | (simp [plainName, overriddenIn]; done) | decide +kernel
theorem ef_11a (m : MethodId) (a1 : Addr) (an : Int32) : entryFrame m #[(.ref a1)] 2 = mkF m 0 #[.val (.ref a1), .unset] [] := by first | (simp [entryFrame, mkF, argsToLocals, Value.category]; done) | rfl
def Q11a (Z : State) (a1 : Addr) (an : Int32) (h0 : Heap) (n0 : Nat) (v : Option Value) (h : Heap) (L : List Loc) : Prop := ∃ od oh om ob : Addr, v = some .null ∧ Fr n0 L ∧ Keep h0 h [a1] ∧ h0.size ≤ od ∧ h0.size ≤ oh ∧ h0.size ≤ om ∧ h0.size ≤ ob ∧ Fld Z h a1 "com/example/rules_for_records/rulesforrecords/Evaluation" "evaluated" "Lcom/example/rules_for_records/rulesforrecords/Evaluated;" (.ref od) ∧ Fld Z h a1 "com/example/rules_for_records/rulesforrecords/Evaluation" "annotating" "Z" (.int an) ∧ Exa Z h od "com/example/rules_for_records/rulesforrecords/Evaluated" ∧ od ≠ om ∧ Fld Z h od "com/example/rules_for_records/rulesforrecords/Evaluated" "names" "Ljava/util/Set;" (.ref oh) ∧ Fld Z h od "com/example/rules_for_records/rulesforrecords/Evaluated" "items" "Ljava/util/BitSet;" (.ref ob) ∧ Fld Z h od "com/example/rules_for_records/rulesforrecords/Evaluated" "keysNamed" "Z" (.int (0 : Int32)) ∧ Exa Z h oh "java/util/HashSet" ∧ Fld Z h oh "java/util/HashSet" "map" "Ljava/util/HashMap;" (.ref om) ∧ Exa Z h om "java/util/HashMap" ∧ Fld Z h om "java/util/AbstractMap" "keySet" "Ljava/util/Set;" .null ∧ Fld Z h om "java/util/HashMap" "modCount" "I" (.int (0 : Int32)) ∧ Fld Z h om "java/util/HashMap" "table" "[Ljava/util/HashMap$Node;" .null ∧ Exa Z h ob "java/util/BitSet" ∧ Fld Z h ob "java/util/BitSet" "wordsInUse" "I" (.int (0 : Int32)) ∧ ob ≠ om
set_option maxRecDepth 65536 in
set_option maxHeartbeats 40000000 in
theorem rm11a (l : Launch) (Z : State) (a0 : Array Value) (hw : ∀ d ∈ tables_1, d.before a0 Z = true) (ws : List Jvm.Cond) (a1 : Addr) (an : Int32) (h0 : Heap) (n0 : Nat) (Z0 : n0 ≤ h0.size) (E_a1 : Exa Z h0 a1 "com/example/rules_for_records/rulesforrecords/Evaluation") (F_evaluated_a1 : Fld Z h0 a1 "com/example/rules_for_records/rulesforrecords/Evaluation" "evaluated" "Lcom/example/rules_for_records/rulesforrecords/Evaluated;" .null) (F_annotating_a1 : Fld Z h0 a1 "com/example/rules_for_records/rulesforrecords/Evaluation" "annotating" "Z" (.int an)) (g_a1 : n0 ≤ a1) :
    MetFree l (⟨"com/example/rules_for_records/rulesforrecords/Evaluation", "gather", "()Lcom/example/rules_for_records/rulesforrecords/Evaluated;"⟩ : MethodName) (head1 (Jvm.Cond.code (⟨"com/example/rules_for_records/rulesforrecords/Evaluation", "gather", "()Lcom/example/rules_for_records/rulesforrecords/Evaluated;"⟩ : MethodName) prog_10_method_11_code 2 (some (.object "com/example/rules_for_records/rulesforrecords/Evaluated")) :: ws) ({ frames := 5, cells := 5, slots := 16, locals := 66 } : Room)) (fun a U => a = #[(.ref a1)] ∧ Z.Warmed39 U.vm ∧ U.heap = h0) (fun _ _ _ _ _ => True) (fun _ U o U' => ∃ v L, o = .returned v ∧ Q11a Z a1 an h0 n0 v U'.heap L ∧ FrameEnd U o U' L ({ frames := 5, cells := 5, slots := 16, locals := 66 } : Room).cells ({ frames := 5, cells := 5, slots := 16, locals := 66 } : Room).slots) := by
  refine MetFree.of_bodySF (plainFor_of_name pn_11) hisR ?_
  intro p e s m args below meth c s₁ Bd hml0 hP hK
  obtain ⟨rfl, hZ, hh⟩ := hP
  have hx := Bd.exec
  have hby := Bd.bytes
  have hlk : meth.locks = false := BodyLoose.notSynchronized Bd
  have hml : c.maxLocals = 2 := hml0
  have hown : s.vm.findClass "com/example/rules_for_records/rulesforrecords/Evaluation" = some m.cls := findClass_of_methodNamed Bd.named
  have hnm := (name_of_methodNamed Bd.named Bd.method).1
  have X0 : Stand p l e ({ frames := 5, cells := 5, slots := 16, locals := 66 } : Room) s m #[(.ref a1)] below meth c s₁ [] 0 0 := Stand.of_body Bd
  have e0 : s₁.heap = h0 := by rw [← hh, Bd.state]; rfl
  have N0 := Fr.nil n0
  show Gl p.tables e below (fun (o : Outcome) (U' : State) => ∃ v L, o = .returned v ∧ Q11a Z a1 an h0 n0 v U'.heap L ∧ FrameEnd s o U' L ({ frames := 5, cells := 5, slots := 16, locals := 66 } : Room).cells ({ frames := 5, cells := 5, slots := 16, locals := 66 } : Room).slots) _
  refine Gl.pre (fun t k => castTop (ef_11a m a1 an) k) ?_
  obtain ⟨PP, hPP⟩ : ∃ P : Outcome → State → Prop, P = (fun (o : Outcome) (U' : State) => ∃ v L, o = .returned v ∧ Q11a Z a1 an h0 n0 v U'.heap L ∧ FrameEnd s o U' L ({ frames := 5, cells := 5, slots := 16, locals := 66 } : Room).cells ({ frames := 5, cells := 5, slots := 16, locals := 66 } : Room).slots) := ⟨_, rfl⟩
  rw [← hPP]
  have K0 : Keep h0 h0 [a1] := Keep.refl h0 _
  show Gl p.tables e below PP (s₁.setTop (mkF m 0 #[.val (.ref a1), .unset] []))
  refine Gl.pre (fun _ k => XS.aloadN X0.here hx rfl (hb hby d11_0) rfl rfl k) ?_
  show Gl p.tables e below PP (s₁.setTop (mkF m 1 #[.val (.ref a1), .unset] [(.ref a1)]))
  obtain ⟨T1, X1, e1, st1⟩ := getF X0 hx hZ hown (host := "") (Or.inl (hw _ (List.mem_of_getElem? (i := 88) rfl))) Via.refl e0 F_evaluated_a1 (g := (mkF m 1 #[.val (.ref a1), .unset] [(.ref a1)])) rfl rfl (hb hby d11_1)
  refine Gl.pre (fun _ k => st1 _ k) ?_
  show Gl p.tables e below PP (T1.setTop (mkF m 4 #[.val (.ref a1), .unset] [.null]))
  refine Gl.pre (fun _ k => XS.astoreN X1.here hx rfl (hb hby d11_4) rfl rfl (l' := #[.val (.ref a1), .val .null]) rfl k) ?_
  show Gl p.tables e below PP (T1.setTop (mkF m 5 #[.val (.ref a1), .val .null] []))
  refine Gl.pre (fun _ k => XS.aloadN X1.here hx rfl (hb hby d11_5) rfl rfl k) ?_
  show Gl p.tables e below PP (T1.setTop (mkF m 6 #[.val (.ref a1), .val .null] [(.ref a1)]))
  obtain ⟨T2, h2, X2, e2, E2, A2, D2, -, st2⟩ := newO X1 hx hZ hown (hw _ (List.mem_of_getElem? (i := 95) rfl)) (hw _ (List.mem_of_getElem? (i := 96) rfl)) (hw _ (List.mem_of_getElem? (i := 97) rfl)) e1 (g := (mkF m 6 #[.val (.ref a1), .val .null] [(.ref a1)])) rfl (hb hby d11_6) (by decide) (by decide)
  obtain ⟨b2, g2⟩ : ∃ z, z = h0.size := ⟨_, rfl⟩
  rw [← g2] at A2 D2 st2
  refine Gl.pre (fun _ k => st2 _ k) ?_
  have own_ne_a1_b2 : a1 ≠ b2 := by have q := E_a1.lt; rw [g2]; exact Nat.ne_of_lt q
  have own_ne_b2_a1 : b2 ≠ a1 := own_ne_a1_b2.symm
  have g_b2 : n0 ≤ b2 := Nat.le_trans Z0 (Nat.le_of_eq g2.symm)
  have sz_b2 : h0.size ≤ b2 := Nat.le_trans K0.1 (Nat.le_of_eq g2.symm)
  have E_a1 := E_a1.ext E2
  have F_evaluated_a1 := F_evaluated_a1.ext E2
  have F_annotating_a1 := F_annotating_a1.ext E2
  have Z2 : n0 ≤ h2.size := Nat.le_trans Z0 E2.1
  have K2 := K0.ext E2
  have E_b2 := A2
  have F_names_b2 : Fld Z h2 b2 "com/example/rules_for_records/rulesforrecords/Evaluated" "names" "Ljava/util/Set;" .null := D2 (Or.inr (hw _ (List.mem_of_getElem? (i := 122) rfl))) (ty := (.object "java/util/Set")) (by decide)
  have F_items_b2 : Fld Z h2 b2 "com/example/rules_for_records/rulesforrecords/Evaluated" "items" "Ljava/util/BitSet;" .null := D2 (Or.inr (hw _ (List.mem_of_getElem? (i := 146) rfl))) (ty := (.object "java/util/BitSet")) (by decide)
  have F_keysNamed_b2 : Fld Z h2 b2 "com/example/rules_for_records/rulesforrecords/Evaluated" "keysNamed" "Z" (.int (0 : Int32)) := D2 (Or.inl (hw _ (List.mem_of_getElem? (i := 257) rfl))) (ty := .boolean) (by decide)
  show Gl p.tables e below PP (T2.setTop (mkF m 9 #[.val (.ref a1), .val .null] [(.ref b2), (.ref a1)]))
  refine Gl.pre (fun _ k => XS.dup X2.here hx rfl (hb hby d11_9) rfl rfl k) ?_
  show Gl p.tables e below PP (T2.setTop (mkF m 10 #[.val (.ref a1), .val .null] [(.ref b2), (.ref b2), (.ref a1)]))
  obtain ⟨_, _, ⟨T3, L3, k3, n3⟩, -, X3, ⟨Lc3, hQ3, l3, y3, z3⟩, st3⟩ := X2.specialBack hx (y := (⟨"com/example/rules_for_records/rulesforrecords/Evaluated", "<init>", "()V"⟩ : MethodName)) rfl hown (mvT hZ (hw _ (List.mem_of_getElem? (i := 98) rfl))) (mvT hZ (hw _ (List.mem_of_getElem? (i := 99) rfl))) (mvT hZ (hw _ (List.mem_of_getElem? (i := 100) rfl))) (by decide) (backOf (W := 2) (rm12 l Z a0 hw [] b2 h2 n0 Z2 E_b2 F_names_b2 F_items_b2 F_keysNamed_b2 g_b2) hZ (hw _ (List.mem_of_getElem? (i := 100) rfl)) (hw _ (List.mem_of_getElem? (i := 97) rfl)) (by decide) (by decide)) (g := (mkF m 10 #[.val (.ref a1), .val .null] [(.ref b2), (.ref b2), (.ref a1)])) rfl (by rw [hml]; rfl) (Steps.refl _) (a := b2) (argsL := []) (rest := [(.ref b2), (.ref a1)]) (lenOf pd_0 rfl) rfl (by show 2 * 0 + _ ≤ _; exact Nat.le_of_eq rfl) (hb hby d11_10) (fun _ _ => ⟨rfl, e2, (by decide : 1 + 4 ≤ _), (by decide : 3 + 13 ≤ _)⟩)
  dsimp only [Pt.U, Pt.locs, Pt.cells, Pt.slots] at X3 l3 y3 z3 st3 hQ3
  subst l3 y3 z3
  obtain ⟨oh3, om3, ob3, rfl, N3q, K3, hzoh3, hzom3, hzob3, x3_0, x3_1, x3_2, x3_3, x3_4, x3_5, x3_6, x3_7, x3_8, x3_9, x3_10, x3_11⟩ := hQ3
  have N3 := Fr.app N0 N3q
  refine Gl.pre (fun _ k => st3.trans k) ?_
  have own_ne_a1_oh3 : a1 ≠ oh3 := Nat.ne_of_lt (Nat.lt_of_lt_of_le E_a1.lt hzoh3)
  have own_ne_oh3_a1 := own_ne_a1_oh3.symm
  have own_ne_b2_oh3 : b2 ≠ oh3 := Nat.ne_of_lt (Nat.lt_of_lt_of_le E_b2.lt hzoh3)
  have own_ne_oh3_b2 := own_ne_b2_oh3.symm
  have g_oh3 : n0 ≤ oh3 := Nat.le_trans Z2 hzoh3
  have sz_oh3 : h0.size ≤ oh3 := Nat.le_trans K2.1 hzoh3
  have own_ne_a1_om3 : a1 ≠ om3 := Nat.ne_of_lt (Nat.lt_of_lt_of_le E_a1.lt hzom3)
  have own_ne_om3_a1 := own_ne_a1_om3.symm
  have own_ne_b2_om3 : b2 ≠ om3 := Nat.ne_of_lt (Nat.lt_of_lt_of_le E_b2.lt hzom3)
  have own_ne_om3_b2 := own_ne_b2_om3.symm
  have g_om3 : n0 ≤ om3 := Nat.le_trans Z2 hzom3
  have sz_om3 : h0.size ≤ om3 := Nat.le_trans K2.1 hzom3
  have own_ne_a1_ob3 : a1 ≠ ob3 := Nat.ne_of_lt (Nat.lt_of_lt_of_le E_a1.lt hzob3)
  have own_ne_ob3_a1 := own_ne_a1_ob3.symm
  have own_ne_b2_ob3 : b2 ≠ ob3 := Nat.ne_of_lt (Nat.lt_of_lt_of_le E_b2.lt hzob3)
  have own_ne_ob3_b2 := own_ne_b2_ob3.symm
  have g_ob3 : n0 ≤ ob3 := Nat.le_trans Z2 hzob3
  have sz_ob3 : h0.size ≤ ob3 := Nat.le_trans K2.1 hzob3
  have E_a1 := E_a1.keep K3
  have F_evaluated_a1 := F_evaluated_a1.keep K3 (ninS (own_ne_a1_b2) nin0)
  have F_annotating_a1 := F_annotating_a1.keep K3 (ninS (own_ne_a1_b2) nin0)
  have E_b2 := E_b2.keep K3
  have Z3 : n0 ≤ T3.heap.size := Nat.le_trans Z2 K3.1
  have K3k := K2.trans K3 (allS (Or.inr sz_b2) all0)
  have F_names_b2 := x3_0
  have F_items_b2 := x3_1
  have F_keysNamed_b2 := x3_2
  have E_oh3 := x3_3
  have F_map_oh3 := x3_4
  have E_om3 := x3_5
  have F_keySet_om3 := x3_6
  have F_modCount_om3 := x3_7
  have F_table_om3 := x3_8
  have E_ob3 := x3_9
  have F_wordsInUse_ob3 := x3_10
  have own_ne_ob3_om3 := x3_11
  have own_ne_om3_ob3 := own_ne_ob3_om3.symm
  show Gl p.tables e below PP (T3.setTop (mkF m 13 #[.val (.ref a1), .val .null] [(.ref b2), (.ref a1)]))
  obtain ⟨T4, h4, X4, e4, W4, st4⟩ := putF X3 hx hZ hown (host := "") (Or.inl (hw _ (List.mem_of_getElem? (i := 88) rfl))) Via.refl rfl F_evaluated_a1 E_a1 (Or.inl (hw _ (List.mem_of_getElem? (i := 89) rfl))) (hw _ (List.mem_of_getElem? (i := 1) rfl)) (ty := (.object "com/example/rules_for_records/rulesforrecords/Evaluated")) (by decide) rfl rfl (g := (mkF m 13 #[.val (.ref a1), .val .null] [(.ref b2), (.ref a1)])) rfl rfl (hb hby d11_13)
  refine Gl.pre (fun _ k => st4 _ k) ?_
  have E_a1 := E_a1.wr W4
  have F_evaluated_a1 := F_evaluated_a1.same W4
  have F_annotating_a1 := F_annotating_a1.other W4 (Or.inr (slot_ne (Or.inr (hw _ (List.mem_of_getElem? (i := 82) rfl))) (Or.inl (hw _ (List.mem_of_getElem? (i := 89) rfl))) (by decide) (t := .boolean) (t' := (.object "com/example/rules_for_records/rulesforrecords/Evaluated")) (by decide) (by decide)))
  have E_b2 := E_b2.wr W4
  have F_names_b2 := F_names_b2.other W4 (Or.inl (own_ne_b2_a1))
  have F_items_b2 := F_items_b2.other W4 (Or.inl (own_ne_b2_a1))
  have F_keysNamed_b2 := F_keysNamed_b2.other W4 (Or.inl (own_ne_b2_a1))
  have E_oh3 := E_oh3.wr W4
  have F_map_oh3 := F_map_oh3.other W4 (Or.inl (own_ne_oh3_a1))
  have E_om3 := E_om3.wr W4
  have F_keySet_om3 := F_keySet_om3.other W4 (Or.inl (own_ne_om3_a1))
  have F_modCount_om3 := F_modCount_om3.other W4 (Or.inl (own_ne_om3_a1))
  have F_table_om3 := F_table_om3.other W4 (Or.inl (own_ne_om3_a1))
  have E_ob3 := E_ob3.wr W4
  have F_wordsInUse_ob3 := F_wordsInUse_ob3.other W4 (Or.inl (own_ne_ob3_a1))
  have Z4 : n0 ≤ h4.size := by rw [W4.size]; exact Z3
  have N4 := Fr.snoc X4 N3 g_a1
  have K4 := K3k.wr W4 (Or.inl (List.mem_of_getElem? (i := 0) rfl))
  show Gl p.tables e below PP (T4.setTop (mkF m 16 #[.val (.ref a1), .val .null] []))
  refine Gl.pre (fun _ k => XS.aloadN X4.here hx rfl (hb hby d11_16) rfl rfl k) ?_
  show Gl p.tables e below PP (T4.setTop (mkF m 17 #[.val (.ref a1), .val .null] [.null]))
  rw [hPP]
  refine own_finA (Q := (Q11a Z a1 an h0 n0)) X4 hx hlk Bd.returns rfl rfl (hb hby d11_17) ?_ (by decide) (by decide)
  show Q11a Z a1 an h0 n0 _ T4.heap _
  rw [e4]
  exact ⟨b2, oh3, om3, ob3, rfl, N4, K4, sz_b2, sz_oh3, sz_om3, sz_ob3, F_evaluated_a1, F_annotating_a1, E_b2, own_ne_b2_om3, F_names_b2, F_items_b2, F_keysNamed_b2, E_oh3, F_map_oh3, E_om3, F_keySet_om3, F_modCount_om3, F_table_om3, E_ob3, F_wordsInUse_ob3, own_ne_ob3_om3⟩
theorem ef_11b (m : MethodId) (a1 : Addr) (an : Int32) (ev : Addr) : entryFrame m #[(.ref a1)] 2 = mkF m 0 #[.val (.ref a1), .unset] [] := by first | (simp [entryFrame, mkF, argsToLocals, Value.category]; done) | rfl
def Q11b (Z : State) (a1 : Addr) (an : Int32) (ev : Addr) (h0 : Heap) (n0 : Nat) (v : Option Value) (h : Heap) (L : List Loc) : Prop := ∃ od oh om ob : Addr, v = some (.ref ev) ∧ Fr n0 L ∧ Keep h0 h [a1] ∧ h0.size ≤ od ∧ h0.size ≤ oh ∧ h0.size ≤ om ∧ h0.size ≤ ob ∧ Fld Z h a1 "com/example/rules_for_records/rulesforrecords/Evaluation" "evaluated" "Lcom/example/rules_for_records/rulesforrecords/Evaluated;" (.ref od) ∧ Fld Z h a1 "com/example/rules_for_records/rulesforrecords/Evaluation" "annotating" "Z" (.int an) ∧ Exa Z h od "com/example/rules_for_records/rulesforrecords/Evaluated" ∧ od ≠ om ∧ Fld Z h od "com/example/rules_for_records/rulesforrecords/Evaluated" "names" "Ljava/util/Set;" (.ref oh) ∧ Fld Z h od "com/example/rules_for_records/rulesforrecords/Evaluated" "items" "Ljava/util/BitSet;" (.ref ob) ∧ Fld Z h od "com/example/rules_for_records/rulesforrecords/Evaluated" "keysNamed" "Z" (.int (0 : Int32)) ∧ Exa Z h oh "java/util/HashSet" ∧ Fld Z h oh "java/util/HashSet" "map" "Ljava/util/HashMap;" (.ref om) ∧ Exa Z h om "java/util/HashMap" ∧ Fld Z h om "java/util/AbstractMap" "keySet" "Ljava/util/Set;" .null ∧ Fld Z h om "java/util/HashMap" "modCount" "I" (.int (0 : Int32)) ∧ Fld Z h om "java/util/HashMap" "table" "[Ljava/util/HashMap$Node;" .null ∧ Exa Z h ob "java/util/BitSet" ∧ Fld Z h ob "java/util/BitSet" "wordsInUse" "I" (.int (0 : Int32)) ∧ ob ≠ om
set_option maxRecDepth 65536 in
set_option maxHeartbeats 40000000 in
theorem rm11b (l : Launch) (Z : State) (a0 : Array Value) (hw : ∀ d ∈ tables_1, d.before a0 Z = true) (ws : List Jvm.Cond) (a1 : Addr) (an : Int32) (ev : Addr) (h0 : Heap) (n0 : Nat) (Z0 : n0 ≤ h0.size) (E_a1 : Exa Z h0 a1 "com/example/rules_for_records/rulesforrecords/Evaluation") (F_evaluated_a1 : Fld Z h0 a1 "com/example/rules_for_records/rulesforrecords/Evaluation" "evaluated" "Lcom/example/rules_for_records/rulesforrecords/Evaluated;" (.ref ev)) (F_annotating_a1 : Fld Z h0 a1 "com/example/rules_for_records/rulesforrecords/Evaluation" "annotating" "Z" (.int an)) (g_a1 : n0 ≤ a1) :
    MetFree l (⟨"com/example/rules_for_records/rulesforrecords/Evaluation", "gather", "()Lcom/example/rules_for_records/rulesforrecords/Evaluated;"⟩ : MethodName) (head1 (Jvm.Cond.code (⟨"com/example/rules_for_records/rulesforrecords/Evaluation", "gather", "()Lcom/example/rules_for_records/rulesforrecords/Evaluated;"⟩ : MethodName) prog_10_method_11_code 2 (some (.object "com/example/rules_for_records/rulesforrecords/Evaluated")) :: ws) ({ frames := 5, cells := 5, slots := 16, locals := 66 } : Room)) (fun a U => a = #[(.ref a1)] ∧ Z.Warmed39 U.vm ∧ U.heap = h0) (fun _ _ _ _ _ => True) (fun _ U o U' => ∃ v L, o = .returned v ∧ Q11b Z a1 an ev h0 n0 v U'.heap L ∧ FrameEnd U o U' L ({ frames := 5, cells := 5, slots := 16, locals := 66 } : Room).cells ({ frames := 5, cells := 5, slots := 16, locals := 66 } : Room).slots) := by
  refine MetFree.of_bodySF (plainFor_of_name pn_11) hisR ?_
  intro p e s m args below meth c s₁ Bd hml0 hP hK
  obtain ⟨rfl, hZ, hh⟩ := hP
  have hx := Bd.exec
  have hby := Bd.bytes
  have hlk : meth.locks = false := BodyLoose.notSynchronized Bd
  have hml : c.maxLocals = 2 := hml0
  have hown : s.vm.findClass "com/example/rules_for_records/rulesforrecords/Evaluation" = some m.cls := findClass_of_methodNamed Bd.named
  have hnm := (name_of_methodNamed Bd.named Bd.method).1
  have X0 : Stand p l e ({ frames := 5, cells := 5, slots := 16, locals := 66 } : Room) s m #[(.ref a1)] below meth c s₁ [] 0 0 := Stand.of_body Bd
  have e0 : s₁.heap = h0 := by rw [← hh, Bd.state]; rfl
  have N0 := Fr.nil n0
  show Gl p.tables e below (fun (o : Outcome) (U' : State) => ∃ v L, o = .returned v ∧ Q11b Z a1 an ev h0 n0 v U'.heap L ∧ FrameEnd s o U' L ({ frames := 5, cells := 5, slots := 16, locals := 66 } : Room).cells ({ frames := 5, cells := 5, slots := 16, locals := 66 } : Room).slots) _
  refine Gl.pre (fun t k => castTop (ef_11b m a1 an ev) k) ?_
  obtain ⟨PP, hPP⟩ : ∃ P : Outcome → State → Prop, P = (fun (o : Outcome) (U' : State) => ∃ v L, o = .returned v ∧ Q11b Z a1 an ev h0 n0 v U'.heap L ∧ FrameEnd s o U' L ({ frames := 5, cells := 5, slots := 16, locals := 66 } : Room).cells ({ frames := 5, cells := 5, slots := 16, locals := 66 } : Room).slots) := ⟨_, rfl⟩
  rw [← hPP]
  have K0 : Keep h0 h0 [a1] := Keep.refl h0 _
  show Gl p.tables e below PP (s₁.setTop (mkF m 0 #[.val (.ref a1), .unset] []))
  refine Gl.pre (fun _ k => XS.aloadN X0.here hx rfl (hb hby d11_0) rfl rfl k) ?_
  show Gl p.tables e below PP (s₁.setTop (mkF m 1 #[.val (.ref a1), .unset] [(.ref a1)]))
  obtain ⟨T1, X1, e1, st1⟩ := getF X0 hx hZ hown (host := "") (Or.inl (hw _ (List.mem_of_getElem? (i := 88) rfl))) Via.refl e0 F_evaluated_a1 (g := (mkF m 1 #[.val (.ref a1), .unset] [(.ref a1)])) rfl rfl (hb hby d11_1)
  refine Gl.pre (fun _ k => st1 _ k) ?_
  show Gl p.tables e below PP (T1.setTop (mkF m 4 #[.val (.ref a1), .unset] [(.ref ev)]))
  refine Gl.pre (fun _ k => XS.astoreN X1.here hx rfl (hb hby d11_4) rfl rfl (l' := #[.val (.ref a1), .val (.ref ev)]) rfl k) ?_
  show Gl p.tables e below PP (T1.setTop (mkF m 5 #[.val (.ref a1), .val (.ref ev)] []))
  refine Gl.pre (fun _ k => XS.aloadN X1.here hx rfl (hb hby d11_5) rfl rfl k) ?_
  show Gl p.tables e below PP (T1.setTop (mkF m 6 #[.val (.ref a1), .val (.ref ev)] [(.ref a1)]))
  obtain ⟨T2, h2, X2, e2, E2, A2, D2, -, st2⟩ := newO X1 hx hZ hown (hw _ (List.mem_of_getElem? (i := 95) rfl)) (hw _ (List.mem_of_getElem? (i := 96) rfl)) (hw _ (List.mem_of_getElem? (i := 97) rfl)) e1 (g := (mkF m 6 #[.val (.ref a1), .val (.ref ev)] [(.ref a1)])) rfl (hb hby d11_6) (by decide) (by decide)
  obtain ⟨b2, g2⟩ : ∃ z, z = h0.size := ⟨_, rfl⟩
  rw [← g2] at A2 D2 st2
  refine Gl.pre (fun _ k => st2 _ k) ?_
  have own_ne_a1_b2 : a1 ≠ b2 := by have q := E_a1.lt; rw [g2]; exact Nat.ne_of_lt q
  have own_ne_b2_a1 : b2 ≠ a1 := own_ne_a1_b2.symm
  have g_b2 : n0 ≤ b2 := Nat.le_trans Z0 (Nat.le_of_eq g2.symm)
  have sz_b2 : h0.size ≤ b2 := Nat.le_trans K0.1 (Nat.le_of_eq g2.symm)
  have E_a1 := E_a1.ext E2
  have F_evaluated_a1 := F_evaluated_a1.ext E2
  have F_annotating_a1 := F_annotating_a1.ext E2
  have Z2 : n0 ≤ h2.size := Nat.le_trans Z0 E2.1
  have K2 := K0.ext E2
  have E_b2 := A2
  have F_names_b2 : Fld Z h2 b2 "com/example/rules_for_records/rulesforrecords/Evaluated" "names" "Ljava/util/Set;" .null := D2 (Or.inr (hw _ (List.mem_of_getElem? (i := 122) rfl))) (ty := (.object "java/util/Set")) (by decide)
  have F_items_b2 : Fld Z h2 b2 "com/example/rules_for_records/rulesforrecords/Evaluated" "items" "Ljava/util/BitSet;" .null := D2 (Or.inr (hw _ (List.mem_of_getElem? (i := 146) rfl))) (ty := (.object "java/util/BitSet")) (by decide)
  have F_keysNamed_b2 : Fld Z h2 b2 "com/example/rules_for_records/rulesforrecords/Evaluated" "keysNamed" "Z" (.int (0 : Int32)) := D2 (Or.inl (hw _ (List.mem_of_getElem? (i := 257) rfl))) (ty := .boolean) (by decide)
  show Gl p.tables e below PP (T2.setTop (mkF m 9 #[.val (.ref a1), .val (.ref ev)] [(.ref b2), (.ref a1)]))
  refine Gl.pre (fun _ k => XS.dup X2.here hx rfl (hb hby d11_9) rfl rfl k) ?_
  show Gl p.tables e below PP (T2.setTop (mkF m 10 #[.val (.ref a1), .val (.ref ev)] [(.ref b2), (.ref b2), (.ref a1)]))
  obtain ⟨_, _, ⟨T3, L3, k3, n3⟩, -, X3, ⟨Lc3, hQ3, l3, y3, z3⟩, st3⟩ := X2.specialBack hx (y := (⟨"com/example/rules_for_records/rulesforrecords/Evaluated", "<init>", "()V"⟩ : MethodName)) rfl hown (mvT hZ (hw _ (List.mem_of_getElem? (i := 98) rfl))) (mvT hZ (hw _ (List.mem_of_getElem? (i := 99) rfl))) (mvT hZ (hw _ (List.mem_of_getElem? (i := 100) rfl))) (by decide) (backOf (W := 2) (rm12 l Z a0 hw [] b2 h2 n0 Z2 E_b2 F_names_b2 F_items_b2 F_keysNamed_b2 g_b2) hZ (hw _ (List.mem_of_getElem? (i := 100) rfl)) (hw _ (List.mem_of_getElem? (i := 97) rfl)) (by decide) (by decide)) (g := (mkF m 10 #[.val (.ref a1), .val (.ref ev)] [(.ref b2), (.ref b2), (.ref a1)])) rfl (by rw [hml]; rfl) (Steps.refl _) (a := b2) (argsL := []) (rest := [(.ref b2), (.ref a1)]) (lenOf pd_0 rfl) rfl (by show 2 * 0 + _ ≤ _; exact Nat.le_of_eq rfl) (hb hby d11_10) (fun _ _ => ⟨rfl, e2, (by decide : 1 + 4 ≤ _), (by decide : 3 + 13 ≤ _)⟩)
  dsimp only [Pt.U, Pt.locs, Pt.cells, Pt.slots] at X3 l3 y3 z3 st3 hQ3
  subst l3 y3 z3
  obtain ⟨oh3, om3, ob3, rfl, N3q, K3, hzoh3, hzom3, hzob3, x3_0, x3_1, x3_2, x3_3, x3_4, x3_5, x3_6, x3_7, x3_8, x3_9, x3_10, x3_11⟩ := hQ3
  have N3 := Fr.app N0 N3q
  refine Gl.pre (fun _ k => st3.trans k) ?_
  have own_ne_a1_oh3 : a1 ≠ oh3 := Nat.ne_of_lt (Nat.lt_of_lt_of_le E_a1.lt hzoh3)
  have own_ne_oh3_a1 := own_ne_a1_oh3.symm
  have own_ne_b2_oh3 : b2 ≠ oh3 := Nat.ne_of_lt (Nat.lt_of_lt_of_le E_b2.lt hzoh3)
  have own_ne_oh3_b2 := own_ne_b2_oh3.symm
  have g_oh3 : n0 ≤ oh3 := Nat.le_trans Z2 hzoh3
  have sz_oh3 : h0.size ≤ oh3 := Nat.le_trans K2.1 hzoh3
  have own_ne_a1_om3 : a1 ≠ om3 := Nat.ne_of_lt (Nat.lt_of_lt_of_le E_a1.lt hzom3)
  have own_ne_om3_a1 := own_ne_a1_om3.symm
  have own_ne_b2_om3 : b2 ≠ om3 := Nat.ne_of_lt (Nat.lt_of_lt_of_le E_b2.lt hzom3)
  have own_ne_om3_b2 := own_ne_b2_om3.symm
  have g_om3 : n0 ≤ om3 := Nat.le_trans Z2 hzom3
  have sz_om3 : h0.size ≤ om3 := Nat.le_trans K2.1 hzom3
  have own_ne_a1_ob3 : a1 ≠ ob3 := Nat.ne_of_lt (Nat.lt_of_lt_of_le E_a1.lt hzob3)
  have own_ne_ob3_a1 := own_ne_a1_ob3.symm
  have own_ne_b2_ob3 : b2 ≠ ob3 := Nat.ne_of_lt (Nat.lt_of_lt_of_le E_b2.lt hzob3)
  have own_ne_ob3_b2 := own_ne_b2_ob3.symm
  have g_ob3 : n0 ≤ ob3 := Nat.le_trans Z2 hzob3
  have sz_ob3 : h0.size ≤ ob3 := Nat.le_trans K2.1 hzob3
  have E_a1 := E_a1.keep K3
  have F_evaluated_a1 := F_evaluated_a1.keep K3 (ninS (own_ne_a1_b2) nin0)
  have F_annotating_a1 := F_annotating_a1.keep K3 (ninS (own_ne_a1_b2) nin0)
  have E_b2 := E_b2.keep K3
  have Z3 : n0 ≤ T3.heap.size := Nat.le_trans Z2 K3.1
  have K3k := K2.trans K3 (allS (Or.inr sz_b2) all0)
  have F_names_b2 := x3_0
  have F_items_b2 := x3_1
  have F_keysNamed_b2 := x3_2
  have E_oh3 := x3_3
  have F_map_oh3 := x3_4
  have E_om3 := x3_5
  have F_keySet_om3 := x3_6
  have F_modCount_om3 := x3_7
  have F_table_om3 := x3_8
  have E_ob3 := x3_9
  have F_wordsInUse_ob3 := x3_10
  have own_ne_ob3_om3 := x3_11
  have own_ne_om3_ob3 := own_ne_ob3_om3.symm
  show Gl p.tables e below PP (T3.setTop (mkF m 13 #[.val (.ref a1), .val (.ref ev)] [(.ref b2), (.ref a1)]))
  obtain ⟨T4, h4, X4, e4, W4, st4⟩ := putF X3 hx hZ hown (host := "") (Or.inl (hw _ (List.mem_of_getElem? (i := 88) rfl))) Via.refl rfl F_evaluated_a1 E_a1 (Or.inl (hw _ (List.mem_of_getElem? (i := 89) rfl))) (hw _ (List.mem_of_getElem? (i := 1) rfl)) (ty := (.object "com/example/rules_for_records/rulesforrecords/Evaluated")) (by decide) rfl rfl (g := (mkF m 13 #[.val (.ref a1), .val (.ref ev)] [(.ref b2), (.ref a1)])) rfl rfl (hb hby d11_13)
  refine Gl.pre (fun _ k => st4 _ k) ?_
  have E_a1 := E_a1.wr W4
  have F_evaluated_a1 := F_evaluated_a1.same W4
  have F_annotating_a1 := F_annotating_a1.other W4 (Or.inr (slot_ne (Or.inr (hw _ (List.mem_of_getElem? (i := 82) rfl))) (Or.inl (hw _ (List.mem_of_getElem? (i := 89) rfl))) (by decide) (t := .boolean) (t' := (.object "com/example/rules_for_records/rulesforrecords/Evaluated")) (by decide) (by decide)))
  have E_b2 := E_b2.wr W4
  have F_names_b2 := F_names_b2.other W4 (Or.inl (own_ne_b2_a1))
  have F_items_b2 := F_items_b2.other W4 (Or.inl (own_ne_b2_a1))
  have F_keysNamed_b2 := F_keysNamed_b2.other W4 (Or.inl (own_ne_b2_a1))
  have E_oh3 := E_oh3.wr W4
  have F_map_oh3 := F_map_oh3.other W4 (Or.inl (own_ne_oh3_a1))
  have E_om3 := E_om3.wr W4
  have F_keySet_om3 := F_keySet_om3.other W4 (Or.inl (own_ne_om3_a1))
  have F_modCount_om3 := F_modCount_om3.other W4 (Or.inl (own_ne_om3_a1))
  have F_table_om3 := F_table_om3.other W4 (Or.inl (own_ne_om3_a1))
  have E_ob3 := E_ob3.wr W4
  have F_wordsInUse_ob3 := F_wordsInUse_ob3.other W4 (Or.inl (own_ne_ob3_a1))
  have Z4 : n0 ≤ h4.size := by rw [W4.size]; exact Z3
  have N4 := Fr.snoc X4 N3 g_a1
  have K4 := K3k.wr W4 (Or.inl (List.mem_of_getElem? (i := 0) rfl))
  show Gl p.tables e below PP (T4.setTop (mkF m 16 #[.val (.ref a1), .val (.ref ev)] []))
  refine Gl.pre (fun _ k => XS.aloadN X4.here hx rfl (hb hby d11_16) rfl rfl k) ?_
  show Gl p.tables e below PP (T4.setTop (mkF m 17 #[.val (.ref a1), .val (.ref ev)] [(.ref ev)]))
  rw [hPP]
  refine own_finA (Q := (Q11b Z a1 an ev h0 n0)) X4 hx hlk Bd.returns rfl rfl (hb hby d11_17) ?_ (by decide) (by decide)
  show Q11b Z a1 an ev h0 n0 _ T4.heap _
  rw [e4]
  exact ⟨b2, oh3, om3, ob3, rfl, N4, K4, sz_b2, sz_oh3, sz_om3, sz_ob3, F_evaluated_a1, F_annotating_a1, E_b2, own_ne_b2_om3, F_names_b2, F_items_b2, F_keysNamed_b2, E_oh3, F_map_oh3, E_om3, F_keySet_om3, F_modCount_om3, F_table_om3, E_ob3, F_wordsInUse_ob3, own_ne_ob3_om3⟩
theorem d26_0 : decode jdk_99_method_1_code 0 = .ok (.aload_n 0, 1) := by decide +kernel
theorem d26_1 : decode jdk_99_method_1_code 1 = .ok (.aload_n 1, 1) := by decide +kernel
theorem d26_2 : decode jdk_99_method_1_code 2 = .ok (.putfield 1, 3) := by decide +kernel
theorem d26_5 : decode jdk_99_method_1_code 5 = .ok (.aload_n 0, 1) := by decide +kernel
theorem d26_6 : decode jdk_99_method_1_code 6 = .ok (.invokespecial 7, 3) := by decide +kernel
theorem d26_9 : decode jdk_99_method_1_code 9 = .ok (.aload_n 0, 1) := by decide +kernel
theorem d26_10 : decode jdk_99_method_1_code 10 = .ok (.aload_n 1, 1) := by decide +kernel
theorem d26_11 : decode jdk_99_method_1_code 11 = .ok (.getfield 13, 3) := by decide +kernel
theorem d26_14 : decode jdk_99_method_1_code 14 = .ok (.putfield 19, 3) := by decide +kernel
theorem d26_17 : decode jdk_99_method_1_code 17 = .ok (.aload_n 1, 1) := by decide +kernel
theorem d26_18 : decode jdk_99_method_1_code 18 = .ok (.getfield 22, 3) := by decide +kernel
theorem d26_21 : decode jdk_99_method_1_code 21 = .ok (.astore_n 2, 1) := by decide +kernel
theorem d26_22 : decode jdk_99_method_1_code 22 = .ok (.aload_n 0, 1) := by decide +kernel
theorem d26_23 : decode jdk_99_method_1_code 23 = .ok (.aload_n 0, 1) := by decide +kernel
theorem d26_24 : decode jdk_99_method_1_code 24 = .ok (.aconst_null, 1) := by decide +kernel
theorem d26_25 : decode jdk_99_method_1_code 25 = .ok (.dup_x1, 1) := by decide +kernel
theorem d26_26 : decode jdk_99_method_1_code 26 = .ok (.putfield 26, 3) := by decide +kernel
theorem d26_29 : decode jdk_99_method_1_code 29 = .ok (.putfield 30, 3) := by decide +kernel
theorem d26_32 : decode jdk_99_method_1_code 32 = .ok (.aload_n 0, 1) := by decide +kernel
theorem d26_33 : decode jdk_99_method_1_code 33 = .ok (.iconst 0, 1) := by decide +kernel
theorem d26_34 : decode jdk_99_method_1_code 34 = .ok (.putfield 33, 3) := by decide +kernel
theorem d26_37 : decode jdk_99_method_1_code 37 = .ok (.aload_n 2, 1) := by decide +kernel
theorem d26_38 : decode jdk_99_method_1_code 38 = .ok (.ifnull 40, 3) := by decide +kernel
theorem d26_41 : decode jdk_99_method_1_code 41 = .ok (.aload_n 1, 1) := by decide +kernel
theorem d26_42 : decode jdk_99_method_1_code 42 = .ok (.getfield 36, 3) := by decide +kernel
theorem d26_45 : decode jdk_99_method_1_code 45 = .ok (.ifCond .le 33, 3) := by decide +kernel
theorem d26_48 : decode jdk_99_method_1_code 48 = .ok (.aload_n 0, 1) := by decide +kernel
theorem d26_49 : decode jdk_99_method_1_code 49 = .ok (.getfield 33, 3) := by decide +kernel
theorem d26_52 : decode jdk_99_method_1_code 52 = .ok (.aload_n 2, 1) := by decide +kernel
theorem d26_53 : decode jdk_99_method_1_code 53 = .ok (.arraylength, 1) := by decide +kernel
theorem d26_54 : decode jdk_99_method_1_code 54 = .ok (.if_icmp .ge 24, 3) := by decide +kernel
theorem d26_57 : decode jdk_99_method_1_code 57 = .ok (.aload_n 0, 1) := by decide +kernel
theorem d26_58 : decode jdk_99_method_1_code 58 = .ok (.aload_n 2, 1) := by decide +kernel
theorem d26_59 : decode jdk_99_method_1_code 59 = .ok (.aload_n 0, 1) := by decide +kernel
theorem d26_60 : decode jdk_99_method_1_code 60 = .ok (.dup, 1) := by decide +kernel
theorem d26_61 : decode jdk_99_method_1_code 61 = .ok (.getfield 33, 3) := by decide +kernel
theorem d26_64 : decode jdk_99_method_1_code 64 = .ok (.dup_x1, 1) := by decide +kernel
theorem d26_65 : decode jdk_99_method_1_code 65 = .ok (.iconst 1, 1) := by decide +kernel
theorem d26_66 : decode jdk_99_method_1_code 66 = .ok (.iadd, 1) := by decide +kernel
theorem d26_67 : decode jdk_99_method_1_code 67 = .ok (.putfield 33, 3) := by decide +kernel
theorem d26_70 : decode jdk_99_method_1_code 70 = .ok (.aaload, 1) := by decide +kernel
theorem d26_71 : decode jdk_99_method_1_code 71 = .ok (.dup_x1, 1) := by decide +kernel
theorem d26_72 : decode jdk_99_method_1_code 72 = .ok (.putfield 26, 3) := by decide +kernel
theorem d26_75 : decode jdk_99_method_1_code 75 = .ok (.ifnull (-27), 3) := by decide +kernel
theorem d26_78 : decode jdk_99_method_1_code 78 = .ok (.return_, 1) := by decide +kernel
theorem pn_26 : plainName "java/util/HashMap$HashIterator" = true := by first | (simp [plainName, overriddenIn]; done) | decide +kernel
theorem ef_26 (m : MethodId) (a1 : Addr) (a2 : Addr) : entryFrame m #[(.ref a1), (.ref a2)] 3 = mkF m 0 #[.val (.ref a1), .val (.ref a2), .unset] [] := by first | (simp [entryFrame, mkF, argsToLocals, Value.category]; done) | rfl
def Q26 (Z : State) (a1 : Addr) (a2 : Addr) (h0 : Heap) (n0 : Nat) (v : Option Value) (h : Heap) (L : List Loc) : Prop := v = none ∧ Fr n0 L ∧ Keep h0 h [a1] ∧ Fld Z h a1 "java/util/HashMap$HashIterator" "next" "Ljava/util/HashMap$Node;" .null
set_option maxRecDepth 65536 in
set_option maxHeartbeats 40000000 in
theorem rm26 (l : Launch) (Z : State) (a0 : Array Value) (hw : ∀ d ∈ tables_1, d.before a0 Z = true) (ws : List Jvm.Cond) (a1 : Addr) (a2 : Addr) (h0 : Heap) (n0 : Nat) (Z0 : n0 ≤ h0.size) (E_a1 : Exa Z h0 a1 "java/util/HashMap$KeyIterator") (F_this_0_a1 : Fld Z h0 a1 "java/util/HashMap$HashIterator" "this$0" "Ljava/util/HashMap;" .null) (F_expectedModCount_a1 : Fld Z h0 a1 "java/util/HashMap$HashIterator" "expectedModCount" "I" (.int (0 : Int32))) (F_next_a1 : Fld Z h0 a1 "java/util/HashMap$HashIterator" "next" "Ljava/util/HashMap$Node;" .null) (F_current_a1 : Fld Z h0 a1 "java/util/HashMap$HashIterator" "current" "Ljava/util/HashMap$Node;" .null) (F_index_a1 : Fld Z h0 a1 "java/util/HashMap$HashIterator" "index" "I" (.int (0 : Int32))) (F_modCount_a2 : Fld Z h0 a2 "java/util/HashMap" "modCount" "I" (.int (0 : Int32))) (F_table_a2 : Fld Z h0 a2 "java/util/HashMap" "table" "[Ljava/util/HashMap$Node;" .null) (g_a1 : n0 ≤ a1) (own_ne_a1_a2 : a1 ≠ a2) (own_ne_a2_a1 : a2 ≠ a1) :
    MetFree l (⟨"java/util/HashMap$HashIterator", "<init>", "(Ljava/util/HashMap;)V"⟩ : MethodName) (head1 (Jvm.Cond.code (⟨"java/util/HashMap$HashIterator", "<init>", "(Ljava/util/HashMap;)V"⟩ : MethodName) jdk_99_method_1_code 3 none :: ws) ({ frames := 1, cells := 0, slots := 0, locals := 12 } : Room)) (fun a U => a = #[(.ref a1), (.ref a2)] ∧ Z.Warmed39 U.vm ∧ U.heap = h0) (fun _ _ _ _ _ => True) (fun _ U o U' => ∃ v L, o = .returned v ∧ Q26 Z a1 a2 h0 n0 v U'.heap L ∧ FrameEnd U o U' L ({ frames := 1, cells := 0, slots := 0, locals := 12 } : Room).cells ({ frames := 1, cells := 0, slots := 0, locals := 12 } : Room).slots) := by
  refine MetFree.of_bodySF (plainFor_of_name pn_26) hisR ?_
  intro p e s m args below meth c s₁ Bd hml0 hP hK
  obtain ⟨rfl, hZ, hh⟩ := hP
  have hx := Bd.exec
  have hby := Bd.bytes
  have hlk : meth.locks = false := BodyLoose.notSynchronized Bd
  have hml : c.maxLocals = 3 := hml0
  have hown : s.vm.findClass "java/util/HashMap$HashIterator" = some m.cls := findClass_of_methodNamed Bd.named
  have hnm := (name_of_methodNamed Bd.named Bd.method).1
  have X0 : Stand p l e ({ frames := 1, cells := 0, slots := 0, locals := 12 } : Room) s m #[(.ref a1), (.ref a2)] below meth c s₁ [] 0 0 := Stand.of_body Bd
  have e0 : s₁.heap = h0 := by rw [← hh, Bd.state]; rfl
  have N0 := Fr.nil n0
  show Gl p.tables e below (fun (o : Outcome) (U' : State) => ∃ v L, o = .returned v ∧ Q26 Z a1 a2 h0 n0 v U'.heap L ∧ FrameEnd s o U' L ({ frames := 1, cells := 0, slots := 0, locals := 12 } : Room).cells ({ frames := 1, cells := 0, slots := 0, locals := 12 } : Room).slots) _
  refine Gl.pre (fun t k => castTop (ef_26 m a1 a2) k) ?_
  obtain ⟨PP, hPP⟩ : ∃ P : Outcome → State → Prop, P = (fun (o : Outcome) (U' : State) => ∃ v L, o = .returned v ∧ Q26 Z a1 a2 h0 n0 v U'.heap L ∧ FrameEnd s o U' L ({ frames := 1, cells := 0, slots := 0, locals := 12 } : Room).cells ({ frames := 1, cells := 0, slots := 0, locals := 12 } : Room).slots) := ⟨_, rfl⟩
  rw [← hPP]
  have K0 : Keep h0 h0 [a1] := Keep.refl h0 _
  show Gl p.tables e below PP (s₁.setTop (mkF m 0 #[.val (.ref a1), .val (.ref a2), .unset] []))
  refine Gl.pre (fun _ k => XS.aloadN X0.here hx rfl (hb hby d26_0) rfl rfl k) ?_
  show Gl p.tables e below PP (s₁.setTop (mkF m 1 #[.val (.ref a1), .val (.ref a2), .unset] [(.ref a1)]))
  refine Gl.pre (fun _ k => XS.aloadN X0.here hx rfl (hb hby d26_1) rfl rfl k) ?_
  show Gl p.tables e below PP (s₁.setTop (mkF m 2 #[.val (.ref a1), .val (.ref a2), .unset] [(.ref a2), (.ref a1)]))
  obtain ⟨T1, h1, X1, e1, W1, st1⟩ := putF X0 hx hZ hown (host := "") (Or.inl (hw _ (List.mem_of_getElem? (i := 217) rfl))) Via.refl e0 F_this_0_a1 E_a1 (Or.inr ⟨(hw _ (List.mem_of_getElem? (i := 218) rfl)), rfl, hnm⟩) (hw _ (List.mem_of_getElem? (i := 205) rfl)) (ty := (.object "java/util/HashMap")) (by decide) rfl rfl (g := (mkF m 2 #[.val (.ref a1), .val (.ref a2), .unset] [(.ref a2), (.ref a1)])) rfl rfl (hb hby d26_2)
  refine Gl.pre (fun _ k => st1 _ k) ?_
  have E_a1 := E_a1.wr W1
  have F_this_0_a1 := F_this_0_a1.same W1
  have F_expectedModCount_a1 := F_expectedModCount_a1.other W1 (Or.inr (slot_ne (Or.inl (hw _ (List.mem_of_getElem? (i := 223) rfl))) (Or.inr (hw _ (List.mem_of_getElem? (i := 218) rfl))) (by decide) (t := .int) (t' := (.object "java/util/HashMap")) (by decide) (by decide)))
  have F_next_a1 := F_next_a1.other W1 (Or.inr (slot_ne (Or.inl (hw _ (List.mem_of_getElem? (i := 227) rfl))) (Or.inr (hw _ (List.mem_of_getElem? (i := 218) rfl))) (by decide) (t := (.object "java/util/HashMap$Node")) (t' := (.object "java/util/HashMap")) (by decide) (by decide)))
  have F_current_a1 := F_current_a1.other W1 (Or.inr (slot_ne (Or.inl (hw _ (List.mem_of_getElem? (i := 229) rfl))) (Or.inr (hw _ (List.mem_of_getElem? (i := 218) rfl))) (by decide) (t := (.object "java/util/HashMap$Node")) (t' := (.object "java/util/HashMap")) (by decide) (by decide)))
  have F_index_a1 := F_index_a1.other W1 (Or.inr (slot_ne (Or.inl (hw _ (List.mem_of_getElem? (i := 231) rfl))) (Or.inr (hw _ (List.mem_of_getElem? (i := 218) rfl))) (by decide) (t := .int) (t' := (.object "java/util/HashMap")) (by decide) (by decide)))
  have F_modCount_a2 := F_modCount_a2.other W1 (Or.inl (own_ne_a2_a1))
  have F_table_a2 := F_table_a2.other W1 (Or.inl (own_ne_a2_a1))
  have Z1 : n0 ≤ h1.size := by rw [W1.size]; exact Z0
  have N1 := Fr.snoc X1 N0 g_a1
  have K1 := K0.wr W1 (Or.inl (List.mem_of_getElem? (i := 0) rfl))
  show Gl p.tables e below PP (T1.setTop (mkF m 5 #[.val (.ref a1), .val (.ref a2), .unset] []))
  refine Gl.pre (fun _ k => XS.aloadN X1.here hx rfl (hb hby d26_5) rfl rfl k) ?_
  show Gl p.tables e below PP (T1.setTop (mkF m 6 #[.val (.ref a1), .val (.ref a2), .unset] [(.ref a1)]))
  obtain ⟨T2, X2, e2, st2⟩ := initO X1 hx hZ hown (hw _ (List.mem_of_getElem? (i := 219) rfl)) (hw _ (List.mem_of_getElem? (i := 7) rfl)) (hw _ (List.mem_of_getElem? (i := 8) rfl)) e1 (g := (mkF m 6 #[.val (.ref a1), .val (.ref a2), .unset] [(.ref a1)])) rfl (by rw [hml]; rfl) rfl (hb hby d26_6) (by decide) (W := 0) (by show 2 * 0 + _ ≤ _; exact Nat.le_of_eq rfl) (by decide)
  refine Gl.pre (fun _ k => st2 _ k) ?_
  show Gl p.tables e below PP (T2.setTop (mkF m 9 #[.val (.ref a1), .val (.ref a2), .unset] []))
  refine Gl.pre (fun _ k => XS.aloadN X2.here hx rfl (hb hby d26_9) rfl rfl k) ?_
  show Gl p.tables e below PP (T2.setTop (mkF m 10 #[.val (.ref a1), .val (.ref a2), .unset] [(.ref a1)]))
  refine Gl.pre (fun _ k => XS.aloadN X2.here hx rfl (hb hby d26_10) rfl rfl k) ?_
  show Gl p.tables e below PP (T2.setTop (mkF m 11 #[.val (.ref a1), .val (.ref a2), .unset] [(.ref a2), (.ref a1)]))
  obtain ⟨T3, X3, e3, st3⟩ := getF X2 hx hZ hown (host := "") (Or.inl (hw _ (List.mem_of_getElem? (i := 220) rfl))) Via.refl e2 F_modCount_a2 (g := (mkF m 11 #[.val (.ref a1), .val (.ref a2), .unset] [(.ref a2), (.ref a1)])) rfl rfl (hb hby d26_11)
  refine Gl.pre (fun _ k => st3 _ k) ?_
  show Gl p.tables e below PP (T3.setTop (mkF m 14 #[.val (.ref a1), .val (.ref a2), .unset] [(.int (0 : Int32)), (.ref a1)]))
  obtain ⟨T4, h4, X4, e4, W4, st4⟩ := putF X3 hx hZ hown (host := "") (Or.inl (hw _ (List.mem_of_getElem? (i := 222) rfl))) Via.refl e3 F_expectedModCount_a1 E_a1 (Or.inl (hw _ (List.mem_of_getElem? (i := 223) rfl))) (hw _ (List.mem_of_getElem? (i := 205) rfl)) (ty := .int) (by decide) rfl rfl (g := (mkF m 14 #[.val (.ref a1), .val (.ref a2), .unset] [(.int (0 : Int32)), (.ref a1)])) rfl rfl (hb hby d26_14)
  refine Gl.pre (fun _ k => st4 _ k) ?_
  have E_a1 := E_a1.wr W4
  have F_this_0_a1 := F_this_0_a1.other W4 (Or.inr (slot_ne (Or.inr (hw _ (List.mem_of_getElem? (i := 218) rfl))) (Or.inl (hw _ (List.mem_of_getElem? (i := 223) rfl))) (by decide) (t := (.object "java/util/HashMap")) (t' := .int) (by decide) (by decide)))
  have F_expectedModCount_a1 := F_expectedModCount_a1.same W4
  have F_next_a1 := F_next_a1.other W4 (Or.inr (slot_ne (Or.inl (hw _ (List.mem_of_getElem? (i := 227) rfl))) (Or.inl (hw _ (List.mem_of_getElem? (i := 223) rfl))) (by decide) (t := (.object "java/util/HashMap$Node")) (t' := .int) (by decide) (by decide)))
  have F_current_a1 := F_current_a1.other W4 (Or.inr (slot_ne (Or.inl (hw _ (List.mem_of_getElem? (i := 229) rfl))) (Or.inl (hw _ (List.mem_of_getElem? (i := 223) rfl))) (by decide) (t := (.object "java/util/HashMap$Node")) (t' := .int) (by decide) (by decide)))
  have F_index_a1 := F_index_a1.other W4 (Or.inr (slot_ne (Or.inl (hw _ (List.mem_of_getElem? (i := 231) rfl))) (Or.inl (hw _ (List.mem_of_getElem? (i := 223) rfl))) (by decide) (t := .int) (t' := .int) (by decide) (by decide)))
  have F_modCount_a2 := F_modCount_a2.other W4 (Or.inl (own_ne_a2_a1))
  have F_table_a2 := F_table_a2.other W4 (Or.inl (own_ne_a2_a1))
  have Z4 : n0 ≤ h4.size := by rw [W4.size]; exact Z1
  have N4 := Fr.snoc X4 N1 g_a1
  have K4 := K1.wr W4 (Or.inl (List.mem_of_getElem? (i := 0) rfl))
  show Gl p.tables e below PP (T4.setTop (mkF m 17 #[.val (.ref a1), .val (.ref a2), .unset] []))
  refine Gl.pre (fun _ k => XS.aloadN X4.here hx rfl (hb hby d26_17) rfl rfl k) ?_
  show Gl p.tables e below PP (T4.setTop (mkF m 18 #[.val (.ref a1), .val (.ref a2), .unset] [(.ref a2)]))
  obtain ⟨T5, X5, e5, st5⟩ := getF X4 hx hZ hown (host := "") (Or.inl (hw _ (List.mem_of_getElem? (i := 224) rfl))) Via.refl e4 F_table_a2 (g := (mkF m 18 #[.val (.ref a1), .val (.ref a2), .unset] [(.ref a2)])) rfl rfl (hb hby d26_18)
  refine Gl.pre (fun _ k => st5 _ k) ?_
  show Gl p.tables e below PP (T5.setTop (mkF m 21 #[.val (.ref a1), .val (.ref a2), .unset] [.null]))
  refine Gl.pre (fun _ k => XS.astoreN X5.here hx rfl (hb hby d26_21) rfl rfl (l' := #[.val (.ref a1), .val (.ref a2), .val .null]) rfl k) ?_
  show Gl p.tables e below PP (T5.setTop (mkF m 22 #[.val (.ref a1), .val (.ref a2), .val .null] []))
  refine Gl.pre (fun _ k => XS.aloadN X5.here hx rfl (hb hby d26_22) rfl rfl k) ?_
  show Gl p.tables e below PP (T5.setTop (mkF m 23 #[.val (.ref a1), .val (.ref a2), .val .null] [(.ref a1)]))
  refine Gl.pre (fun _ k => XS.aloadN X5.here hx rfl (hb hby d26_23) rfl rfl k) ?_
  show Gl p.tables e below PP (T5.setTop (mkF m 24 #[.val (.ref a1), .val (.ref a2), .val .null] [(.ref a1), (.ref a1)]))
  refine Gl.pre (fun _ k => XS.aconstNull X5.here hx rfl (hb hby d26_24) k) ?_
  show Gl p.tables e below PP (T5.setTop (mkF m 25 #[.val (.ref a1), .val (.ref a2), .val .null] [.null, (.ref a1), (.ref a1)]))
  refine Gl.pre (fun _ k => XS.dupX1 X5.here hx rfl (hb hby d26_25) rfl rfl rfl k) ?_
  show Gl p.tables e below PP (T5.setTop (mkF m 26 #[.val (.ref a1), .val (.ref a2), .val .null] [.null, (.ref a1), .null, (.ref a1)]))
  obtain ⟨T6, h6, X6, e6, W6, st6⟩ := putF X5 hx hZ hown (host := "") (Or.inl (hw _ (List.mem_of_getElem? (i := 226) rfl))) Via.refl e5 F_next_a1 E_a1 (Or.inl (hw _ (List.mem_of_getElem? (i := 227) rfl))) (hw _ (List.mem_of_getElem? (i := 205) rfl)) (ty := (.object "java/util/HashMap$Node")) (by decide) rfl rfl (g := (mkF m 26 #[.val (.ref a1), .val (.ref a2), .val .null] [.null, (.ref a1), .null, (.ref a1)])) rfl rfl (hb hby d26_26)
  refine Gl.pre (fun _ k => st6 _ k) ?_
  have E_a1 := E_a1.wr W6
  have F_this_0_a1 := F_this_0_a1.other W6 (Or.inr (slot_ne (Or.inr (hw _ (List.mem_of_getElem? (i := 218) rfl))) (Or.inl (hw _ (List.mem_of_getElem? (i := 227) rfl))) (by decide) (t := (.object "java/util/HashMap")) (t' := (.object "java/util/HashMap$Node")) (by decide) (by decide)))
  have F_expectedModCount_a1 := F_expectedModCount_a1.other W6 (Or.inr (slot_ne (Or.inl (hw _ (List.mem_of_getElem? (i := 223) rfl))) (Or.inl (hw _ (List.mem_of_getElem? (i := 227) rfl))) (by decide) (t := .int) (t' := (.object "java/util/HashMap$Node")) (by decide) (by decide)))
  have F_next_a1 := F_next_a1.same W6
  have F_current_a1 := F_current_a1.other W6 (Or.inr (slot_ne (Or.inl (hw _ (List.mem_of_getElem? (i := 229) rfl))) (Or.inl (hw _ (List.mem_of_getElem? (i := 227) rfl))) (by decide) (t := (.object "java/util/HashMap$Node")) (t' := (.object "java/util/HashMap$Node")) (by decide) (by decide)))
  have F_index_a1 := F_index_a1.other W6 (Or.inr (slot_ne (Or.inl (hw _ (List.mem_of_getElem? (i := 231) rfl))) (Or.inl (hw _ (List.mem_of_getElem? (i := 227) rfl))) (by decide) (t := .int) (t' := (.object "java/util/HashMap$Node")) (by decide) (by decide)))
  have F_modCount_a2 := F_modCount_a2.other W6 (Or.inl (own_ne_a2_a1))
  have F_table_a2 := F_table_a2.other W6 (Or.inl (own_ne_a2_a1))
  have Z6 : n0 ≤ h6.size := by rw [W6.size]; exact Z4
  have N6 := Fr.snoc X6 N4 g_a1
  have K6 := K4.wr W6 (Or.inl (List.mem_of_getElem? (i := 0) rfl))
  show Gl p.tables e below PP (T6.setTop (mkF m 29 #[.val (.ref a1), .val (.ref a2), .val .null] [.null, (.ref a1)]))
  obtain ⟨T7, h7, X7, e7, W7, st7⟩ := putF X6 hx hZ hown (host := "") (Or.inl (hw _ (List.mem_of_getElem? (i := 228) rfl))) Via.refl e6 F_current_a1 E_a1 (Or.inl (hw _ (List.mem_of_getElem? (i := 229) rfl))) (hw _ (List.mem_of_getElem? (i := 205) rfl)) (ty := (.object "java/util/HashMap$Node")) (by decide) rfl rfl (g := (mkF m 29 #[.val (.ref a1), .val (.ref a2), .val .null] [.null, (.ref a1)])) rfl rfl (hb hby d26_29)
  refine Gl.pre (fun _ k => st7 _ k) ?_
  have E_a1 := E_a1.wr W7
  have F_this_0_a1 := F_this_0_a1.other W7 (Or.inr (slot_ne (Or.inr (hw _ (List.mem_of_getElem? (i := 218) rfl))) (Or.inl (hw _ (List.mem_of_getElem? (i := 229) rfl))) (by decide) (t := (.object "java/util/HashMap")) (t' := (.object "java/util/HashMap$Node")) (by decide) (by decide)))
  have F_expectedModCount_a1 := F_expectedModCount_a1.other W7 (Or.inr (slot_ne (Or.inl (hw _ (List.mem_of_getElem? (i := 223) rfl))) (Or.inl (hw _ (List.mem_of_getElem? (i := 229) rfl))) (by decide) (t := .int) (t' := (.object "java/util/HashMap$Node")) (by decide) (by decide)))
  have F_next_a1 := F_next_a1.other W7 (Or.inr (slot_ne (Or.inl (hw _ (List.mem_of_getElem? (i := 227) rfl))) (Or.inl (hw _ (List.mem_of_getElem? (i := 229) rfl))) (by decide) (t := (.object "java/util/HashMap$Node")) (t' := (.object "java/util/HashMap$Node")) (by decide) (by decide)))
  have F_current_a1 := F_current_a1.same W7
  have F_index_a1 := F_index_a1.other W7 (Or.inr (slot_ne (Or.inl (hw _ (List.mem_of_getElem? (i := 231) rfl))) (Or.inl (hw _ (List.mem_of_getElem? (i := 229) rfl))) (by decide) (t := .int) (t' := (.object "java/util/HashMap$Node")) (by decide) (by decide)))
  have F_modCount_a2 := F_modCount_a2.other W7 (Or.inl (own_ne_a2_a1))
  have F_table_a2 := F_table_a2.other W7 (Or.inl (own_ne_a2_a1))
  have Z7 : n0 ≤ h7.size := by rw [W7.size]; exact Z6
  have N7 := Fr.snoc X7 N6 g_a1
  have K7 := K6.wr W7 (Or.inl (List.mem_of_getElem? (i := 0) rfl))
  show Gl p.tables e below PP (T7.setTop (mkF m 32 #[.val (.ref a1), .val (.ref a2), .val .null] []))
  refine Gl.pre (fun _ k => XS.aloadN X7.here hx rfl (hb hby d26_32) rfl rfl k) ?_
  show Gl p.tables e below PP (T7.setTop (mkF m 33 #[.val (.ref a1), .val (.ref a2), .val .null] [(.ref a1)]))
  refine Gl.pre (fun _ k => XS.iconst X7.here hx rfl (hb hby d26_33) k) ?_
  show Gl p.tables e below PP (T7.setTop (mkF m 34 #[.val (.ref a1), .val (.ref a2), .val .null] [(.int (0 : Int32)), (.ref a1)]))
  obtain ⟨T8, h8, X8, e8, W8, st8⟩ := putF X7 hx hZ hown (host := "") (Or.inl (hw _ (List.mem_of_getElem? (i := 230) rfl))) Via.refl e7 F_index_a1 E_a1 (Or.inl (hw _ (List.mem_of_getElem? (i := 231) rfl))) (hw _ (List.mem_of_getElem? (i := 205) rfl)) (ty := .int) (by decide) rfl rfl (g := (mkF m 34 #[.val (.ref a1), .val (.ref a2), .val .null] [(.int (0 : Int32)), (.ref a1)])) rfl rfl (hb hby d26_34)
  refine Gl.pre (fun _ k => st8 _ k) ?_
  have E_a1 := E_a1.wr W8
  have F_this_0_a1 := F_this_0_a1.other W8 (Or.inr (slot_ne (Or.inr (hw _ (List.mem_of_getElem? (i := 218) rfl))) (Or.inl (hw _ (List.mem_of_getElem? (i := 231) rfl))) (by decide) (t := (.object "java/util/HashMap")) (t' := .int) (by decide) (by decide)))
  have F_expectedModCount_a1 := F_expectedModCount_a1.other W8 (Or.inr (slot_ne (Or.inl (hw _ (List.mem_of_getElem? (i := 223) rfl))) (Or.inl (hw _ (List.mem_of_getElem? (i := 231) rfl))) (by decide) (t := .int) (t' := .int) (by decide) (by decide)))
  have F_next_a1 := F_next_a1.other W8 (Or.inr (slot_ne (Or.inl (hw _ (List.mem_of_getElem? (i := 227) rfl))) (Or.inl (hw _ (List.mem_of_getElem? (i := 231) rfl))) (by decide) (t := (.object "java/util/HashMap$Node")) (t' := .int) (by decide) (by decide)))
  have F_current_a1 := F_current_a1.other W8 (Or.inr (slot_ne (Or.inl (hw _ (List.mem_of_getElem? (i := 229) rfl))) (Or.inl (hw _ (List.mem_of_getElem? (i := 231) rfl))) (by decide) (t := (.object "java/util/HashMap$Node")) (t' := .int) (by decide) (by decide)))
  have F_index_a1 := F_index_a1.same W8
  have F_modCount_a2 := F_modCount_a2.other W8 (Or.inl (own_ne_a2_a1))
  have F_table_a2 := F_table_a2.other W8 (Or.inl (own_ne_a2_a1))
  have Z8 : n0 ≤ h8.size := by rw [W8.size]; exact Z7
  have N8 := Fr.snoc X8 N7 g_a1
  have K8 := K7.wr W8 (Or.inl (List.mem_of_getElem? (i := 0) rfl))
  show Gl p.tables e below PP (T8.setTop (mkF m 37 #[.val (.ref a1), .val (.ref a2), .val .null] []))
  refine Gl.pre (fun _ k => XS.aloadN X8.here hx rfl (hb hby d26_37) rfl rfl k) ?_
  show Gl p.tables e below PP (T8.setTop (mkF m 38 #[.val (.ref a1), .val (.ref a2), .val .null] [.null]))
  refine Gl.pre (fun _ k => XS.ifnullYes X8.here hx rfl (pc0 := 38) (pc' := 78) rfl (hb hby d26_38) rfl (by decide) (by decide) k) ?_
  show Gl p.tables e below PP (T8.setTop (mkF m 78 #[.val (.ref a1), .val (.ref a2), .val .null] []))
  rw [hPP]
  refine own_finV (Q := (Q26 Z a1 a2 h0 n0)) X8 hx hlk Bd.returns (hb hby d26_78) ?_ (by decide) (by decide)
  show Q26 Z a1 a2 h0 n0 _ T8.heap _
  rw [e8]
  exact ⟨rfl, N8, K8, F_next_a1⟩
theorem d25_0 : decode jdk_98_method_1_code 0 = .ok (.aload_n 0, 1) := by decide +kernel
theorem d25_1 : decode jdk_98_method_1_code 1 = .ok (.aload_n 1, 1) := by decide +kernel
theorem d25_2 : decode jdk_98_method_1_code 2 = .ok (.invokespecial 1, 3) := by decide +kernel
theorem d25_5 : decode jdk_98_method_1_code 5 = .ok (.return_, 1) := by decide +kernel
theorem pn_25 : plainName "java/util/HashMap$KeyIterator" = true := by first | (simp [plainName, overriddenIn]; done) | decide +kernel
theorem ef_25 (m : MethodId) (a1 : Addr) (a2 : Addr) : entryFrame m #[(.ref a1), (.ref a2)] 2 = mkF m 0 #[.val (.ref a1), .val (.ref a2)] [] := by first | (simp [entryFrame, mkF, argsToLocals, Value.category]; done) | rfl
def Q25 (Z : State) (a1 : Addr) (a2 : Addr) (h0 : Heap) (n0 : Nat) (v : Option Value) (h : Heap) (L : List Loc) : Prop := v = none ∧ Fr n0 L ∧ Keep h0 h [a1] ∧ Fld Z h a1 "java/util/HashMap$HashIterator" "next" "Ljava/util/HashMap$Node;" .null
set_option maxRecDepth 65536 in
set_option maxHeartbeats 40000000 in
theorem rm25 (l : Launch) (Z : State) (a0 : Array Value) (hw : ∀ d ∈ tables_1, d.before a0 Z = true) (ws : List Jvm.Cond) (a1 : Addr) (a2 : Addr) (h0 : Heap) (n0 : Nat) (Z0 : n0 ≤ h0.size) (E_a1 : Exa Z h0 a1 "java/util/HashMap$KeyIterator") (F_this_0_a1 : Fld Z h0 a1 "java/util/HashMap$HashIterator" "this$0" "Ljava/util/HashMap;" .null) (F_expectedModCount_a1 : Fld Z h0 a1 "java/util/HashMap$HashIterator" "expectedModCount" "I" (.int (0 : Int32))) (F_next_a1 : Fld Z h0 a1 "java/util/HashMap$HashIterator" "next" "Ljava/util/HashMap$Node;" .null) (F_current_a1 : Fld Z h0 a1 "java/util/HashMap$HashIterator" "current" "Ljava/util/HashMap$Node;" .null) (F_index_a1 : Fld Z h0 a1 "java/util/HashMap$HashIterator" "index" "I" (.int (0 : Int32))) (F_modCount_a2 : Fld Z h0 a2 "java/util/HashMap" "modCount" "I" (.int (0 : Int32))) (F_table_a2 : Fld Z h0 a2 "java/util/HashMap" "table" "[Ljava/util/HashMap$Node;" .null) (g_a1 : n0 ≤ a1) (own_ne_a1_a2 : a1 ≠ a2) (own_ne_a2_a1 : a2 ≠ a1) :
    MetFree l (⟨"java/util/HashMap$KeyIterator", "<init>", "(Ljava/util/HashMap;)V"⟩ : MethodName) (head1 (Jvm.Cond.code (⟨"java/util/HashMap$KeyIterator", "<init>", "(Ljava/util/HashMap;)V"⟩ : MethodName) jdk_98_method_1_code 2 none :: ws) ({ frames := 2, cells := 0, slots := 0, locals := 26 } : Room)) (fun a U => a = #[(.ref a1), (.ref a2)] ∧ Z.Warmed39 U.vm ∧ U.heap = h0) (fun _ _ _ _ _ => True) (fun _ U o U' => ∃ v L, o = .returned v ∧ Q25 Z a1 a2 h0 n0 v U'.heap L ∧ FrameEnd U o U' L ({ frames := 2, cells := 0, slots := 0, locals := 26 } : Room).cells ({ frames := 2, cells := 0, slots := 0, locals := 26 } : Room).slots) := by
  refine MetFree.of_bodySF (plainFor_of_name pn_25) hisR ?_
  intro p e s m args below meth c s₁ Bd hml0 hP hK
  obtain ⟨rfl, hZ, hh⟩ := hP
  have hx := Bd.exec
  have hby := Bd.bytes
  have hlk : meth.locks = false := BodyLoose.notSynchronized Bd
  have hml : c.maxLocals = 2 := hml0
  have hown : s.vm.findClass "java/util/HashMap$KeyIterator" = some m.cls := findClass_of_methodNamed Bd.named
  have hnm := (name_of_methodNamed Bd.named Bd.method).1
  have X0 : Stand p l e ({ frames := 2, cells := 0, slots := 0, locals := 26 } : Room) s m #[(.ref a1), (.ref a2)] below meth c s₁ [] 0 0 := Stand.of_body Bd
  have e0 : s₁.heap = h0 := by rw [← hh, Bd.state]; rfl
  have N0 := Fr.nil n0
  show Gl p.tables e below (fun (o : Outcome) (U' : State) => ∃ v L, o = .returned v ∧ Q25 Z a1 a2 h0 n0 v U'.heap L ∧ FrameEnd s o U' L ({ frames := 2, cells := 0, slots := 0, locals := 26 } : Room).cells ({ frames := 2, cells := 0, slots := 0, locals := 26 } : Room).slots) _
  refine Gl.pre (fun t k => castTop (ef_25 m a1 a2) k) ?_
  obtain ⟨PP, hPP⟩ : ∃ P : Outcome → State → Prop, P = (fun (o : Outcome) (U' : State) => ∃ v L, o = .returned v ∧ Q25 Z a1 a2 h0 n0 v U'.heap L ∧ FrameEnd s o U' L ({ frames := 2, cells := 0, slots := 0, locals := 26 } : Room).cells ({ frames := 2, cells := 0, slots := 0, locals := 26 } : Room).slots) := ⟨_, rfl⟩
  rw [← hPP]
  have K0 : Keep h0 h0 [a1] := Keep.refl h0 _
  show Gl p.tables e below PP (s₁.setTop (mkF m 0 #[.val (.ref a1), .val (.ref a2)] []))
  refine Gl.pre (fun _ k => XS.aloadN X0.here hx rfl (hb hby d25_0) rfl rfl k) ?_
  show Gl p.tables e below PP (s₁.setTop (mkF m 1 #[.val (.ref a1), .val (.ref a2)] [(.ref a1)]))
  refine Gl.pre (fun _ k => XS.aloadN X0.here hx rfl (hb hby d25_1) rfl rfl k) ?_
  show Gl p.tables e below PP (s₁.setTop (mkF m 2 #[.val (.ref a1), .val (.ref a2)] [(.ref a2), (.ref a1)]))
  obtain ⟨_, _, ⟨T1, L1, k1, n1⟩, -, X1, ⟨Lc1, hQ1, l1, y1, z1⟩, st1⟩ := X0.specialBack hx (y := (⟨"java/util/HashMap$HashIterator", "<init>", "(Ljava/util/HashMap;)V"⟩ : MethodName)) rfl hown (mvT hZ (hw _ (List.mem_of_getElem? (i := 211) rfl))) (mvT hZ (hw _ (List.mem_of_getElem? (i := 212) rfl))) (mvT hZ (hw _ (List.mem_of_getElem? (i := 216) rfl))) (by decide) (backOf (W := 0) (rm26 l Z a0 hw [] a1 a2 h0 n0 Z0 E_a1 F_this_0_a1 F_expectedModCount_a1 F_next_a1 F_current_a1 F_index_a1 F_modCount_a2 F_table_a2 g_a1 own_ne_a1_a2 own_ne_a2_a1) hZ (hw _ (List.mem_of_getElem? (i := 216) rfl)) (hw _ (List.mem_of_getElem? (i := 215) rfl)) (by decide) (by decide)) (g := (mkF m 2 #[.val (.ref a1), .val (.ref a2)] [(.ref a2), (.ref a1)])) rfl (by rw [hml]; rfl) (Steps.refl _) (a := a1) (argsL := [(.ref a2)]) (rest := []) (lenOf pd_4 rfl) rfl (by show 2 * 0 + _ ≤ _; exact Nat.le_of_eq rfl) (hb hby d25_2) (fun _ _ => ⟨rfl, e0, (by decide : 0 + 0 ≤ _), (by decide : 0 + 0 ≤ _)⟩)
  dsimp only [Pt.U, Pt.locs, Pt.cells, Pt.slots] at X1 l1 y1 z1 st1 hQ1
  subst l1 y1 z1
  obtain ⟨rfl, N1q, K1, x1_0⟩ := hQ1
  have N1 := Fr.app N0 N1q
  refine Gl.pre (fun _ k => st1.trans k) ?_
  have E_a1 := E_a1.keep K1
  have F_modCount_a2 := F_modCount_a2.keep K1 (ninS (own_ne_a2_a1) nin0)
  have F_table_a2 := F_table_a2.keep K1 (ninS (own_ne_a2_a1) nin0)
  have Z1 : n0 ≤ T1.heap.size := Nat.le_trans Z0 K1.1
  have K1k := K0.trans K1 (allS (Or.inl (List.mem_of_getElem? (i := 0) rfl)) all0)
  have F_next_a1 := x1_0
  show Gl p.tables e below PP (T1.setTop (mkF m 5 #[.val (.ref a1), .val (.ref a2)] []))
  rw [hPP]
  refine own_finV (Q := (Q25 Z a1 a2 h0 n0)) X1 hx hlk Bd.returns (hb hby d25_5) ?_ (by decide) (by decide)
  show Q25 Z a1 a2 h0 n0 _ T1.heap _
  exact ⟨rfl, N1, K1k, F_next_a1⟩
theorem d24_0 : decode jdk_97_method_4_code 0 = .ok (.new 22, 3) := by decide +kernel
theorem d24_3 : decode jdk_97_method_4_code 3 = .ok (.dup, 1) := by decide +kernel
theorem d24_4 : decode jdk_97_method_4_code 4 = .ok (.aload_n 0, 1) := by decide +kernel
theorem d24_5 : decode jdk_97_method_4_code 5 = .ok (.getfield 1, 3) := by decide +kernel
theorem d24_8 : decode jdk_97_method_4_code 8 = .ok (.invokespecial 24, 3) := by decide +kernel
theorem d24_11 : decode jdk_97_method_4_code 11 = .ok (.areturn, 1) := by decide +kernel
theorem pn_24 : plainName "java/util/HashMap$KeySet" = true := by first | (simp [plainName, overriddenIn]; done) | decide +kernel
theorem ef_24 (m : MethodId) (a1 : Addr) (hm : Addr) : entryFrame m #[(.ref a1)] 1 = mkF m 0 #[.val (.ref a1)] [] := by first | (simp [entryFrame, mkF, argsToLocals, Value.category]; done) | rfl
def Q24 (Z : State) (a1 : Addr) (hm : Addr) (h0 : Heap) (n0 : Nat) (v : Option Value) (h : Heap) (L : List Loc) : Prop := ∃ oi : Addr, v = some (.ref oi) ∧ Fr n0 L ∧ Keep h0 h [] ∧ h0.size ≤ oi ∧ Exa Z h oi "java/util/HashMap$KeyIterator" ∧ Fld Z h oi "java/util/HashMap$HashIterator" "next" "Ljava/util/HashMap$Node;" .null
set_option maxRecDepth 65536 in
set_option maxHeartbeats 40000000 in
theorem rm24 (l : Launch) (Z : State) (a0 : Array Value) (hw : ∀ d ∈ tables_1, d.before a0 Z = true) (ws : List Jvm.Cond) (a1 : Addr) (hm : Addr) (h0 : Heap) (n0 : Nat) (Z0 : n0 ≤ h0.size) (F_this_0_a1 : Fld Z h0 a1 "java/util/HashMap$KeySet" "this$0" "Ljava/util/HashMap;" (.ref hm)) (F_modCount_hm : Fld Z h0 hm "java/util/HashMap" "modCount" "I" (.int (0 : Int32))) (F_table_hm : Fld Z h0 hm "java/util/HashMap" "table" "[Ljava/util/HashMap$Node;" .null) :
    MetFree l (⟨"java/util/HashMap$KeySet", "iterator", "()Ljava/util/Iterator;"⟩ : MethodName) (head1 (Jvm.Cond.code (⟨"java/util/HashMap$KeySet", "iterator", "()Ljava/util/Iterator;"⟩ : MethodName) jdk_97_method_4_code 1 (some (.object "java/util/Iterator")) :: ws) ({ frames := 3, cells := 1, slots := 5, locals := 40 } : Room)) (fun a U => a = #[(.ref a1)] ∧ Z.Warmed39 U.vm ∧ U.heap = h0) (fun _ _ _ _ _ => True) (fun _ U o U' => ∃ v L, o = .returned v ∧ Q24 Z a1 hm h0 n0 v U'.heap L ∧ FrameEnd U o U' L ({ frames := 3, cells := 1, slots := 5, locals := 40 } : Room).cells ({ frames := 3, cells := 1, slots := 5, locals := 40 } : Room).slots) := by
  refine MetFree.of_bodySF (plainFor_of_name pn_24) hisR ?_
  intro p e s m args below meth c s₁ Bd hml0 hP hK
  obtain ⟨rfl, hZ, hh⟩ := hP
  have hx := Bd.exec
  have hby := Bd.bytes
  have hlk : meth.locks = false := BodyLoose.notSynchronized Bd
  have hml : c.maxLocals = 1 := hml0
  have hown : s.vm.findClass "java/util/HashMap$KeySet" = some m.cls := findClass_of_methodNamed Bd.named
  have hnm := (name_of_methodNamed Bd.named Bd.method).1
  have X0 : Stand p l e ({ frames := 3, cells := 1, slots := 5, locals := 40 } : Room) s m #[(.ref a1)] below meth c s₁ [] 0 0 := Stand.of_body Bd
  have e0 : s₁.heap = h0 := by rw [← hh, Bd.state]; rfl
  have N0 := Fr.nil n0
  show Gl p.tables e below (fun (o : Outcome) (U' : State) => ∃ v L, o = .returned v ∧ Q24 Z a1 hm h0 n0 v U'.heap L ∧ FrameEnd s o U' L ({ frames := 3, cells := 1, slots := 5, locals := 40 } : Room).cells ({ frames := 3, cells := 1, slots := 5, locals := 40 } : Room).slots) _
  refine Gl.pre (fun t k => castTop (ef_24 m a1 hm) k) ?_
  obtain ⟨PP, hPP⟩ : ∃ P : Outcome → State → Prop, P = (fun (o : Outcome) (U' : State) => ∃ v L, o = .returned v ∧ Q24 Z a1 hm h0 n0 v U'.heap L ∧ FrameEnd s o U' L ({ frames := 3, cells := 1, slots := 5, locals := 40 } : Room).cells ({ frames := 3, cells := 1, slots := 5, locals := 40 } : Room).slots) := ⟨_, rfl⟩
  rw [← hPP]
  have K0 : Keep h0 h0 [] := Keep.refl h0 _
  show Gl p.tables e below PP (s₁.setTop (mkF m 0 #[.val (.ref a1)] []))
  obtain ⟨T1, h1, X1, e1, E1, A1, D1, -, st1⟩ := newO X0 hx hZ hown (hw _ (List.mem_of_getElem? (i := 204) rfl)) (hw _ (List.mem_of_getElem? (i := 205) rfl)) (hw _ (List.mem_of_getElem? (i := 206) rfl)) e0 (g := (mkF m 0 #[.val (.ref a1)] [])) rfl (hb hby d24_0) (by decide) (by decide)
  obtain ⟨b1, g1⟩ : ∃ z, z = h0.size := ⟨_, rfl⟩
  rw [← g1] at A1 D1 st1
  refine Gl.pre (fun _ k => st1 _ k) ?_
  have own_ne_a1_b1 : a1 ≠ b1 := by have q := F_this_0_a1.lt; rw [g1]; exact Nat.ne_of_lt q
  have own_ne_b1_a1 : b1 ≠ a1 := own_ne_a1_b1.symm
  have own_ne_hm_b1 : hm ≠ b1 := by have q := F_modCount_hm.lt; rw [g1]; exact Nat.ne_of_lt q
  have own_ne_b1_hm : b1 ≠ hm := own_ne_hm_b1.symm
  have g_b1 : n0 ≤ b1 := Nat.le_trans Z0 (Nat.le_of_eq g1.symm)
  have sz_b1 : h0.size ≤ b1 := Nat.le_trans K0.1 (Nat.le_of_eq g1.symm)
  have F_this_0_a1 := F_this_0_a1.ext E1
  have F_modCount_hm := F_modCount_hm.ext E1
  have F_table_hm := F_table_hm.ext E1
  have Z1 : n0 ≤ h1.size := Nat.le_trans Z0 E1.1
  have K1 := K0.ext E1
  have E_b1 := A1
  have F_this_0_b1 : Fld Z h1 b1 "java/util/HashMap$HashIterator" "this$0" "Ljava/util/HashMap;" .null := D1 (Or.inr (hw _ (List.mem_of_getElem? (i := 218) rfl))) (ty := (.object "java/util/HashMap")) (by decide)
  have F_expectedModCount_b1 : Fld Z h1 b1 "java/util/HashMap$HashIterator" "expectedModCount" "I" (.int (0 : Int32)) := D1 (Or.inl (hw _ (List.mem_of_getElem? (i := 223) rfl))) (ty := .int) (by decide)
  have F_next_b1 : Fld Z h1 b1 "java/util/HashMap$HashIterator" "next" "Ljava/util/HashMap$Node;" .null := D1 (Or.inl (hw _ (List.mem_of_getElem? (i := 227) rfl))) (ty := (.object "java/util/HashMap$Node")) (by decide)
  have F_current_b1 : Fld Z h1 b1 "java/util/HashMap$HashIterator" "current" "Ljava/util/HashMap$Node;" .null := D1 (Or.inl (hw _ (List.mem_of_getElem? (i := 229) rfl))) (ty := (.object "java/util/HashMap$Node")) (by decide)
  have F_index_b1 : Fld Z h1 b1 "java/util/HashMap$HashIterator" "index" "I" (.int (0 : Int32)) := D1 (Or.inl (hw _ (List.mem_of_getElem? (i := 231) rfl))) (ty := .int) (by decide)
  show Gl p.tables e below PP (T1.setTop (mkF m 3 #[.val (.ref a1)] [(.ref b1)]))
  refine Gl.pre (fun _ k => XS.dup X1.here hx rfl (hb hby d24_3) rfl rfl k) ?_
  show Gl p.tables e below PP (T1.setTop (mkF m 4 #[.val (.ref a1)] [(.ref b1), (.ref b1)]))
  refine Gl.pre (fun _ k => XS.aloadN X1.here hx rfl (hb hby d24_4) rfl rfl k) ?_
  show Gl p.tables e below PP (T1.setTop (mkF m 5 #[.val (.ref a1)] [(.ref a1), (.ref b1), (.ref b1)]))
  obtain ⟨T2, X2, e2, st2⟩ := getF X1 hx hZ hown (host := "") (Or.inl (hw _ (List.mem_of_getElem? (i := 190) rfl))) Via.refl e1 F_this_0_a1 (g := (mkF m 5 #[.val (.ref a1)] [(.ref a1), (.ref b1), (.ref b1)])) rfl rfl (hb hby d24_5)
  refine Gl.pre (fun _ k => st2 _ k) ?_
  show Gl p.tables e below PP (T2.setTop (mkF m 8 #[.val (.ref a1)] [(.ref hm), (.ref b1), (.ref b1)]))
  obtain ⟨_, _, ⟨T3, L3, k3, n3⟩, -, X3, ⟨Lc3, hQ3, l3, y3, z3⟩, st3⟩ := X2.specialBack hx (y := (⟨"java/util/HashMap$KeyIterator", "<init>", "(Ljava/util/HashMap;)V"⟩ : MethodName)) rfl hown (mvT hZ (hw _ (List.mem_of_getElem? (i := 207) rfl))) (mvT hZ (hw _ (List.mem_of_getElem? (i := 208) rfl))) (mvT hZ (hw _ (List.mem_of_getElem? (i := 210) rfl))) (by decide) (backOf (W := 1) (rm25 l Z a0 hw [] b1 hm h1 n0 Z1 E_b1 F_this_0_b1 F_expectedModCount_b1 F_next_b1 F_current_b1 F_index_b1 F_modCount_hm F_table_hm g_b1 own_ne_b1_hm own_ne_hm_b1) hZ (hw _ (List.mem_of_getElem? (i := 210) rfl)) (hw _ (List.mem_of_getElem? (i := 206) rfl)) (by decide) (by decide)) (g := (mkF m 8 #[.val (.ref a1)] [(.ref hm), (.ref b1), (.ref b1)])) rfl (by rw [hml]; rfl) (Steps.refl _) (a := b1) (argsL := [(.ref hm)]) (rest := [(.ref b1)]) (lenOf pd_4 rfl) rfl (by show 2 * 0 + _ ≤ _; exact Nat.le_of_eq rfl) (hb hby d24_8) (fun _ _ => ⟨rfl, e2, (by decide : 1 + 0 ≤ _), (by decide : 5 + 0 ≤ _)⟩)
  dsimp only [Pt.U, Pt.locs, Pt.cells, Pt.slots] at X3 l3 y3 z3 st3 hQ3
  subst l3 y3 z3
  obtain ⟨rfl, N3q, K3, x3_0⟩ := hQ3
  have N3 := Fr.app N0 N3q
  refine Gl.pre (fun _ k => st3.trans k) ?_
  have F_this_0_a1 := F_this_0_a1.keep K3 (ninS (own_ne_a1_b1) nin0)
  have F_modCount_hm := F_modCount_hm.keep K3 (ninS (own_ne_hm_b1) nin0)
  have F_table_hm := F_table_hm.keep K3 (ninS (own_ne_hm_b1) nin0)
  have E_b1 := E_b1.keep K3
  have Z3 : n0 ≤ T3.heap.size := Nat.le_trans Z1 K3.1
  have K3k := K1.trans K3 (allS (Or.inr sz_b1) all0)
  have F_next_b1 := x3_0
  show Gl p.tables e below PP (T3.setTop (mkF m 11 #[.val (.ref a1)] [(.ref b1)]))
  rw [hPP]
  refine own_finA (Q := (Q24 Z a1 hm h0 n0)) X3 hx hlk Bd.returns rfl rfl (hb hby d24_11) ?_ (by decide) (by decide)
  show Q24 Z a1 hm h0 n0 _ T3.heap _
  exact ⟨b1, rfl, N3, K3k, sz_b1, E_b1, F_next_b1⟩
theorem d23_0 : decode jdk_97_method_1_code 0 = .ok (.aload_n 0, 1) := by decide +kernel
theorem d23_1 : decode jdk_97_method_1_code 1 = .ok (.aload_n 1, 1) := by decide +kernel
theorem d23_2 : decode jdk_97_method_1_code 2 = .ok (.putfield 1, 3) := by decide +kernel
theorem d23_5 : decode jdk_97_method_1_code 5 = .ok (.aload_n 0, 1) := by decide +kernel
theorem d23_6 : decode jdk_97_method_1_code 6 = .ok (.invokespecial 7, 3) := by decide +kernel
theorem d23_9 : decode jdk_97_method_1_code 9 = .ok (.return_, 1) := by decide +kernel
theorem pn_23 : plainName "java/util/HashMap$KeySet" = true := by first | (simp [plainName, overriddenIn]; done) | decide +kernel
theorem ef_23 (m : MethodId) (a1 : Addr) (a2 : Addr) : entryFrame m #[(.ref a1), (.ref a2)] 2 = mkF m 0 #[.val (.ref a1), .val (.ref a2)] [] := by first | (simp [entryFrame, mkF, argsToLocals, Value.category]; done) | rfl
def Q23 (Z : State) (a1 : Addr) (a2 : Addr) (h0 : Heap) (n0 : Nat) (v : Option Value) (h : Heap) (L : List Loc) : Prop := v = none ∧ Fr n0 L ∧ Keep h0 h [a1] ∧ Fld Z h a1 "java/util/HashMap$KeySet" "this$0" "Ljava/util/HashMap;" (.ref a2)
set_option maxRecDepth 65536 in
set_option maxHeartbeats 40000000 in
theorem rm23 (l : Launch) (Z : State) (a0 : Array Value) (hw : ∀ d ∈ tables_1, d.before a0 Z = true) (ws : List Jvm.Cond) (a1 : Addr) (a2 : Addr) (h0 : Heap) (n0 : Nat) (Z0 : n0 ≤ h0.size) (E_a1 : Exa Z h0 a1 "java/util/HashMap$KeySet") (F_this_0_a1 : Fld Z h0 a1 "java/util/HashMap$KeySet" "this$0" "Ljava/util/HashMap;" .null) (g_a1 : n0 ≤ a1) :
    MetFree l (⟨"java/util/HashMap$KeySet", "<init>", "(Ljava/util/HashMap;)V"⟩ : MethodName) (head1 (Jvm.Cond.code (⟨"java/util/HashMap$KeySet", "<init>", "(Ljava/util/HashMap;)V"⟩ : MethodName) jdk_97_method_1_code 2 none :: ws) ({ frames := 3, cells := 0, slots := 0, locals := 36 } : Room)) (fun a U => a = #[(.ref a1), (.ref a2)] ∧ Z.Warmed39 U.vm ∧ U.heap = h0) (fun _ _ _ _ _ => True) (fun _ U o U' => ∃ v L, o = .returned v ∧ Q23 Z a1 a2 h0 n0 v U'.heap L ∧ FrameEnd U o U' L ({ frames := 3, cells := 0, slots := 0, locals := 36 } : Room).cells ({ frames := 3, cells := 0, slots := 0, locals := 36 } : Room).slots) := by
  refine MetFree.of_bodySF (plainFor_of_name pn_23) hisR ?_
  intro p e s m args below meth c s₁ Bd hml0 hP hK
  obtain ⟨rfl, hZ, hh⟩ := hP
  have hx := Bd.exec
  have hby := Bd.bytes
  have hlk : meth.locks = false := BodyLoose.notSynchronized Bd
  have hml : c.maxLocals = 2 := hml0
  have hown : s.vm.findClass "java/util/HashMap$KeySet" = some m.cls := findClass_of_methodNamed Bd.named
  have hnm := (name_of_methodNamed Bd.named Bd.method).1
  have X0 : Stand p l e ({ frames := 3, cells := 0, slots := 0, locals := 36 } : Room) s m #[(.ref a1), (.ref a2)] below meth c s₁ [] 0 0 := Stand.of_body Bd
  have e0 : s₁.heap = h0 := by rw [← hh, Bd.state]; rfl
  have N0 := Fr.nil n0
  show Gl p.tables e below (fun (o : Outcome) (U' : State) => ∃ v L, o = .returned v ∧ Q23 Z a1 a2 h0 n0 v U'.heap L ∧ FrameEnd s o U' L ({ frames := 3, cells := 0, slots := 0, locals := 36 } : Room).cells ({ frames := 3, cells := 0, slots := 0, locals := 36 } : Room).slots) _
  refine Gl.pre (fun t k => castTop (ef_23 m a1 a2) k) ?_
  obtain ⟨PP, hPP⟩ : ∃ P : Outcome → State → Prop, P = (fun (o : Outcome) (U' : State) => ∃ v L, o = .returned v ∧ Q23 Z a1 a2 h0 n0 v U'.heap L ∧ FrameEnd s o U' L ({ frames := 3, cells := 0, slots := 0, locals := 36 } : Room).cells ({ frames := 3, cells := 0, slots := 0, locals := 36 } : Room).slots) := ⟨_, rfl⟩
  rw [← hPP]
  have K0 : Keep h0 h0 [a1] := Keep.refl h0 _
  show Gl p.tables e below PP (s₁.setTop (mkF m 0 #[.val (.ref a1), .val (.ref a2)] []))
  refine Gl.pre (fun _ k => XS.aloadN X0.here hx rfl (hb hby d23_0) rfl rfl k) ?_
  show Gl p.tables e below PP (s₁.setTop (mkF m 1 #[.val (.ref a1), .val (.ref a2)] [(.ref a1)]))
  refine Gl.pre (fun _ k => XS.aloadN X0.here hx rfl (hb hby d23_1) rfl rfl k) ?_
  show Gl p.tables e below PP (s₁.setTop (mkF m 2 #[.val (.ref a1), .val (.ref a2)] [(.ref a2), (.ref a1)]))
  obtain ⟨T1, h1, X1, e1, W1, st1⟩ := putF X0 hx hZ hown (host := "") (Or.inl (hw _ (List.mem_of_getElem? (i := 190) rfl))) Via.refl e0 F_this_0_a1 E_a1 (Or.inr ⟨(hw _ (List.mem_of_getElem? (i := 191) rfl)), rfl, hnm⟩) (hw _ (List.mem_of_getElem? (i := 184) rfl)) (ty := (.object "java/util/HashMap")) (by decide) rfl rfl (g := (mkF m 2 #[.val (.ref a1), .val (.ref a2)] [(.ref a2), (.ref a1)])) rfl rfl (hb hby d23_2)
  refine Gl.pre (fun _ k => st1 _ k) ?_
  have E_a1 := E_a1.wr W1
  have F_this_0_a1 := F_this_0_a1.same W1
  have Z1 : n0 ≤ h1.size := by rw [W1.size]; exact Z0
  have N1 := Fr.snoc X1 N0 g_a1
  have K1 := K0.wr W1 (Or.inl (List.mem_of_getElem? (i := 0) rfl))
  show Gl p.tables e below PP (T1.setTop (mkF m 5 #[.val (.ref a1), .val (.ref a2)] []))
  refine Gl.pre (fun _ k => XS.aloadN X1.here hx rfl (hb hby d23_5) rfl rfl k) ?_
  show Gl p.tables e below PP (T1.setTop (mkF m 6 #[.val (.ref a1), .val (.ref a2)] [(.ref a1)]))
  obtain ⟨_, _, ⟨T2, L2, k2, n2⟩, -, X2, ⟨Lc2, hQ2, l2, y2, z2⟩, st2⟩ := X1.specialBack hx (y := (⟨"java/util/AbstractSet", "<init>", "()V"⟩ : MethodName)) rfl hown (mvT hZ (hw _ (List.mem_of_getElem? (i := 192) rfl))) (mvT hZ (hw _ (List.mem_of_getElem? (i := 109) rfl))) (mvT hZ (hw _ (List.mem_of_getElem? (i := 113) rfl))) (by decide) (backOf (W := 0) (rm14 l Z a0 hw [] a1 h1 n0 Z1 ) hZ (hw _ (List.mem_of_getElem? (i := 113) rfl)) (hw _ (List.mem_of_getElem? (i := 112) rfl)) (by decide) (by decide)) (g := (mkF m 6 #[.val (.ref a1), .val (.ref a2)] [(.ref a1)])) rfl (by rw [hml]; rfl) (Steps.refl _) (a := a1) (argsL := []) (rest := []) (lenOf pd_0 rfl) rfl (by show 2 * 0 + _ ≤ _; exact Nat.le_of_eq rfl) (hb hby d23_6) (fun _ _ => ⟨rfl, e1, (by decide : 0 + 0 ≤ _), (by decide : 0 + 0 ≤ _)⟩)
  dsimp only [Pt.U, Pt.locs, Pt.cells, Pt.slots] at X2 l2 y2 z2 st2 hQ2
  subst l2 y2 z2
  obtain ⟨rfl, N2q, e2⟩ := hQ2
  have N2 := Fr.app N1 N2q
  refine Gl.pre (fun _ k => st2.trans k) ?_
  show Gl p.tables e below PP (T2.setTop (mkF m 9 #[.val (.ref a1), .val (.ref a2)] []))
  rw [hPP]
  refine own_finV (Q := (Q23 Z a1 a2 h0 n0)) X2 hx hlk Bd.returns (hb hby d23_9) ?_ (by decide) (by decide)
  show Q23 Z a1 a2 h0 n0 _ T2.heap _
  rw [e2]
  exact ⟨rfl, N2, K1, F_this_0_a1⟩
theorem d22_0 : decode jdk_69_method_24_code 0 = .ok (.aload_n 0, 1) := by decide +kernel
theorem d22_1 : decode jdk_69_method_24_code 1 = .ok (.getfield 239, 3) := by decide +kernel
theorem d22_4 : decode jdk_69_method_24_code 4 = .ok (.astore_n 1, 1) := by decide +kernel
theorem d22_5 : decode jdk_69_method_24_code 5 = .ok (.aload_n 1, 1) := by decide +kernel
theorem d22_6 : decode jdk_69_method_24_code 6 = .ok (.ifnonnull 17, 3) := by decide +kernel
theorem d22_9 : decode jdk_69_method_24_code 9 = .ok (.new 243, 3) := by decide +kernel
theorem d22_12 : decode jdk_69_method_24_code 12 = .ok (.dup, 1) := by decide +kernel
theorem d22_13 : decode jdk_69_method_24_code 13 = .ok (.aload_n 0, 1) := by decide +kernel
theorem d22_14 : decode jdk_69_method_24_code 14 = .ok (.invokespecial 245, 3) := by decide +kernel
theorem d22_17 : decode jdk_69_method_24_code 17 = .ok (.astore_n 1, 1) := by decide +kernel
theorem d22_18 : decode jdk_69_method_24_code 18 = .ok (.aload_n 0, 1) := by decide +kernel
theorem d22_19 : decode jdk_69_method_24_code 19 = .ok (.aload_n 1, 1) := by decide +kernel
theorem d22_20 : decode jdk_69_method_24_code 20 = .ok (.putfield 239, 3) := by decide +kernel
theorem d22_23 : decode jdk_69_method_24_code 23 = .ok (.aload_n 1, 1) := by decide +kernel
theorem d22_24 : decode jdk_69_method_24_code 24 = .ok (.areturn, 1) := by decide +kernel
theorem pn_22 : plainName "java/util/HashMap" = true := by first | (simp [plainName, overriddenIn]; done) | decide +kernel
theorem ef_22 (m : MethodId) (a1 : Addr) : entryFrame m #[(.ref a1)] 2 = mkF m 0 #[.val (.ref a1), .unset] [] := by first | (simp [entryFrame, mkF, argsToLocals, Value.category]; done) | rfl
def Q22 (Z : State) (a1 : Addr) (h0 : Heap) (n0 : Nat) (v : Option Value) (h : Heap) (L : List Loc) : Prop := ∃ ok : Addr, v = some (.ref ok) ∧ Fr n0 L ∧ Keep h0 h [a1] ∧ h0.size ≤ ok ∧ Exa Z h ok "java/util/HashMap$KeySet" ∧ Fld Z h ok "java/util/HashMap$KeySet" "this$0" "Ljava/util/HashMap;" (.ref a1) ∧ Fld Z h a1 "java/util/HashMap" "modCount" "I" (.int (0 : Int32)) ∧ Fld Z h a1 "java/util/HashMap" "table" "[Ljava/util/HashMap$Node;" .null
set_option maxRecDepth 65536 in
set_option maxHeartbeats 40000000 in
theorem rm22 (l : Launch) (Z : State) (a0 : Array Value) (hw : ∀ d ∈ tables_1, d.before a0 Z = true) (ws : List Jvm.Cond) (a1 : Addr) (h0 : Heap) (n0 : Nat) (Z0 : n0 ≤ h0.size) (E_a1 : Exa Z h0 a1 "java/util/HashMap") (F_keySet_a1 : Fld Z h0 a1 "java/util/AbstractMap" "keySet" "Ljava/util/Set;" .null) (F_modCount_a1 : Fld Z h0 a1 "java/util/HashMap" "modCount" "I" (.int (0 : Int32))) (F_table_a1 : Fld Z h0 a1 "java/util/HashMap" "table" "[Ljava/util/HashMap$Node;" .null) (g_a1 : n0 ≤ a1) :
    MetFree l (⟨"java/util/HashMap", "keySet", "()Ljava/util/Set;"⟩ : MethodName) (head1 (Jvm.Cond.code (⟨"java/util/HashMap", "keySet", "()Ljava/util/Set;"⟩ : MethodName) jdk_69_method_24_code 2 (some (.object "java/util/Set")) :: ws) ({ frames := 4, cells := 1, slots := 1, locals := 50 } : Room)) (fun a U => a = #[(.ref a1)] ∧ Z.Warmed39 U.vm ∧ U.heap = h0) (fun _ _ _ _ _ => True) (fun _ U o U' => ∃ v L, o = .returned v ∧ Q22 Z a1 h0 n0 v U'.heap L ∧ FrameEnd U o U' L ({ frames := 4, cells := 1, slots := 1, locals := 50 } : Room).cells ({ frames := 4, cells := 1, slots := 1, locals := 50 } : Room).slots) := by
  refine MetFree.of_bodySF (plainFor_of_name pn_22) hisR ?_
  intro p e s m args below meth c s₁ Bd hml0 hP hK
  obtain ⟨rfl, hZ, hh⟩ := hP
  have hx := Bd.exec
  have hby := Bd.bytes
  have hlk : meth.locks = false := BodyLoose.notSynchronized Bd
  have hml : c.maxLocals = 2 := hml0
  have hown : s.vm.findClass "java/util/HashMap" = some m.cls := findClass_of_methodNamed Bd.named
  have hnm := (name_of_methodNamed Bd.named Bd.method).1
  have X0 : Stand p l e ({ frames := 4, cells := 1, slots := 1, locals := 50 } : Room) s m #[(.ref a1)] below meth c s₁ [] 0 0 := Stand.of_body Bd
  have e0 : s₁.heap = h0 := by rw [← hh, Bd.state]; rfl
  have N0 := Fr.nil n0
  show Gl p.tables e below (fun (o : Outcome) (U' : State) => ∃ v L, o = .returned v ∧ Q22 Z a1 h0 n0 v U'.heap L ∧ FrameEnd s o U' L ({ frames := 4, cells := 1, slots := 1, locals := 50 } : Room).cells ({ frames := 4, cells := 1, slots := 1, locals := 50 } : Room).slots) _
  refine Gl.pre (fun t k => castTop (ef_22 m a1) k) ?_
  obtain ⟨PP, hPP⟩ : ∃ P : Outcome → State → Prop, P = (fun (o : Outcome) (U' : State) => ∃ v L, o = .returned v ∧ Q22 Z a1 h0 n0 v U'.heap L ∧ FrameEnd s o U' L ({ frames := 4, cells := 1, slots := 1, locals := 50 } : Room).cells ({ frames := 4, cells := 1, slots := 1, locals := 50 } : Room).slots) := ⟨_, rfl⟩
  rw [← hPP]
  have K0 : Keep h0 h0 [a1] := Keep.refl h0 _
  show Gl p.tables e below PP (s₁.setTop (mkF m 0 #[.val (.ref a1), .unset] []))
  refine Gl.pre (fun _ k => XS.aloadN X0.here hx rfl (hb hby d22_0) rfl rfl k) ?_
  show Gl p.tables e below PP (s₁.setTop (mkF m 1 #[.val (.ref a1), .unset] [(.ref a1)]))
  obtain ⟨T1, X1, e1, st1⟩ := getF X0 hx hZ hown (host := "") (Or.inl (hw _ (List.mem_of_getElem? (i := 180) rfl))) (Via.of (hw _ (List.mem_of_getElem? (i := 181) rfl))) e0 F_keySet_a1 (g := (mkF m 1 #[.val (.ref a1), .unset] [(.ref a1)])) rfl rfl (hb hby d22_1)
  refine Gl.pre (fun _ k => st1 _ k) ?_
  show Gl p.tables e below PP (T1.setTop (mkF m 4 #[.val (.ref a1), .unset] [.null]))
  refine Gl.pre (fun _ k => XS.astoreN X1.here hx rfl (hb hby d22_4) rfl rfl (l' := #[.val (.ref a1), .val .null]) rfl k) ?_
  show Gl p.tables e below PP (T1.setTop (mkF m 5 #[.val (.ref a1), .val .null] []))
  refine Gl.pre (fun _ k => XS.aloadN X1.here hx rfl (hb hby d22_5) rfl rfl k) ?_
  show Gl p.tables e below PP (T1.setTop (mkF m 6 #[.val (.ref a1), .val .null] [.null]))
  refine Gl.pre (fun _ k => XS.ifnonnullNo X1.here hx rfl (hb hby d22_6) rfl k) ?_
  show Gl p.tables e below PP (T1.setTop (mkF m 9 #[.val (.ref a1), .val .null] []))
  obtain ⟨T2, h2, X2, e2, E2, A2, D2, -, st2⟩ := newO X1 hx hZ hown (hw _ (List.mem_of_getElem? (i := 183) rfl)) (hw _ (List.mem_of_getElem? (i := 184) rfl)) (hw _ (List.mem_of_getElem? (i := 185) rfl)) e1 (g := (mkF m 9 #[.val (.ref a1), .val .null] [])) rfl (hb hby d22_9) (by decide) (by decide)
  obtain ⟨b2, g2⟩ : ∃ z, z = h0.size := ⟨_, rfl⟩
  rw [← g2] at A2 D2 st2
  refine Gl.pre (fun _ k => st2 _ k) ?_
  have own_ne_a1_b2 : a1 ≠ b2 := by have q := E_a1.lt; rw [g2]; exact Nat.ne_of_lt q
  have own_ne_b2_a1 : b2 ≠ a1 := own_ne_a1_b2.symm
  have g_b2 : n0 ≤ b2 := Nat.le_trans Z0 (Nat.le_of_eq g2.symm)
  have sz_b2 : h0.size ≤ b2 := Nat.le_trans K0.1 (Nat.le_of_eq g2.symm)
  have E_a1 := E_a1.ext E2
  have F_keySet_a1 := F_keySet_a1.ext E2
  have F_modCount_a1 := F_modCount_a1.ext E2
  have F_table_a1 := F_table_a1.ext E2
  have Z2 : n0 ≤ h2.size := Nat.le_trans Z0 E2.1
  have K2 := K0.ext E2
  have E_b2 := A2
  have F_this_0_b2 : Fld Z h2 b2 "java/util/HashMap$KeySet" "this$0" "Ljava/util/HashMap;" .null := D2 (Or.inr (hw _ (List.mem_of_getElem? (i := 191) rfl))) (ty := (.object "java/util/HashMap")) (by decide)
  show Gl p.tables e below PP (T2.setTop (mkF m 12 #[.val (.ref a1), .val .null] [(.ref b2)]))
  refine Gl.pre (fun _ k => XS.dup X2.here hx rfl (hb hby d22_12) rfl rfl k) ?_
  show Gl p.tables e below PP (T2.setTop (mkF m 13 #[.val (.ref a1), .val .null] [(.ref b2), (.ref b2)]))
  refine Gl.pre (fun _ k => XS.aloadN X2.here hx rfl (hb hby d22_13) rfl rfl k) ?_
  show Gl p.tables e below PP (T2.setTop (mkF m 14 #[.val (.ref a1), .val .null] [(.ref a1), (.ref b2), (.ref b2)]))
  obtain ⟨_, _, ⟨T3, L3, k3, n3⟩, -, X3, ⟨Lc3, hQ3, l3, y3, z3⟩, st3⟩ := X2.specialBack hx (y := (⟨"java/util/HashMap$KeySet", "<init>", "(Ljava/util/HashMap;)V"⟩ : MethodName)) rfl hown (mvT hZ (hw _ (List.mem_of_getElem? (i := 186) rfl))) (mvT hZ (hw _ (List.mem_of_getElem? (i := 187) rfl))) (mvT hZ (hw _ (List.mem_of_getElem? (i := 189) rfl))) (by decide) (backOf (W := 1) (rm23 l Z a0 hw [] b2 a1 h2 n0 Z2 E_b2 F_this_0_b2 g_b2) hZ (hw _ (List.mem_of_getElem? (i := 189) rfl)) (hw _ (List.mem_of_getElem? (i := 185) rfl)) (by decide) (by decide)) (g := (mkF m 14 #[.val (.ref a1), .val .null] [(.ref a1), (.ref b2), (.ref b2)])) rfl (by rw [hml]; rfl) (Steps.refl _) (a := b2) (argsL := [(.ref a1)]) (rest := [(.ref b2)]) (lenOf pd_4 rfl) rfl (by show 2 * 0 + _ ≤ _; exact Nat.le_of_eq rfl) (hb hby d22_14) (fun _ _ => ⟨rfl, e2, (by decide : 1 + 0 ≤ _), (by decide : 1 + 0 ≤ _)⟩)
  dsimp only [Pt.U, Pt.locs, Pt.cells, Pt.slots] at X3 l3 y3 z3 st3 hQ3
  subst l3 y3 z3
  obtain ⟨rfl, N3q, K3, x3_0⟩ := hQ3
  have N3 := Fr.app N0 N3q
  refine Gl.pre (fun _ k => st3.trans k) ?_
  have E_a1 := E_a1.keep K3
  have F_keySet_a1 := F_keySet_a1.keep K3 (ninS (own_ne_a1_b2) nin0)
  have F_modCount_a1 := F_modCount_a1.keep K3 (ninS (own_ne_a1_b2) nin0)
  have F_table_a1 := F_table_a1.keep K3 (ninS (own_ne_a1_b2) nin0)
  have E_b2 := E_b2.keep K3
  have Z3 : n0 ≤ T3.heap.size := Nat.le_trans Z2 K3.1
  have K3k := K2.trans K3 (allS (Or.inr sz_b2) all0)
  have F_this_0_b2 := x3_0
  show Gl p.tables e below PP (T3.setTop (mkF m 17 #[.val (.ref a1), .val .null] [(.ref b2)]))
  refine Gl.pre (fun _ k => XS.astoreN X3.here hx rfl (hb hby d22_17) rfl rfl (l' := #[.val (.ref a1), .val (.ref b2)]) rfl k) ?_
  show Gl p.tables e below PP (T3.setTop (mkF m 18 #[.val (.ref a1), .val (.ref b2)] []))
  refine Gl.pre (fun _ k => XS.aloadN X3.here hx rfl (hb hby d22_18) rfl rfl k) ?_
  show Gl p.tables e below PP (T3.setTop (mkF m 19 #[.val (.ref a1), .val (.ref b2)] [(.ref a1)]))
  refine Gl.pre (fun _ k => XS.aloadN X3.here hx rfl (hb hby d22_19) rfl rfl k) ?_
  show Gl p.tables e below PP (T3.setTop (mkF m 20 #[.val (.ref a1), .val (.ref b2)] [(.ref b2), (.ref a1)]))
  obtain ⟨T4, h4, X4, e4, W4, st4⟩ := putF X3 hx hZ hown (host := "") (Or.inl (hw _ (List.mem_of_getElem? (i := 180) rfl))) (Via.of (hw _ (List.mem_of_getElem? (i := 181) rfl))) rfl F_keySet_a1 E_a1 (Or.inl (hw _ (List.mem_of_getElem? (i := 182) rfl))) (hw _ (List.mem_of_getElem? (i := 62) rfl)) (ty := (.object "java/util/Set")) (by decide) rfl rfl (g := (mkF m 20 #[.val (.ref a1), .val (.ref b2)] [(.ref b2), (.ref a1)])) rfl rfl (hb hby d22_20)
  refine Gl.pre (fun _ k => st4 _ k) ?_
  have E_a1 := E_a1.wr W4
  have F_keySet_a1 := F_keySet_a1.same W4
  have F_modCount_a1 := F_modCount_a1.other W4 (Or.inr (slot_ne (Or.inl (hw _ (List.mem_of_getElem? (i := 221) rfl))) (Or.inl (hw _ (List.mem_of_getElem? (i := 182) rfl))) (by decide) (t := .int) (t' := (.object "java/util/Set")) (by decide) (by decide)))
  have F_table_a1 := F_table_a1.other W4 (Or.inr (slot_ne (Or.inl (hw _ (List.mem_of_getElem? (i := 225) rfl))) (Or.inl (hw _ (List.mem_of_getElem? (i := 182) rfl))) (by decide) (t := (.array (.object "java/util/HashMap$Node"))) (t' := (.object "java/util/Set")) (by decide) (by decide)))
  have E_b2 := E_b2.wr W4
  have F_this_0_b2 := F_this_0_b2.other W4 (Or.inl (own_ne_b2_a1))
  have Z4 : n0 ≤ h4.size := by rw [W4.size]; exact Z3
  have N4 := Fr.snoc X4 N3 g_a1
  have K4 := K3k.wr W4 (Or.inl (List.mem_of_getElem? (i := 0) rfl))
  show Gl p.tables e below PP (T4.setTop (mkF m 23 #[.val (.ref a1), .val (.ref b2)] []))
  refine Gl.pre (fun _ k => XS.aloadN X4.here hx rfl (hb hby d22_23) rfl rfl k) ?_
  show Gl p.tables e below PP (T4.setTop (mkF m 24 #[.val (.ref a1), .val (.ref b2)] [(.ref b2)]))
  rw [hPP]
  refine own_finA (Q := (Q22 Z a1 h0 n0)) X4 hx hlk Bd.returns rfl rfl (hb hby d22_24) ?_ (by decide) (by decide)
  show Q22 Z a1 h0 n0 _ T4.heap _
  rw [e4]
  exact ⟨b2, rfl, N4, K4, sz_b2, E_b2, F_this_0_b2, F_modCount_a1, F_table_a1⟩
theorem d21_0 : decode jdk_93_method_6_code 0 = .ok (.aload_n 0, 1) := by decide +kernel
theorem d21_1 : decode jdk_93_method_6_code 1 = .ok (.getfield 10, 3) := by decide +kernel
theorem d21_4 : decode jdk_93_method_6_code 4 = .ok (.invokevirtual 45, 3) := by decide +kernel
theorem d21_7 : decode jdk_93_method_6_code 7 = .ok (.invokeinterface 49 1, 5) := by decide +kernel
theorem d21_12 : decode jdk_93_method_6_code 12 = .ok (.areturn, 1) := by decide +kernel
theorem pn_21 : plainName "java/util/HashSet" = true := by first | (simp [plainName, overriddenIn]; done) | decide +kernel
theorem ef_21 (m : MethodId) (a1 : Addr) (hm : Addr) : entryFrame m #[(.ref a1)] 1 = mkF m 0 #[.val (.ref a1)] [] := by first | (simp [entryFrame, mkF, argsToLocals, Value.category]; done) | rfl
def Q21 (Z : State) (a1 : Addr) (hm : Addr) (h0 : Heap) (n0 : Nat) (v : Option Value) (h : Heap) (L : List Loc) : Prop := ∃ oi : Addr, v = some (.ref oi) ∧ Fr n0 L ∧ Keep h0 h [hm] ∧ h0.size ≤ oi ∧ Exa Z h oi "java/util/HashMap$KeyIterator" ∧ Fld Z h oi "java/util/HashMap$HashIterator" "next" "Ljava/util/HashMap$Node;" .null
set_option maxRecDepth 65536 in
set_option maxHeartbeats 40000000 in
theorem rm21 (l : Launch) (Z : State) (a0 : Array Value) (hw : ∀ d ∈ tables_1, d.before a0 Z = true) (ws : List Jvm.Cond) (a1 : Addr) (hm : Addr) (h0 : Heap) (n0 : Nat) (Z0 : n0 ≤ h0.size) (F_map_a1 : Fld Z h0 a1 "java/util/HashSet" "map" "Ljava/util/HashMap;" (.ref hm)) (E_hm : Exa Z h0 hm "java/util/HashMap") (F_keySet_hm : Fld Z h0 hm "java/util/AbstractMap" "keySet" "Ljava/util/Set;" .null) (F_modCount_hm : Fld Z h0 hm "java/util/HashMap" "modCount" "I" (.int (0 : Int32))) (F_table_hm : Fld Z h0 hm "java/util/HashMap" "table" "[Ljava/util/HashMap$Node;" .null) (g_hm : n0 ≤ hm) :
    MetFree l (⟨"java/util/HashSet", "iterator", "()Ljava/util/Iterator;"⟩ : MethodName) (head1 (Jvm.Cond.code (⟨"java/util/HashSet", "iterator", "()Ljava/util/Iterator;"⟩ : MethodName) jdk_93_method_6_code 1 (some (.object "java/util/Iterator")) :: ws) ({ frames := 5, cells := 2, slots := 6, locals := 63 } : Room)) (fun a U => a = #[(.ref a1)] ∧ Z.Warmed39 U.vm ∧ U.heap = h0) (fun _ _ _ _ _ => True) (fun _ U o U' => ∃ v L, o = .returned v ∧ Q21 Z a1 hm h0 n0 v U'.heap L ∧ FrameEnd U o U' L ({ frames := 5, cells := 2, slots := 6, locals := 63 } : Room).cells ({ frames := 5, cells := 2, slots := 6, locals := 63 } : Room).slots) := by
  refine MetFree.of_bodySF (plainFor_of_name pn_21) hisR ?_
  intro p e s m args below meth c s₁ Bd hml0 hP hK
  obtain ⟨rfl, hZ, hh⟩ := hP
  have hx := Bd.exec
  have hby := Bd.bytes
  have hlk : meth.locks = false := BodyLoose.notSynchronized Bd
  have hml : c.maxLocals = 1 := hml0
  have hown : s.vm.findClass "java/util/HashSet" = some m.cls := findClass_of_methodNamed Bd.named
  have hnm := (name_of_methodNamed Bd.named Bd.method).1
  have X0 : Stand p l e ({ frames := 5, cells := 2, slots := 6, locals := 63 } : Room) s m #[(.ref a1)] below meth c s₁ [] 0 0 := Stand.of_body Bd
  have e0 : s₁.heap = h0 := by rw [← hh, Bd.state]; rfl
  have N0 := Fr.nil n0
  show Gl p.tables e below (fun (o : Outcome) (U' : State) => ∃ v L, o = .returned v ∧ Q21 Z a1 hm h0 n0 v U'.heap L ∧ FrameEnd s o U' L ({ frames := 5, cells := 2, slots := 6, locals := 63 } : Room).cells ({ frames := 5, cells := 2, slots := 6, locals := 63 } : Room).slots) _
  refine Gl.pre (fun t k => castTop (ef_21 m a1 hm) k) ?_
  obtain ⟨PP, hPP⟩ : ∃ P : Outcome → State → Prop, P = (fun (o : Outcome) (U' : State) => ∃ v L, o = .returned v ∧ Q21 Z a1 hm h0 n0 v U'.heap L ∧ FrameEnd s o U' L ({ frames := 5, cells := 2, slots := 6, locals := 63 } : Room).cells ({ frames := 5, cells := 2, slots := 6, locals := 63 } : Room).slots) := ⟨_, rfl⟩
  rw [← hPP]
  have K0 : Keep h0 h0 [hm] := Keep.refl h0 _
  show Gl p.tables e below PP (s₁.setTop (mkF m 0 #[.val (.ref a1)] []))
  refine Gl.pre (fun _ k => XS.aloadN X0.here hx rfl (hb hby d21_0) rfl rfl k) ?_
  show Gl p.tables e below PP (s₁.setTop (mkF m 1 #[.val (.ref a1)] [(.ref a1)]))
  obtain ⟨T1, X1, e1, st1⟩ := getF X0 hx hZ hown (host := "") (Or.inl (hw _ (List.mem_of_getElem? (i := 119) rfl))) Via.refl e0 F_map_a1 (g := (mkF m 1 #[.val (.ref a1)] [(.ref a1)])) rfl rfl (hb hby d21_1)
  refine Gl.pre (fun _ k => st1 _ k) ?_
  show Gl p.tables e below PP (T1.setTop (mkF m 4 #[.val (.ref a1)] [(.ref hm)]))
  obtain ⟨cq2, kq2, qa2, qb2, qc2⟩ := isOf hZ e1 E_hm
  obtain ⟨_, _, ⟨T2, L2, k2, n2⟩, -, X2, ⟨Lc2, hQ2, l2, y2, z2⟩, st2⟩ := X1.virtualBack hx (y := (⟨"java/util/HashMap", "keySet", "()Ljava/util/Set;"⟩ : MethodName)) (z := (⟨"java/util/HashMap", "keySet", "()Ljava/util/Set;"⟩ : MethodName)) hown (mvT hZ (hw _ (List.mem_of_getElem? (i := 175) rfl))) (mvT hZ (hw _ (List.mem_of_getElem? (i := 176) rfl))) (notFace_of_selects (args := #[]) (mvT hZ (hw _ (List.mem_of_getElem? (i := 178) rfl)))) (mvT hZ (hw _ (List.mem_of_getElem? (i := 178) rfl))) (mvT hZ (hw _ (List.mem_of_getElem? (i := 177) rfl))) (by decide) (backOf (W := 0) (rm22 l Z a0 hw [] hm h0 n0 Z0 E_hm F_keySet_hm F_modCount_hm F_table_hm g_hm) hZ (hw _ (List.mem_of_getElem? (i := 179) rfl)) (hw _ (List.mem_of_getElem? (i := 63) rfl)) (by decide) (by decide)) qa2 qc2 (g := (mkF m 4 #[.val (.ref a1)] [(.ref hm)])) rfl (by rw [hml]; rfl) (Steps.refl _) (argsL := []) (rest := []) (lenOf pd_5 rfl) rfl (by show 2 * 0 + _ ≤ _; exact Nat.le_of_eq rfl) (hb hby d21_4) (fun _ _ => ⟨rfl, e1, (by decide : 0 + 1 ≤ _), (by decide : 0 + 1 ≤ _)⟩)
  dsimp only [Pt.U, Pt.locs, Pt.cells, Pt.slots] at X2 l2 y2 z2 st2 hQ2
  subst l2 y2 z2
  obtain ⟨ok2, rfl, N2q, K2, hzok2, x2_0, x2_1, x2_2, x2_3⟩ := hQ2
  have N2 := Fr.app N0 N2q
  refine Gl.pre (fun _ k => st2.trans k) ?_
  have own_ne_a1_ok2 : a1 ≠ ok2 := Nat.ne_of_lt (Nat.lt_of_lt_of_le F_map_a1.lt hzok2)
  have own_ne_ok2_a1 := own_ne_a1_ok2.symm
  have own_ne_hm_ok2 : hm ≠ ok2 := Nat.ne_of_lt (Nat.lt_of_lt_of_le E_hm.lt hzok2)
  have own_ne_ok2_hm := own_ne_hm_ok2.symm
  have g_ok2 : n0 ≤ ok2 := Nat.le_trans Z0 hzok2
  have sz_ok2 : h0.size ≤ ok2 := Nat.le_trans K0.1 hzok2
  have E_hm := E_hm.keep K2
  have Z2 : n0 ≤ T2.heap.size := Nat.le_trans Z0 K2.1
  have K2k := K0.trans K2 (allS (Or.inl (List.mem_of_getElem? (i := 0) rfl)) all0)
  have E_ok2 := x2_0
  have F_this_0_ok2 := x2_1
  have F_modCount_hm := x2_2
  have F_table_hm := x2_3
  show Gl p.tables e below PP (T2.setTop (mkF m 7 #[.val (.ref a1)] [(.ref ok2)]))
  obtain ⟨cq3, kq3, qa3, qb3, qc3⟩ := isOf hZ rfl E_ok2
  obtain ⟨_, _, ⟨T3, L3, k3, n3⟩, -, X3, ⟨Lc3, hQ3, l3, y3, z3⟩, st3⟩ := X2.interfaceBack hx (xi := (⟨"java/util/Set", "iterator", "()Ljava/util/Iterator;"⟩ : MethodName)) (y := (⟨"java/util/HashMap$KeySet", "iterator", "()Ljava/util/Iterator;"⟩ : MethodName)) hown (mvT hZ (hw _ (List.mem_of_getElem? (i := 195) rfl))) (mvT hZ (hw _ (List.mem_of_getElem? (i := 196) rfl))) (mvT hZ (hw _ (List.mem_of_getElem? (i := 197) rfl))) (mvT hZ (hw _ (List.mem_of_getElem? (i := 198) rfl))) (mvT hZ (hw _ (List.mem_of_getElem? (i := 199) rfl))) (mvT hZ (hw _ (List.mem_of_getElem? (i := 200) rfl))) (mvT hZ (hw _ (List.mem_of_getElem? (i := 201) rfl))) (mvT hZ (hw _ (List.mem_of_getElem? (i := 202) rfl))) (by decide) (backOf (W := 0) (rm24 l Z a0 hw [] ok2 hm T2.heap n0 Z2 F_this_0_ok2 F_modCount_hm F_table_hm) hZ (hw _ (List.mem_of_getElem? (i := 203) rfl)) (hw _ (List.mem_of_getElem? (i := 185) rfl)) (by decide) (by decide)) qa3 qb3 qc3 (g := (mkF m 7 #[.val (.ref a1)] [(.ref ok2)])) rfl (by rw [hml]; rfl) (Steps.refl _) (argsL := []) (rest := []) (lenOf pd_6 rfl) rfl (by show 2 * 0 + _ ≤ _; exact Nat.le_of_eq rfl) (hb hby d21_7) (fun _ _ => ⟨rfl, rfl, (by decide : 1 + 1 ≤ _), (by decide : 1 + 5 ≤ _)⟩)
  dsimp only [Pt.U, Pt.locs, Pt.cells, Pt.slots] at X3 l3 y3 z3 st3 hQ3
  subst l3 y3 z3
  obtain ⟨oi3, rfl, N3q, K3, hzoi3, x3_0, x3_1⟩ := hQ3
  have N3 := Fr.app N2 N3q
  refine Gl.pre (fun _ k => st3.trans k) ?_
  have own_ne_hm_oi3 : hm ≠ oi3 := Nat.ne_of_lt (Nat.lt_of_lt_of_le E_hm.lt hzoi3)
  have own_ne_oi3_hm := own_ne_hm_oi3.symm
  have own_ne_ok2_oi3 : ok2 ≠ oi3 := Nat.ne_of_lt (Nat.lt_of_lt_of_le E_ok2.lt hzoi3)
  have own_ne_oi3_ok2 := own_ne_ok2_oi3.symm
  have g_oi3 : n0 ≤ oi3 := Nat.le_trans Z2 hzoi3
  have sz_oi3 : h0.size ≤ oi3 := Nat.le_trans K2k.1 hzoi3
  have E_hm := E_hm.keep K3
  have E_ok2 := E_ok2.keep K3
  have F_this_0_ok2 := F_this_0_ok2.keep K3 nin0
  have F_modCount_hm := F_modCount_hm.keep K3 nin0
  have F_table_hm := F_table_hm.keep K3 nin0
  have Z3 : n0 ≤ T3.heap.size := Nat.le_trans Z2 K3.1
  have K3k := K2k.trans K3 all0
  have E_oi3 := x3_0
  have F_next_oi3 := x3_1
  show Gl p.tables e below PP (T3.setTop (mkF m 12 #[.val (.ref a1)] [(.ref oi3)]))
  rw [hPP]
  refine own_finA (Q := (Q21 Z a1 hm h0 n0)) X3 hx hlk Bd.returns rfl rfl (hb hby d21_12) ?_ (by decide) (by decide)
  show Q21 Z a1 hm h0 n0 _ T3.heap _
  exact ⟨oi3, rfl, N3, K3k, sz_oi3, E_oi3, F_next_oi3⟩
theorem d27_0 : decode jdk_99_method_2_code 0 = .ok (.aload_n 0, 1) := by decide +kernel
theorem d27_1 : decode jdk_99_method_2_code 1 = .ok (.getfield 26, 3) := by decide +kernel
theorem d27_4 : decode jdk_99_method_2_code 4 = .ok (.ifnull 7, 3) := by decide +kernel
theorem d27_7 : decode jdk_99_method_2_code 7 = .ok (.iconst 1, 1) := by decide +kernel
theorem d27_8 : decode jdk_99_method_2_code 8 = .ok (.goto 4, 3) := by decide +kernel
theorem d27_11 : decode jdk_99_method_2_code 11 = .ok (.iconst 0, 1) := by decide +kernel
theorem d27_12 : decode jdk_99_method_2_code 12 = .ok (.ireturn, 1) := by decide +kernel
theorem pn_27 : plainName "java/util/HashMap$HashIterator" = true := by first | (simp [plainName, overriddenIn]; done) | decide +kernel
theorem ef_27 (m : MethodId) (a1 : Addr) : entryFrame m #[(.ref a1)] 1 = mkF m 0 #[.val (.ref a1)] [] := by first | (simp [entryFrame, mkF, argsToLocals, Value.category]; done) | rfl
def Q27 (Z : State) (a1 : Addr) (h0 : Heap) (n0 : Nat) (v : Option Value) (h : Heap) (L : List Loc) : Prop := v = some (.int (0 : Int32)) ∧ Fr n0 L ∧ h = h0
set_option maxRecDepth 65536 in
set_option maxHeartbeats 40000000 in
theorem rm27 (l : Launch) (Z : State) (a0 : Array Value) (hw : ∀ d ∈ tables_1, d.before a0 Z = true) (ws : List Jvm.Cond) (a1 : Addr) (h0 : Heap) (n0 : Nat) (Z0 : n0 ≤ h0.size) (F_next_a1 : Fld Z h0 a1 "java/util/HashMap$HashIterator" "next" "Ljava/util/HashMap$Node;" .null) :
    MetFree l (⟨"java/util/HashMap$HashIterator", "hasNext", "()Z"⟩ : MethodName) (head1 (Jvm.Cond.code (⟨"java/util/HashMap$HashIterator", "hasNext", "()Z"⟩ : MethodName) jdk_99_method_2_code 1 (some .boolean) :: ws) ({ frames := 0, cells := 0, slots := 0, locals := 0 } : Room)) (fun a U => a = #[(.ref a1)] ∧ Z.Warmed39 U.vm ∧ U.heap = h0) (fun _ _ _ _ _ => True) (fun _ U o U' => ∃ v L, o = .returned v ∧ Q27 Z a1 h0 n0 v U'.heap L ∧ FrameEnd U o U' L ({ frames := 0, cells := 0, slots := 0, locals := 0 } : Room).cells ({ frames := 0, cells := 0, slots := 0, locals := 0 } : Room).slots) := by
  refine MetFree.of_bodySF (plainFor_of_name pn_27) hisR ?_
  intro p e s m args below meth c s₁ Bd hml0 hP hK
  obtain ⟨rfl, hZ, hh⟩ := hP
  have hx := Bd.exec
  have hby := Bd.bytes
  have hlk : meth.locks = false := BodyLoose.notSynchronized Bd
  have hml : c.maxLocals = 1 := hml0
  have hown : s.vm.findClass "java/util/HashMap$HashIterator" = some m.cls := findClass_of_methodNamed Bd.named
  have hnm := (name_of_methodNamed Bd.named Bd.method).1
  have X0 : Stand p l e ({ frames := 0, cells := 0, slots := 0, locals := 0 } : Room) s m #[(.ref a1)] below meth c s₁ [] 0 0 := Stand.of_body Bd
  have e0 : s₁.heap = h0 := by rw [← hh, Bd.state]; rfl
  have N0 := Fr.nil n0
  show Gl p.tables e below (fun (o : Outcome) (U' : State) => ∃ v L, o = .returned v ∧ Q27 Z a1 h0 n0 v U'.heap L ∧ FrameEnd s o U' L ({ frames := 0, cells := 0, slots := 0, locals := 0 } : Room).cells ({ frames := 0, cells := 0, slots := 0, locals := 0 } : Room).slots) _
  refine Gl.pre (fun t k => castTop (ef_27 m a1) k) ?_
  obtain ⟨PP, hPP⟩ : ∃ P : Outcome → State → Prop, P = (fun (o : Outcome) (U' : State) => ∃ v L, o = .returned v ∧ Q27 Z a1 h0 n0 v U'.heap L ∧ FrameEnd s o U' L ({ frames := 0, cells := 0, slots := 0, locals := 0 } : Room).cells ({ frames := 0, cells := 0, slots := 0, locals := 0 } : Room).slots) := ⟨_, rfl⟩
  rw [← hPP]
  show Gl p.tables e below PP (s₁.setTop (mkF m 0 #[.val (.ref a1)] []))
  refine Gl.pre (fun _ k => XS.aloadN X0.here hx rfl (hb hby d27_0) rfl rfl k) ?_
  show Gl p.tables e below PP (s₁.setTop (mkF m 1 #[.val (.ref a1)] [(.ref a1)]))
  obtain ⟨T1, X1, e1, st1⟩ := getF X0 hx hZ hown (host := "") (Or.inl (hw _ (List.mem_of_getElem? (i := 226) rfl))) Via.refl e0 F_next_a1 (g := (mkF m 1 #[.val (.ref a1)] [(.ref a1)])) rfl rfl (hb hby d27_1)
  refine Gl.pre (fun _ k => st1 _ k) ?_
  show Gl p.tables e below PP (T1.setTop (mkF m 4 #[.val (.ref a1)] [.null]))
  refine Gl.pre (fun _ k => XS.ifnullYes X1.here hx rfl (pc0 := 4) (pc' := 11) rfl (hb hby d27_4) rfl (by decide) (by decide) k) ?_
  show Gl p.tables e below PP (T1.setTop (mkF m 11 #[.val (.ref a1)] []))
  refine Gl.pre (fun _ k => XS.iconst X1.here hx rfl (hb hby d27_11) k) ?_
  show Gl p.tables e below PP (T1.setTop (mkF m 12 #[.val (.ref a1)] [(.int (0 : Int32))]))
  rw [hPP]
  refine own_finN (Q := (Q27 Z a1 h0 n0)) X1 hx hlk Bd.returns (t := .boolean) (z' := (0 : Int32)) (by simp) (by decide) (hb hby d27_12) ?_ (by decide) (by decide)
  show Q27 Z a1 h0 n0 _ T1.heap _
  rw [e1]
  exact ⟨rfl, N0, rfl⟩
theorem d20_0 : decode jdk_22_method_12_code 0 = .ok (.iconst 0, 1) := by decide +kernel
theorem d20_1 : decode jdk_22_method_12_code 1 = .ok (.istore_n 2, 1) := by decide +kernel
theorem d20_2 : decode jdk_22_method_12_code 2 = .ok (.aload_n 1, 1) := by decide +kernel
theorem d20_3 : decode jdk_22_method_12_code 3 = .ok (.invokeinterface 76 1, 5) := by decide +kernel
theorem d20_8 : decode jdk_22_method_12_code 8 = .ok (.astore_n 3, 1) := by decide +kernel
theorem d20_9 : decode jdk_22_method_12_code 9 = .ok (.aload_n 3, 1) := by decide +kernel
theorem d20_10 : decode jdk_22_method_12_code 10 = .ok (.invokeinterface 17 1, 5) := by decide +kernel
theorem d20_15 : decode jdk_22_method_12_code 15 = .ok (.ifCond .eq 25, 3) := by decide +kernel
theorem d20_18 : decode jdk_22_method_12_code 18 = .ok (.aload_n 3, 1) := by decide +kernel
theorem d20_19 : decode jdk_22_method_12_code 19 = .ok (.invokeinterface 23 1, 5) := by decide +kernel
theorem d20_24 : decode jdk_22_method_12_code 24 = .ok (.astore 4, 2) := by decide +kernel
theorem d20_26 : decode jdk_22_method_12_code 26 = .ok (.aload_n 0, 1) := by decide +kernel
theorem d20_27 : decode jdk_22_method_12_code 27 = .ok (.aload 4, 2) := by decide +kernel
theorem d20_29 : decode jdk_22_method_12_code 29 = .ok (.invokevirtual 82, 3) := by decide +kernel
theorem d20_32 : decode jdk_22_method_12_code 32 = .ok (.ifCond .eq 5, 3) := by decide +kernel
theorem d20_35 : decode jdk_22_method_12_code 35 = .ok (.iconst 1, 1) := by decide +kernel
theorem d20_36 : decode jdk_22_method_12_code 36 = .ok (.istore_n 2, 1) := by decide +kernel
theorem d20_37 : decode jdk_22_method_12_code 37 = .ok (.goto (-28), 3) := by decide +kernel
theorem d20_40 : decode jdk_22_method_12_code 40 = .ok (.iload_n 2, 1) := by decide +kernel
theorem d20_41 : decode jdk_22_method_12_code 41 = .ok (.ireturn, 1) := by decide +kernel
theorem pn_20 : plainName "java/util/AbstractCollection" = true := by first | (simp [plainName, overriddenIn]; done) | decide +kernel
theorem ef_20 (m : MethodId) (a1 : Addr) (a2 : Addr) (hm : Addr) : entryFrame m #[(.ref a1), (.ref a2)] 5 = mkF m 0 #[.val (.ref a1), .val (.ref a2), .unset, .unset, .unset] [] := by first | (simp [entryFrame, mkF, argsToLocals, Value.category]; done) | rfl
def Q20 (Z : State) (a1 : Addr) (a2 : Addr) (hm : Addr) (h0 : Heap) (n0 : Nat) (v : Option Value) (h : Heap) (L : List Loc) : Prop := v = some (.int (0 : Int32)) ∧ Fr n0 L ∧ Keep h0 h [hm]
set_option maxRecDepth 65536 in
set_option maxHeartbeats 40000000 in
theorem rm20 (l : Launch) (Z : State) (a0 : Array Value) (hw : ∀ d ∈ tables_1, d.before a0 Z = true) (ws : List Jvm.Cond) (a1 : Addr) (a2 : Addr) (hm : Addr) (h0 : Heap) (n0 : Nat) (Z0 : n0 ≤ h0.size) (E_a2 : Exa Z h0 a2 "java/util/HashSet") (F_map_a2 : Fld Z h0 a2 "java/util/HashSet" "map" "Ljava/util/HashMap;" (.ref hm)) (E_hm : Exa Z h0 hm "java/util/HashMap") (F_keySet_hm : Fld Z h0 hm "java/util/AbstractMap" "keySet" "Ljava/util/Set;" .null) (F_modCount_hm : Fld Z h0 hm "java/util/HashMap" "modCount" "I" (.int (0 : Int32))) (F_table_hm : Fld Z h0 hm "java/util/HashMap" "table" "[Ljava/util/HashMap$Node;" .null) (g_hm : n0 ≤ hm) :
    MetFree l (⟨"java/util/AbstractCollection", "addAll", "(Ljava/util/Collection;)Z"⟩ : MethodName) (head1 (Jvm.Cond.code (⟨"java/util/AbstractCollection", "addAll", "(Ljava/util/Collection;)Z"⟩ : MethodName) jdk_22_method_12_code 5 (some .boolean) :: ws) ({ frames := 6, cells := 2, slots := 6, locals := 75 } : Room)) (fun a U => a = #[(.ref a1), (.ref a2)] ∧ Z.Warmed39 U.vm ∧ U.heap = h0) (fun _ _ _ _ _ => True) (fun _ U o U' => ∃ v L, o = .returned v ∧ Q20 Z a1 a2 hm h0 n0 v U'.heap L ∧ FrameEnd U o U' L ({ frames := 6, cells := 2, slots := 6, locals := 75 } : Room).cells ({ frames := 6, cells := 2, slots := 6, locals := 75 } : Room).slots) := by
  refine MetFree.of_bodySF (plainFor_of_name pn_20) hisR ?_
  intro p e s m args below meth c s₁ Bd hml0 hP hK
  obtain ⟨rfl, hZ, hh⟩ := hP
  have hx := Bd.exec
  have hby := Bd.bytes
  have hlk : meth.locks = false := BodyLoose.notSynchronized Bd
  have hml : c.maxLocals = 5 := hml0
  have hown : s.vm.findClass "java/util/AbstractCollection" = some m.cls := findClass_of_methodNamed Bd.named
  have hnm := (name_of_methodNamed Bd.named Bd.method).1
  have X0 : Stand p l e ({ frames := 6, cells := 2, slots := 6, locals := 75 } : Room) s m #[(.ref a1), (.ref a2)] below meth c s₁ [] 0 0 := Stand.of_body Bd
  have e0 : s₁.heap = h0 := by rw [← hh, Bd.state]; rfl
  have N0 := Fr.nil n0
  show Gl p.tables e below (fun (o : Outcome) (U' : State) => ∃ v L, o = .returned v ∧ Q20 Z a1 a2 hm h0 n0 v U'.heap L ∧ FrameEnd s o U' L ({ frames := 6, cells := 2, slots := 6, locals := 75 } : Room).cells ({ frames := 6, cells := 2, slots := 6, locals := 75 } : Room).slots) _
  refine Gl.pre (fun t k => castTop (ef_20 m a1 a2 hm) k) ?_
  obtain ⟨PP, hPP⟩ : ∃ P : Outcome → State → Prop, P = (fun (o : Outcome) (U' : State) => ∃ v L, o = .returned v ∧ Q20 Z a1 a2 hm h0 n0 v U'.heap L ∧ FrameEnd s o U' L ({ frames := 6, cells := 2, slots := 6, locals := 75 } : Room).cells ({ frames := 6, cells := 2, slots := 6, locals := 75 } : Room).slots) := ⟨_, rfl⟩
  rw [← hPP]
  have K0 : Keep h0 h0 [hm] := Keep.refl h0 _
  show Gl p.tables e below PP (s₁.setTop (mkF m 0 #[.val (.ref a1), .val (.ref a2), .unset, .unset, .unset] []))
  refine Gl.pre (fun _ k => XS.iconst X0.here hx rfl (hb hby d20_0) k) ?_
  show Gl p.tables e below PP (s₁.setTop (mkF m 1 #[.val (.ref a1), .val (.ref a2), .unset, .unset, .unset] [(.int (0 : Int32))]))
  refine Gl.pre (fun _ k => XS.istoreN X0.here hx rfl (hb hby d20_1) rfl (l' := #[.val (.ref a1), .val (.ref a2), .val (.int (0 : Int32)), .unset, .unset]) rfl k) ?_
  show Gl p.tables e below PP (s₁.setTop (mkF m 2 #[.val (.ref a1), .val (.ref a2), .val (.int (0 : Int32)), .unset, .unset] []))
  refine Gl.pre (fun _ k => XS.aloadN X0.here hx rfl (hb hby d20_2) rfl rfl k) ?_
  show Gl p.tables e below PP (s₁.setTop (mkF m 3 #[.val (.ref a1), .val (.ref a2), .val (.int (0 : Int32)), .unset, .unset] [(.ref a2)]))
  obtain ⟨cq1, kq1, qa1, qb1, qc1⟩ := isOf hZ e0 E_a2
  obtain ⟨_, _, ⟨T1, L1, k1, n1⟩, -, X1, ⟨Lc1, hQ1, l1, y1, z1⟩, st1⟩ := X0.interfaceBack hx (xi := (⟨"java/util/Collection", "iterator", "()Ljava/util/Iterator;"⟩ : MethodName)) (y := (⟨"java/util/HashSet", "iterator", "()Ljava/util/Iterator;"⟩ : MethodName)) hown (mvT hZ (hw _ (List.mem_of_getElem? (i := 166) rfl))) (mvT hZ (hw _ (List.mem_of_getElem? (i := 167) rfl))) (mvT hZ (hw _ (List.mem_of_getElem? (i := 168) rfl))) (mvT hZ (hw _ (List.mem_of_getElem? (i := 169) rfl))) (mvT hZ (hw _ (List.mem_of_getElem? (i := 170) rfl))) (mvT hZ (hw _ (List.mem_of_getElem? (i := 171) rfl))) (mvT hZ (hw _ (List.mem_of_getElem? (i := 172) rfl))) (mvT hZ (hw _ (List.mem_of_getElem? (i := 173) rfl))) (by decide) (backOf (W := 0) (rm21 l Z a0 hw [] a2 hm h0 n0 Z0 F_map_a2 E_hm F_keySet_hm F_modCount_hm F_table_hm g_hm) hZ (hw _ (List.mem_of_getElem? (i := 174) rfl)) (hw _ (List.mem_of_getElem? (i := 104) rfl)) (by decide) (by decide)) qa1 qb1 qc1 (g := (mkF m 3 #[.val (.ref a1), .val (.ref a2), .val (.int (0 : Int32)), .unset, .unset] [(.ref a2)])) rfl (by rw [hml]; rfl) (Steps.refl _) (argsL := []) (rest := []) (lenOf pd_6 rfl) rfl (by show 2 * 0 + _ ≤ _; exact Nat.le_of_eq rfl) (hb hby d20_3) (fun _ _ => ⟨rfl, e0, (by decide : 0 + 2 ≤ _), (by decide : 0 + 6 ≤ _)⟩)
  dsimp only [Pt.U, Pt.locs, Pt.cells, Pt.slots] at X1 l1 y1 z1 st1 hQ1
  subst l1 y1 z1
  obtain ⟨oi1, rfl, N1q, K1, hzoi1, x1_0, x1_1⟩ := hQ1
  have N1 := Fr.app N0 N1q
  refine Gl.pre (fun _ k => st1.trans k) ?_
  have own_ne_a2_oi1 : a2 ≠ oi1 := Nat.ne_of_lt (Nat.lt_of_lt_of_le E_a2.lt hzoi1)
  have own_ne_oi1_a2 := own_ne_a2_oi1.symm
  have own_ne_hm_oi1 : hm ≠ oi1 := Nat.ne_of_lt (Nat.lt_of_lt_of_le E_hm.lt hzoi1)
  have own_ne_oi1_hm := own_ne_hm_oi1.symm
  have g_oi1 : n0 ≤ oi1 := Nat.le_trans Z0 hzoi1
  have sz_oi1 : h0.size ≤ oi1 := Nat.le_trans K0.1 hzoi1
  have E_a2 := E_a2.keep K1
  have E_hm := E_hm.keep K1
  have Z1 : n0 ≤ T1.heap.size := Nat.le_trans Z0 K1.1
  have K1k := K0.trans K1 (allS (Or.inl (List.mem_of_getElem? (i := 0) rfl)) all0)
  have E_oi1 := x1_0
  have F_next_oi1 := x1_1
  show Gl p.tables e below PP (T1.setTop (mkF m 8 #[.val (.ref a1), .val (.ref a2), .val (.int (0 : Int32)), .unset, .unset] [(.ref oi1)]))
  refine Gl.pre (fun _ k => XS.astoreN X1.here hx rfl (hb hby d20_8) rfl rfl (l' := #[.val (.ref a1), .val (.ref a2), .val (.int (0 : Int32)), .val (.ref oi1), .unset]) rfl k) ?_
  show Gl p.tables e below PP (T1.setTop (mkF m 9 #[.val (.ref a1), .val (.ref a2), .val (.int (0 : Int32)), .val (.ref oi1), .unset] []))
  refine Gl.pre (fun _ k => XS.aloadN X1.here hx rfl (hb hby d20_9) rfl rfl k) ?_
  show Gl p.tables e below PP (T1.setTop (mkF m 10 #[.val (.ref a1), .val (.ref a2), .val (.int (0 : Int32)), .val (.ref oi1), .unset] [(.ref oi1)]))
  obtain ⟨cq2, kq2, qa2, qb2, qc2⟩ := isOf hZ rfl E_oi1
  obtain ⟨_, _, ⟨T2, L2, k2, n2⟩, -, X2, ⟨Lc2, hQ2, l2, y2, z2⟩, st2⟩ := X1.interfaceBack hx (xi := (⟨"java/util/Iterator", "hasNext", "()Z"⟩ : MethodName)) (y := (⟨"java/util/HashMap$HashIterator", "hasNext", "()Z"⟩ : MethodName)) hown (mvT hZ (hw _ (List.mem_of_getElem? (i := 232) rfl))) (mvT hZ (hw _ (List.mem_of_getElem? (i := 233) rfl))) (mvT hZ (hw _ (List.mem_of_getElem? (i := 234) rfl))) (mvT hZ (hw _ (List.mem_of_getElem? (i := 235) rfl))) (mvT hZ (hw _ (List.mem_of_getElem? (i := 236) rfl))) (mvT hZ (hw _ (List.mem_of_getElem? (i := 237) rfl))) (mvT hZ (hw _ (List.mem_of_getElem? (i := 238) rfl))) (mvT hZ (hw _ (List.mem_of_getElem? (i := 239) rfl))) (by decide) (backOf (W := 0) (rm27 l Z a0 hw [] oi1 T1.heap n0 Z1 F_next_oi1) hZ (hw _ (List.mem_of_getElem? (i := 240) rfl)) (hw _ (List.mem_of_getElem? (i := 215) rfl)) (by decide) (by decide)) qa2 qb2 qc2 (g := (mkF m 10 #[.val (.ref a1), .val (.ref a2), .val (.int (0 : Int32)), .val (.ref oi1), .unset] [(.ref oi1)])) rfl (by rw [hml]; rfl) (Steps.refl _) (argsL := []) (rest := []) (lenOf pd_7 rfl) rfl (by show 2 * 0 + _ ≤ _; exact Nat.le_of_eq rfl) (hb hby d20_10) (fun _ _ => ⟨rfl, rfl, (by decide : 2 + 0 ≤ _), (by decide : 6 + 0 ≤ _)⟩)
  dsimp only [Pt.U, Pt.locs, Pt.cells, Pt.slots] at X2 l2 y2 z2 st2 hQ2
  subst l2 y2 z2
  obtain ⟨rfl, N2q, e2⟩ := hQ2
  have N2 := Fr.app N1 N2q
  refine Gl.pre (fun _ k => st2.trans k) ?_
  show Gl p.tables e below PP (T2.setTop (mkF m 15 #[.val (.ref a1), .val (.ref a2), .val (.int (0 : Int32)), .val (.ref oi1), .unset] [(.int (0 : Int32))]))
  refine Gl.pre (fun _ k => XS.ifYes X2.here hx rfl (pc0 := 15) (pc' := 40) rfl (hb hby d20_15) rfl ((if0 _ _).trans (teq (show (0 : Int32) = (0 : Int32) from (by decide))).1) (by decide) (by decide) k) ?_
  show Gl p.tables e below PP (T2.setTop (mkF m 40 #[.val (.ref a1), .val (.ref a2), .val (.int (0 : Int32)), .val (.ref oi1), .unset] []))
  refine Gl.pre (fun _ k => XS.iloadN X2.here hx rfl (hb hby d20_40) rfl k) ?_
  show Gl p.tables e below PP (T2.setTop (mkF m 41 #[.val (.ref a1), .val (.ref a2), .val (.int (0 : Int32)), .val (.ref oi1), .unset] [(.int (0 : Int32))]))
  rw [hPP]
  refine own_finN (Q := (Q20 Z a1 a2 hm h0 n0)) X2 hx hlk Bd.returns (t := .boolean) (z' := (0 : Int32)) (by simp) (by decide) (hb hby d20_41) ?_ (by decide) (by decide)
  show Q20 Z a1 a2 hm h0 n0 _ T2.heap _
  rw [e2]
  exact ⟨rfl, N2, K1k⟩
theorem d29_0 : decode jdk_29_method_69_code 0 = .ok (.iload_n 0, 1) := by decide +kernel
theorem d29_1 : decode jdk_29_method_69_code 1 = .ok (.iload_n 1, 1) := by decide +kernel
theorem d29_2 : decode jdk_29_method_69_code 2 = .ok (.if_icmp .gt 7, 3) := by decide +kernel
theorem d29_5 : decode jdk_29_method_69_code 5 = .ok (.iload_n 0, 1) := by decide +kernel
theorem d29_6 : decode jdk_29_method_69_code 6 = .ok (.goto 4, 3) := by decide +kernel
theorem d29_9 : decode jdk_29_method_69_code 9 = .ok (.iload_n 1, 1) := by decide +kernel
theorem d29_10 : decode jdk_29_method_69_code 10 = .ok (.ireturn, 1) := by decide +kernel
theorem pn_29 : plainFor (⟨"java/lang/Math", "min", "(II)I"⟩ : MethodName) = true := Jvm.Free.JP.mathPlain rfl (by decide)
theorem ef_29 (m : MethodId)  : entryFrame m #[(.int (0 : Int32)), (.int (0 : Int32))] 2 = mkF m 0 #[.val (.int (0 : Int32)), .val (.int (0 : Int32))] [] := by first | (simp [entryFrame, mkF, argsToLocals, Value.category]; done) | rfl
def Q29 (Z : State)  (h0 : Heap) (n0 : Nat) (v : Option Value) (h : Heap) (L : List Loc) : Prop := v = some (.int (0 : Int32)) ∧ Fr n0 L ∧ h = h0
set_option maxRecDepth 65536 in
set_option maxHeartbeats 40000000 in
theorem rm29 (l : Launch) (Z : State) (a0 : Array Value) (hw : ∀ d ∈ tables_1, d.before a0 Z = true) (ws : List Jvm.Cond)  (h0 : Heap) (n0 : Nat) (Z0 : n0 ≤ h0.size)  :
    MetFree l (⟨"java/lang/Math", "min", "(II)I"⟩ : MethodName) (head1 (Jvm.Cond.code (⟨"java/lang/Math", "min", "(II)I"⟩ : MethodName) jdk_29_method_69_code 2 (some .int) :: ws) ({ frames := 0, cells := 0, slots := 0, locals := 0 } : Room)) (fun a U => a = #[(.int (0 : Int32)), (.int (0 : Int32))] ∧ Z.Warmed39 U.vm ∧ U.heap = h0) (fun _ _ _ _ _ => True) (fun _ U o U' => ∃ v L, o = .returned v ∧ Q29 Z  h0 n0 v U'.heap L ∧ FrameEnd U o U' L ({ frames := 0, cells := 0, slots := 0, locals := 0 } : Room).cells ({ frames := 0, cells := 0, slots := 0, locals := 0 } : Room).slots) := by
  refine MetFree.of_bodySF pn_29 hisR ?_
  intro p e s m args below meth c s₁ Bd hml0 hP hK
  obtain ⟨rfl, hZ, hh⟩ := hP
  have hx := Bd.exec
  have hby := Bd.bytes
  have hlk : meth.locks = false := BodyLoose.notSynchronized Bd
  have hml : c.maxLocals = 2 := hml0
  have hown : s.vm.findClass "java/lang/Math" = some m.cls := findClass_of_methodNamed Bd.named
  have hnm := (name_of_methodNamed Bd.named Bd.method).1
  have X0 : Stand p l e ({ frames := 0, cells := 0, slots := 0, locals := 0 } : Room) s m #[(.int (0 : Int32)), (.int (0 : Int32))] below meth c s₁ [] 0 0 := Stand.of_body Bd
  have e0 : s₁.heap = h0 := by rw [← hh, Bd.state]; rfl
  have N0 := Fr.nil n0
  show Gl p.tables e below (fun (o : Outcome) (U' : State) => ∃ v L, o = .returned v ∧ Q29 Z  h0 n0 v U'.heap L ∧ FrameEnd s o U' L ({ frames := 0, cells := 0, slots := 0, locals := 0 } : Room).cells ({ frames := 0, cells := 0, slots := 0, locals := 0 } : Room).slots) _
  refine Gl.pre (fun t k => castTop (ef_29 m ) k) ?_
  obtain ⟨PP, hPP⟩ : ∃ P : Outcome → State → Prop, P = (fun (o : Outcome) (U' : State) => ∃ v L, o = .returned v ∧ Q29 Z  h0 n0 v U'.heap L ∧ FrameEnd s o U' L ({ frames := 0, cells := 0, slots := 0, locals := 0 } : Room).cells ({ frames := 0, cells := 0, slots := 0, locals := 0 } : Room).slots) := ⟨_, rfl⟩
  rw [← hPP]
  show Gl p.tables e below PP (s₁.setTop (mkF m 0 #[.val (.int (0 : Int32)), .val (.int (0 : Int32))] []))
  refine Gl.pre (fun _ k => XS.iloadN X0.here hx rfl (hb hby d29_0) rfl k) ?_
  show Gl p.tables e below PP (s₁.setTop (mkF m 1 #[.val (.int (0 : Int32)), .val (.int (0 : Int32))] [(.int (0 : Int32))]))
  refine Gl.pre (fun _ k => XS.iloadN X0.here hx rfl (hb hby d29_1) rfl k) ?_
  show Gl p.tables e below PP (s₁.setTop (mkF m 2 #[.val (.int (0 : Int32)), .val (.int (0 : Int32))] [(.int (0 : Int32)), (.int (0 : Int32))]))
  refine Gl.pre (fun _ k => XS.icmpNo X0.here hx rfl (hb hby d29_2) rfl (flt (show ¬ ((0 : Int32) < (0 : Int32)) from (by decide))).2.2.1 k) ?_
  show Gl p.tables e below PP (s₁.setTop (mkF m 5 #[.val (.int (0 : Int32)), .val (.int (0 : Int32))] []))
  refine Gl.pre (fun _ k => XS.iloadN X0.here hx rfl (hb hby d29_5) rfl k) ?_
  show Gl p.tables e below PP (s₁.setTop (mkF m 6 #[.val (.int (0 : Int32)), .val (.int (0 : Int32))] [(.int (0 : Int32))]))
  refine Gl.pre (fun _ k => XS.goto X0.here hx rfl (pc0 := 6) (pc' := 10) rfl (hb hby d29_6) (by decide) (by decide) k) ?_
  show Gl p.tables e below PP (s₁.setTop (mkF m 10 #[.val (.int (0 : Int32)), .val (.int (0 : Int32))] [(.int (0 : Int32))]))
  rw [hPP]
  refine own_finI (Q := (Q29 Z  h0 n0)) X0 hx hlk Bd.returns (hb hby d29_10) ?_ (by decide) (by decide)
  show Q29 Z  h0 n0 _ s₁.heap _
  rw [e0]
  exact ⟨rfl, N0, rfl⟩
theorem d30_0 : decode jdk_92_method_2_code 0 = .ok (.getstatic 3, 3) := by decide +kernel
theorem d30_3 : decode jdk_92_method_2_code 3 = .ok (.ifCond .ne 34, 3) := by decide +kernel
theorem d30_6 : decode jdk_92_method_2_code 6 = .ok (.aload_n 0, 1) := by decide +kernel
theorem d30_7 : decode jdk_92_method_2_code 7 = .ok (.getfield 7, 3) := by decide +kernel
theorem d30_10 : decode jdk_92_method_2_code 10 = .ok (.ifCond .eq 27, 3) := by decide +kernel
theorem d30_13 : decode jdk_92_method_2_code 13 = .ok (.aload_n 0, 1) := by decide +kernel
theorem d30_14 : decode jdk_92_method_2_code 14 = .ok (.getfield 11, 3) := by decide +kernel
theorem d30_17 : decode jdk_92_method_2_code 17 = .ok (.aload_n 0, 1) := by decide +kernel
theorem d30_18 : decode jdk_92_method_2_code 18 = .ok (.getfield 7, 3) := by decide +kernel
theorem d30_21 : decode jdk_92_method_2_code 21 = .ok (.iconst 1, 1) := by decide +kernel
theorem d30_22 : decode jdk_92_method_2_code 22 = .ok (.isub, 1) := by decide +kernel
theorem d30_23 : decode jdk_92_method_2_code 23 = .ok (.laload, 1) := by decide +kernel
theorem d30_24 : decode jdk_92_method_2_code 24 = .ok (.lconst 0, 1) := by decide +kernel
theorem d30_25 : decode jdk_92_method_2_code 25 = .ok (.lcmp, 1) := by decide +kernel
theorem d30_26 : decode jdk_92_method_2_code 26 = .ok (.ifCond .ne 11, 3) := by decide +kernel
theorem d30_29 : decode jdk_92_method_2_code 29 = .ok (.new 15, 3) := by decide +kernel
theorem d30_32 : decode jdk_92_method_2_code 32 = .ok (.dup, 1) := by decide +kernel
theorem d30_33 : decode jdk_92_method_2_code 33 = .ok (.invokespecial 17, 3) := by decide +kernel
theorem d30_36 : decode jdk_92_method_2_code 36 = .ok (.athrow, 1) := by decide +kernel
theorem d30_37 : decode jdk_92_method_2_code 37 = .ok (.getstatic 3, 3) := by decide +kernel
theorem d30_40 : decode jdk_92_method_2_code 40 = .ok (.ifCond .ne 30, 3) := by decide +kernel
theorem d30_43 : decode jdk_92_method_2_code 43 = .ok (.aload_n 0, 1) := by decide +kernel
theorem d30_44 : decode jdk_92_method_2_code 44 = .ok (.getfield 7, 3) := by decide +kernel
theorem d30_47 : decode jdk_92_method_2_code 47 = .ok (.ifCond .lt 15, 3) := by decide +kernel
theorem d30_50 : decode jdk_92_method_2_code 50 = .ok (.aload_n 0, 1) := by decide +kernel
theorem d30_51 : decode jdk_92_method_2_code 51 = .ok (.getfield 7, 3) := by decide +kernel
theorem d30_54 : decode jdk_92_method_2_code 54 = .ok (.aload_n 0, 1) := by decide +kernel
theorem d30_55 : decode jdk_92_method_2_code 55 = .ok (.getfield 11, 3) := by decide +kernel
theorem d30_58 : decode jdk_92_method_2_code 58 = .ok (.arraylength, 1) := by decide +kernel
theorem d30_59 : decode jdk_92_method_2_code 59 = .ok (.if_icmp .le 11, 3) := by decide +kernel
theorem d30_62 : decode jdk_92_method_2_code 62 = .ok (.new 15, 3) := by decide +kernel
theorem d30_65 : decode jdk_92_method_2_code 65 = .ok (.dup, 1) := by decide +kernel
theorem d30_66 : decode jdk_92_method_2_code 66 = .ok (.invokespecial 17, 3) := by decide +kernel
theorem d30_69 : decode jdk_92_method_2_code 69 = .ok (.athrow, 1) := by decide +kernel
theorem d30_70 : decode jdk_92_method_2_code 70 = .ok (.getstatic 3, 3) := by decide +kernel
theorem d30_73 : decode jdk_92_method_2_code 73 = .ok (.ifCond .ne 37, 3) := by decide +kernel
theorem d30_76 : decode jdk_92_method_2_code 76 = .ok (.aload_n 0, 1) := by decide +kernel
theorem d30_77 : decode jdk_92_method_2_code 77 = .ok (.getfield 7, 3) := by decide +kernel
theorem d30_80 : decode jdk_92_method_2_code 80 = .ok (.aload_n 0, 1) := by decide +kernel
theorem d30_81 : decode jdk_92_method_2_code 81 = .ok (.getfield 11, 3) := by decide +kernel
theorem d30_84 : decode jdk_92_method_2_code 84 = .ok (.arraylength, 1) := by decide +kernel
theorem d30_85 : decode jdk_92_method_2_code 85 = .ok (.if_icmp .eq 25, 3) := by decide +kernel
theorem d30_88 : decode jdk_92_method_2_code 88 = .ok (.aload_n 0, 1) := by decide +kernel
theorem d30_89 : decode jdk_92_method_2_code 89 = .ok (.getfield 11, 3) := by decide +kernel
theorem d30_92 : decode jdk_92_method_2_code 92 = .ok (.aload_n 0, 1) := by decide +kernel
theorem d30_93 : decode jdk_92_method_2_code 93 = .ok (.getfield 7, 3) := by decide +kernel
theorem d30_96 : decode jdk_92_method_2_code 96 = .ok (.laload, 1) := by decide +kernel
theorem d30_97 : decode jdk_92_method_2_code 97 = .ok (.lconst 0, 1) := by decide +kernel
theorem d30_98 : decode jdk_92_method_2_code 98 = .ok (.lcmp, 1) := by decide +kernel
theorem d30_99 : decode jdk_92_method_2_code 99 = .ok (.ifCond .eq 11, 3) := by decide +kernel
theorem d30_102 : decode jdk_92_method_2_code 102 = .ok (.new 15, 3) := by decide +kernel
theorem d30_105 : decode jdk_92_method_2_code 105 = .ok (.dup, 1) := by decide +kernel
theorem d30_106 : decode jdk_92_method_2_code 106 = .ok (.invokespecial 17, 3) := by decide +kernel
theorem d30_109 : decode jdk_92_method_2_code 109 = .ok (.athrow, 1) := by decide +kernel
theorem d30_110 : decode jdk_92_method_2_code 110 = .ok (.return_, 1) := by decide +kernel
theorem pn_30 : plainName "java/util/BitSet" = true := by first | (simp [plainName, overriddenIn]; done) | decide +kernel
theorem ef_30 (m : MethodId) (a1 : Addr) : entryFrame m #[(.ref a1)] 1 = mkF m 0 #[.val (.ref a1)] [] := by first | (simp [entryFrame, mkF, argsToLocals, Value.category]; done) | rfl
def Q30 (Z : State) (a1 : Addr) (h0 : Heap) (n0 : Nat) (v : Option Value) (h : Heap) (L : List Loc) : Prop := v = none ∧ Fr n0 L ∧ h = h0
set_option maxRecDepth 65536 in
set_option maxHeartbeats 40000000 in
theorem rm30 (l : Launch) (Z : State) (a0 : Array Value) (hw : ∀ d ∈ tables_1, d.before a0 Z = true) (ws : List Jvm.Cond) (a1 : Addr) (h0 : Heap) (n0 : Nat) (Z0 : n0 ≤ h0.size) (SAD : Sta Z Z.heap "java/util/BitSet" "$assertionsDisabled" "Z" (.int (1 : Int32))) (O_ : Old Z n0 h0) :
    MetFree l (⟨"java/util/BitSet", "checkInvariants", "()V"⟩ : MethodName) (head1 (Jvm.Cond.code (⟨"java/util/BitSet", "checkInvariants", "()V"⟩ : MethodName) jdk_92_method_2_code 1 none :: ws) ({ frames := 0, cells := 0, slots := 0, locals := 0 } : Room)) (fun a U => a = #[(.ref a1)] ∧ Z.Warmed39 U.vm ∧ U.heap = h0) (fun _ _ _ _ _ => True) (fun _ U o U' => ∃ v L, o = .returned v ∧ Q30 Z a1 h0 n0 v U'.heap L ∧ FrameEnd U o U' L ({ frames := 0, cells := 0, slots := 0, locals := 0 } : Room).cells ({ frames := 0, cells := 0, slots := 0, locals := 0 } : Room).slots) := by
  refine MetFree.of_bodySF (plainFor_of_name pn_30) hisR ?_
  intro p e s m args below meth c s₁ Bd hml0 hP hK
  obtain ⟨rfl, hZ, hh⟩ := hP
  have hx := Bd.exec
  have hby := Bd.bytes
  have hlk : meth.locks = false := BodyLoose.notSynchronized Bd
  have hml : c.maxLocals = 1 := hml0
  have hown : s.vm.findClass "java/util/BitSet" = some m.cls := findClass_of_methodNamed Bd.named
  have hnm := (name_of_methodNamed Bd.named Bd.method).1
  have X0 : Stand p l e ({ frames := 0, cells := 0, slots := 0, locals := 0 } : Room) s m #[(.ref a1)] below meth c s₁ [] 0 0 := Stand.of_body Bd
  have e0 : s₁.heap = h0 := by rw [← hh, Bd.state]; rfl
  have N0 := Fr.nil n0
  show Gl p.tables e below (fun (o : Outcome) (U' : State) => ∃ v L, o = .returned v ∧ Q30 Z a1 h0 n0 v U'.heap L ∧ FrameEnd s o U' L ({ frames := 0, cells := 0, slots := 0, locals := 0 } : Room).cells ({ frames := 0, cells := 0, slots := 0, locals := 0 } : Room).slots) _
  refine Gl.pre (fun t k => castTop (ef_30 m a1) k) ?_
  obtain ⟨PP, hPP⟩ : ∃ P : Outcome → State → Prop, P = (fun (o : Outcome) (U' : State) => ∃ v L, o = .returned v ∧ Q30 Z a1 h0 n0 v U'.heap L ∧ FrameEnd s o U' L ({ frames := 0, cells := 0, slots := 0, locals := 0 } : Room).cells ({ frames := 0, cells := 0, slots := 0, locals := 0 } : Room).slots) := ⟨_, rfl⟩
  rw [← hPP]
  show Gl p.tables e below PP (s₁.setTop (mkF m 0 #[.val (.ref a1)] []))
  obtain ⟨T1, X1, e1, st1⟩ := getS2 X0 hx hZ hown (host := "") (Or.inl (hw _ (List.mem_of_getElem? (i := 255) rfl))) Via.refl e0 (SAD.ext O_.2) (g := (mkF m 0 #[.val (.ref a1)] [])) rfl (hb hby d30_0)
  refine Gl.pre (fun _ k => st1 _ k) ?_
  show Gl p.tables e below PP (T1.setTop (mkF m 3 #[.val (.ref a1)] [(.int (1 : Int32))]))
  refine Gl.pre (fun _ k => XS.ifYes X1.here hx rfl (pc0 := 3) (pc' := 37) rfl (hb hby d30_3) rfl ((if0 _ _).trans (feq (show ¬ ((1 : Int32) = (0 : Int32)) from (by decide))).2) (by decide) (by decide) k) ?_
  show Gl p.tables e below PP (T1.setTop (mkF m 37 #[.val (.ref a1)] []))
  obtain ⟨T2, X2, e2, st2⟩ := getS2 X1 hx hZ hown (host := "") (Or.inl (hw _ (List.mem_of_getElem? (i := 255) rfl))) Via.refl e1 (SAD.ext O_.2) (g := (mkF m 37 #[.val (.ref a1)] [])) rfl (hb hby d30_37)
  refine Gl.pre (fun _ k => st2 _ k) ?_
  show Gl p.tables e below PP (T2.setTop (mkF m 40 #[.val (.ref a1)] [(.int (1 : Int32))]))
  refine Gl.pre (fun _ k => XS.ifYes X2.here hx rfl (pc0 := 40) (pc' := 70) rfl (hb hby d30_40) rfl ((if0 _ _).trans (feq (show ¬ ((1 : Int32) = (0 : Int32)) from (by decide))).2) (by decide) (by decide) k) ?_
  show Gl p.tables e below PP (T2.setTop (mkF m 70 #[.val (.ref a1)] []))
  obtain ⟨T3, X3, e3, st3⟩ := getS2 X2 hx hZ hown (host := "") (Or.inl (hw _ (List.mem_of_getElem? (i := 255) rfl))) Via.refl e2 (SAD.ext O_.2) (g := (mkF m 70 #[.val (.ref a1)] [])) rfl (hb hby d30_70)
  refine Gl.pre (fun _ k => st3 _ k) ?_
  show Gl p.tables e below PP (T3.setTop (mkF m 73 #[.val (.ref a1)] [(.int (1 : Int32))]))
  refine Gl.pre (fun _ k => XS.ifYes X3.here hx rfl (pc0 := 73) (pc' := 110) rfl (hb hby d30_73) rfl ((if0 _ _).trans (feq (show ¬ ((1 : Int32) = (0 : Int32)) from (by decide))).2) (by decide) (by decide) k) ?_
  show Gl p.tables e below PP (T3.setTop (mkF m 110 #[.val (.ref a1)] []))
  rw [hPP]
  refine own_finV (Q := (Q30 Z a1 h0 n0)) X3 hx hlk Bd.returns (hb hby d30_110) ?_ (by decide) (by decide)
  show Q30 Z a1 h0 n0 _ T3.heap _
  rw [e3]
  exact ⟨rfl, N0, rfl⟩
theorem d28_0 : decode jdk_92_method_37_code 0 = .ok (.aload_n 0, 1) := by decide +kernel
theorem d28_1 : decode jdk_92_method_37_code 1 = .ok (.aload_n 1, 1) := by decide +kernel
theorem d28_2 : decode jdk_92_method_37_code 2 = .ok (.if_acmp .ne 4, 3) := by decide +kernel
theorem d28_5 : decode jdk_92_method_37_code 5 = .ok (.return_, 1) := by decide +kernel
theorem d28_6 : decode jdk_92_method_37_code 6 = .ok (.aload_n 0, 1) := by decide +kernel
theorem d28_7 : decode jdk_92_method_37_code 7 = .ok (.getfield 7, 3) := by decide +kernel
theorem d28_10 : decode jdk_92_method_37_code 10 = .ok (.aload_n 1, 1) := by decide +kernel
theorem d28_11 : decode jdk_92_method_37_code 11 = .ok (.getfield 7, 3) := by decide +kernel
theorem d28_14 : decode jdk_92_method_37_code 14 = .ok (.invokestatic 193, 3) := by decide +kernel
theorem d28_17 : decode jdk_92_method_37_code 17 = .ok (.istore_n 2, 1) := by decide +kernel
theorem d28_18 : decode jdk_92_method_37_code 18 = .ok (.aload_n 0, 1) := by decide +kernel
theorem d28_19 : decode jdk_92_method_37_code 19 = .ok (.getfield 7, 3) := by decide +kernel
theorem d28_22 : decode jdk_92_method_37_code 22 = .ok (.aload_n 1, 1) := by decide +kernel
theorem d28_23 : decode jdk_92_method_37_code 23 = .ok (.getfield 7, 3) := by decide +kernel
theorem d28_26 : decode jdk_92_method_37_code 26 = .ok (.if_icmp .ge 19, 3) := by decide +kernel
theorem d28_29 : decode jdk_92_method_37_code 29 = .ok (.aload_n 0, 1) := by decide +kernel
theorem d28_30 : decode jdk_92_method_37_code 30 = .ok (.aload_n 1, 1) := by decide +kernel
theorem d28_31 : decode jdk_92_method_37_code 31 = .ok (.getfield 7, 3) := by decide +kernel
theorem d28_34 : decode jdk_92_method_37_code 34 = .ok (.invokevirtual 139, 3) := by decide +kernel
theorem d28_37 : decode jdk_92_method_37_code 37 = .ok (.aload_n 0, 1) := by decide +kernel
theorem d28_38 : decode jdk_92_method_37_code 38 = .ok (.aload_n 1, 1) := by decide +kernel
theorem d28_39 : decode jdk_92_method_37_code 39 = .ok (.getfield 7, 3) := by decide +kernel
theorem d28_42 : decode jdk_92_method_37_code 42 = .ok (.putfield 7, 3) := by decide +kernel
theorem d28_45 : decode jdk_92_method_37_code 45 = .ok (.iconst 0, 1) := by decide +kernel
theorem d28_46 : decode jdk_92_method_37_code 46 = .ok (.istore_n 3, 1) := by decide +kernel
theorem d28_47 : decode jdk_92_method_37_code 47 = .ok (.iload_n 3, 1) := by decide +kernel
theorem d28_48 : decode jdk_92_method_37_code 48 = .ok (.iload_n 2, 1) := by decide +kernel
theorem d28_49 : decode jdk_92_method_37_code 49 = .ok (.if_icmp .ge 24, 3) := by decide +kernel
theorem d28_52 : decode jdk_92_method_37_code 52 = .ok (.aload_n 0, 1) := by decide +kernel
theorem d28_53 : decode jdk_92_method_37_code 53 = .ok (.getfield 11, 3) := by decide +kernel
theorem d28_56 : decode jdk_92_method_37_code 56 = .ok (.iload_n 3, 1) := by decide +kernel
theorem d28_57 : decode jdk_92_method_37_code 57 = .ok (.dup2, 1) := by decide +kernel
theorem d28_58 : decode jdk_92_method_37_code 58 = .ok (.laload, 1) := by decide +kernel
theorem d28_59 : decode jdk_92_method_37_code 59 = .ok (.aload_n 1, 1) := by decide +kernel
theorem d28_60 : decode jdk_92_method_37_code 60 = .ok (.getfield 11, 3) := by decide +kernel
theorem d28_63 : decode jdk_92_method_37_code 63 = .ok (.iload_n 3, 1) := by decide +kernel
theorem d28_64 : decode jdk_92_method_37_code 64 = .ok (.laload, 1) := by decide +kernel
theorem d28_65 : decode jdk_92_method_37_code 65 = .ok (.lor, 1) := by decide +kernel
theorem d28_66 : decode jdk_92_method_37_code 66 = .ok (.lastore, 1) := by decide +kernel
theorem d28_67 : decode jdk_92_method_37_code 67 = .ok (.iinc 3 1, 3) := by decide +kernel
theorem d28_70 : decode jdk_92_method_37_code 70 = .ok (.goto (-23), 3) := by decide +kernel
theorem d28_73 : decode jdk_92_method_37_code 73 = .ok (.iload_n 2, 1) := by decide +kernel
theorem d28_74 : decode jdk_92_method_37_code 74 = .ok (.aload_n 1, 1) := by decide +kernel
theorem d28_75 : decode jdk_92_method_37_code 75 = .ok (.getfield 7, 3) := by decide +kernel
theorem d28_78 : decode jdk_92_method_37_code 78 = .ok (.if_icmp .ge 22, 3) := by decide +kernel
theorem d28_81 : decode jdk_92_method_37_code 81 = .ok (.aload_n 1, 1) := by decide +kernel
theorem d28_82 : decode jdk_92_method_37_code 82 = .ok (.getfield 11, 3) := by decide +kernel
theorem d28_85 : decode jdk_92_method_37_code 85 = .ok (.iload_n 2, 1) := by decide +kernel
theorem d28_86 : decode jdk_92_method_37_code 86 = .ok (.aload_n 0, 1) := by decide +kernel
theorem d28_87 : decode jdk_92_method_37_code 87 = .ok (.getfield 11, 3) := by decide +kernel
theorem d28_90 : decode jdk_92_method_37_code 90 = .ok (.iload_n 2, 1) := by decide +kernel
theorem d28_91 : decode jdk_92_method_37_code 91 = .ok (.aload_n 0, 1) := by decide +kernel
theorem d28_92 : decode jdk_92_method_37_code 92 = .ok (.getfield 7, 3) := by decide +kernel
theorem d28_95 : decode jdk_92_method_37_code 95 = .ok (.iload_n 2, 1) := by decide +kernel
theorem d28_96 : decode jdk_92_method_37_code 96 = .ok (.isub, 1) := by decide +kernel
theorem d28_97 : decode jdk_92_method_37_code 97 = .ok (.invokestatic 199, 3) := by decide +kernel
theorem d28_100 : decode jdk_92_method_37_code 100 = .ok (.aload_n 0, 1) := by decide +kernel
theorem d28_101 : decode jdk_92_method_37_code 101 = .ok (.invokevirtual 56, 3) := by decide +kernel
theorem d28_104 : decode jdk_92_method_37_code 104 = .ok (.return_, 1) := by decide +kernel
theorem pn_28 : plainName "java/util/BitSet" = true := by first | (simp [plainName, overriddenIn]; done) | decide +kernel
theorem ef_28 (m : MethodId) (a1 : Addr) (a2 : Addr) : entryFrame m #[(.ref a1), (.ref a2)] 4 = mkF m 0 #[.val (.ref a1), .val (.ref a2), .unset, .unset] [] := by first | (simp [entryFrame, mkF, argsToLocals, Value.category]; done) | rfl
def Q28 (Z : State) (a1 : Addr) (a2 : Addr) (h0 : Heap) (n0 : Nat) (v : Option Value) (h : Heap) (L : List Loc) : Prop := v = none ∧ Fr n0 L ∧ h = h0
set_option maxRecDepth 65536 in
set_option maxHeartbeats 40000000 in
theorem rm28 (l : Launch) (Z : State) (a0 : Array Value) (hw : ∀ d ∈ tables_1, d.before a0 Z = true) (ws : List Jvm.Cond) (a1 : Addr) (a2 : Addr) (h0 : Heap) (n0 : Nat) (Z0 : n0 ≤ h0.size) (E_a1 : Exa Z h0 a1 "java/util/BitSet") (F_wordsInUse_a1 : Fld Z h0 a1 "java/util/BitSet" "wordsInUse" "I" (.int (0 : Int32))) (F_wordsInUse_a2 : Fld Z h0 a2 "java/util/BitSet" "wordsInUse" "I" (.int (0 : Int32))) (own_ne_a1_a2 : a1 ≠ a2) (SAD : Sta Z Z.heap "java/util/BitSet" "$assertionsDisabled" "Z" (.int (1 : Int32))) (O_ : Old Z n0 h0) :
    MetFree l (⟨"java/util/BitSet", "or", "(Ljava/util/BitSet;)V"⟩ : MethodName) (head1 (Jvm.Cond.code (⟨"java/util/BitSet", "or", "(Ljava/util/BitSet;)V"⟩ : MethodName) jdk_92_method_37_code 4 none :: ws) ({ frames := 1, cells := 0, slots := 0, locals := 13 } : Room)) (fun a U => a = #[(.ref a1), (.ref a2)] ∧ Z.Warmed39 U.vm ∧ U.heap = h0) (fun _ _ _ _ _ => True) (fun _ U o U' => ∃ v L, o = .returned v ∧ Q28 Z a1 a2 h0 n0 v U'.heap L ∧ FrameEnd U o U' L ({ frames := 1, cells := 0, slots := 0, locals := 13 } : Room).cells ({ frames := 1, cells := 0, slots := 0, locals := 13 } : Room).slots) := by
  refine MetFree.of_bodySF (plainFor_of_name pn_28) hisR ?_
  intro p e s m args below meth c s₁ Bd hml0 hP hK
  obtain ⟨rfl, hZ, hh⟩ := hP
  have hx := Bd.exec
  have hby := Bd.bytes
  have hlk : meth.locks = false := BodyLoose.notSynchronized Bd
  have hml : c.maxLocals = 4 := hml0
  have hown : s.vm.findClass "java/util/BitSet" = some m.cls := findClass_of_methodNamed Bd.named
  have hnm := (name_of_methodNamed Bd.named Bd.method).1
  have X0 : Stand p l e ({ frames := 1, cells := 0, slots := 0, locals := 13 } : Room) s m #[(.ref a1), (.ref a2)] below meth c s₁ [] 0 0 := Stand.of_body Bd
  have e0 : s₁.heap = h0 := by rw [← hh, Bd.state]; rfl
  have N0 := Fr.nil n0
  show Gl p.tables e below (fun (o : Outcome) (U' : State) => ∃ v L, o = .returned v ∧ Q28 Z a1 a2 h0 n0 v U'.heap L ∧ FrameEnd s o U' L ({ frames := 1, cells := 0, slots := 0, locals := 13 } : Room).cells ({ frames := 1, cells := 0, slots := 0, locals := 13 } : Room).slots) _
  refine Gl.pre (fun t k => castTop (ef_28 m a1 a2) k) ?_
  obtain ⟨PP, hPP⟩ : ∃ P : Outcome → State → Prop, P = (fun (o : Outcome) (U' : State) => ∃ v L, o = .returned v ∧ Q28 Z a1 a2 h0 n0 v U'.heap L ∧ FrameEnd s o U' L ({ frames := 1, cells := 0, slots := 0, locals := 13 } : Room).cells ({ frames := 1, cells := 0, slots := 0, locals := 13 } : Room).slots) := ⟨_, rfl⟩
  rw [← hPP]
  show Gl p.tables e below PP (s₁.setTop (mkF m 0 #[.val (.ref a1), .val (.ref a2), .unset, .unset] []))
  refine Gl.pre (fun _ k => XS.aloadN X0.here hx rfl (hb hby d28_0) rfl rfl k) ?_
  show Gl p.tables e below PP (s₁.setTop (mkF m 1 #[.val (.ref a1), .val (.ref a2), .unset, .unset] [(.ref a1)]))
  refine Gl.pre (fun _ k => XS.aloadN X0.here hx rfl (hb hby d28_1) rfl rfl k) ?_
  show Gl p.tables e below PP (s₁.setTop (mkF m 2 #[.val (.ref a1), .val (.ref a2), .unset, .unset] [(.ref a2), (.ref a1)]))
  refine Gl.pre (fun _ k => Jvm.RoadKit.acmp (g := (mkF m 2 #[.val (.ref a1), .val (.ref a2), .unset, .unset] [(.ref a2), (.ref a1)])) X0 hx rfl rfl rfl (pc0 := 2) (pc' := 6) (same := false) rfl (hb hby d28_2) rfl (decide_eq_false fun q => own_ne_a1_a2 (Value.ref.inj q)) (by decide) (by decide) k) ?_
  show Gl p.tables e below PP (s₁.setTop (mkF m 6 #[.val (.ref a1), .val (.ref a2), .unset, .unset] []))
  refine Gl.pre (fun _ k => XS.aloadN X0.here hx rfl (hb hby d28_6) rfl rfl k) ?_
  show Gl p.tables e below PP (s₁.setTop (mkF m 7 #[.val (.ref a1), .val (.ref a2), .unset, .unset] [(.ref a1)]))
  obtain ⟨T1, X1, e1, st1⟩ := getF X0 hx hZ hown (host := "") (Or.inl (hw _ (List.mem_of_getElem? (i := 130) rfl))) Via.refl e0 F_wordsInUse_a1 (g := (mkF m 7 #[.val (.ref a1), .val (.ref a2), .unset, .unset] [(.ref a1)])) rfl rfl (hb hby d28_7)
  refine Gl.pre (fun _ k => st1 _ k) ?_
  show Gl p.tables e below PP (T1.setTop (mkF m 10 #[.val (.ref a1), .val (.ref a2), .unset, .unset] [(.int (0 : Int32))]))
  refine Gl.pre (fun _ k => XS.aloadN X1.here hx rfl (hb hby d28_10) rfl rfl k) ?_
  show Gl p.tables e below PP (T1.setTop (mkF m 11 #[.val (.ref a1), .val (.ref a2), .unset, .unset] [(.ref a2), (.int (0 : Int32))]))
  obtain ⟨T2, X2, e2, st2⟩ := getF X1 hx hZ hown (host := "") (Or.inl (hw _ (List.mem_of_getElem? (i := 130) rfl))) Via.refl e1 F_wordsInUse_a2 (g := (mkF m 11 #[.val (.ref a1), .val (.ref a2), .unset, .unset] [(.ref a2), (.int (0 : Int32))])) rfl rfl (hb hby d28_11)
  refine Gl.pre (fun _ k => st2 _ k) ?_
  show Gl p.tables e below PP (T2.setTop (mkF m 14 #[.val (.ref a1), .val (.ref a2), .unset, .unset] [(.int (0 : Int32)), (.int (0 : Int32))]))
  obtain ⟨_, _, ⟨T3, L3, k3, n3⟩, -, X3, ⟨Lc3, hQ3, l3, y3, z3⟩, st3⟩ := Jvm.LawKit.callS X2 hx (y := (⟨"java/lang/Math", "min", "(II)I"⟩ : MethodName)) hown (mvT hZ (hw _ (List.mem_of_getElem? (i := 246) rfl))) (mvT hZ (hw _ (List.mem_of_getElem? (i := 247) rfl))) (mvT hZ (hw _ (List.mem_of_getElem? (i := 248) rfl))) (mvT hZ (hw _ (List.mem_of_getElem? (i := 249) rfl))) (by decide) (backOf (W := 0) (rm29 l Z a0 hw []  h0 n0 Z0 ) hZ (hw _ (List.mem_of_getElem? (i := 249) rfl)) (hw _ (List.mem_of_getElem? (i := 248) rfl)) (by decide) (by decide)) (g := (mkF m 14 #[.val (.ref a1), .val (.ref a2), .unset, .unset] [(.int (0 : Int32)), (.int (0 : Int32))])) rfl (by rw [hml]; rfl) (argsL := [(.int (0 : Int32)), (.int (0 : Int32))]) (rest := []) (lenOf pd_8 rfl) rfl (by show 2 * 0 + _ ≤ _; exact Nat.le_of_eq rfl) (hb hby d28_14) (fun _ _ => ⟨rfl, e2, (by decide : 0 + 0 ≤ _), (by decide : 0 + 0 ≤ _)⟩)
  dsimp only [Pt.U, Pt.locs, Pt.cells, Pt.slots] at X3 l3 y3 z3 st3 hQ3
  subst l3 y3 z3
  obtain ⟨rfl, N3q, e3⟩ := hQ3
  have N3 := Fr.app N0 N3q
  refine Gl.pre (fun _ k => st3 _ k) ?_
  show Gl p.tables e below PP (T3.setTop (mkF m 17 #[.val (.ref a1), .val (.ref a2), .unset, .unset] [(.int (0 : Int32))]))
  refine Gl.pre (fun _ k => XS.istoreN X3.here hx rfl (hb hby d28_17) rfl (l' := #[.val (.ref a1), .val (.ref a2), .val (.int (0 : Int32)), .unset]) rfl k) ?_
  show Gl p.tables e below PP (T3.setTop (mkF m 18 #[.val (.ref a1), .val (.ref a2), .val (.int (0 : Int32)), .unset] []))
  refine Gl.pre (fun _ k => XS.aloadN X3.here hx rfl (hb hby d28_18) rfl rfl k) ?_
  show Gl p.tables e below PP (T3.setTop (mkF m 19 #[.val (.ref a1), .val (.ref a2), .val (.int (0 : Int32)), .unset] [(.ref a1)]))
  obtain ⟨T4, X4, e4, st4⟩ := getF X3 hx hZ hown (host := "") (Or.inl (hw _ (List.mem_of_getElem? (i := 130) rfl))) Via.refl e3 F_wordsInUse_a1 (g := (mkF m 19 #[.val (.ref a1), .val (.ref a2), .val (.int (0 : Int32)), .unset] [(.ref a1)])) rfl rfl (hb hby d28_19)
  refine Gl.pre (fun _ k => st4 _ k) ?_
  show Gl p.tables e below PP (T4.setTop (mkF m 22 #[.val (.ref a1), .val (.ref a2), .val (.int (0 : Int32)), .unset] [(.int (0 : Int32))]))
  refine Gl.pre (fun _ k => XS.aloadN X4.here hx rfl (hb hby d28_22) rfl rfl k) ?_
  show Gl p.tables e below PP (T4.setTop (mkF m 23 #[.val (.ref a1), .val (.ref a2), .val (.int (0 : Int32)), .unset] [(.ref a2), (.int (0 : Int32))]))
  obtain ⟨T5, X5, e5, st5⟩ := getF X4 hx hZ hown (host := "") (Or.inl (hw _ (List.mem_of_getElem? (i := 130) rfl))) Via.refl e4 F_wordsInUse_a2 (g := (mkF m 23 #[.val (.ref a1), .val (.ref a2), .val (.int (0 : Int32)), .unset] [(.ref a2), (.int (0 : Int32))])) rfl rfl (hb hby d28_23)
  refine Gl.pre (fun _ k => st5 _ k) ?_
  show Gl p.tables e below PP (T5.setTop (mkF m 26 #[.val (.ref a1), .val (.ref a2), .val (.int (0 : Int32)), .unset] [(.int (0 : Int32)), (.int (0 : Int32))]))
  refine Gl.pre (fun _ k => XS.icmpYes X5.here hx rfl (pc0 := 26) (pc' := 45) rfl (hb hby d28_26) rfl (flt (show ¬ ((0 : Int32) < (0 : Int32)) from (by decide))).2.1 (by decide) (by decide) k) ?_
  show Gl p.tables e below PP (T5.setTop (mkF m 45 #[.val (.ref a1), .val (.ref a2), .val (.int (0 : Int32)), .unset] []))
  refine Gl.pre (fun _ k => XS.iconst X5.here hx rfl (hb hby d28_45) k) ?_
  show Gl p.tables e below PP (T5.setTop (mkF m 46 #[.val (.ref a1), .val (.ref a2), .val (.int (0 : Int32)), .unset] [(.int (0 : Int32))]))
  refine Gl.pre (fun _ k => XS.istoreN X5.here hx rfl (hb hby d28_46) rfl (l' := #[.val (.ref a1), .val (.ref a2), .val (.int (0 : Int32)), .val (.int (0 : Int32))]) rfl k) ?_
  show Gl p.tables e below PP (T5.setTop (mkF m 47 #[.val (.ref a1), .val (.ref a2), .val (.int (0 : Int32)), .val (.int (0 : Int32))] []))
  refine Gl.pre (fun _ k => XS.iloadN X5.here hx rfl (hb hby d28_47) rfl k) ?_
  show Gl p.tables e below PP (T5.setTop (mkF m 48 #[.val (.ref a1), .val (.ref a2), .val (.int (0 : Int32)), .val (.int (0 : Int32))] [(.int (0 : Int32))]))
  refine Gl.pre (fun _ k => XS.iloadN X5.here hx rfl (hb hby d28_48) rfl k) ?_
  show Gl p.tables e below PP (T5.setTop (mkF m 49 #[.val (.ref a1), .val (.ref a2), .val (.int (0 : Int32)), .val (.int (0 : Int32))] [(.int (0 : Int32)), (.int (0 : Int32))]))
  refine Gl.pre (fun _ k => XS.icmpYes X5.here hx rfl (pc0 := 49) (pc' := 73) rfl (hb hby d28_49) rfl (flt (show ¬ ((0 : Int32) < (0 : Int32)) from (by decide))).2.1 (by decide) (by decide) k) ?_
  show Gl p.tables e below PP (T5.setTop (mkF m 73 #[.val (.ref a1), .val (.ref a2), .val (.int (0 : Int32)), .val (.int (0 : Int32))] []))
  refine Gl.pre (fun _ k => XS.iloadN X5.here hx rfl (hb hby d28_73) rfl k) ?_
  show Gl p.tables e below PP (T5.setTop (mkF m 74 #[.val (.ref a1), .val (.ref a2), .val (.int (0 : Int32)), .val (.int (0 : Int32))] [(.int (0 : Int32))]))
  refine Gl.pre (fun _ k => XS.aloadN X5.here hx rfl (hb hby d28_74) rfl rfl k) ?_
  show Gl p.tables e below PP (T5.setTop (mkF m 75 #[.val (.ref a1), .val (.ref a2), .val (.int (0 : Int32)), .val (.int (0 : Int32))] [(.ref a2), (.int (0 : Int32))]))
  obtain ⟨T6, X6, e6, st6⟩ := getF X5 hx hZ hown (host := "") (Or.inl (hw _ (List.mem_of_getElem? (i := 130) rfl))) Via.refl e5 F_wordsInUse_a2 (g := (mkF m 75 #[.val (.ref a1), .val (.ref a2), .val (.int (0 : Int32)), .val (.int (0 : Int32))] [(.ref a2), (.int (0 : Int32))])) rfl rfl (hb hby d28_75)
  refine Gl.pre (fun _ k => st6 _ k) ?_
  show Gl p.tables e below PP (T6.setTop (mkF m 78 #[.val (.ref a1), .val (.ref a2), .val (.int (0 : Int32)), .val (.int (0 : Int32))] [(.int (0 : Int32)), (.int (0 : Int32))]))
  refine Gl.pre (fun _ k => XS.icmpYes X6.here hx rfl (pc0 := 78) (pc' := 100) rfl (hb hby d28_78) rfl (flt (show ¬ ((0 : Int32) < (0 : Int32)) from (by decide))).2.1 (by decide) (by decide) k) ?_
  show Gl p.tables e below PP (T6.setTop (mkF m 100 #[.val (.ref a1), .val (.ref a2), .val (.int (0 : Int32)), .val (.int (0 : Int32))] []))
  refine Gl.pre (fun _ k => XS.aloadN X6.here hx rfl (hb hby d28_100) rfl rfl k) ?_
  show Gl p.tables e below PP (T6.setTop (mkF m 101 #[.val (.ref a1), .val (.ref a2), .val (.int (0 : Int32)), .val (.int (0 : Int32))] [(.ref a1)]))
  obtain ⟨cq7, qa7, qb7⟩ := E_a1.cell
  obtain ⟨_, _, ⟨T7, L7, k7, n7⟩, -, X7, ⟨Lc7, hQ7, l7, y7, z7⟩, st7⟩ := X6.privateBack hx (y := (⟨"java/util/BitSet", "checkInvariants", "()V"⟩ : MethodName)) hown (mvT hZ (hw _ (List.mem_of_getElem? (i := 250) rfl))) (mvT hZ (hw _ (List.mem_of_getElem? (i := 251) rfl))) (mvT hZ (hw _ (List.mem_of_getElem? (i := 253) rfl))) (Cond.privateMethod_at (mvP hZ (hw _ (List.mem_of_getElem? (i := 252) rfl)) (args := #[]))) (mvT hZ (hw _ (List.mem_of_getElem? (i := 254) rfl))) (by decide) (backOf (W := 0) (rm30 l Z a0 hw [] a1 h0 n0 Z0 SAD O_) hZ (hw _ (List.mem_of_getElem? (i := 254) rfl)) (hw _ (List.mem_of_getElem? (i := 125) rfl)) (by decide) (by decide)) (g := (mkF m 101 #[.val (.ref a1), .val (.ref a2), .val (.int (0 : Int32)), .val (.int (0 : Int32))] [(.ref a1)])) rfl (by rw [hml]; rfl) (Steps.refl _) (a := a1) (by rw [e6]; exact qa7) qb7 (argsL := []) (rest := []) (lenOf pd_0 rfl) rfl (by show 2 * 0 + _ ≤ _; exact Nat.le_of_eq rfl) (hb hby d28_101) (fun _ _ => ⟨rfl, e6, (by decide : 0 + 0 ≤ _), (by decide : 0 + 0 ≤ _)⟩)
  dsimp only [Pt.U, Pt.locs, Pt.cells, Pt.slots] at X7 l7 y7 z7 st7 hQ7
  subst l7 y7 z7
  obtain ⟨rfl, N7q, e7⟩ := hQ7
  have N7 := Fr.app N3 N7q
  refine Gl.pre (fun _ k => st7.trans k) ?_
  show Gl p.tables e below PP (T7.setTop (mkF m 104 #[.val (.ref a1), .val (.ref a2), .val (.int (0 : Int32)), .val (.int (0 : Int32))] []))
  rw [hPP]
  refine own_finV (Q := (Q28 Z a1 a2 h0 n0)) X7 hx hlk Bd.returns (hb hby d28_104) ?_ (by decide) (by decide)
  show Q28 Z a1 a2 h0 n0 _ T7.heap _
  rw [e7]
  exact ⟨rfl, N7, rfl⟩
theorem d19_0 : decode prog_9_method_8_code 0 = .ok (.aload_n 0, 1) := by decide +kernel
theorem d19_1 : decode prog_9_method_8_code 1 = .ok (.getfield 10, 3) := by decide +kernel
theorem d19_4 : decode prog_9_method_8_code 4 = .ok (.aload_n 1, 1) := by decide +kernel
theorem d19_5 : decode prog_9_method_8_code 5 = .ok (.getfield 10, 3) := by decide +kernel
theorem d19_8 : decode prog_9_method_8_code 8 = .ok (.invokeinterface 44 2, 5) := by decide +kernel
theorem d19_13 : decode prog_9_method_8_code 13 = .ok (.pop, 1) := by decide +kernel
theorem d19_14 : decode prog_9_method_8_code 14 = .ok (.aload_n 0, 1) := by decide +kernel
theorem d19_15 : decode prog_9_method_8_code 15 = .ok (.getfield 19, 3) := by decide +kernel
theorem d19_18 : decode prog_9_method_8_code 18 = .ok (.aload_n 1, 1) := by decide +kernel
theorem d19_19 : decode prog_9_method_8_code 19 = .ok (.getfield 19, 3) := by decide +kernel
theorem d19_22 : decode prog_9_method_8_code 22 = .ok (.invokevirtual 48, 3) := by decide +kernel
theorem d19_25 : decode prog_9_method_8_code 25 = .ok (.aload_n 0, 1) := by decide +kernel
theorem d19_26 : decode prog_9_method_8_code 26 = .ok (.dup, 1) := by decide +kernel
theorem d19_27 : decode prog_9_method_8_code 27 = .ok (.getfield 40, 3) := by decide +kernel
theorem d19_30 : decode prog_9_method_8_code 30 = .ok (.aload_n 1, 1) := by decide +kernel
theorem d19_31 : decode prog_9_method_8_code 31 = .ok (.getfield 40, 3) := by decide +kernel
theorem d19_34 : decode prog_9_method_8_code 34 = .ok (.ior, 1) := by decide +kernel
theorem d19_35 : decode prog_9_method_8_code 35 = .ok (.putfield 40, 3) := by decide +kernel
theorem d19_38 : decode prog_9_method_8_code 38 = .ok (.return_, 1) := by decide +kernel
theorem pn_19 : plainName "com/example/rules_for_records/rulesforrecords/Evaluated" = true := by first | (simp [plainName, overriddenIn]; done) | decide +kernel
theorem ef_19 (m : MethodId) (a1 : Addr) (a2 : Addr) (hsa : Addr) (hsb : Addr) (hm : Addr) (ba : Addr) (bb : Addr) : entryFrame m #[(.ref a1), (.ref a2)] 2 = mkF m 0 #[.val (.ref a1), .val (.ref a2)] [] := by first | (simp [entryFrame, mkF, argsToLocals, Value.category]; done) | rfl
def Q19 (Z : State) (a1 : Addr) (a2 : Addr) (hsa : Addr) (hsb : Addr) (hm : Addr) (ba : Addr) (bb : Addr) (h0 : Heap) (n0 : Nat) (v : Option Value) (h : Heap) (L : List Loc) : Prop := v = none ∧ Fr n0 L ∧ Keep h0 h [a1, hm]
set_option maxRecDepth 65536 in
set_option maxHeartbeats 40000000 in
theorem rm19 (l : Launch) (Z : State) (a0 : Array Value) (hw : ∀ d ∈ tables_1, d.before a0 Z = true) (ws : List Jvm.Cond) (a1 : Addr) (a2 : Addr) (hsa : Addr) (hsb : Addr) (hm : Addr) (ba : Addr) (bb : Addr) (h0 : Heap) (n0 : Nat) (Z0 : n0 ≤ h0.size) (E_a1 : Exa Z h0 a1 "com/example/rules_for_records/rulesforrecords/Evaluated") (F_names_a1 : Fld Z h0 a1 "com/example/rules_for_records/rulesforrecords/Evaluated" "names" "Ljava/util/Set;" (.ref hsa)) (F_items_a1 : Fld Z h0 a1 "com/example/rules_for_records/rulesforrecords/Evaluated" "items" "Ljava/util/BitSet;" (.ref ba)) (F_keysNamed_a1 : Fld Z h0 a1 "com/example/rules_for_records/rulesforrecords/Evaluated" "keysNamed" "Z" (.int (0 : Int32))) (F_names_a2 : Fld Z h0 a2 "com/example/rules_for_records/rulesforrecords/Evaluated" "names" "Ljava/util/Set;" (.ref hsb)) (F_items_a2 : Fld Z h0 a2 "com/example/rules_for_records/rulesforrecords/Evaluated" "items" "Ljava/util/BitSet;" (.ref bb)) (F_keysNamed_a2 : Fld Z h0 a2 "com/example/rules_for_records/rulesforrecords/Evaluated" "keysNamed" "Z" (.int (0 : Int32))) (E_hsa : Exa Z h0 hsa "java/util/HashSet") (E_hsb : Exa Z h0 hsb "java/util/HashSet") (F_map_hsb : Fld Z h0 hsb "java/util/HashSet" "map" "Ljava/util/HashMap;" (.ref hm)) (E_hm : Exa Z h0 hm "java/util/HashMap") (F_keySet_hm : Fld Z h0 hm "java/util/AbstractMap" "keySet" "Ljava/util/Set;" .null) (F_modCount_hm : Fld Z h0 hm "java/util/HashMap" "modCount" "I" (.int (0 : Int32))) (F_table_hm : Fld Z h0 hm "java/util/HashMap" "table" "[Ljava/util/HashMap$Node;" .null) (g_hm : n0 ≤ hm) (E_ba : Exa Z h0 ba "java/util/BitSet") (F_wordsInUse_ba : Fld Z h0 ba "java/util/BitSet" "wordsInUse" "I" (.int (0 : Int32))) (F_wordsInUse_bb : Fld Z h0 bb "java/util/BitSet" "wordsInUse" "I" (.int (0 : Int32))) (g_a1 : n0 ≤ a1) (own_ne_a1_hm : a1 ≠ hm) (own_ne_a2_hm : a2 ≠ hm) (own_ne_ba_hm : ba ≠ hm) (own_ne_bb_hm : bb ≠ hm) (own_ne_ba_bb : ba ≠ bb) (SAD : Sta Z Z.heap "java/util/BitSet" "$assertionsDisabled" "Z" (.int (1 : Int32))) (O_ : Old Z n0 h0) :
    MetFree l (⟨"com/example/rules_for_records/rulesforrecords/Evaluated", "addAll", "(Lcom/example/rules_for_records/rulesforrecords/Evaluated;)V"⟩ : MethodName) (head1 (Jvm.Cond.code (⟨"com/example/rules_for_records/rulesforrecords/Evaluated", "addAll", "(Lcom/example/rules_for_records/rulesforrecords/Evaluated;)V"⟩ : MethodName) prog_9_method_8_code 2 none :: ws) ({ frames := 7, cells := 2, slots := 6, locals := 91 } : Room)) (fun a U => a = #[(.ref a1), (.ref a2)] ∧ Z.Warmed39 U.vm ∧ U.heap = h0) (fun _ _ _ _ _ => True) (fun _ U o U' => ∃ v L, o = .returned v ∧ Q19 Z a1 a2 hsa hsb hm ba bb h0 n0 v U'.heap L ∧ FrameEnd U o U' L ({ frames := 7, cells := 2, slots := 6, locals := 91 } : Room).cells ({ frames := 7, cells := 2, slots := 6, locals := 91 } : Room).slots) := by
  refine MetFree.of_bodySF (plainFor_of_name pn_19) hisR ?_
  intro p e s m args below meth c s₁ Bd hml0 hP hK
  obtain ⟨rfl, hZ, hh⟩ := hP
  have hx := Bd.exec
  have hby := Bd.bytes
  have hlk : meth.locks = false := BodyLoose.notSynchronized Bd
  have hml : c.maxLocals = 2 := hml0
  have hown : s.vm.findClass "com/example/rules_for_records/rulesforrecords/Evaluated" = some m.cls := findClass_of_methodNamed Bd.named
  have hnm := (name_of_methodNamed Bd.named Bd.method).1
  have X0 : Stand p l e ({ frames := 7, cells := 2, slots := 6, locals := 91 } : Room) s m #[(.ref a1), (.ref a2)] below meth c s₁ [] 0 0 := Stand.of_body Bd
  have e0 : s₁.heap = h0 := by rw [← hh, Bd.state]; rfl
  have N0 := Fr.nil n0
  show Gl p.tables e below (fun (o : Outcome) (U' : State) => ∃ v L, o = .returned v ∧ Q19 Z a1 a2 hsa hsb hm ba bb h0 n0 v U'.heap L ∧ FrameEnd s o U' L ({ frames := 7, cells := 2, slots := 6, locals := 91 } : Room).cells ({ frames := 7, cells := 2, slots := 6, locals := 91 } : Room).slots) _
  refine Gl.pre (fun t k => castTop (ef_19 m a1 a2 hsa hsb hm ba bb) k) ?_
  obtain ⟨PP, hPP⟩ : ∃ P : Outcome → State → Prop, P = (fun (o : Outcome) (U' : State) => ∃ v L, o = .returned v ∧ Q19 Z a1 a2 hsa hsb hm ba bb h0 n0 v U'.heap L ∧ FrameEnd s o U' L ({ frames := 7, cells := 2, slots := 6, locals := 91 } : Room).cells ({ frames := 7, cells := 2, slots := 6, locals := 91 } : Room).slots) := ⟨_, rfl⟩
  rw [← hPP]
  have K0 : Keep h0 h0 [a1, hm] := Keep.refl h0 _
  show Gl p.tables e below PP (s₁.setTop (mkF m 0 #[.val (.ref a1), .val (.ref a2)] []))
  refine Gl.pre (fun _ k => XS.aloadN X0.here hx rfl (hb hby d19_0) rfl rfl k) ?_
  show Gl p.tables e below PP (s₁.setTop (mkF m 1 #[.val (.ref a1), .val (.ref a2)] [(.ref a1)]))
  obtain ⟨T1, X1, e1, st1⟩ := getF X0 hx hZ hown (host := "") (Or.inl (hw _ (List.mem_of_getElem? (i := 121) rfl))) Via.refl e0 F_names_a1 (g := (mkF m 1 #[.val (.ref a1), .val (.ref a2)] [(.ref a1)])) rfl rfl (hb hby d19_1)
  refine Gl.pre (fun _ k => st1 _ k) ?_
  show Gl p.tables e below PP (T1.setTop (mkF m 4 #[.val (.ref a1), .val (.ref a2)] [(.ref hsa)]))
  refine Gl.pre (fun _ k => XS.aloadN X1.here hx rfl (hb hby d19_4) rfl rfl k) ?_
  show Gl p.tables e below PP (T1.setTop (mkF m 5 #[.val (.ref a1), .val (.ref a2)] [(.ref a2), (.ref hsa)]))
  obtain ⟨T2, X2, e2, st2⟩ := getF X1 hx hZ hown (host := "") (Or.inl (hw _ (List.mem_of_getElem? (i := 121) rfl))) Via.refl e1 F_names_a2 (g := (mkF m 5 #[.val (.ref a1), .val (.ref a2)] [(.ref a2), (.ref hsa)])) rfl rfl (hb hby d19_5)
  refine Gl.pre (fun _ k => st2 _ k) ?_
  show Gl p.tables e below PP (T2.setTop (mkF m 8 #[.val (.ref a1), .val (.ref a2)] [(.ref hsb), (.ref hsa)]))
  obtain ⟨cq3, kq3, qa3, qb3, qc3⟩ := isOf hZ e2 E_hsa
  obtain ⟨_, _, ⟨T3, L3, k3, n3⟩, -, X3, ⟨Lc3, hQ3, l3, y3, z3⟩, st3⟩ := X2.interfaceBack hx (xi := (⟨"java/util/Set", "addAll", "(Ljava/util/Collection;)Z"⟩ : MethodName)) (y := (⟨"java/util/AbstractCollection", "addAll", "(Ljava/util/Collection;)Z"⟩ : MethodName)) hown (mvT hZ (hw _ (List.mem_of_getElem? (i := 157) rfl))) (mvT hZ (hw _ (List.mem_of_getElem? (i := 158) rfl))) (mvT hZ (hw _ (List.mem_of_getElem? (i := 159) rfl))) (mvT hZ (hw _ (List.mem_of_getElem? (i := 160) rfl))) (mvT hZ (hw _ (List.mem_of_getElem? (i := 161) rfl))) (mvT hZ (hw _ (List.mem_of_getElem? (i := 162) rfl))) (mvT hZ (hw _ (List.mem_of_getElem? (i := 163) rfl))) (mvT hZ (hw _ (List.mem_of_getElem? (i := 164) rfl))) (by decide) (backOf (W := 0) (rm20 l Z a0 hw [] hsa hsb hm h0 n0 Z0 E_hsb F_map_hsb E_hm F_keySet_hm F_modCount_hm F_table_hm g_hm) hZ (hw _ (List.mem_of_getElem? (i := 165) rfl)) (hw _ (List.mem_of_getElem? (i := 25) rfl)) (by decide) (by decide)) qa3 qb3 qc3 (g := (mkF m 8 #[.val (.ref a1), .val (.ref a2)] [(.ref hsb), (.ref hsa)])) rfl (by rw [hml]; rfl) (Steps.refl _) (argsL := [(.ref hsb)]) (rest := []) (lenOf pd_9 rfl) rfl (by show 2 * 0 + _ ≤ _; exact Nat.le_of_eq rfl) (hb hby d19_8) (fun _ _ => ⟨rfl, e2, (by decide : 0 + 2 ≤ _), (by decide : 0 + 6 ≤ _)⟩)
  dsimp only [Pt.U, Pt.locs, Pt.cells, Pt.slots] at X3 l3 y3 z3 st3 hQ3
  subst l3 y3 z3
  obtain ⟨rfl, N3q, K3⟩ := hQ3
  have N3 := Fr.app N0 N3q
  refine Gl.pre (fun _ k => st3.trans k) ?_
  have E_a1 := E_a1.keep K3
  have F_names_a1 := F_names_a1.keep K3 (ninS (own_ne_a1_hm) nin0)
  have F_items_a1 := F_items_a1.keep K3 (ninS (own_ne_a1_hm) nin0)
  have F_keysNamed_a1 := F_keysNamed_a1.keep K3 (ninS (own_ne_a1_hm) nin0)
  have F_names_a2 := F_names_a2.keep K3 (ninS (own_ne_a2_hm) nin0)
  have F_items_a2 := F_items_a2.keep K3 (ninS (own_ne_a2_hm) nin0)
  have F_keysNamed_a2 := F_keysNamed_a2.keep K3 (ninS (own_ne_a2_hm) nin0)
  have E_hsa := E_hsa.keep K3
  have E_hsb := E_hsb.keep K3
  have E_hm := E_hm.keep K3
  have E_ba := E_ba.keep K3
  have F_wordsInUse_ba := F_wordsInUse_ba.keep K3 (ninS (own_ne_ba_hm) nin0)
  have F_wordsInUse_bb := F_wordsInUse_bb.keep K3 (ninS (own_ne_bb_hm) nin0)
  have O_ := O_.keep K3 (allS g_hm all0)
  have Z3 : n0 ≤ T3.heap.size := Nat.le_trans Z0 K3.1
  have K3k := K0.trans K3 (allS (Or.inl (List.mem_of_getElem? (i := 1) rfl)) all0)
  show Gl p.tables e below PP (T3.setTop (mkF m 13 #[.val (.ref a1), .val (.ref a2)] [(.int (0 : Int32))]))
  refine Gl.pre (fun _ k => XS.pop X3.here hx rfl (hb hby d19_13) rfl rfl k) ?_
  show Gl p.tables e below PP (T3.setTop (mkF m 14 #[.val (.ref a1), .val (.ref a2)] []))
  refine Gl.pre (fun _ k => XS.aloadN X3.here hx rfl (hb hby d19_14) rfl rfl k) ?_
  show Gl p.tables e below PP (T3.setTop (mkF m 15 #[.val (.ref a1), .val (.ref a2)] [(.ref a1)]))
  obtain ⟨T4, X4, e4, st4⟩ := getF X3 hx hZ hown (host := "") (Or.inl (hw _ (List.mem_of_getElem? (i := 145) rfl))) Via.refl rfl F_items_a1 (g := (mkF m 15 #[.val (.ref a1), .val (.ref a2)] [(.ref a1)])) rfl rfl (hb hby d19_15)
  refine Gl.pre (fun _ k => st4 _ k) ?_
  show Gl p.tables e below PP (T4.setTop (mkF m 18 #[.val (.ref a1), .val (.ref a2)] [(.ref ba)]))
  refine Gl.pre (fun _ k => XS.aloadN X4.here hx rfl (hb hby d19_18) rfl rfl k) ?_
  show Gl p.tables e below PP (T4.setTop (mkF m 19 #[.val (.ref a1), .val (.ref a2)] [(.ref a2), (.ref ba)]))
  obtain ⟨T5, X5, e5, st5⟩ := getF X4 hx hZ hown (host := "") (Or.inl (hw _ (List.mem_of_getElem? (i := 145) rfl))) Via.refl e4 F_items_a2 (g := (mkF m 19 #[.val (.ref a1), .val (.ref a2)] [(.ref a2), (.ref ba)])) rfl rfl (hb hby d19_19)
  refine Gl.pre (fun _ k => st5 _ k) ?_
  show Gl p.tables e below PP (T5.setTop (mkF m 22 #[.val (.ref a1), .val (.ref a2)] [(.ref bb), (.ref ba)]))
  obtain ⟨cq6, kq6, qa6, qb6, qc6⟩ := isOf hZ e5 E_ba
  obtain ⟨_, _, ⟨T6, L6, k6, n6⟩, -, X6, ⟨Lc6, hQ6, l6, y6, z6⟩, st6⟩ := X5.virtualBack hx (y := (⟨"java/util/BitSet", "or", "(Ljava/util/BitSet;)V"⟩ : MethodName)) (z := (⟨"java/util/BitSet", "or", "(Ljava/util/BitSet;)V"⟩ : MethodName)) hown (mvT hZ (hw _ (List.mem_of_getElem? (i := 241) rfl))) (mvT hZ (hw _ (List.mem_of_getElem? (i := 242) rfl))) (notFace_of_selects (args := #[]) (mvT hZ (hw _ (List.mem_of_getElem? (i := 244) rfl)))) (mvT hZ (hw _ (List.mem_of_getElem? (i := 244) rfl))) (mvT hZ (hw _ (List.mem_of_getElem? (i := 243) rfl))) (by decide) (backOf (W := 0) (rm28 l Z a0 hw [] ba bb T3.heap n0 Z3 E_ba F_wordsInUse_ba F_wordsInUse_bb own_ne_ba_bb SAD O_) hZ (hw _ (List.mem_of_getElem? (i := 245) rfl)) (hw _ (List.mem_of_getElem? (i := 125) rfl)) (by decide) (by decide)) qa6 qc6 (g := (mkF m 22 #[.val (.ref a1), .val (.ref a2)] [(.ref bb), (.ref ba)])) rfl (by rw [hml]; rfl) (Steps.refl _) (argsL := [(.ref bb)]) (rest := []) (lenOf pd_10 rfl) rfl (by show 2 * 0 + _ ≤ _; exact Nat.le_of_eq rfl) (hb hby d19_22) (fun _ _ => ⟨rfl, e5, (by decide : 2 + 0 ≤ _), (by decide : 6 + 0 ≤ _)⟩)
  dsimp only [Pt.U, Pt.locs, Pt.cells, Pt.slots] at X6 l6 y6 z6 st6 hQ6
  subst l6 y6 z6
  obtain ⟨rfl, N6q, e6⟩ := hQ6
  have N6 := Fr.app N3 N6q
  refine Gl.pre (fun _ k => st6.trans k) ?_
  show Gl p.tables e below PP (T6.setTop (mkF m 25 #[.val (.ref a1), .val (.ref a2)] []))
  refine Gl.pre (fun _ k => XS.aloadN X6.here hx rfl (hb hby d19_25) rfl rfl k) ?_
  show Gl p.tables e below PP (T6.setTop (mkF m 26 #[.val (.ref a1), .val (.ref a2)] [(.ref a1)]))
  refine Gl.pre (fun _ k => XS.dup X6.here hx rfl (hb hby d19_26) rfl rfl k) ?_
  show Gl p.tables e below PP (T6.setTop (mkF m 27 #[.val (.ref a1), .val (.ref a2)] [(.ref a1), (.ref a1)]))
  obtain ⟨T7, X7, e7, st7⟩ := getF X6 hx hZ hown (host := "") (Or.inl (hw _ (List.mem_of_getElem? (i := 256) rfl))) Via.refl e6 F_keysNamed_a1 (g := (mkF m 27 #[.val (.ref a1), .val (.ref a2)] [(.ref a1), (.ref a1)])) rfl rfl (hb hby d19_27)
  refine Gl.pre (fun _ k => st7 _ k) ?_
  show Gl p.tables e below PP (T7.setTop (mkF m 30 #[.val (.ref a1), .val (.ref a2)] [(.int (0 : Int32)), (.ref a1)]))
  refine Gl.pre (fun _ k => XS.aloadN X7.here hx rfl (hb hby d19_30) rfl rfl k) ?_
  show Gl p.tables e below PP (T7.setTop (mkF m 31 #[.val (.ref a1), .val (.ref a2)] [(.ref a2), (.int (0 : Int32)), (.ref a1)]))
  obtain ⟨T8, X8, e8, st8⟩ := getF X7 hx hZ hown (host := "") (Or.inl (hw _ (List.mem_of_getElem? (i := 256) rfl))) Via.refl e7 F_keysNamed_a2 (g := (mkF m 31 #[.val (.ref a1), .val (.ref a2)] [(.ref a2), (.int (0 : Int32)), (.ref a1)])) rfl rfl (hb hby d19_31)
  refine Gl.pre (fun _ k => st8 _ k) ?_
  show Gl p.tables e below PP (T8.setTop (mkF m 34 #[.val (.ref a1), .val (.ref a2)] [(.int (0 : Int32)), (.int (0 : Int32)), (.ref a1)]))
  refine Gl.pre (fun _ k => XS.ior X8.here hx rfl (hb hby d19_34) rfl k) ?_
  show Gl p.tables e below PP (T8.setTop (mkF m 35 #[.val (.ref a1), .val (.ref a2)] [(.int ((0 : Int32) ||| (0 : Int32))), (.ref a1)]))
  rw [show ((0 : Int32) ||| (0 : Int32)) = (0 : Int32) by decide]
  show Gl p.tables e below PP (T8.setTop (mkF m 35 #[.val (.ref a1), .val (.ref a2)] [(.int (0 : Int32)), (.ref a1)]))
  obtain ⟨T9, h9, X9, e9, W9, st9⟩ := putFN X8 hx hZ hown (hw _ (List.mem_of_getElem? (i := 256) rfl)) Via.refl e8 F_keysNamed_a1 E_a1 (Or.inl (hw _ (List.mem_of_getElem? (i := 257) rfl))) (hw _ (List.mem_of_getElem? (i := 96) rfl)) (ty := .boolean) (v' := (.int (0 : Int32))) (by decide) rfl rfl (g := (mkF m 35 #[.val (.ref a1), .val (.ref a2)] [(.int (0 : Int32)), (.ref a1)])) rfl rfl (hb hby d19_35)
  refine Gl.pre (fun _ k => st9 _ k) ?_
  have E_a1 := E_a1.wr W9
  have F_names_a1 := F_names_a1.other W9 (Or.inr (slot_ne (Or.inr (hw _ (List.mem_of_getElem? (i := 122) rfl))) (Or.inl (hw _ (List.mem_of_getElem? (i := 257) rfl))) (by decide) (t := (.object "java/util/Set")) (t' := .boolean) (by decide) (by decide)))
  have F_items_a1 := F_items_a1.other W9 (Or.inr (slot_ne (Or.inr (hw _ (List.mem_of_getElem? (i := 146) rfl))) (Or.inl (hw _ (List.mem_of_getElem? (i := 257) rfl))) (by decide) (t := (.object "java/util/BitSet")) (t' := .boolean) (by decide) (by decide)))
  have F_keysNamed_a1 := F_keysNamed_a1.same W9
  have O_ := O_.wr W9 g_a1
  have Z9 : n0 ≤ h9.size := by rw [W9.size]; exact Z3
  have N9 := Fr.snoc X9 N6 g_a1
  have K9 := K3k.wr W9 (Or.inl (List.mem_of_getElem? (i := 0) rfl))
  show Gl p.tables e below PP (T9.setTop (mkF m 38 #[.val (.ref a1), .val (.ref a2)] []))
  rw [hPP]
  refine own_finV (Q := (Q19 Z a1 a2 hsa hsb hm ba bb h0 n0)) X9 hx hlk Bd.returns (hb hby d19_38) ?_ (by decide) (by decide)
  show Q19 Z a1 a2 hsa hsb hm ba bb h0 n0 _ T9.heap _
  rw [e9]
  exact ⟨rfl, N9, K9⟩
theorem d18_0 : decode prog_10_method_12_code 0 = .ok (.aload_n 1, 1) := by decide +kernel
theorem d18_1 : decode prog_10_method_12_code 1 = .ok (.ifnull 11, 3) := by decide +kernel
theorem d18_4 : decode prog_10_method_12_code 4 = .ok (.aload_n 1, 1) := by decide +kernel
theorem d18_5 : decode prog_10_method_12_code 5 = .ok (.aload_n 0, 1) := by decide +kernel
theorem d18_6 : decode prog_10_method_12_code 6 = .ok (.getfield 207, 3) := by decide +kernel
theorem d18_9 : decode prog_10_method_12_code 9 = .ok (.invokevirtual 131, 3) := by decide +kernel
theorem d18_12 : decode prog_10_method_12_code 12 = .ok (.aload_n 0, 1) := by decide +kernel
theorem d18_13 : decode prog_10_method_12_code 13 = .ok (.aload_n 1, 1) := by decide +kernel
theorem d18_14 : decode prog_10_method_12_code 14 = .ok (.putfield 207, 3) := by decide +kernel
theorem d18_17 : decode prog_10_method_12_code 17 = .ok (.return_, 1) := by decide +kernel
theorem pn_18 : plainName "com/example/rules_for_records/rulesforrecords/Evaluation" = true := by first | (simp [plainName, overriddenIn]; done) | decide +kernel
theorem ef_18a (m : MethodId) (a1 : Addr) (an : Int32) (ev : Addr) : entryFrame m #[(.ref a1), .null] 2 = mkF m 0 #[.val (.ref a1), .val .null] [] := by first | (simp [entryFrame, mkF, argsToLocals, Value.category]; done) | rfl
def Q18a (Z : State) (a1 : Addr) (an : Int32) (ev : Addr) (h0 : Heap) (n0 : Nat) (v : Option Value) (h : Heap) (L : List Loc) : Prop := v = none ∧ Fr n0 L ∧ Keep h0 h [a1] ∧ Fld Z h a1 "com/example/rules_for_records/rulesforrecords/Evaluation" "evaluated" "Lcom/example/rules_for_records/rulesforrecords/Evaluated;" .null ∧ Fld Z h a1 "com/example/rules_for_records/rulesforrecords/Evaluation" "annotating" "Z" (.int an)
set_option maxRecDepth 65536 in
set_option maxHeartbeats 40000000 in
theorem rm18a (l : Launch) (Z : State) (a0 : Array Value) (hw : ∀ d ∈ tables_1, d.before a0 Z = true) (ws : List Jvm.Cond) (a1 : Addr) (an : Int32) (ev : Addr) (h0 : Heap) (n0 : Nat) (Z0 : n0 ≤ h0.size) (E_a1 : Exa Z h0 a1 "com/example/rules_for_records/rulesforrecords/Evaluation") (F_evaluated_a1 : Fld Z h0 a1 "com/example/rules_for_records/rulesforrecords/Evaluation" "evaluated" "Lcom/example/rules_for_records/rulesforrecords/Evaluated;" (.ref ev)) (F_annotating_a1 : Fld Z h0 a1 "com/example/rules_for_records/rulesforrecords/Evaluation" "annotating" "Z" (.int an)) (g_a1 : n0 ≤ a1) :
    MetFree l (⟨"com/example/rules_for_records/rulesforrecords/Evaluation", "finish", "(Lcom/example/rules_for_records/rulesforrecords/Evaluated;)V"⟩ : MethodName) (head1 (Jvm.Cond.code (⟨"com/example/rules_for_records/rulesforrecords/Evaluation", "finish", "(Lcom/example/rules_for_records/rulesforrecords/Evaluated;)V"⟩ : MethodName) prog_10_method_12_code 2 none :: ws) ({ frames := 0, cells := 0, slots := 0, locals := 0 } : Room)) (fun a U => a = #[(.ref a1), .null] ∧ Z.Warmed39 U.vm ∧ U.heap = h0) (fun _ _ _ _ _ => True) (fun _ U o U' => ∃ v L, o = .returned v ∧ Q18a Z a1 an ev h0 n0 v U'.heap L ∧ FrameEnd U o U' L ({ frames := 0, cells := 0, slots := 0, locals := 0 } : Room).cells ({ frames := 0, cells := 0, slots := 0, locals := 0 } : Room).slots) := by
  refine MetFree.of_bodySF (plainFor_of_name pn_18) hisR ?_
  intro p e s m args below meth c s₁ Bd hml0 hP hK
  obtain ⟨rfl, hZ, hh⟩ := hP
  have hx := Bd.exec
  have hby := Bd.bytes
  have hlk : meth.locks = false := BodyLoose.notSynchronized Bd
  have hml : c.maxLocals = 2 := hml0
  have hown : s.vm.findClass "com/example/rules_for_records/rulesforrecords/Evaluation" = some m.cls := findClass_of_methodNamed Bd.named
  have hnm := (name_of_methodNamed Bd.named Bd.method).1
  have X0 : Stand p l e ({ frames := 0, cells := 0, slots := 0, locals := 0 } : Room) s m #[(.ref a1), .null] below meth c s₁ [] 0 0 := Stand.of_body Bd
  have e0 : s₁.heap = h0 := by rw [← hh, Bd.state]; rfl
  have N0 := Fr.nil n0
  show Gl p.tables e below (fun (o : Outcome) (U' : State) => ∃ v L, o = .returned v ∧ Q18a Z a1 an ev h0 n0 v U'.heap L ∧ FrameEnd s o U' L ({ frames := 0, cells := 0, slots := 0, locals := 0 } : Room).cells ({ frames := 0, cells := 0, slots := 0, locals := 0 } : Room).slots) _
  refine Gl.pre (fun t k => castTop (ef_18a m a1 an ev) k) ?_
  obtain ⟨PP, hPP⟩ : ∃ P : Outcome → State → Prop, P = (fun (o : Outcome) (U' : State) => ∃ v L, o = .returned v ∧ Q18a Z a1 an ev h0 n0 v U'.heap L ∧ FrameEnd s o U' L ({ frames := 0, cells := 0, slots := 0, locals := 0 } : Room).cells ({ frames := 0, cells := 0, slots := 0, locals := 0 } : Room).slots) := ⟨_, rfl⟩
  rw [← hPP]
  have K0 : Keep h0 h0 [a1] := Keep.refl h0 _
  show Gl p.tables e below PP (s₁.setTop (mkF m 0 #[.val (.ref a1), .val .null] []))
  refine Gl.pre (fun _ k => XS.aloadN X0.here hx rfl (hb hby d18_0) rfl rfl k) ?_
  show Gl p.tables e below PP (s₁.setTop (mkF m 1 #[.val (.ref a1), .val .null] [.null]))
  refine Gl.pre (fun _ k => XS.ifnullYes X0.here hx rfl (pc0 := 1) (pc' := 12) rfl (hb hby d18_1) rfl (by decide) (by decide) k) ?_
  show Gl p.tables e below PP (s₁.setTop (mkF m 12 #[.val (.ref a1), .val .null] []))
  refine Gl.pre (fun _ k => XS.aloadN X0.here hx rfl (hb hby d18_12) rfl rfl k) ?_
  show Gl p.tables e below PP (s₁.setTop (mkF m 13 #[.val (.ref a1), .val .null] [(.ref a1)]))
  refine Gl.pre (fun _ k => XS.aloadN X0.here hx rfl (hb hby d18_13) rfl rfl k) ?_
  show Gl p.tables e below PP (s₁.setTop (mkF m 14 #[.val (.ref a1), .val .null] [.null, (.ref a1)]))
  obtain ⟨T1, h1, X1, e1, W1, st1⟩ := putF X0 hx hZ hown (host := "") (Or.inl (hw _ (List.mem_of_getElem? (i := 88) rfl))) Via.refl e0 F_evaluated_a1 E_a1 (Or.inl (hw _ (List.mem_of_getElem? (i := 89) rfl))) (hw _ (List.mem_of_getElem? (i := 1) rfl)) (ty := (.object "com/example/rules_for_records/rulesforrecords/Evaluated")) (by decide) rfl rfl (g := (mkF m 14 #[.val (.ref a1), .val .null] [.null, (.ref a1)])) rfl rfl (hb hby d18_14)
  refine Gl.pre (fun _ k => st1 _ k) ?_
  have E_a1 := E_a1.wr W1
  have F_evaluated_a1 := F_evaluated_a1.same W1
  have F_annotating_a1 := F_annotating_a1.other W1 (Or.inr (slot_ne (Or.inr (hw _ (List.mem_of_getElem? (i := 82) rfl))) (Or.inl (hw _ (List.mem_of_getElem? (i := 89) rfl))) (by decide) (t := .boolean) (t' := (.object "com/example/rules_for_records/rulesforrecords/Evaluated")) (by decide) (by decide)))
  have Z1 : n0 ≤ h1.size := by rw [W1.size]; exact Z0
  have N1 := Fr.snoc X1 N0 g_a1
  have K1 := K0.wr W1 (Or.inl (List.mem_of_getElem? (i := 0) rfl))
  show Gl p.tables e below PP (T1.setTop (mkF m 17 #[.val (.ref a1), .val .null] []))
  rw [hPP]
  refine own_finV (Q := (Q18a Z a1 an ev h0 n0)) X1 hx hlk Bd.returns (hb hby d18_17) ?_ (by decide) (by decide)
  show Q18a Z a1 an ev h0 n0 _ T1.heap _
  rw [e1]
  exact ⟨rfl, N1, K1, F_evaluated_a1, F_annotating_a1⟩
theorem ef_18b (m : MethodId) (a1 : Addr) (a2 : Addr) (ev : Addr) (an : Int32) (hsa : Addr) (hsb : Addr) (hm : Addr) (ba : Addr) (bb : Addr) : entryFrame m #[(.ref a1), (.ref a2)] 2 = mkF m 0 #[.val (.ref a1), .val (.ref a2)] [] := by first | (simp [entryFrame, mkF, argsToLocals, Value.category]; done) | rfl
def Q18b (Z : State) (a1 : Addr) (a2 : Addr) (ev : Addr) (an : Int32) (hsa : Addr) (hsb : Addr) (hm : Addr) (ba : Addr) (bb : Addr) (h0 : Heap) (n0 : Nat) (v : Option Value) (h : Heap) (L : List Loc) : Prop := v = none ∧ Fr n0 L ∧ Keep h0 h [a1, a2, hm] ∧ Fld Z h a1 "com/example/rules_for_records/rulesforrecords/Evaluation" "evaluated" "Lcom/example/rules_for_records/rulesforrecords/Evaluated;" (.ref a2) ∧ Fld Z h a1 "com/example/rules_for_records/rulesforrecords/Evaluation" "annotating" "Z" (.int an)
set_option maxRecDepth 65536 in
set_option maxHeartbeats 40000000 in
theorem rm18b (l : Launch) (Z : State) (a0 : Array Value) (hw : ∀ d ∈ tables_1, d.before a0 Z = true) (ws : List Jvm.Cond) (a1 : Addr) (a2 : Addr) (ev : Addr) (an : Int32) (hsa : Addr) (hsb : Addr) (hm : Addr) (ba : Addr) (bb : Addr) (h0 : Heap) (n0 : Nat) (Z0 : n0 ≤ h0.size) (E_a1 : Exa Z h0 a1 "com/example/rules_for_records/rulesforrecords/Evaluation") (F_evaluated_a1 : Fld Z h0 a1 "com/example/rules_for_records/rulesforrecords/Evaluation" "evaluated" "Lcom/example/rules_for_records/rulesforrecords/Evaluated;" (.ref ev)) (F_annotating_a1 : Fld Z h0 a1 "com/example/rules_for_records/rulesforrecords/Evaluation" "annotating" "Z" (.int an)) (g_a1 : n0 ≤ a1) (E_a2 : Exa Z h0 a2 "com/example/rules_for_records/rulesforrecords/Evaluated") (F_names_a2 : Fld Z h0 a2 "com/example/rules_for_records/rulesforrecords/Evaluated" "names" "Ljava/util/Set;" (.ref hsa)) (F_items_a2 : Fld Z h0 a2 "com/example/rules_for_records/rulesforrecords/Evaluated" "items" "Ljava/util/BitSet;" (.ref ba)) (F_keysNamed_a2 : Fld Z h0 a2 "com/example/rules_for_records/rulesforrecords/Evaluated" "keysNamed" "Z" (.int (0 : Int32))) (F_names_ev : Fld Z h0 ev "com/example/rules_for_records/rulesforrecords/Evaluated" "names" "Ljava/util/Set;" (.ref hsb)) (F_items_ev : Fld Z h0 ev "com/example/rules_for_records/rulesforrecords/Evaluated" "items" "Ljava/util/BitSet;" (.ref bb)) (F_keysNamed_ev : Fld Z h0 ev "com/example/rules_for_records/rulesforrecords/Evaluated" "keysNamed" "Z" (.int (0 : Int32))) (E_hsa : Exa Z h0 hsa "java/util/HashSet") (E_hsb : Exa Z h0 hsb "java/util/HashSet") (F_map_hsb : Fld Z h0 hsb "java/util/HashSet" "map" "Ljava/util/HashMap;" (.ref hm)) (E_hm : Exa Z h0 hm "java/util/HashMap") (F_keySet_hm : Fld Z h0 hm "java/util/AbstractMap" "keySet" "Ljava/util/Set;" .null) (F_modCount_hm : Fld Z h0 hm "java/util/HashMap" "modCount" "I" (.int (0 : Int32))) (F_table_hm : Fld Z h0 hm "java/util/HashMap" "table" "[Ljava/util/HashMap$Node;" .null) (g_hm : n0 ≤ hm) (E_ba : Exa Z h0 ba "java/util/BitSet") (F_wordsInUse_ba : Fld Z h0 ba "java/util/BitSet" "wordsInUse" "I" (.int (0 : Int32))) (F_wordsInUse_bb : Fld Z h0 bb "java/util/BitSet" "wordsInUse" "I" (.int (0 : Int32))) (g_a2 : n0 ≤ a2) (own_ne_a2_hm : a2 ≠ hm) (own_ne_ev_hm : ev ≠ hm) (own_ne_ba_hm : ba ≠ hm) (own_ne_bb_hm : bb ≠ hm) (own_ne_ba_bb : ba ≠ bb) (SAD : Sta Z Z.heap "java/util/BitSet" "$assertionsDisabled" "Z" (.int (1 : Int32))) (O_ : Old Z n0 h0) (own_ne_a1_a2 : a1 ≠ a2) (own_ne_a1_hm : a1 ≠ hm) :
    MetFree l (⟨"com/example/rules_for_records/rulesforrecords/Evaluation", "finish", "(Lcom/example/rules_for_records/rulesforrecords/Evaluated;)V"⟩ : MethodName) (head1 (Jvm.Cond.code (⟨"com/example/rules_for_records/rulesforrecords/Evaluation", "finish", "(Lcom/example/rules_for_records/rulesforrecords/Evaluated;)V"⟩ : MethodName) prog_10_method_12_code 2 none :: ws) ({ frames := 8, cells := 2, slots := 6, locals := 104 } : Room)) (fun a U => a = #[(.ref a1), (.ref a2)] ∧ Z.Warmed39 U.vm ∧ U.heap = h0) (fun _ _ _ _ _ => True) (fun _ U o U' => ∃ v L, o = .returned v ∧ Q18b Z a1 a2 ev an hsa hsb hm ba bb h0 n0 v U'.heap L ∧ FrameEnd U o U' L ({ frames := 8, cells := 2, slots := 6, locals := 104 } : Room).cells ({ frames := 8, cells := 2, slots := 6, locals := 104 } : Room).slots) := by
  refine MetFree.of_bodySF (plainFor_of_name pn_18) hisR ?_
  intro p e s m args below meth c s₁ Bd hml0 hP hK
  obtain ⟨rfl, hZ, hh⟩ := hP
  have hx := Bd.exec
  have hby := Bd.bytes
  have hlk : meth.locks = false := BodyLoose.notSynchronized Bd
  have hml : c.maxLocals = 2 := hml0
  have hown : s.vm.findClass "com/example/rules_for_records/rulesforrecords/Evaluation" = some m.cls := findClass_of_methodNamed Bd.named
  have hnm := (name_of_methodNamed Bd.named Bd.method).1
  have X0 : Stand p l e ({ frames := 8, cells := 2, slots := 6, locals := 104 } : Room) s m #[(.ref a1), (.ref a2)] below meth c s₁ [] 0 0 := Stand.of_body Bd
  have e0 : s₁.heap = h0 := by rw [← hh, Bd.state]; rfl
  have N0 := Fr.nil n0
  show Gl p.tables e below (fun (o : Outcome) (U' : State) => ∃ v L, o = .returned v ∧ Q18b Z a1 a2 ev an hsa hsb hm ba bb h0 n0 v U'.heap L ∧ FrameEnd s o U' L ({ frames := 8, cells := 2, slots := 6, locals := 104 } : Room).cells ({ frames := 8, cells := 2, slots := 6, locals := 104 } : Room).slots) _
  refine Gl.pre (fun t k => castTop (ef_18b m a1 a2 ev an hsa hsb hm ba bb) k) ?_
  obtain ⟨PP, hPP⟩ : ∃ P : Outcome → State → Prop, P = (fun (o : Outcome) (U' : State) => ∃ v L, o = .returned v ∧ Q18b Z a1 a2 ev an hsa hsb hm ba bb h0 n0 v U'.heap L ∧ FrameEnd s o U' L ({ frames := 8, cells := 2, slots := 6, locals := 104 } : Room).cells ({ frames := 8, cells := 2, slots := 6, locals := 104 } : Room).slots) := ⟨_, rfl⟩
  rw [← hPP]
  have K0 : Keep h0 h0 [a1, a2, hm] := Keep.refl h0 _
  show Gl p.tables e below PP (s₁.setTop (mkF m 0 #[.val (.ref a1), .val (.ref a2)] []))
  refine Gl.pre (fun _ k => XS.aloadN X0.here hx rfl (hb hby d18_0) rfl rfl k) ?_
  show Gl p.tables e below PP (s₁.setTop (mkF m 1 #[.val (.ref a1), .val (.ref a2)] [(.ref a2)]))
  refine Gl.pre (fun _ k => XS.ifnullNo X0.here hx rfl (hb hby d18_1) rfl k) ?_
  show Gl p.tables e below PP (s₁.setTop (mkF m 4 #[.val (.ref a1), .val (.ref a2)] []))
  refine Gl.pre (fun _ k => XS.aloadN X0.here hx rfl (hb hby d18_4) rfl rfl k) ?_
  show Gl p.tables e below PP (s₁.setTop (mkF m 5 #[.val (.ref a1), .val (.ref a2)] [(.ref a2)]))
  refine Gl.pre (fun _ k => XS.aloadN X0.here hx rfl (hb hby d18_5) rfl rfl k) ?_
  show Gl p.tables e below PP (s₁.setTop (mkF m 6 #[.val (.ref a1), .val (.ref a2)] [(.ref a1), (.ref a2)]))
  obtain ⟨T1, X1, e1, st1⟩ := getF X0 hx hZ hown (host := "") (Or.inl (hw _ (List.mem_of_getElem? (i := 88) rfl))) Via.refl e0 F_evaluated_a1 (g := (mkF m 6 #[.val (.ref a1), .val (.ref a2)] [(.ref a1), (.ref a2)])) rfl rfl (hb hby d18_6)
  refine Gl.pre (fun _ k => st1 _ k) ?_
  show Gl p.tables e below PP (T1.setTop (mkF m 9 #[.val (.ref a1), .val (.ref a2)] [(.ref ev), (.ref a2)]))
  obtain ⟨cq2, kq2, qa2, qb2, qc2⟩ := isOf hZ e1 E_a2
  obtain ⟨_, _, ⟨T2, L2, k2, n2⟩, -, X2, ⟨Lc2, hQ2, l2, y2, z2⟩, st2⟩ := X1.virtualBack hx (y := (⟨"com/example/rules_for_records/rulesforrecords/Evaluated", "addAll", "(Lcom/example/rules_for_records/rulesforrecords/Evaluated;)V"⟩ : MethodName)) (z := (⟨"com/example/rules_for_records/rulesforrecords/Evaluated", "addAll", "(Lcom/example/rules_for_records/rulesforrecords/Evaluated;)V"⟩ : MethodName)) hown (mvT hZ (hw _ (List.mem_of_getElem? (i := 152) rfl))) (mvT hZ (hw _ (List.mem_of_getElem? (i := 153) rfl))) (notFace_of_selects (args := #[]) (mvT hZ (hw _ (List.mem_of_getElem? (i := 155) rfl)))) (mvT hZ (hw _ (List.mem_of_getElem? (i := 155) rfl))) (mvT hZ (hw _ (List.mem_of_getElem? (i := 154) rfl))) (by decide) (backOf (W := 0) (rm19 l Z a0 hw [] a2 ev hsa hsb hm ba bb h0 n0 Z0 E_a2 F_names_a2 F_items_a2 F_keysNamed_a2 F_names_ev F_items_ev F_keysNamed_ev E_hsa E_hsb F_map_hsb E_hm F_keySet_hm F_modCount_hm F_table_hm g_hm E_ba F_wordsInUse_ba F_wordsInUse_bb g_a2 own_ne_a2_hm own_ne_ev_hm own_ne_ba_hm own_ne_bb_hm own_ne_ba_bb SAD O_) hZ (hw _ (List.mem_of_getElem? (i := 156) rfl)) (hw _ (List.mem_of_getElem? (i := 97) rfl)) (by decide) (by decide)) qa2 qc2 (g := (mkF m 9 #[.val (.ref a1), .val (.ref a2)] [(.ref ev), (.ref a2)])) rfl (by rw [hml]; rfl) (Steps.refl _) (argsL := [(.ref ev)]) (rest := []) (lenOf pd_11 rfl) rfl (by show 2 * 0 + _ ≤ _; exact Nat.le_of_eq rfl) (hb hby d18_9) (fun _ _ => ⟨rfl, e1, (by decide : 0 + 2 ≤ _), (by decide : 0 + 6 ≤ _)⟩)
  dsimp only [Pt.U, Pt.locs, Pt.cells, Pt.slots] at X2 l2 y2 z2 st2 hQ2
  subst l2 y2 z2
  obtain ⟨rfl, N2q, K2⟩ := hQ2
  have N2 := Fr.app N0 N2q
  refine Gl.pre (fun _ k => st2.trans k) ?_
  have E_a1 := E_a1.keep K2
  have F_evaluated_a1 := F_evaluated_a1.keep K2 (ninS (own_ne_a1_a2) (ninS (own_ne_a1_hm) nin0))
  have F_annotating_a1 := F_annotating_a1.keep K2 (ninS (own_ne_a1_a2) (ninS (own_ne_a1_hm) nin0))
  have O_ := O_.keep K2 (allS g_a2 (allS g_hm all0))
  have Z2 : n0 ≤ T2.heap.size := Nat.le_trans Z0 K2.1
  have K2k := K0.trans K2 (allS (Or.inl (List.mem_of_getElem? (i := 1) rfl)) (allS (Or.inl (List.mem_of_getElem? (i := 2) rfl)) all0))
  show Gl p.tables e below PP (T2.setTop (mkF m 12 #[.val (.ref a1), .val (.ref a2)] []))
  refine Gl.pre (fun _ k => XS.aloadN X2.here hx rfl (hb hby d18_12) rfl rfl k) ?_
  show Gl p.tables e below PP (T2.setTop (mkF m 13 #[.val (.ref a1), .val (.ref a2)] [(.ref a1)]))
  refine Gl.pre (fun _ k => XS.aloadN X2.here hx rfl (hb hby d18_13) rfl rfl k) ?_
  show Gl p.tables e below PP (T2.setTop (mkF m 14 #[.val (.ref a1), .val (.ref a2)] [(.ref a2), (.ref a1)]))
  obtain ⟨T3, h3, X3, e3, W3, st3⟩ := putF X2 hx hZ hown (host := "") (Or.inl (hw _ (List.mem_of_getElem? (i := 88) rfl))) Via.refl rfl F_evaluated_a1 E_a1 (Or.inl (hw _ (List.mem_of_getElem? (i := 89) rfl))) (hw _ (List.mem_of_getElem? (i := 1) rfl)) (ty := (.object "com/example/rules_for_records/rulesforrecords/Evaluated")) (by decide) rfl rfl (g := (mkF m 14 #[.val (.ref a1), .val (.ref a2)] [(.ref a2), (.ref a1)])) rfl rfl (hb hby d18_14)
  refine Gl.pre (fun _ k => st3 _ k) ?_
  have E_a1 := E_a1.wr W3
  have F_evaluated_a1 := F_evaluated_a1.same W3
  have F_annotating_a1 := F_annotating_a1.other W3 (Or.inr (slot_ne (Or.inr (hw _ (List.mem_of_getElem? (i := 82) rfl))) (Or.inl (hw _ (List.mem_of_getElem? (i := 89) rfl))) (by decide) (t := .boolean) (t' := (.object "com/example/rules_for_records/rulesforrecords/Evaluated")) (by decide) (by decide)))
  have O_ := O_.wr W3 g_a1
  have Z3 : n0 ≤ h3.size := by rw [W3.size]; exact Z2
  have N3 := Fr.snoc X3 N2 g_a1
  have K3 := K2k.wr W3 (Or.inl (List.mem_of_getElem? (i := 0) rfl))
  show Gl p.tables e below PP (T3.setTop (mkF m 17 #[.val (.ref a1), .val (.ref a2)] []))
  rw [hPP]
  refine own_finV (Q := (Q18b Z a1 a2 ev an hsa hsb hm ba bb h0 n0)) X3 hx hlk Bd.returns (hb hby d18_17) ?_ (by decide) (by decide)
  show Q18b Z a1 a2 ev an hsa hsb hm ba bb h0 n0 _ T3.heap _
  rw [e3]
  exact ⟨rfl, N3, K3, F_evaluated_a1, F_annotating_a1⟩
theorem pn_0 : plainName "com/example/rules_for_records/rulesforrecords/EvaluationAppliesEveryPinLaw" = true := by first | (simp [plainName, overriddenIn]; done) | decide +kernel
theorem ef_0 (m : MethodId) (p1 : Int32) (p2 : Int32) (dc : Addr) (em : Addr) : entryFrame m #[(.int p1), (.int p2)] maxLocals = mkF m 0 #[.val (.int p1), .val (.int p2), .unset, .unset, .unset, .unset, .unset, .unset, .unset] [] := by first | (simp [entryFrame, mkF, argsToLocals, Value.category, maxLocals]; done) | rfl
def Q0 (Z : State) (p1 : Int32) (p2 : Int32) (dc : Addr) (em : Addr) (h0 : Heap) (n0 : Nat) (v : Option Value) (h : Heap) (L : List Loc) : Prop := v = some (.int (1 : Int32)) ∧ Fr n0 L
set_option maxRecDepth 65536 in
set_option maxHeartbeats 40000000 in
theorem rm0 (l : Launch) (Z : State) (a0 : Array Value) (hw : ∀ d ∈ tables_1, d.before a0 Z = true) (ws : List Jvm.Cond) (p1 : Int32) (p2 : Int32) (dc : Addr) (em : Addr) (h0 : Heap) (n0 : Nat) (Z0 : n0 ≤ h0.size) (SDC : Sta Z Z.heap "java/util/ArrayList" "DEFAULTCAPACITY_EMPTY_ELEMENTDATA" "[Ljava/lang/Object;" (.ref dc)) (SEM : Sta Z Z.heap "java/util/ImmutableCollections" "EMPTY_MAP" "Ljava/util/ImmutableCollections$MapN;" (.ref em)) (SAD : Sta Z Z.heap "java/util/BitSet" "$assertionsDisabled" "Z" (.int (1 : Int32))) (O_ : Old Z n0 h0) :
    MetFree l x (head1 (Jvm.Cond.code x code maxLocals ret :: ws) room_1) (fun a U => a = #[(.int p1), (.int p2)] ∧ Z.Warmed39 U.vm ∧ U.heap = h0) (fun _ _ _ _ _ => True) (fun _ U o U' => ∃ v L, o = .returned v ∧ Q0 Z p1 p2 dc em h0 n0 v U'.heap L ∧ FrameEnd U o U' L room_1.cells room_1.slots) := by
  refine MetFree.of_bodySF (plainFor_of_name pn_0) hisR ?_
  intro p e s m args below meth c s₁ Bd hml0 hP hK
  obtain ⟨rfl, hZ, hh⟩ := hP
  have hx := Bd.exec
  have hby := Bd.bytes
  have hlk : meth.locks = false := BodyLoose.notSynchronized Bd
  have hml : c.maxLocals = 9 := hml0
  have hown : s.vm.findClass "com/example/rules_for_records/rulesforrecords/EvaluationAppliesEveryPinLaw" = some m.cls := findClass_of_methodNamed Bd.named
  have hnm := (name_of_methodNamed Bd.named Bd.method).1
  have X0 : Stand p l e room_1 s m #[(.int p1), (.int p2)] below meth c s₁ [] 0 0 := Stand.of_body Bd
  have e0 : s₁.heap = h0 := by rw [← hh, Bd.state]; rfl
  have N0 := Fr.nil n0
  show Gl p.tables e below (fun (o : Outcome) (U' : State) => ∃ v L, o = .returned v ∧ Q0 Z p1 p2 dc em h0 n0 v U'.heap L ∧ FrameEnd s o U' L room_1.cells room_1.slots) _
  refine Gl.pre (fun t k => castTop (ef_0 m p1 p2 dc em) k) ?_
  obtain ⟨PP, hPP⟩ : ∃ P : Outcome → State → Prop, P = (fun (o : Outcome) (U' : State) => ∃ v L, o = .returned v ∧ Q0 Z p1 p2 dc em h0 n0 v U'.heap L ∧ FrameEnd s o U' L room_1.cells room_1.slots) := ⟨_, rfl⟩
  rw [← hPP]
  show Gl p.tables e below PP (s₁.setTop (mkF m 0 #[.val (.int p1), .val (.int p2), .unset, .unset, .unset, .unset, .unset, .unset, .unset] []))
  refine Gl.pre (fun _ k => XS.iloadN X0.here hx rfl (hb hby at_0) rfl k) ?_
  show Gl p.tables e below PP (s₁.setTop (mkF m 1 #[.val (.int p1), .val (.int p2), .unset, .unset, .unset, .unset, .unset, .unset, .unset] [(.int p1)]))
  refine Gl.pre (fun _ k => XS.iconst X0.here hx rfl (hb hby at_1) k) ?_
  show Gl p.tables e below PP (s₁.setTop (mkF m 2 #[.val (.int p1), .val (.int p2), .unset, .unset, .unset, .unset, .unset, .unset, .unset] [(.int (1 : Int32)), (.int p1)]))
  refine Gl.pre (fun _ k => XS.iand X0.here hx rfl (hb hby at_2) rfl k) ?_
  show Gl p.tables e below PP (s₁.setTop (mkF m 3 #[.val (.int p1), .val (.int p2), .unset, .unset, .unset, .unset, .unset, .unset, .unset] [(.int (p1 &&& (1 : Int32)))]))
  suffices J1 : Gl p.tables e below PP (s₁.setTop (mkF m 11 #[.val (.int p1), .val (.int p2), .unset, .unset, .unset, .unset, .unset, .unset, .unset] [(.int (own_pi (¬ ((p1 &&& (1 : Int32)) = (0 : Int32)))))])) by
    by_cases hd1 : (p1 &&& (1 : Int32)) = (0 : Int32)
    · rw [own_pi_nt hd1] at J1
      refine Gl.pre (fun _ k => XS.ifYes X0.here hx rfl (pc0 := 3) (pc' := 10) rfl (hb hby at_3) rfl ((if0 _ _).trans (teq hd1).1) (by decide) (by decide) k) ?_
      show Gl p.tables e below PP (s₁.setTop (mkF m 10 #[.val (.int p1), .val (.int p2), .unset, .unset, .unset, .unset, .unset, .unset, .unset] []))
      refine Gl.pre (fun _ k => XS.iconst X0.here hx rfl (hb hby at_10) k) ?_
      show Gl p.tables e below PP (s₁.setTop (mkF m 11 #[.val (.int p1), .val (.int p2), .unset, .unset, .unset, .unset, .unset, .unset, .unset] [(.int (0 : Int32))]))
      exact J1
    · rw [own_pi_nf hd1] at J1
      refine Gl.pre (fun _ k => XS.ifNo X0.here hx rfl (hb hby at_3) rfl ((if0 _ _).trans (feq hd1).1) k) ?_
      show Gl p.tables e below PP (s₁.setTop (mkF m 6 #[.val (.int p1), .val (.int p2), .unset, .unset, .unset, .unset, .unset, .unset, .unset] []))
      refine Gl.pre (fun _ k => XS.iconst X0.here hx rfl (hb hby at_6) k) ?_
      show Gl p.tables e below PP (s₁.setTop (mkF m 7 #[.val (.int p1), .val (.int p2), .unset, .unset, .unset, .unset, .unset, .unset, .unset] [(.int (1 : Int32))]))
      refine Gl.pre (fun _ k => XS.goto X0.here hx rfl (pc0 := 7) (pc' := 11) rfl (hb hby at_7) (by decide) (by decide) k) ?_
      show Gl p.tables e below PP (s₁.setTop (mkF m 11 #[.val (.int p1), .val (.int p2), .unset, .unset, .unset, .unset, .unset, .unset, .unset] [(.int (1 : Int32))]))
      exact J1
  show Gl p.tables e below PP (s₁.setTop (mkF m 11 #[.val (.int p1), .val (.int p2), .unset, .unset, .unset, .unset, .unset, .unset, .unset] [(.int (own_pi (¬ ((p1 &&& (1 : Int32)) = (0 : Int32)))))]))
  refine Gl.pre (fun _ k => XS.istoreN X0.here hx rfl (hb hby at_11) rfl (l' := #[.val (.int p1), .val (.int p2), .val (.int (own_pi (¬ ((p1 &&& (1 : Int32)) = (0 : Int32))))), .unset, .unset, .unset, .unset, .unset, .unset]) rfl k) ?_
  show Gl p.tables e below PP (s₁.setTop (mkF m 12 #[.val (.int p1), .val (.int p2), .val (.int (own_pi (¬ ((p1 &&& (1 : Int32)) = (0 : Int32))))), .unset, .unset, .unset, .unset, .unset, .unset] []))
  refine Gl.pre (fun _ k => XS.iloadN X0.here hx rfl (hb hby at_12) rfl k) ?_
  show Gl p.tables e below PP (s₁.setTop (mkF m 13 #[.val (.int p1), .val (.int p2), .val (.int (own_pi (¬ ((p1 &&& (1 : Int32)) = (0 : Int32))))), .unset, .unset, .unset, .unset, .unset, .unset] [(.int p1)]))
  refine Gl.pre (fun _ k => XS.iconst X0.here hx rfl (hb hby at_13) k) ?_
  show Gl p.tables e below PP (s₁.setTop (mkF m 14 #[.val (.int p1), .val (.int p2), .val (.int (own_pi (¬ ((p1 &&& (1 : Int32)) = (0 : Int32))))), .unset, .unset, .unset, .unset, .unset, .unset] [(.int (2 : Int32)), (.int p1)]))
  refine Gl.pre (fun _ k => XS.iand X0.here hx rfl (hb hby at_14) rfl k) ?_
  show Gl p.tables e below PP (s₁.setTop (mkF m 15 #[.val (.int p1), .val (.int p2), .val (.int (own_pi (¬ ((p1 &&& (1 : Int32)) = (0 : Int32))))), .unset, .unset, .unset, .unset, .unset, .unset] [(.int (p1 &&& (2 : Int32)))]))
  suffices J2 : Gl p.tables e below PP (s₁.setTop (mkF m 23 #[.val (.int p1), .val (.int p2), .val (.int (own_pi (¬ ((p1 &&& (1 : Int32)) = (0 : Int32))))), .unset, .unset, .unset, .unset, .unset, .unset] [(.int (own_pi (¬ ((p1 &&& (2 : Int32)) = (0 : Int32)))))])) by
    by_cases hd2 : (p1 &&& (2 : Int32)) = (0 : Int32)
    · rw [own_pi_nt hd2] at J2
      refine Gl.pre (fun _ k => XS.ifYes X0.here hx rfl (pc0 := 15) (pc' := 22) rfl (hb hby at_15) rfl ((if0 _ _).trans (teq hd2).1) (by decide) (by decide) k) ?_
      show Gl p.tables e below PP (s₁.setTop (mkF m 22 #[.val (.int p1), .val (.int p2), .val (.int (own_pi (¬ ((p1 &&& (1 : Int32)) = (0 : Int32))))), .unset, .unset, .unset, .unset, .unset, .unset] []))
      refine Gl.pre (fun _ k => XS.iconst X0.here hx rfl (hb hby at_22) k) ?_
      show Gl p.tables e below PP (s₁.setTop (mkF m 23 #[.val (.int p1), .val (.int p2), .val (.int (own_pi (¬ ((p1 &&& (1 : Int32)) = (0 : Int32))))), .unset, .unset, .unset, .unset, .unset, .unset] [(.int (0 : Int32))]))
      exact J2
    · rw [own_pi_nf hd2] at J2
      refine Gl.pre (fun _ k => XS.ifNo X0.here hx rfl (hb hby at_15) rfl ((if0 _ _).trans (feq hd2).1) k) ?_
      show Gl p.tables e below PP (s₁.setTop (mkF m 18 #[.val (.int p1), .val (.int p2), .val (.int (own_pi (¬ ((p1 &&& (1 : Int32)) = (0 : Int32))))), .unset, .unset, .unset, .unset, .unset, .unset] []))
      refine Gl.pre (fun _ k => XS.iconst X0.here hx rfl (hb hby at_18) k) ?_
      show Gl p.tables e below PP (s₁.setTop (mkF m 19 #[.val (.int p1), .val (.int p2), .val (.int (own_pi (¬ ((p1 &&& (1 : Int32)) = (0 : Int32))))), .unset, .unset, .unset, .unset, .unset, .unset] [(.int (1 : Int32))]))
      refine Gl.pre (fun _ k => XS.goto X0.here hx rfl (pc0 := 19) (pc' := 23) rfl (hb hby at_19) (by decide) (by decide) k) ?_
      show Gl p.tables e below PP (s₁.setTop (mkF m 23 #[.val (.int p1), .val (.int p2), .val (.int (own_pi (¬ ((p1 &&& (1 : Int32)) = (0 : Int32))))), .unset, .unset, .unset, .unset, .unset, .unset] [(.int (1 : Int32))]))
      exact J2
  show Gl p.tables e below PP (s₁.setTop (mkF m 23 #[.val (.int p1), .val (.int p2), .val (.int (own_pi (¬ ((p1 &&& (1 : Int32)) = (0 : Int32))))), .unset, .unset, .unset, .unset, .unset, .unset] [(.int (own_pi (¬ ((p1 &&& (2 : Int32)) = (0 : Int32)))))]))
  refine Gl.pre (fun _ k => XS.istoreN X0.here hx rfl (hb hby at_23) rfl (l' := #[.val (.int p1), .val (.int p2), .val (.int (own_pi (¬ ((p1 &&& (1 : Int32)) = (0 : Int32))))), .val (.int (own_pi (¬ ((p1 &&& (2 : Int32)) = (0 : Int32))))), .unset, .unset, .unset, .unset, .unset]) rfl k) ?_
  show Gl p.tables e below PP (s₁.setTop (mkF m 24 #[.val (.int p1), .val (.int p2), .val (.int (own_pi (¬ ((p1 &&& (1 : Int32)) = (0 : Int32))))), .val (.int (own_pi (¬ ((p1 &&& (2 : Int32)) = (0 : Int32))))), .unset, .unset, .unset, .unset, .unset] []))
  refine Gl.pre (fun _ k => XS.iloadN X0.here hx rfl (hb hby at_24) rfl k) ?_
  show Gl p.tables e below PP (s₁.setTop (mkF m 25 #[.val (.int p1), .val (.int p2), .val (.int (own_pi (¬ ((p1 &&& (1 : Int32)) = (0 : Int32))))), .val (.int (own_pi (¬ ((p1 &&& (2 : Int32)) = (0 : Int32))))), .unset, .unset, .unset, .unset, .unset] [(.int p2)]))
  refine Gl.pre (fun _ k => XS.iconst X0.here hx rfl (hb hby at_25) k) ?_
  show Gl p.tables e below PP (s₁.setTop (mkF m 26 #[.val (.int p1), .val (.int p2), .val (.int (own_pi (¬ ((p1 &&& (1 : Int32)) = (0 : Int32))))), .val (.int (own_pi (¬ ((p1 &&& (2 : Int32)) = (0 : Int32))))), .unset, .unset, .unset, .unset, .unset] [(.int (1 : Int32)), (.int p2)]))
  refine Gl.pre (fun _ k => XS.iand X0.here hx rfl (hb hby at_26) rfl k) ?_
  show Gl p.tables e below PP (s₁.setTop (mkF m 27 #[.val (.int p1), .val (.int p2), .val (.int (own_pi (¬ ((p1 &&& (1 : Int32)) = (0 : Int32))))), .val (.int (own_pi (¬ ((p1 &&& (2 : Int32)) = (0 : Int32))))), .unset, .unset, .unset, .unset, .unset] [(.int (p2 &&& (1 : Int32)))]))
  suffices J3 : Gl p.tables e below PP (s₁.setTop (mkF m 35 #[.val (.int p1), .val (.int p2), .val (.int (own_pi (¬ ((p1 &&& (1 : Int32)) = (0 : Int32))))), .val (.int (own_pi (¬ ((p1 &&& (2 : Int32)) = (0 : Int32))))), .unset, .unset, .unset, .unset, .unset] [(.int (own_pi (¬ ((p2 &&& (1 : Int32)) = (0 : Int32)))))])) by
    by_cases hd3 : (p2 &&& (1 : Int32)) = (0 : Int32)
    · rw [own_pi_nt hd3] at J3
      refine Gl.pre (fun _ k => XS.ifYes X0.here hx rfl (pc0 := 27) (pc' := 34) rfl (hb hby at_27) rfl ((if0 _ _).trans (teq hd3).1) (by decide) (by decide) k) ?_
      show Gl p.tables e below PP (s₁.setTop (mkF m 34 #[.val (.int p1), .val (.int p2), .val (.int (own_pi (¬ ((p1 &&& (1 : Int32)) = (0 : Int32))))), .val (.int (own_pi (¬ ((p1 &&& (2 : Int32)) = (0 : Int32))))), .unset, .unset, .unset, .unset, .unset] []))
      refine Gl.pre (fun _ k => XS.iconst X0.here hx rfl (hb hby at_34) k) ?_
      show Gl p.tables e below PP (s₁.setTop (mkF m 35 #[.val (.int p1), .val (.int p2), .val (.int (own_pi (¬ ((p1 &&& (1 : Int32)) = (0 : Int32))))), .val (.int (own_pi (¬ ((p1 &&& (2 : Int32)) = (0 : Int32))))), .unset, .unset, .unset, .unset, .unset] [(.int (0 : Int32))]))
      exact J3
    · rw [own_pi_nf hd3] at J3
      refine Gl.pre (fun _ k => XS.ifNo X0.here hx rfl (hb hby at_27) rfl ((if0 _ _).trans (feq hd3).1) k) ?_
      show Gl p.tables e below PP (s₁.setTop (mkF m 30 #[.val (.int p1), .val (.int p2), .val (.int (own_pi (¬ ((p1 &&& (1 : Int32)) = (0 : Int32))))), .val (.int (own_pi (¬ ((p1 &&& (2 : Int32)) = (0 : Int32))))), .unset, .unset, .unset, .unset, .unset] []))
      refine Gl.pre (fun _ k => XS.iconst X0.here hx rfl (hb hby at_30) k) ?_
      show Gl p.tables e below PP (s₁.setTop (mkF m 31 #[.val (.int p1), .val (.int p2), .val (.int (own_pi (¬ ((p1 &&& (1 : Int32)) = (0 : Int32))))), .val (.int (own_pi (¬ ((p1 &&& (2 : Int32)) = (0 : Int32))))), .unset, .unset, .unset, .unset, .unset] [(.int (1 : Int32))]))
      refine Gl.pre (fun _ k => XS.goto X0.here hx rfl (pc0 := 31) (pc' := 35) rfl (hb hby at_31) (by decide) (by decide) k) ?_
      show Gl p.tables e below PP (s₁.setTop (mkF m 35 #[.val (.int p1), .val (.int p2), .val (.int (own_pi (¬ ((p1 &&& (1 : Int32)) = (0 : Int32))))), .val (.int (own_pi (¬ ((p1 &&& (2 : Int32)) = (0 : Int32))))), .unset, .unset, .unset, .unset, .unset] [(.int (1 : Int32))]))
      exact J3
  show Gl p.tables e below PP (s₁.setTop (mkF m 35 #[.val (.int p1), .val (.int p2), .val (.int (own_pi (¬ ((p1 &&& (1 : Int32)) = (0 : Int32))))), .val (.int (own_pi (¬ ((p1 &&& (2 : Int32)) = (0 : Int32))))), .unset, .unset, .unset, .unset, .unset] [(.int (own_pi (¬ ((p2 &&& (1 : Int32)) = (0 : Int32)))))]))
  refine Gl.pre (fun _ k => XS.istore X0.here hx rfl (hb hby at_35) rfl (l' := #[.val (.int p1), .val (.int p2), .val (.int (own_pi (¬ ((p1 &&& (1 : Int32)) = (0 : Int32))))), .val (.int (own_pi (¬ ((p1 &&& (2 : Int32)) = (0 : Int32))))), .val (.int (own_pi (¬ ((p2 &&& (1 : Int32)) = (0 : Int32))))), .unset, .unset, .unset, .unset]) rfl k) ?_
  show Gl p.tables e below PP (s₁.setTop (mkF m 37 #[.val (.int p1), .val (.int p2), .val (.int (own_pi (¬ ((p1 &&& (1 : Int32)) = (0 : Int32))))), .val (.int (own_pi (¬ ((p1 &&& (2 : Int32)) = (0 : Int32))))), .val (.int (own_pi (¬ ((p2 &&& (1 : Int32)) = (0 : Int32))))), .unset, .unset, .unset, .unset] []))
  obtain ⟨T4, h4, X4, e4, E4, A4, D4, -, st4⟩ := newO X0 hx hZ hown (hw _ (List.mem_of_getElem? (i := 0) rfl)) (hw _ (List.mem_of_getElem? (i := 1) rfl)) (hw _ (List.mem_of_getElem? (i := 2) rfl)) e0 (g := (mkF m 37 #[.val (.int p1), .val (.int p2), .val (.int (own_pi (¬ ((p1 &&& (1 : Int32)) = (0 : Int32))))), .val (.int (own_pi (¬ ((p1 &&& (2 : Int32)) = (0 : Int32))))), .val (.int (own_pi (¬ ((p2 &&& (1 : Int32)) = (0 : Int32))))), .unset, .unset, .unset, .unset] [])) rfl (hb hby at_37) (by decide) (by decide)
  obtain ⟨b4, g4⟩ : ∃ z, z = h0.size := ⟨_, rfl⟩
  rw [← g4] at A4 D4 st4
  refine Gl.pre (fun _ k => st4 _ k) ?_
  have g_b4 : n0 ≤ b4 := Nat.le_trans Z0 (Nat.le_of_eq g4.symm)
  have O_ := O_.ext E4
  have Z4 : n0 ≤ h4.size := Nat.le_trans Z0 E4.1
  have E_b4 := A4
  have F_errors_b4 : Fld Z h4 b4 "com/example/rules_for_records/rulesforrecords/Evaluation" "errors" "Ljava/util/List;" .null := D4 (Or.inr (hw _ (List.mem_of_getElem? (i := 34) rfl))) (ty := (.object "java/util/List")) (by decide)
  have F_secrets_b4 : Fld Z h4 b4 "com/example/rules_for_records/rulesforrecords/Evaluation" "secrets" "Ljava/util/List;" .null := D4 (Or.inr (hw _ (List.mem_of_getElem? (i := 36) rfl))) (ty := (.object "java/util/List")) (by decide)
  have F_notes_b4 : Fld Z h4 b4 "com/example/rules_for_records/rulesforrecords/Evaluation" "notes" "Ljava/util/List;" .null := D4 (Or.inr (hw _ (List.mem_of_getElem? (i := 38) rfl))) (ty := (.object "java/util/List")) (by decide)
  have F_scope_b4 : Fld Z h4 b4 "com/example/rules_for_records/rulesforrecords/Evaluation" "scope" "Ljava/util/Map;" .null := D4 (Or.inl (hw _ (List.mem_of_getElem? (i := 46) rfl))) (ty := (.object "java/util/Map")) (by decide)
  have F_outerScopes_b4 : Fld Z h4 b4 "com/example/rules_for_records/rulesforrecords/Evaluation" "outerScopes" "Ljava/util/Deque;" .null := D4 (Or.inr (hw _ (List.mem_of_getElem? (i := 60) rfl))) (ty := (.object "java/util/Deque")) (by decide)
  have F_outcomes_b4 : Fld Z h4 b4 "com/example/rules_for_records/rulesforrecords/Evaluation" "outcomes" "Ljava/util/Map;" .null := D4 (Or.inr (hw _ (List.mem_of_getElem? (i := 78) rfl))) (ty := (.object "java/util/Map")) (by decide)
  have F_configuring_b4 : Fld Z h4 b4 "com/example/rules_for_records/rulesforrecords/Evaluation" "configuring" "Z" (.int (0 : Int32)) := D4 (Or.inr (hw _ (List.mem_of_getElem? (i := 80) rfl))) (ty := .boolean) (by decide)
  have F_annotating_b4 : Fld Z h4 b4 "com/example/rules_for_records/rulesforrecords/Evaluation" "annotating" "Z" (.int (0 : Int32)) := D4 (Or.inr (hw _ (List.mem_of_getElem? (i := 82) rfl))) (ty := .boolean) (by decide)
  have F_evaluated_b4 : Fld Z h4 b4 "com/example/rules_for_records/rulesforrecords/Evaluation" "evaluated" "Lcom/example/rules_for_records/rulesforrecords/Evaluated;" .null := D4 (Or.inl (hw _ (List.mem_of_getElem? (i := 89) rfl))) (ty := (.object "com/example/rules_for_records/rulesforrecords/Evaluated")) (by decide)
  show Gl p.tables e below PP (T4.setTop (mkF m 40 #[.val (.int p1), .val (.int p2), .val (.int (own_pi (¬ ((p1 &&& (1 : Int32)) = (0 : Int32))))), .val (.int (own_pi (¬ ((p1 &&& (2 : Int32)) = (0 : Int32))))), .val (.int (own_pi (¬ ((p2 &&& (1 : Int32)) = (0 : Int32))))), .unset, .unset, .unset, .unset] [(.ref b4)]))
  refine Gl.pre (fun _ k => XS.dup X4.here hx rfl (hb hby at_40) rfl rfl k) ?_
  show Gl p.tables e below PP (T4.setTop (mkF m 41 #[.val (.int p1), .val (.int p2), .val (.int (own_pi (¬ ((p1 &&& (1 : Int32)) = (0 : Int32))))), .val (.int (own_pi (¬ ((p1 &&& (2 : Int32)) = (0 : Int32))))), .val (.int (own_pi (¬ ((p2 &&& (1 : Int32)) = (0 : Int32))))), .unset, .unset, .unset, .unset] [(.ref b4), (.ref b4)]))
  refine Gl.pre (fun _ k => XS.iloadN X4.here hx rfl (hb hby at_41) rfl k) ?_
  show Gl p.tables e below PP (T4.setTop (mkF m 42 #[.val (.int p1), .val (.int p2), .val (.int (own_pi (¬ ((p1 &&& (1 : Int32)) = (0 : Int32))))), .val (.int (own_pi (¬ ((p1 &&& (2 : Int32)) = (0 : Int32))))), .val (.int (own_pi (¬ ((p2 &&& (1 : Int32)) = (0 : Int32))))), .unset, .unset, .unset, .unset] [(.int (own_pi (¬ ((p1 &&& (1 : Int32)) = (0 : Int32))))), (.ref b4), (.ref b4)]))
  refine Gl.pre (fun _ k => XS.iloadN X4.here hx rfl (hb hby at_42) rfl k) ?_
  show Gl p.tables e below PP (T4.setTop (mkF m 43 #[.val (.int p1), .val (.int p2), .val (.int (own_pi (¬ ((p1 &&& (1 : Int32)) = (0 : Int32))))), .val (.int (own_pi (¬ ((p1 &&& (2 : Int32)) = (0 : Int32))))), .val (.int (own_pi (¬ ((p2 &&& (1 : Int32)) = (0 : Int32))))), .unset, .unset, .unset, .unset] [(.int (own_pi (¬ ((p1 &&& (2 : Int32)) = (0 : Int32))))), (.int (own_pi (¬ ((p1 &&& (1 : Int32)) = (0 : Int32))))), (.ref b4), (.ref b4)]))
  obtain ⟨_, _, ⟨T5, L5, k5, n5⟩, -, X5, ⟨Lc5, hQ5, l5, y5, z5⟩, st5⟩ := X4.specialBack hx (y := (⟨"com/example/rules_for_records/rulesforrecords/Evaluation", "<init>", "(ZZ)V"⟩ : MethodName)) rfl hown (mvT hZ (hw _ (List.mem_of_getElem? (i := 3) rfl))) (mvT hZ (hw _ (List.mem_of_getElem? (i := 4) rfl))) (mvT hZ (hw _ (List.mem_of_getElem? (i := 5) rfl))) (by decide) (backOf (W := 1) (rm1 l Z a0 hw [] b4 (own_pi (¬ ((p1 &&& (1 : Int32)) = (0 : Int32)))) (own_pi (¬ ((p1 &&& (2 : Int32)) = (0 : Int32)))) dc em h4 n0 Z4 E_b4 F_errors_b4 F_secrets_b4 F_notes_b4 F_scope_b4 F_outerScopes_b4 F_outcomes_b4 F_configuring_b4 F_annotating_b4 F_evaluated_b4 g_b4 own_pi01 own_pi01 SDC SEM O_) hZ (hw _ (List.mem_of_getElem? (i := 5) rfl)) (hw _ (List.mem_of_getElem? (i := 2) rfl)) (by decide) (by decide)) (g := (mkF m 43 #[.val (.int p1), .val (.int p2), .val (.int (own_pi (¬ ((p1 &&& (1 : Int32)) = (0 : Int32))))), .val (.int (own_pi (¬ ((p1 &&& (2 : Int32)) = (0 : Int32))))), .val (.int (own_pi (¬ ((p2 &&& (1 : Int32)) = (0 : Int32))))), .unset, .unset, .unset, .unset] [(.int (own_pi (¬ ((p1 &&& (2 : Int32)) = (0 : Int32))))), (.int (own_pi (¬ ((p1 &&& (1 : Int32)) = (0 : Int32))))), (.ref b4), (.ref b4)])) rfl (by rw [hml]; rfl) (Steps.refl _) (a := b4) (argsL := [(.int (own_pi (¬ ((p1 &&& (1 : Int32)) = (0 : Int32))))), (.int (own_pi (¬ ((p1 &&& (2 : Int32)) = (0 : Int32)))))]) (rest := [(.ref b4)]) (lenOf pd_12 rfl) rfl (by show 2 * 0 + _ ≤ _; exact Nat.le_of_eq rfl) (hb hby at_43) (fun _ _ => ⟨rfl, e4, (by decide : 1 + 6 ≤ _), (by decide : 9 + 37 ≤ _)⟩)
  dsimp only [Pt.U, Pt.locs, Pt.cells, Pt.slots] at X5 l5 y5 z5 st5 hQ5
  subst l5 y5 z5
  obtain ⟨rfl, N5q, K5, x5_0, x5_1⟩ := hQ5
  have N5 := Fr.app N0 N5q
  refine Gl.pre (fun _ k => st5.trans k) ?_
  have O_ := O_.keep K5 (allS g_b4 all0)
  have E_b4 := E_b4.keep K5
  have Z5 : n0 ≤ T5.heap.size := Nat.le_trans Z4 K5.1
  have F_evaluated_b4 := x5_0
  have F_annotating_b4 := x5_1
  show Gl p.tables e below PP (T5.setTop (mkF m 46 #[.val (.int p1), .val (.int p2), .val (.int (own_pi (¬ ((p1 &&& (1 : Int32)) = (0 : Int32))))), .val (.int (own_pi (¬ ((p1 &&& (2 : Int32)) = (0 : Int32))))), .val (.int (own_pi (¬ ((p2 &&& (1 : Int32)) = (0 : Int32))))), .unset, .unset, .unset, .unset] [(.ref b4)]))
  refine Gl.pre (fun _ k => XS.astore X5.here hx rfl (hb hby at_46) rfl rfl (l' := #[.val (.int p1), .val (.int p2), .val (.int (own_pi (¬ ((p1 &&& (1 : Int32)) = (0 : Int32))))), .val (.int (own_pi (¬ ((p1 &&& (2 : Int32)) = (0 : Int32))))), .val (.int (own_pi (¬ ((p2 &&& (1 : Int32)) = (0 : Int32))))), .val (.ref b4), .unset, .unset, .unset]) rfl k) ?_
  show Gl p.tables e below PP (T5.setTop (mkF m 48 #[.val (.int p1), .val (.int p2), .val (.int (own_pi (¬ ((p1 &&& (1 : Int32)) = (0 : Int32))))), .val (.int (own_pi (¬ ((p1 &&& (2 : Int32)) = (0 : Int32))))), .val (.int (own_pi (¬ ((p2 &&& (1 : Int32)) = (0 : Int32))))), .val (.ref b4), .unset, .unset, .unset] []))
  refine Gl.pre (fun _ k => XS.aload X5.here hx rfl (hb hby at_48) rfl rfl k) ?_
  show Gl p.tables e below PP (T5.setTop (mkF m 50 #[.val (.int p1), .val (.int p2), .val (.int (own_pi (¬ ((p1 &&& (1 : Int32)) = (0 : Int32))))), .val (.int (own_pi (¬ ((p1 &&& (2 : Int32)) = (0 : Int32))))), .val (.int (own_pi (¬ ((p2 &&& (1 : Int32)) = (0 : Int32))))), .val (.ref b4), .unset, .unset, .unset] [(.ref b4)]))
  obtain ⟨cq6, kq6, qa6, qb6, qc6⟩ := isOf hZ rfl E_b4
  obtain ⟨_, _, ⟨T6, L6, k6, n6⟩, -, X6, ⟨Lc6, hQ6, l6, y6, z6⟩, st6⟩ := X5.virtualBack hx (y := (⟨"com/example/rules_for_records/rulesforrecords/Evaluation", "appliesEvery", "()Z"⟩ : MethodName)) (z := (⟨"com/example/rules_for_records/rulesforrecords/Evaluation", "appliesEvery", "()Z"⟩ : MethodName)) hown (mvT hZ (hw _ (List.mem_of_getElem? (i := 83) rfl))) (mvT hZ (hw _ (List.mem_of_getElem? (i := 84) rfl))) (notFace_of_selects (args := #[]) (mvT hZ (hw _ (List.mem_of_getElem? (i := 86) rfl)))) (mvT hZ (hw _ (List.mem_of_getElem? (i := 86) rfl))) (mvT hZ (hw _ (List.mem_of_getElem? (i := 85) rfl))) (by decide) (backOf (W := 0) (rm10a l Z a0 hw [] b4 (own_pi (¬ ((p1 &&& (2 : Int32)) = (0 : Int32)))) T5.heap n0 Z5 F_evaluated_b4 F_annotating_b4) hZ (hw _ (List.mem_of_getElem? (i := 87) rfl)) (hw _ (List.mem_of_getElem? (i := 2) rfl)) (by decide) (by decide)) qa6 qc6 (g := (mkF m 50 #[.val (.int p1), .val (.int p2), .val (.int (own_pi (¬ ((p1 &&& (1 : Int32)) = (0 : Int32))))), .val (.int (own_pi (¬ ((p1 &&& (2 : Int32)) = (0 : Int32))))), .val (.int (own_pi (¬ ((p2 &&& (1 : Int32)) = (0 : Int32))))), .val (.ref b4), .unset, .unset, .unset] [(.ref b4)])) rfl (by rw [hml]; rfl) (Steps.refl _) (argsL := []) (rest := []) (lenOf pd_7 rfl) rfl (by show 2 * 0 + _ ≤ _; exact Nat.le_of_eq rfl) (hb hby at_50) (fun _ _ => ⟨rfl, rfl, (by decide : 7 + 0 ≤ _), (by decide : 46 + 0 ≤ _)⟩)
  dsimp only [Pt.U, Pt.locs, Pt.cells, Pt.slots] at X6 l6 y6 z6 st6 hQ6
  subst l6 y6 z6
  obtain ⟨rfl, N6q, e6⟩ := hQ6
  have N6 := Fr.app N5 N6q
  refine Gl.pre (fun _ k => st6.trans k) ?_
  show Gl p.tables e below PP (T6.setTop (mkF m 53 #[.val (.int p1), .val (.int p2), .val (.int (own_pi (¬ ((p1 &&& (1 : Int32)) = (0 : Int32))))), .val (.int (own_pi (¬ ((p1 &&& (2 : Int32)) = (0 : Int32))))), .val (.int (own_pi (¬ ((p2 &&& (1 : Int32)) = (0 : Int32))))), .val (.ref b4), .unset, .unset, .unset] [(.int (own_pi (¬ ((own_pi (¬ ((p1 &&& (2 : Int32)) = (0 : Int32)))) = (0 : Int32)))))]))
  refine Gl.pre (fun _ k => XS.iloadN X6.here hx rfl (hb hby at_53) rfl k) ?_
  show Gl p.tables e below PP (T6.setTop (mkF m 54 #[.val (.int p1), .val (.int p2), .val (.int (own_pi (¬ ((p1 &&& (1 : Int32)) = (0 : Int32))))), .val (.int (own_pi (¬ ((p1 &&& (2 : Int32)) = (0 : Int32))))), .val (.int (own_pi (¬ ((p2 &&& (1 : Int32)) = (0 : Int32))))), .val (.ref b4), .unset, .unset, .unset] [(.int (own_pi (¬ ((p1 &&& (2 : Int32)) = (0 : Int32))))), (.int (own_pi (¬ ((own_pi (¬ ((p1 &&& (2 : Int32)) = (0 : Int32)))) = (0 : Int32)))))]))
  refine Gl.pre (fun _ k => XS.icmpNo X6.here hx rfl (hb hby at_54) rfl (teq (show (own_pi (¬ ((own_pi (¬ ((p1 &&& (2 : Int32)) = (0 : Int32)))) = (0 : Int32)))) = (own_pi (¬ ((p1 &&& (2 : Int32)) = (0 : Int32)))) from (own_pi_eq own_piN))).2 k) ?_
  show Gl p.tables e below PP (T6.setTop (mkF m 57 #[.val (.int p1), .val (.int p2), .val (.int (own_pi (¬ ((p1 &&& (1 : Int32)) = (0 : Int32))))), .val (.int (own_pi (¬ ((p1 &&& (2 : Int32)) = (0 : Int32))))), .val (.int (own_pi (¬ ((p2 &&& (1 : Int32)) = (0 : Int32))))), .val (.ref b4), .unset, .unset, .unset] []))
  refine Gl.pre (fun _ k => XS.iconst X6.here hx rfl (hb hby at_57) k) ?_
  show Gl p.tables e below PP (T6.setTop (mkF m 58 #[.val (.int p1), .val (.int p2), .val (.int (own_pi (¬ ((p1 &&& (1 : Int32)) = (0 : Int32))))), .val (.int (own_pi (¬ ((p1 &&& (2 : Int32)) = (0 : Int32))))), .val (.int (own_pi (¬ ((p2 &&& (1 : Int32)) = (0 : Int32))))), .val (.ref b4), .unset, .unset, .unset] [(.int (1 : Int32))]))
  refine Gl.pre (fun _ k => XS.goto X6.here hx rfl (pc0 := 58) (pc' := 62) rfl (hb hby at_58) (by decide) (by decide) k) ?_
  show Gl p.tables e below PP (T6.setTop (mkF m 62 #[.val (.int p1), .val (.int p2), .val (.int (own_pi (¬ ((p1 &&& (1 : Int32)) = (0 : Int32))))), .val (.int (own_pi (¬ ((p1 &&& (2 : Int32)) = (0 : Int32))))), .val (.int (own_pi (¬ ((p2 &&& (1 : Int32)) = (0 : Int32))))), .val (.ref b4), .unset, .unset, .unset] [(.int (1 : Int32))]))
  refine Gl.pre (fun _ k => XS.istore X6.here hx rfl (hb hby at_62) rfl (l' := #[.val (.int p1), .val (.int p2), .val (.int (own_pi (¬ ((p1 &&& (1 : Int32)) = (0 : Int32))))), .val (.int (own_pi (¬ ((p1 &&& (2 : Int32)) = (0 : Int32))))), .val (.int (own_pi (¬ ((p2 &&& (1 : Int32)) = (0 : Int32))))), .val (.ref b4), .val (.int (1 : Int32)), .unset, .unset]) rfl k) ?_
  show Gl p.tables e below PP (T6.setTop (mkF m 64 #[.val (.int p1), .val (.int p2), .val (.int (own_pi (¬ ((p1 &&& (1 : Int32)) = (0 : Int32))))), .val (.int (own_pi (¬ ((p1 &&& (2 : Int32)) = (0 : Int32))))), .val (.int (own_pi (¬ ((p2 &&& (1 : Int32)) = (0 : Int32))))), .val (.ref b4), .val (.int (1 : Int32)), .unset, .unset] []))
  refine Gl.pre (fun _ k => XS.aload X6.here hx rfl (hb hby at_64) rfl rfl k) ?_
  show Gl p.tables e below PP (T6.setTop (mkF m 66 #[.val (.int p1), .val (.int p2), .val (.int (own_pi (¬ ((p1 &&& (1 : Int32)) = (0 : Int32))))), .val (.int (own_pi (¬ ((p1 &&& (2 : Int32)) = (0 : Int32))))), .val (.int (own_pi (¬ ((p2 &&& (1 : Int32)) = (0 : Int32))))), .val (.ref b4), .val (.int (1 : Int32)), .unset, .unset] [(.ref b4)]))
  obtain ⟨cq7, kq7, qa7, qb7, qc7⟩ := isOf hZ e6 E_b4
  obtain ⟨_, _, ⟨T7, L7, k7, n7⟩, -, X7, ⟨Lc7, hQ7, l7, y7, z7⟩, st7⟩ := X6.virtualBack hx (y := (⟨"com/example/rules_for_records/rulesforrecords/Evaluation", "gather", "()Lcom/example/rules_for_records/rulesforrecords/Evaluated;"⟩ : MethodName)) (z := (⟨"com/example/rules_for_records/rulesforrecords/Evaluation", "gather", "()Lcom/example/rules_for_records/rulesforrecords/Evaluated;"⟩ : MethodName)) hown (mvT hZ (hw _ (List.mem_of_getElem? (i := 90) rfl))) (mvT hZ (hw _ (List.mem_of_getElem? (i := 91) rfl))) (notFace_of_selects (args := #[]) (mvT hZ (hw _ (List.mem_of_getElem? (i := 93) rfl)))) (mvT hZ (hw _ (List.mem_of_getElem? (i := 93) rfl))) (mvT hZ (hw _ (List.mem_of_getElem? (i := 92) rfl))) (by decide) (backOf (W := 0) (rm11a l Z a0 hw [] b4 (own_pi (¬ ((p1 &&& (2 : Int32)) = (0 : Int32)))) T5.heap n0 Z5 E_b4 F_evaluated_b4 F_annotating_b4 g_b4) hZ (hw _ (List.mem_of_getElem? (i := 94) rfl)) (hw _ (List.mem_of_getElem? (i := 2) rfl)) (by decide) (by decide)) qa7 qc7 (g := (mkF m 66 #[.val (.int p1), .val (.int p2), .val (.int (own_pi (¬ ((p1 &&& (1 : Int32)) = (0 : Int32))))), .val (.int (own_pi (¬ ((p1 &&& (2 : Int32)) = (0 : Int32))))), .val (.int (own_pi (¬ ((p2 &&& (1 : Int32)) = (0 : Int32))))), .val (.ref b4), .val (.int (1 : Int32)), .unset, .unset] [(.ref b4)])) rfl (by rw [hml]; rfl) (Steps.refl _) (argsL := []) (rest := []) (lenOf pd_13 rfl) rfl (by show 2 * 0 + _ ≤ _; exact Nat.le_of_eq rfl) (hb hby at_66) (fun _ _ => ⟨rfl, e6, (by decide : 7 + 5 ≤ _), (by decide : 46 + 16 ≤ _)⟩)
  dsimp only [Pt.U, Pt.locs, Pt.cells, Pt.slots] at X7 l7 y7 z7 st7 hQ7
  subst l7 y7 z7
  obtain ⟨od7, oh7, om7, ob7, rfl, N7q, K7, hzod7, hzoh7, hzom7, hzob7, x7_0, x7_1, x7_2, x7_3, x7_4, x7_5, x7_6, x7_7, x7_8, x7_9, x7_10, x7_11, x7_12, x7_13, x7_14, x7_15⟩ := hQ7
  have N7 := Fr.app N6 N7q
  refine Gl.pre (fun _ k => st7.trans k) ?_
  have own_ne_b4_od7 : b4 ≠ od7 := Nat.ne_of_lt (Nat.lt_of_lt_of_le E_b4.lt hzod7)
  have own_ne_od7_b4 := own_ne_b4_od7.symm
  have g_od7 : n0 ≤ od7 := Nat.le_trans Z5 hzod7
  have own_ne_b4_oh7 : b4 ≠ oh7 := Nat.ne_of_lt (Nat.lt_of_lt_of_le E_b4.lt hzoh7)
  have own_ne_oh7_b4 := own_ne_b4_oh7.symm
  have g_oh7 : n0 ≤ oh7 := Nat.le_trans Z5 hzoh7
  have own_ne_b4_om7 : b4 ≠ om7 := Nat.ne_of_lt (Nat.lt_of_lt_of_le E_b4.lt hzom7)
  have own_ne_om7_b4 := own_ne_b4_om7.symm
  have g_om7 : n0 ≤ om7 := Nat.le_trans Z5 hzom7
  have own_ne_b4_ob7 : b4 ≠ ob7 := Nat.ne_of_lt (Nat.lt_of_lt_of_le E_b4.lt hzob7)
  have own_ne_ob7_b4 := own_ne_b4_ob7.symm
  have g_ob7 : n0 ≤ ob7 := Nat.le_trans Z5 hzob7
  have O_ := O_.keep K7 (allS g_b4 all0)
  have E_b4 := E_b4.keep K7
  have Z7 : n0 ≤ T7.heap.size := Nat.le_trans Z5 K7.1
  have F_evaluated_b4 := x7_0
  have F_annotating_b4 := x7_1
  have E_od7 := x7_2
  have own_ne_od7_om7 := x7_3
  have own_ne_om7_od7 := own_ne_od7_om7.symm
  have F_names_od7 := x7_4
  have F_items_od7 := x7_5
  have F_keysNamed_od7 := x7_6
  have E_oh7 := x7_7
  have F_map_oh7 := x7_8
  have E_om7 := x7_9
  have F_keySet_om7 := x7_10
  have F_modCount_om7 := x7_11
  have F_table_om7 := x7_12
  have E_ob7 := x7_13
  have F_wordsInUse_ob7 := x7_14
  have own_ne_ob7_om7 := x7_15
  have own_ne_om7_ob7 := own_ne_ob7_om7.symm
  show Gl p.tables e below PP (T7.setTop (mkF m 69 #[.val (.int p1), .val (.int p2), .val (.int (own_pi (¬ ((p1 &&& (1 : Int32)) = (0 : Int32))))), .val (.int (own_pi (¬ ((p1 &&& (2 : Int32)) = (0 : Int32))))), .val (.int (own_pi (¬ ((p2 &&& (1 : Int32)) = (0 : Int32))))), .val (.ref b4), .val (.int (1 : Int32)), .unset, .unset] [.null]))
  refine Gl.pre (fun _ k => XS.astore X7.here hx rfl (hb hby at_69) rfl rfl (l' := #[.val (.int p1), .val (.int p2), .val (.int (own_pi (¬ ((p1 &&& (1 : Int32)) = (0 : Int32))))), .val (.int (own_pi (¬ ((p1 &&& (2 : Int32)) = (0 : Int32))))), .val (.int (own_pi (¬ ((p2 &&& (1 : Int32)) = (0 : Int32))))), .val (.ref b4), .val (.int (1 : Int32)), .val .null, .unset]) rfl k) ?_
  show Gl p.tables e below PP (T7.setTop (mkF m 71 #[.val (.int p1), .val (.int p2), .val (.int (own_pi (¬ ((p1 &&& (1 : Int32)) = (0 : Int32))))), .val (.int (own_pi (¬ ((p1 &&& (2 : Int32)) = (0 : Int32))))), .val (.int (own_pi (¬ ((p2 &&& (1 : Int32)) = (0 : Int32))))), .val (.ref b4), .val (.int (1 : Int32)), .val .null, .unset] []))
  refine Gl.pre (fun _ k => XS.iload X7.here hx rfl (hb hby at_71) rfl k) ?_
  show Gl p.tables e below PP (T7.setTop (mkF m 73 #[.val (.int p1), .val (.int p2), .val (.int (own_pi (¬ ((p1 &&& (1 : Int32)) = (0 : Int32))))), .val (.int (own_pi (¬ ((p1 &&& (2 : Int32)) = (0 : Int32))))), .val (.int (own_pi (¬ ((p2 &&& (1 : Int32)) = (0 : Int32))))), .val (.ref b4), .val (.int (1 : Int32)), .val .null, .unset] [(.int (1 : Int32))]))
  refine Gl.pre (fun _ k => XS.ifNo X7.here hx rfl (hb hby at_73) rfl ((if0 _ _).trans (feq (show ¬ ((1 : Int32) = (0 : Int32)) from (by decide))).1) k) ?_
  show Gl p.tables e below PP (T7.setTop (mkF m 76 #[.val (.int p1), .val (.int p2), .val (.int (own_pi (¬ ((p1 &&& (1 : Int32)) = (0 : Int32))))), .val (.int (own_pi (¬ ((p1 &&& (2 : Int32)) = (0 : Int32))))), .val (.int (own_pi (¬ ((p2 &&& (1 : Int32)) = (0 : Int32))))), .val (.ref b4), .val (.int (1 : Int32)), .val .null, .unset] []))
  refine Gl.pre (fun _ k => XS.aload X7.here hx rfl (hb hby at_76) rfl rfl k) ?_
  show Gl p.tables e below PP (T7.setTop (mkF m 78 #[.val (.int p1), .val (.int p2), .val (.int (own_pi (¬ ((p1 &&& (1 : Int32)) = (0 : Int32))))), .val (.int (own_pi (¬ ((p1 &&& (2 : Int32)) = (0 : Int32))))), .val (.int (own_pi (¬ ((p2 &&& (1 : Int32)) = (0 : Int32))))), .val (.ref b4), .val (.int (1 : Int32)), .val .null, .unset] [.null]))
  refine Gl.pre (fun _ k => XS.ifnonnullNo X7.here hx rfl (hb hby at_78) rfl k) ?_
  show Gl p.tables e below PP (T7.setTop (mkF m 81 #[.val (.int p1), .val (.int p2), .val (.int (own_pi (¬ ((p1 &&& (1 : Int32)) = (0 : Int32))))), .val (.int (own_pi (¬ ((p1 &&& (2 : Int32)) = (0 : Int32))))), .val (.int (own_pi (¬ ((p2 &&& (1 : Int32)) = (0 : Int32))))), .val (.ref b4), .val (.int (1 : Int32)), .val .null, .unset] []))
  refine Gl.pre (fun _ k => XS.aload X7.here hx rfl (hb hby at_81) rfl rfl k) ?_
  show Gl p.tables e below PP (T7.setTop (mkF m 83 #[.val (.int p1), .val (.int p2), .val (.int (own_pi (¬ ((p1 &&& (1 : Int32)) = (0 : Int32))))), .val (.int (own_pi (¬ ((p1 &&& (2 : Int32)) = (0 : Int32))))), .val (.int (own_pi (¬ ((p2 &&& (1 : Int32)) = (0 : Int32))))), .val (.ref b4), .val (.int (1 : Int32)), .val .null, .unset] [(.ref b4)]))
  obtain ⟨cq8, kq8, qa8, qb8, qc8⟩ := isOf hZ rfl E_b4
  obtain ⟨_, _, ⟨T8, L8, k8, n8⟩, -, X8, ⟨Lc8, hQ8, l8, y8, z8⟩, st8⟩ := X7.virtualBack hx (y := (⟨"com/example/rules_for_records/rulesforrecords/Evaluation", "appliesEvery", "()Z"⟩ : MethodName)) (z := (⟨"com/example/rules_for_records/rulesforrecords/Evaluation", "appliesEvery", "()Z"⟩ : MethodName)) hown (mvT hZ (hw _ (List.mem_of_getElem? (i := 83) rfl))) (mvT hZ (hw _ (List.mem_of_getElem? (i := 84) rfl))) (notFace_of_selects (args := #[]) (mvT hZ (hw _ (List.mem_of_getElem? (i := 86) rfl)))) (mvT hZ (hw _ (List.mem_of_getElem? (i := 86) rfl))) (mvT hZ (hw _ (List.mem_of_getElem? (i := 85) rfl))) (by decide) (backOf (W := 0) (rm10b l Z a0 hw [] b4 od7 T7.heap n0 Z7 F_evaluated_b4) hZ (hw _ (List.mem_of_getElem? (i := 87) rfl)) (hw _ (List.mem_of_getElem? (i := 2) rfl)) (by decide) (by decide)) qa8 qc8 (g := (mkF m 83 #[.val (.int p1), .val (.int p2), .val (.int (own_pi (¬ ((p1 &&& (1 : Int32)) = (0 : Int32))))), .val (.int (own_pi (¬ ((p1 &&& (2 : Int32)) = (0 : Int32))))), .val (.int (own_pi (¬ ((p2 &&& (1 : Int32)) = (0 : Int32))))), .val (.ref b4), .val (.int (1 : Int32)), .val .null, .unset] [(.ref b4)])) rfl (by rw [hml]; rfl) (Steps.refl _) (argsL := []) (rest := []) (lenOf pd_7 rfl) rfl (by show 2 * 0 + _ ≤ _; exact Nat.le_of_eq rfl) (hb hby at_83) (fun _ _ => ⟨rfl, rfl, (by decide : 12 + 0 ≤ _), (by decide : 62 + 0 ≤ _)⟩)
  dsimp only [Pt.U, Pt.locs, Pt.cells, Pt.slots] at X8 l8 y8 z8 st8 hQ8
  subst l8 y8 z8
  obtain ⟨rfl, N8q, e8⟩ := hQ8
  have N8 := Fr.app N7 N8q
  refine Gl.pre (fun _ k => st8.trans k) ?_
  show Gl p.tables e below PP (T8.setTop (mkF m 86 #[.val (.int p1), .val (.int p2), .val (.int (own_pi (¬ ((p1 &&& (1 : Int32)) = (0 : Int32))))), .val (.int (own_pi (¬ ((p1 &&& (2 : Int32)) = (0 : Int32))))), .val (.int (own_pi (¬ ((p2 &&& (1 : Int32)) = (0 : Int32))))), .val (.ref b4), .val (.int (1 : Int32)), .val .null, .unset] [(.int (1 : Int32))]))
  refine Gl.pre (fun _ k => XS.ifNo X8.here hx rfl (hb hby at_86) rfl ((if0 _ _).trans (feq (show ¬ ((1 : Int32) = (0 : Int32)) from (by decide))).1) k) ?_
  show Gl p.tables e below PP (T8.setTop (mkF m 89 #[.val (.int p1), .val (.int p2), .val (.int (own_pi (¬ ((p1 &&& (1 : Int32)) = (0 : Int32))))), .val (.int (own_pi (¬ ((p1 &&& (2 : Int32)) = (0 : Int32))))), .val (.int (own_pi (¬ ((p2 &&& (1 : Int32)) = (0 : Int32))))), .val (.ref b4), .val (.int (1 : Int32)), .val .null, .unset] []))
  refine Gl.pre (fun _ k => XS.iconst X8.here hx rfl (hb hby at_89) k) ?_
  show Gl p.tables e below PP (T8.setTop (mkF m 90 #[.val (.int p1), .val (.int p2), .val (.int (own_pi (¬ ((p1 &&& (1 : Int32)) = (0 : Int32))))), .val (.int (own_pi (¬ ((p1 &&& (2 : Int32)) = (0 : Int32))))), .val (.int (own_pi (¬ ((p2 &&& (1 : Int32)) = (0 : Int32))))), .val (.ref b4), .val (.int (1 : Int32)), .val .null, .unset] [(.int (1 : Int32))]))
  refine Gl.pre (fun _ k => XS.goto X8.here hx rfl (pc0 := 90) (pc' := 94) rfl (hb hby at_90) (by decide) (by decide) k) ?_
  show Gl p.tables e below PP (T8.setTop (mkF m 94 #[.val (.int p1), .val (.int p2), .val (.int (own_pi (¬ ((p1 &&& (1 : Int32)) = (0 : Int32))))), .val (.int (own_pi (¬ ((p1 &&& (2 : Int32)) = (0 : Int32))))), .val (.int (own_pi (¬ ((p2 &&& (1 : Int32)) = (0 : Int32))))), .val (.ref b4), .val (.int (1 : Int32)), .val .null, .unset] [(.int (1 : Int32))]))
  refine Gl.pre (fun _ k => XS.istore X8.here hx rfl (hb hby at_94) rfl (l' := #[.val (.int p1), .val (.int p2), .val (.int (own_pi (¬ ((p1 &&& (1 : Int32)) = (0 : Int32))))), .val (.int (own_pi (¬ ((p1 &&& (2 : Int32)) = (0 : Int32))))), .val (.int (own_pi (¬ ((p2 &&& (1 : Int32)) = (0 : Int32))))), .val (.ref b4), .val (.int (1 : Int32)), .val .null, .unset]) rfl k) ?_
  show Gl p.tables e below PP (T8.setTop (mkF m 96 #[.val (.int p1), .val (.int p2), .val (.int (own_pi (¬ ((p1 &&& (1 : Int32)) = (0 : Int32))))), .val (.int (own_pi (¬ ((p1 &&& (2 : Int32)) = (0 : Int32))))), .val (.int (own_pi (¬ ((p2 &&& (1 : Int32)) = (0 : Int32))))), .val (.ref b4), .val (.int (1 : Int32)), .val .null, .unset] []))
  refine Gl.pre (fun _ k => XS.iload X8.here hx rfl (hb hby at_96) rfl k) ?_
  show Gl p.tables e below PP (T8.setTop (mkF m 98 #[.val (.int p1), .val (.int p2), .val (.int (own_pi (¬ ((p1 &&& (1 : Int32)) = (0 : Int32))))), .val (.int (own_pi (¬ ((p1 &&& (2 : Int32)) = (0 : Int32))))), .val (.int (own_pi (¬ ((p2 &&& (1 : Int32)) = (0 : Int32))))), .val (.ref b4), .val (.int (1 : Int32)), .val .null, .unset] [(.int (own_pi (¬ ((p2 &&& (1 : Int32)) = (0 : Int32)))))]))
  by_cases hc9 : ¬ ((p2 &&& (1 : Int32)) = (0 : Int32))
  · refine Gl.pre (fun _ k => XS.ifNo X8.here hx rfl (hb hby at_98) rfl ((if0 _ _).trans (feq (fun q => (own_pi0 (P := ¬ ((p2 &&& (1 : Int32)) = (0 : Int32)))).mp q hc9)).1) k) ?_
    show Gl p.tables e below PP (T8.setTop (mkF m 101 #[.val (.int p1), .val (.int p2), .val (.int (own_pi (¬ ((p1 &&& (1 : Int32)) = (0 : Int32))))), .val (.int (own_pi (¬ ((p1 &&& (2 : Int32)) = (0 : Int32))))), .val (.int (own_pi (¬ ((p2 &&& (1 : Int32)) = (0 : Int32))))), .val (.ref b4), .val (.int (1 : Int32)), .val .null, .unset] []))
    refine Gl.pre (fun _ k => XS.aload X8.here hx rfl (hb hby at_101) rfl rfl k) ?_
    show Gl p.tables e below PP (T8.setTop (mkF m 103 #[.val (.int p1), .val (.int p2), .val (.int (own_pi (¬ ((p1 &&& (1 : Int32)) = (0 : Int32))))), .val (.int (own_pi (¬ ((p1 &&& (2 : Int32)) = (0 : Int32))))), .val (.int (own_pi (¬ ((p2 &&& (1 : Int32)) = (0 : Int32))))), .val (.ref b4), .val (.int (1 : Int32)), .val .null, .unset] [(.ref b4)]))
    obtain ⟨cq10, kq10, qa10, qb10, qc10⟩ := isOf hZ e8 E_b4
    obtain ⟨_, _, ⟨T10, L10, k10, n10⟩, -, X10, ⟨Lc10, hQ10, l10, y10, z10⟩, st10⟩ := X8.virtualBack hx (y := (⟨"com/example/rules_for_records/rulesforrecords/Evaluation", "gather", "()Lcom/example/rules_for_records/rulesforrecords/Evaluated;"⟩ : MethodName)) (z := (⟨"com/example/rules_for_records/rulesforrecords/Evaluation", "gather", "()Lcom/example/rules_for_records/rulesforrecords/Evaluated;"⟩ : MethodName)) hown (mvT hZ (hw _ (List.mem_of_getElem? (i := 90) rfl))) (mvT hZ (hw _ (List.mem_of_getElem? (i := 91) rfl))) (notFace_of_selects (args := #[]) (mvT hZ (hw _ (List.mem_of_getElem? (i := 93) rfl)))) (mvT hZ (hw _ (List.mem_of_getElem? (i := 93) rfl))) (mvT hZ (hw _ (List.mem_of_getElem? (i := 92) rfl))) (by decide) (backOf (W := 0) (rm11b l Z a0 hw [] b4 (own_pi (¬ ((p1 &&& (2 : Int32)) = (0 : Int32)))) od7 T7.heap n0 Z7 E_b4 F_evaluated_b4 F_annotating_b4 g_b4) hZ (hw _ (List.mem_of_getElem? (i := 94) rfl)) (hw _ (List.mem_of_getElem? (i := 2) rfl)) (by decide) (by decide)) qa10 qc10 (g := (mkF m 103 #[.val (.int p1), .val (.int p2), .val (.int (own_pi (¬ ((p1 &&& (1 : Int32)) = (0 : Int32))))), .val (.int (own_pi (¬ ((p1 &&& (2 : Int32)) = (0 : Int32))))), .val (.int (own_pi (¬ ((p2 &&& (1 : Int32)) = (0 : Int32))))), .val (.ref b4), .val (.int (1 : Int32)), .val .null, .unset] [(.ref b4)])) rfl (by rw [hml]; rfl) (Steps.refl _) (argsL := []) (rest := []) (lenOf pd_13 rfl) rfl (by show 2 * 0 + _ ≤ _; exact Nat.le_of_eq rfl) (hb hby at_103) (fun _ _ => ⟨rfl, e8, (by decide : 12 + 5 ≤ _), (by decide : 62 + 16 ≤ _)⟩)
    dsimp only [Pt.U, Pt.locs, Pt.cells, Pt.slots] at X10 l10 y10 z10 st10 hQ10
    subst l10 y10 z10
    obtain ⟨od10, oh10, om10, ob10, rfl, N10q, K10, hzod10, hzoh10, hzom10, hzob10, x10_0, x10_1, x10_2, x10_3, x10_4, x10_5, x10_6, x10_7, x10_8, x10_9, x10_10, x10_11, x10_12, x10_13, x10_14, x10_15⟩ := hQ10
    have N10 := Fr.app N8 N10q
    refine Gl.pre (fun _ k => st10.trans k) ?_
    have own_ne_b4_od10 : b4 ≠ od10 := Nat.ne_of_lt (Nat.lt_of_lt_of_le E_b4.lt hzod10)
    have own_ne_od10_b4 := own_ne_b4_od10.symm
    have own_ne_od7_od10 : od7 ≠ od10 := Nat.ne_of_lt (Nat.lt_of_lt_of_le E_od7.lt hzod10)
    have own_ne_od10_od7 := own_ne_od7_od10.symm
    have own_ne_oh7_od10 : oh7 ≠ od10 := Nat.ne_of_lt (Nat.lt_of_lt_of_le E_oh7.lt hzod10)
    have own_ne_od10_oh7 := own_ne_oh7_od10.symm
    have own_ne_om7_od10 : om7 ≠ od10 := Nat.ne_of_lt (Nat.lt_of_lt_of_le E_om7.lt hzod10)
    have own_ne_od10_om7 := own_ne_om7_od10.symm
    have own_ne_ob7_od10 : ob7 ≠ od10 := Nat.ne_of_lt (Nat.lt_of_lt_of_le E_ob7.lt hzod10)
    have own_ne_od10_ob7 := own_ne_ob7_od10.symm
    have g_od10 : n0 ≤ od10 := Nat.le_trans Z7 hzod10
    have own_ne_b4_oh10 : b4 ≠ oh10 := Nat.ne_of_lt (Nat.lt_of_lt_of_le E_b4.lt hzoh10)
    have own_ne_oh10_b4 := own_ne_b4_oh10.symm
    have own_ne_od7_oh10 : od7 ≠ oh10 := Nat.ne_of_lt (Nat.lt_of_lt_of_le E_od7.lt hzoh10)
    have own_ne_oh10_od7 := own_ne_od7_oh10.symm
    have own_ne_oh7_oh10 : oh7 ≠ oh10 := Nat.ne_of_lt (Nat.lt_of_lt_of_le E_oh7.lt hzoh10)
    have own_ne_oh10_oh7 := own_ne_oh7_oh10.symm
    have own_ne_om7_oh10 : om7 ≠ oh10 := Nat.ne_of_lt (Nat.lt_of_lt_of_le E_om7.lt hzoh10)
    have own_ne_oh10_om7 := own_ne_om7_oh10.symm
    have own_ne_ob7_oh10 : ob7 ≠ oh10 := Nat.ne_of_lt (Nat.lt_of_lt_of_le E_ob7.lt hzoh10)
    have own_ne_oh10_ob7 := own_ne_ob7_oh10.symm
    have g_oh10 : n0 ≤ oh10 := Nat.le_trans Z7 hzoh10
    have own_ne_b4_om10 : b4 ≠ om10 := Nat.ne_of_lt (Nat.lt_of_lt_of_le E_b4.lt hzom10)
    have own_ne_om10_b4 := own_ne_b4_om10.symm
    have own_ne_od7_om10 : od7 ≠ om10 := Nat.ne_of_lt (Nat.lt_of_lt_of_le E_od7.lt hzom10)
    have own_ne_om10_od7 := own_ne_od7_om10.symm
    have own_ne_oh7_om10 : oh7 ≠ om10 := Nat.ne_of_lt (Nat.lt_of_lt_of_le E_oh7.lt hzom10)
    have own_ne_om10_oh7 := own_ne_oh7_om10.symm
    have own_ne_om7_om10 : om7 ≠ om10 := Nat.ne_of_lt (Nat.lt_of_lt_of_le E_om7.lt hzom10)
    have own_ne_om10_om7 := own_ne_om7_om10.symm
    have own_ne_ob7_om10 : ob7 ≠ om10 := Nat.ne_of_lt (Nat.lt_of_lt_of_le E_ob7.lt hzom10)
    have own_ne_om10_ob7 := own_ne_ob7_om10.symm
    have g_om10 : n0 ≤ om10 := Nat.le_trans Z7 hzom10
    have own_ne_b4_ob10 : b4 ≠ ob10 := Nat.ne_of_lt (Nat.lt_of_lt_of_le E_b4.lt hzob10)
    have own_ne_ob10_b4 := own_ne_b4_ob10.symm
    have own_ne_od7_ob10 : od7 ≠ ob10 := Nat.ne_of_lt (Nat.lt_of_lt_of_le E_od7.lt hzob10)
    have own_ne_ob10_od7 := own_ne_od7_ob10.symm
    have own_ne_oh7_ob10 : oh7 ≠ ob10 := Nat.ne_of_lt (Nat.lt_of_lt_of_le E_oh7.lt hzob10)
    have own_ne_ob10_oh7 := own_ne_oh7_ob10.symm
    have own_ne_om7_ob10 : om7 ≠ ob10 := Nat.ne_of_lt (Nat.lt_of_lt_of_le E_om7.lt hzob10)
    have own_ne_ob10_om7 := own_ne_om7_ob10.symm
    have own_ne_ob7_ob10 : ob7 ≠ ob10 := Nat.ne_of_lt (Nat.lt_of_lt_of_le E_ob7.lt hzob10)
    have own_ne_ob10_ob7 := own_ne_ob7_ob10.symm
    have g_ob10 : n0 ≤ ob10 := Nat.le_trans Z7 hzob10
    have O_ := O_.keep K10 (allS g_b4 all0)
    have E_b4 := E_b4.keep K10
    have E_od7 := E_od7.keep K10
    have F_names_od7 := F_names_od7.keep K10 (ninS (own_ne_od7_b4) nin0)
    have F_items_od7 := F_items_od7.keep K10 (ninS (own_ne_od7_b4) nin0)
    have F_keysNamed_od7 := F_keysNamed_od7.keep K10 (ninS (own_ne_od7_b4) nin0)
    have E_oh7 := E_oh7.keep K10
    have F_map_oh7 := F_map_oh7.keep K10 (ninS (own_ne_oh7_b4) nin0)
    have E_om7 := E_om7.keep K10
    have F_keySet_om7 := F_keySet_om7.keep K10 (ninS (own_ne_om7_b4) nin0)
    have F_modCount_om7 := F_modCount_om7.keep K10 (ninS (own_ne_om7_b4) nin0)
    have F_table_om7 := F_table_om7.keep K10 (ninS (own_ne_om7_b4) nin0)
    have E_ob7 := E_ob7.keep K10
    have F_wordsInUse_ob7 := F_wordsInUse_ob7.keep K10 (ninS (own_ne_ob7_b4) nin0)
    have Z10 : n0 ≤ T10.heap.size := Nat.le_trans Z7 K10.1
    have F_evaluated_b4 := x10_0
    have F_annotating_b4 := x10_1
    have E_od10 := x10_2
    have own_ne_od10_om10 := x10_3
    have own_ne_om10_od10 := own_ne_od10_om10.symm
    have F_names_od10 := x10_4
    have F_items_od10 := x10_5
    have F_keysNamed_od10 := x10_6
    have E_oh10 := x10_7
    have F_map_oh10 := x10_8
    have E_om10 := x10_9
    have F_keySet_om10 := x10_10
    have F_modCount_om10 := x10_11
    have F_table_om10 := x10_12
    have E_ob10 := x10_13
    have F_wordsInUse_ob10 := x10_14
    have own_ne_ob10_om10 := x10_15
    have own_ne_om10_ob10 := own_ne_ob10_om10.symm
    show Gl p.tables e below PP (T10.setTop (mkF m 106 #[.val (.int p1), .val (.int p2), .val (.int (own_pi (¬ ((p1 &&& (1 : Int32)) = (0 : Int32))))), .val (.int (own_pi (¬ ((p1 &&& (2 : Int32)) = (0 : Int32))))), .val (.int (own_pi (¬ ((p2 &&& (1 : Int32)) = (0 : Int32))))), .val (.ref b4), .val (.int (1 : Int32)), .val .null, .unset] [(.ref od7)]))
    refine Gl.pre (fun _ k => XS.astore X10.here hx rfl (hb hby at_106) rfl rfl (l' := #[.val (.int p1), .val (.int p2), .val (.int (own_pi (¬ ((p1 &&& (1 : Int32)) = (0 : Int32))))), .val (.int (own_pi (¬ ((p1 &&& (2 : Int32)) = (0 : Int32))))), .val (.int (own_pi (¬ ((p2 &&& (1 : Int32)) = (0 : Int32))))), .val (.ref b4), .val (.int (1 : Int32)), .val .null, .val (.ref od7)]) rfl k) ?_
    show Gl p.tables e below PP (T10.setTop (mkF m 108 #[.val (.int p1), .val (.int p2), .val (.int (own_pi (¬ ((p1 &&& (1 : Int32)) = (0 : Int32))))), .val (.int (own_pi (¬ ((p1 &&& (2 : Int32)) = (0 : Int32))))), .val (.int (own_pi (¬ ((p2 &&& (1 : Int32)) = (0 : Int32))))), .val (.ref b4), .val (.int (1 : Int32)), .val .null, .val (.ref od7)] []))
    refine Gl.pre (fun _ k => XS.iload X10.here hx rfl (hb hby at_108) rfl k) ?_
    show Gl p.tables e below PP (T10.setTop (mkF m 110 #[.val (.int p1), .val (.int p2), .val (.int (own_pi (¬ ((p1 &&& (1 : Int32)) = (0 : Int32))))), .val (.int (own_pi (¬ ((p1 &&& (2 : Int32)) = (0 : Int32))))), .val (.int (own_pi (¬ ((p2 &&& (1 : Int32)) = (0 : Int32))))), .val (.ref b4), .val (.int (1 : Int32)), .val .null, .val (.ref od7)] [(.int (1 : Int32))]))
    refine Gl.pre (fun _ k => XS.ifNo X10.here hx rfl (hb hby at_110) rfl ((if0 _ _).trans (feq (show ¬ ((1 : Int32) = (0 : Int32)) from (by decide))).1) k) ?_
    show Gl p.tables e below PP (T10.setTop (mkF m 113 #[.val (.int p1), .val (.int p2), .val (.int (own_pi (¬ ((p1 &&& (1 : Int32)) = (0 : Int32))))), .val (.int (own_pi (¬ ((p1 &&& (2 : Int32)) = (0 : Int32))))), .val (.int (own_pi (¬ ((p2 &&& (1 : Int32)) = (0 : Int32))))), .val (.ref b4), .val (.int (1 : Int32)), .val .null, .val (.ref od7)] []))
    refine Gl.pre (fun _ k => XS.aload X10.here hx rfl (hb hby at_113) rfl rfl k) ?_
    show Gl p.tables e below PP (T10.setTop (mkF m 115 #[.val (.int p1), .val (.int p2), .val (.int (own_pi (¬ ((p1 &&& (1 : Int32)) = (0 : Int32))))), .val (.int (own_pi (¬ ((p1 &&& (2 : Int32)) = (0 : Int32))))), .val (.int (own_pi (¬ ((p2 &&& (1 : Int32)) = (0 : Int32))))), .val (.ref b4), .val (.int (1 : Int32)), .val .null, .val (.ref od7)] [(.ref od7)]))
    refine Gl.pre (fun _ k => XS.ifnullNo X10.here hx rfl (hb hby at_115) rfl k) ?_
    show Gl p.tables e below PP (T10.setTop (mkF m 118 #[.val (.int p1), .val (.int p2), .val (.int (own_pi (¬ ((p1 &&& (1 : Int32)) = (0 : Int32))))), .val (.int (own_pi (¬ ((p1 &&& (2 : Int32)) = (0 : Int32))))), .val (.int (own_pi (¬ ((p2 &&& (1 : Int32)) = (0 : Int32))))), .val (.ref b4), .val (.int (1 : Int32)), .val .null, .val (.ref od7)] []))
    refine Gl.pre (fun _ k => XS.aload X10.here hx rfl (hb hby at_118) rfl rfl k) ?_
    show Gl p.tables e below PP (T10.setTop (mkF m 120 #[.val (.int p1), .val (.int p2), .val (.int (own_pi (¬ ((p1 &&& (1 : Int32)) = (0 : Int32))))), .val (.int (own_pi (¬ ((p1 &&& (2 : Int32)) = (0 : Int32))))), .val (.int (own_pi (¬ ((p2 &&& (1 : Int32)) = (0 : Int32))))), .val (.ref b4), .val (.int (1 : Int32)), .val .null, .val (.ref od7)] [(.ref b4)]))
    obtain ⟨cq11, kq11, qa11, qb11, qc11⟩ := isOf hZ rfl E_b4
    obtain ⟨_, _, ⟨T11, L11, k11, n11⟩, -, X11, ⟨Lc11, hQ11, l11, y11, z11⟩, st11⟩ := X10.virtualBack hx (y := (⟨"com/example/rules_for_records/rulesforrecords/Evaluation", "appliesEvery", "()Z"⟩ : MethodName)) (z := (⟨"com/example/rules_for_records/rulesforrecords/Evaluation", "appliesEvery", "()Z"⟩ : MethodName)) hown (mvT hZ (hw _ (List.mem_of_getElem? (i := 83) rfl))) (mvT hZ (hw _ (List.mem_of_getElem? (i := 84) rfl))) (notFace_of_selects (args := #[]) (mvT hZ (hw _ (List.mem_of_getElem? (i := 86) rfl)))) (mvT hZ (hw _ (List.mem_of_getElem? (i := 86) rfl))) (mvT hZ (hw _ (List.mem_of_getElem? (i := 85) rfl))) (by decide) (backOf (W := 0) (rm10b l Z a0 hw [] b4 od10 T10.heap n0 Z10 F_evaluated_b4) hZ (hw _ (List.mem_of_getElem? (i := 87) rfl)) (hw _ (List.mem_of_getElem? (i := 2) rfl)) (by decide) (by decide)) qa11 qc11 (g := (mkF m 120 #[.val (.int p1), .val (.int p2), .val (.int (own_pi (¬ ((p1 &&& (1 : Int32)) = (0 : Int32))))), .val (.int (own_pi (¬ ((p1 &&& (2 : Int32)) = (0 : Int32))))), .val (.int (own_pi (¬ ((p2 &&& (1 : Int32)) = (0 : Int32))))), .val (.ref b4), .val (.int (1 : Int32)), .val .null, .val (.ref od7)] [(.ref b4)])) rfl (by rw [hml]; rfl) (Steps.refl _) (argsL := []) (rest := []) (lenOf pd_7 rfl) rfl (by show 2 * 0 + _ ≤ _; exact Nat.le_of_eq rfl) (hb hby at_120) (fun _ _ => ⟨rfl, rfl, (by decide : 17 + 0 ≤ _), (by decide : 78 + 0 ≤ _)⟩)
    dsimp only [Pt.U, Pt.locs, Pt.cells, Pt.slots] at X11 l11 y11 z11 st11 hQ11
    subst l11 y11 z11
    obtain ⟨rfl, N11q, e11⟩ := hQ11
    have N11 := Fr.app N10 N11q
    refine Gl.pre (fun _ k => st11.trans k) ?_
    show Gl p.tables e below PP (T11.setTop (mkF m 123 #[.val (.int p1), .val (.int p2), .val (.int (own_pi (¬ ((p1 &&& (1 : Int32)) = (0 : Int32))))), .val (.int (own_pi (¬ ((p1 &&& (2 : Int32)) = (0 : Int32))))), .val (.int (own_pi (¬ ((p2 &&& (1 : Int32)) = (0 : Int32))))), .val (.ref b4), .val (.int (1 : Int32)), .val .null, .val (.ref od7)] [(.int (1 : Int32))]))
    refine Gl.pre (fun _ k => XS.ifNo X11.here hx rfl (hb hby at_123) rfl ((if0 _ _).trans (feq (show ¬ ((1 : Int32) = (0 : Int32)) from (by decide))).1) k) ?_
    show Gl p.tables e below PP (T11.setTop (mkF m 126 #[.val (.int p1), .val (.int p2), .val (.int (own_pi (¬ ((p1 &&& (1 : Int32)) = (0 : Int32))))), .val (.int (own_pi (¬ ((p1 &&& (2 : Int32)) = (0 : Int32))))), .val (.int (own_pi (¬ ((p2 &&& (1 : Int32)) = (0 : Int32))))), .val (.ref b4), .val (.int (1 : Int32)), .val .null, .val (.ref od7)] []))
    refine Gl.pre (fun _ k => XS.iconst X11.here hx rfl (hb hby at_126) k) ?_
    show Gl p.tables e below PP (T11.setTop (mkF m 127 #[.val (.int p1), .val (.int p2), .val (.int (own_pi (¬ ((p1 &&& (1 : Int32)) = (0 : Int32))))), .val (.int (own_pi (¬ ((p1 &&& (2 : Int32)) = (0 : Int32))))), .val (.int (own_pi (¬ ((p2 &&& (1 : Int32)) = (0 : Int32))))), .val (.ref b4), .val (.int (1 : Int32)), .val .null, .val (.ref od7)] [(.int (1 : Int32))]))
    refine Gl.pre (fun _ k => XS.goto X11.here hx rfl (pc0 := 127) (pc' := 131) rfl (hb hby at_127) (by decide) (by decide) k) ?_
    show Gl p.tables e below PP (T11.setTop (mkF m 131 #[.val (.int p1), .val (.int p2), .val (.int (own_pi (¬ ((p1 &&& (1 : Int32)) = (0 : Int32))))), .val (.int (own_pi (¬ ((p1 &&& (2 : Int32)) = (0 : Int32))))), .val (.int (own_pi (¬ ((p2 &&& (1 : Int32)) = (0 : Int32))))), .val (.ref b4), .val (.int (1 : Int32)), .val .null, .val (.ref od7)] [(.int (1 : Int32))]))
    refine Gl.pre (fun _ k => XS.istore X11.here hx rfl (hb hby at_131) rfl (l' := #[.val (.int p1), .val (.int p2), .val (.int (own_pi (¬ ((p1 &&& (1 : Int32)) = (0 : Int32))))), .val (.int (own_pi (¬ ((p1 &&& (2 : Int32)) = (0 : Int32))))), .val (.int (own_pi (¬ ((p2 &&& (1 : Int32)) = (0 : Int32))))), .val (.ref b4), .val (.int (1 : Int32)), .val .null, .val (.ref od7)]) rfl k) ?_
    show Gl p.tables e below PP (T11.setTop (mkF m 133 #[.val (.int p1), .val (.int p2), .val (.int (own_pi (¬ ((p1 &&& (1 : Int32)) = (0 : Int32))))), .val (.int (own_pi (¬ ((p1 &&& (2 : Int32)) = (0 : Int32))))), .val (.int (own_pi (¬ ((p2 &&& (1 : Int32)) = (0 : Int32))))), .val (.ref b4), .val (.int (1 : Int32)), .val .null, .val (.ref od7)] []))
    refine Gl.pre (fun _ k => XS.aload X11.here hx rfl (hb hby at_133) rfl rfl k) ?_
    show Gl p.tables e below PP (T11.setTop (mkF m 135 #[.val (.int p1), .val (.int p2), .val (.int (own_pi (¬ ((p1 &&& (1 : Int32)) = (0 : Int32))))), .val (.int (own_pi (¬ ((p1 &&& (2 : Int32)) = (0 : Int32))))), .val (.int (own_pi (¬ ((p2 &&& (1 : Int32)) = (0 : Int32))))), .val (.ref b4), .val (.int (1 : Int32)), .val .null, .val (.ref od7)] [(.ref b4)]))
    refine Gl.pre (fun _ k => XS.aload X11.here hx rfl (hb hby at_135) rfl rfl k) ?_
    show Gl p.tables e below PP (T11.setTop (mkF m 137 #[.val (.int p1), .val (.int p2), .val (.int (own_pi (¬ ((p1 &&& (1 : Int32)) = (0 : Int32))))), .val (.int (own_pi (¬ ((p1 &&& (2 : Int32)) = (0 : Int32))))), .val (.int (own_pi (¬ ((p2 &&& (1 : Int32)) = (0 : Int32))))), .val (.ref b4), .val (.int (1 : Int32)), .val .null, .val (.ref od7)] [(.ref od7), (.ref b4)]))
    obtain ⟨cq12, kq12, qa12, qb12, qc12⟩ := isOf hZ e11 E_b4
    obtain ⟨_, _, ⟨T12, L12, k12, n12⟩, -, X12, ⟨Lc12, hQ12, l12, y12, z12⟩, st12⟩ := X11.virtualBack hx (y := (⟨"com/example/rules_for_records/rulesforrecords/Evaluation", "finish", "(Lcom/example/rules_for_records/rulesforrecords/Evaluated;)V"⟩ : MethodName)) (z := (⟨"com/example/rules_for_records/rulesforrecords/Evaluation", "finish", "(Lcom/example/rules_for_records/rulesforrecords/Evaluated;)V"⟩ : MethodName)) hown (mvT hZ (hw _ (List.mem_of_getElem? (i := 147) rfl))) (mvT hZ (hw _ (List.mem_of_getElem? (i := 148) rfl))) (notFace_of_selects (args := #[]) (mvT hZ (hw _ (List.mem_of_getElem? (i := 150) rfl)))) (mvT hZ (hw _ (List.mem_of_getElem? (i := 150) rfl))) (mvT hZ (hw _ (List.mem_of_getElem? (i := 149) rfl))) (by decide) (backOf (W := 0) (rm18b l Z a0 hw [] b4 od7 od10 (own_pi (¬ ((p1 &&& (2 : Int32)) = (0 : Int32)))) oh7 oh10 om10 ob7 ob10 T10.heap n0 Z10 E_b4 F_evaluated_b4 F_annotating_b4 g_b4 E_od7 F_names_od7 F_items_od7 F_keysNamed_od7 F_names_od10 F_items_od10 F_keysNamed_od10 E_oh7 E_oh10 F_map_oh10 E_om10 F_keySet_om10 F_modCount_om10 F_table_om10 g_om10 E_ob7 F_wordsInUse_ob7 F_wordsInUse_ob10 g_od7 own_ne_od7_om10 own_ne_od10_om10 own_ne_ob7_om10 own_ne_ob10_om10 own_ne_ob7_ob10 SAD O_ own_ne_b4_od7 own_ne_b4_om10) hZ (hw _ (List.mem_of_getElem? (i := 151) rfl)) (hw _ (List.mem_of_getElem? (i := 2) rfl)) (by decide) (by decide)) qa12 qc12 (g := (mkF m 137 #[.val (.int p1), .val (.int p2), .val (.int (own_pi (¬ ((p1 &&& (1 : Int32)) = (0 : Int32))))), .val (.int (own_pi (¬ ((p1 &&& (2 : Int32)) = (0 : Int32))))), .val (.int (own_pi (¬ ((p2 &&& (1 : Int32)) = (0 : Int32))))), .val (.ref b4), .val (.int (1 : Int32)), .val .null, .val (.ref od7)] [(.ref od7), (.ref b4)])) rfl (by rw [hml]; rfl) (Steps.refl _) (argsL := [(.ref od7)]) (rest := []) (lenOf pd_11 rfl) rfl (by show 2 * 0 + _ ≤ _; exact Nat.le_of_eq rfl) (hb hby at_137) (fun _ _ => ⟨rfl, e11, (by decide : 17 + 2 ≤ _), (by decide : 78 + 6 ≤ _)⟩)
    dsimp only [Pt.U, Pt.locs, Pt.cells, Pt.slots] at X12 l12 y12 z12 st12 hQ12
    subst l12 y12 z12
    obtain ⟨rfl, N12q, K12, x12_0, x12_1⟩ := hQ12
    have N12 := Fr.app N11 N12q
    refine Gl.pre (fun _ k => st12.trans k) ?_
    have O_ := O_.keep K12 (allS g_b4 (allS g_od7 (allS g_om10 all0)))
    have E_b4 := E_b4.keep K12
    have Z12 : n0 ≤ T12.heap.size := Nat.le_trans Z10 K12.1
    have F_evaluated_b4 := x12_0
    have F_annotating_b4 := x12_1
    show Gl p.tables e below PP (T12.setTop (mkF m 140 #[.val (.int p1), .val (.int p2), .val (.int (own_pi (¬ ((p1 &&& (1 : Int32)) = (0 : Int32))))), .val (.int (own_pi (¬ ((p1 &&& (2 : Int32)) = (0 : Int32))))), .val (.int (own_pi (¬ ((p2 &&& (1 : Int32)) = (0 : Int32))))), .val (.ref b4), .val (.int (1 : Int32)), .val .null, .val (.ref od7)] []))
    refine Gl.pre (fun _ k => XS.iload X12.here hx rfl (hb hby at_140) rfl k) ?_
    show Gl p.tables e below PP (T12.setTop (mkF m 142 #[.val (.int p1), .val (.int p2), .val (.int (own_pi (¬ ((p1 &&& (1 : Int32)) = (0 : Int32))))), .val (.int (own_pi (¬ ((p1 &&& (2 : Int32)) = (0 : Int32))))), .val (.int (own_pi (¬ ((p2 &&& (1 : Int32)) = (0 : Int32))))), .val (.ref b4), .val (.int (1 : Int32)), .val .null, .val (.ref od7)] [(.int (1 : Int32))]))
    refine Gl.pre (fun _ k => XS.ifNo X12.here hx rfl (hb hby at_142) rfl ((if0 _ _).trans (feq (show ¬ ((1 : Int32) = (0 : Int32)) from (by decide))).1) k) ?_
    show Gl p.tables e below PP (T12.setTop (mkF m 145 #[.val (.int p1), .val (.int p2), .val (.int (own_pi (¬ ((p1 &&& (1 : Int32)) = (0 : Int32))))), .val (.int (own_pi (¬ ((p1 &&& (2 : Int32)) = (0 : Int32))))), .val (.int (own_pi (¬ ((p2 &&& (1 : Int32)) = (0 : Int32))))), .val (.ref b4), .val (.int (1 : Int32)), .val .null, .val (.ref od7)] []))
    refine Gl.pre (fun _ k => XS.aload X12.here hx rfl (hb hby at_145) rfl rfl k) ?_
    show Gl p.tables e below PP (T12.setTop (mkF m 147 #[.val (.int p1), .val (.int p2), .val (.int (own_pi (¬ ((p1 &&& (1 : Int32)) = (0 : Int32))))), .val (.int (own_pi (¬ ((p1 &&& (2 : Int32)) = (0 : Int32))))), .val (.int (own_pi (¬ ((p2 &&& (1 : Int32)) = (0 : Int32))))), .val (.ref b4), .val (.int (1 : Int32)), .val .null, .val (.ref od7)] [(.ref b4)]))
    obtain ⟨cq13, kq13, qa13, qb13, qc13⟩ := isOf hZ rfl E_b4
    obtain ⟨_, _, ⟨T13, L13, k13, n13⟩, -, X13, ⟨Lc13, hQ13, l13, y13, z13⟩, st13⟩ := X12.virtualBack hx (y := (⟨"com/example/rules_for_records/rulesforrecords/Evaluation", "appliesEvery", "()Z"⟩ : MethodName)) (z := (⟨"com/example/rules_for_records/rulesforrecords/Evaluation", "appliesEvery", "()Z"⟩ : MethodName)) hown (mvT hZ (hw _ (List.mem_of_getElem? (i := 83) rfl))) (mvT hZ (hw _ (List.mem_of_getElem? (i := 84) rfl))) (notFace_of_selects (args := #[]) (mvT hZ (hw _ (List.mem_of_getElem? (i := 86) rfl)))) (mvT hZ (hw _ (List.mem_of_getElem? (i := 86) rfl))) (mvT hZ (hw _ (List.mem_of_getElem? (i := 85) rfl))) (by decide) (backOf (W := 0) (rm10b l Z a0 hw [] b4 od7 T12.heap n0 Z12 F_evaluated_b4) hZ (hw _ (List.mem_of_getElem? (i := 87) rfl)) (hw _ (List.mem_of_getElem? (i := 2) rfl)) (by decide) (by decide)) qa13 qc13 (g := (mkF m 147 #[.val (.int p1), .val (.int p2), .val (.int (own_pi (¬ ((p1 &&& (1 : Int32)) = (0 : Int32))))), .val (.int (own_pi (¬ ((p1 &&& (2 : Int32)) = (0 : Int32))))), .val (.int (own_pi (¬ ((p2 &&& (1 : Int32)) = (0 : Int32))))), .val (.ref b4), .val (.int (1 : Int32)), .val .null, .val (.ref od7)] [(.ref b4)])) rfl (by rw [hml]; rfl) (Steps.refl _) (argsL := []) (rest := []) (lenOf pd_7 rfl) rfl (by show 2 * 0 + _ ≤ _; exact Nat.le_of_eq rfl) (hb hby at_147) (fun _ _ => ⟨rfl, rfl, (by decide : 19 + 0 ≤ _), (by decide : 84 + 0 ≤ _)⟩)
    dsimp only [Pt.U, Pt.locs, Pt.cells, Pt.slots] at X13 l13 y13 z13 st13 hQ13
    subst l13 y13 z13
    obtain ⟨rfl, N13q, e13⟩ := hQ13
    have N13 := Fr.app N12 N13q
    refine Gl.pre (fun _ k => st13.trans k) ?_
    show Gl p.tables e below PP (T13.setTop (mkF m 150 #[.val (.int p1), .val (.int p2), .val (.int (own_pi (¬ ((p1 &&& (1 : Int32)) = (0 : Int32))))), .val (.int (own_pi (¬ ((p1 &&& (2 : Int32)) = (0 : Int32))))), .val (.int (own_pi (¬ ((p2 &&& (1 : Int32)) = (0 : Int32))))), .val (.ref b4), .val (.int (1 : Int32)), .val .null, .val (.ref od7)] [(.int (1 : Int32))]))
    refine Gl.pre (fun _ k => XS.ifNo X13.here hx rfl (hb hby at_150) rfl ((if0 _ _).trans (feq (show ¬ ((1 : Int32) = (0 : Int32)) from (by decide))).1) k) ?_
    show Gl p.tables e below PP (T13.setTop (mkF m 153 #[.val (.int p1), .val (.int p2), .val (.int (own_pi (¬ ((p1 &&& (1 : Int32)) = (0 : Int32))))), .val (.int (own_pi (¬ ((p1 &&& (2 : Int32)) = (0 : Int32))))), .val (.int (own_pi (¬ ((p2 &&& (1 : Int32)) = (0 : Int32))))), .val (.ref b4), .val (.int (1 : Int32)), .val .null, .val (.ref od7)] []))
    refine Gl.pre (fun _ k => XS.iconst X13.here hx rfl (hb hby at_153) k) ?_
    show Gl p.tables e below PP (T13.setTop (mkF m 154 #[.val (.int p1), .val (.int p2), .val (.int (own_pi (¬ ((p1 &&& (1 : Int32)) = (0 : Int32))))), .val (.int (own_pi (¬ ((p1 &&& (2 : Int32)) = (0 : Int32))))), .val (.int (own_pi (¬ ((p2 &&& (1 : Int32)) = (0 : Int32))))), .val (.ref b4), .val (.int (1 : Int32)), .val .null, .val (.ref od7)] [(.int (1 : Int32))]))
    refine Gl.pre (fun _ k => XS.goto X13.here hx rfl (pc0 := 154) (pc' := 158) rfl (hb hby at_154) (by decide) (by decide) k) ?_
    show Gl p.tables e below PP (T13.setTop (mkF m 158 #[.val (.int p1), .val (.int p2), .val (.int (own_pi (¬ ((p1 &&& (1 : Int32)) = (0 : Int32))))), .val (.int (own_pi (¬ ((p1 &&& (2 : Int32)) = (0 : Int32))))), .val (.int (own_pi (¬ ((p2 &&& (1 : Int32)) = (0 : Int32))))), .val (.ref b4), .val (.int (1 : Int32)), .val .null, .val (.ref od7)] [(.int (1 : Int32))]))
    refine Gl.pre (fun _ k => XS.istore X13.here hx rfl (hb hby at_158) rfl (l' := #[.val (.int p1), .val (.int p2), .val (.int (own_pi (¬ ((p1 &&& (1 : Int32)) = (0 : Int32))))), .val (.int (own_pi (¬ ((p1 &&& (2 : Int32)) = (0 : Int32))))), .val (.int (own_pi (¬ ((p2 &&& (1 : Int32)) = (0 : Int32))))), .val (.ref b4), .val (.int (1 : Int32)), .val .null, .val (.ref od7)]) rfl k) ?_
    show Gl p.tables e below PP (T13.setTop (mkF m 160 #[.val (.int p1), .val (.int p2), .val (.int (own_pi (¬ ((p1 &&& (1 : Int32)) = (0 : Int32))))), .val (.int (own_pi (¬ ((p1 &&& (2 : Int32)) = (0 : Int32))))), .val (.int (own_pi (¬ ((p2 &&& (1 : Int32)) = (0 : Int32))))), .val (.ref b4), .val (.int (1 : Int32)), .val .null, .val (.ref od7)] []))
    refine Gl.pre (fun _ k => XS.aload X13.here hx rfl (hb hby at_160) rfl rfl k) ?_
    show Gl p.tables e below PP (T13.setTop (mkF m 162 #[.val (.int p1), .val (.int p2), .val (.int (own_pi (¬ ((p1 &&& (1 : Int32)) = (0 : Int32))))), .val (.int (own_pi (¬ ((p1 &&& (2 : Int32)) = (0 : Int32))))), .val (.int (own_pi (¬ ((p2 &&& (1 : Int32)) = (0 : Int32))))), .val (.ref b4), .val (.int (1 : Int32)), .val .null, .val (.ref od7)] [(.ref b4)]))
    refine Gl.pre (fun _ k => XS.aload X13.here hx rfl (hb hby at_162) rfl rfl k) ?_
    show Gl p.tables e below PP (T13.setTop (mkF m 164 #[.val (.int p1), .val (.int p2), .val (.int (own_pi (¬ ((p1 &&& (1 : Int32)) = (0 : Int32))))), .val (.int (own_pi (¬ ((p1 &&& (2 : Int32)) = (0 : Int32))))), .val (.int (own_pi (¬ ((p2 &&& (1 : Int32)) = (0 : Int32))))), .val (.ref b4), .val (.int (1 : Int32)), .val .null, .val (.ref od7)] [.null, (.ref b4)]))
    obtain ⟨cq14, kq14, qa14, qb14, qc14⟩ := isOf hZ e13 E_b4
    obtain ⟨_, _, ⟨T14, L14, k14, n14⟩, -, X14, ⟨Lc14, hQ14, l14, y14, z14⟩, st14⟩ := X13.virtualBack hx (y := (⟨"com/example/rules_for_records/rulesforrecords/Evaluation", "finish", "(Lcom/example/rules_for_records/rulesforrecords/Evaluated;)V"⟩ : MethodName)) (z := (⟨"com/example/rules_for_records/rulesforrecords/Evaluation", "finish", "(Lcom/example/rules_for_records/rulesforrecords/Evaluated;)V"⟩ : MethodName)) hown (mvT hZ (hw _ (List.mem_of_getElem? (i := 147) rfl))) (mvT hZ (hw _ (List.mem_of_getElem? (i := 148) rfl))) (notFace_of_selects (args := #[]) (mvT hZ (hw _ (List.mem_of_getElem? (i := 150) rfl)))) (mvT hZ (hw _ (List.mem_of_getElem? (i := 150) rfl))) (mvT hZ (hw _ (List.mem_of_getElem? (i := 149) rfl))) (by decide) (backOf (W := 0) (rm18a l Z a0 hw [] b4 (own_pi (¬ ((p1 &&& (2 : Int32)) = (0 : Int32)))) od7 T12.heap n0 Z12 E_b4 F_evaluated_b4 F_annotating_b4 g_b4) hZ (hw _ (List.mem_of_getElem? (i := 151) rfl)) (hw _ (List.mem_of_getElem? (i := 2) rfl)) (by decide) (by decide)) qa14 qc14 (g := (mkF m 164 #[.val (.int p1), .val (.int p2), .val (.int (own_pi (¬ ((p1 &&& (1 : Int32)) = (0 : Int32))))), .val (.int (own_pi (¬ ((p1 &&& (2 : Int32)) = (0 : Int32))))), .val (.int (own_pi (¬ ((p2 &&& (1 : Int32)) = (0 : Int32))))), .val (.ref b4), .val (.int (1 : Int32)), .val .null, .val (.ref od7)] [.null, (.ref b4)])) rfl (by rw [hml]; rfl) (Steps.refl _) (argsL := [.null]) (rest := []) (lenOf pd_11 rfl) rfl (by show 2 * 0 + _ ≤ _; exact Nat.le_of_eq rfl) (hb hby at_164) (fun _ _ => ⟨rfl, e13, (by decide : 19 + 0 ≤ _), (by decide : 84 + 0 ≤ _)⟩)
    dsimp only [Pt.U, Pt.locs, Pt.cells, Pt.slots] at X14 l14 y14 z14 st14 hQ14
    subst l14 y14 z14
    obtain ⟨rfl, N14q, K14, x14_0, x14_1⟩ := hQ14
    have N14 := Fr.app N13 N14q
    refine Gl.pre (fun _ k => st14.trans k) ?_
    have O_ := O_.keep K14 (allS g_b4 all0)
    have E_b4 := E_b4.keep K14
    have Z14 : n0 ≤ T14.heap.size := Nat.le_trans Z12 K14.1
    have F_evaluated_b4 := x14_0
    have F_annotating_b4 := x14_1
    show Gl p.tables e below PP (T14.setTop (mkF m 167 #[.val (.int p1), .val (.int p2), .val (.int (own_pi (¬ ((p1 &&& (1 : Int32)) = (0 : Int32))))), .val (.int (own_pi (¬ ((p1 &&& (2 : Int32)) = (0 : Int32))))), .val (.int (own_pi (¬ ((p2 &&& (1 : Int32)) = (0 : Int32))))), .val (.ref b4), .val (.int (1 : Int32)), .val .null, .val (.ref od7)] []))
    refine Gl.pre (fun _ k => XS.iload X14.here hx rfl (hb hby at_167) rfl k) ?_
    show Gl p.tables e below PP (T14.setTop (mkF m 169 #[.val (.int p1), .val (.int p2), .val (.int (own_pi (¬ ((p1 &&& (1 : Int32)) = (0 : Int32))))), .val (.int (own_pi (¬ ((p1 &&& (2 : Int32)) = (0 : Int32))))), .val (.int (own_pi (¬ ((p2 &&& (1 : Int32)) = (0 : Int32))))), .val (.ref b4), .val (.int (1 : Int32)), .val .null, .val (.ref od7)] [(.int (1 : Int32))]))
    refine Gl.pre (fun _ k => XS.ifNo X14.here hx rfl (hb hby at_169) rfl ((if0 _ _).trans (feq (show ¬ ((1 : Int32) = (0 : Int32)) from (by decide))).1) k) ?_
    show Gl p.tables e below PP (T14.setTop (mkF m 172 #[.val (.int p1), .val (.int p2), .val (.int (own_pi (¬ ((p1 &&& (1 : Int32)) = (0 : Int32))))), .val (.int (own_pi (¬ ((p1 &&& (2 : Int32)) = (0 : Int32))))), .val (.int (own_pi (¬ ((p2 &&& (1 : Int32)) = (0 : Int32))))), .val (.ref b4), .val (.int (1 : Int32)), .val .null, .val (.ref od7)] []))
    refine Gl.pre (fun _ k => XS.aload X14.here hx rfl (hb hby at_172) rfl rfl k) ?_
    show Gl p.tables e below PP (T14.setTop (mkF m 174 #[.val (.int p1), .val (.int p2), .val (.int (own_pi (¬ ((p1 &&& (1 : Int32)) = (0 : Int32))))), .val (.int (own_pi (¬ ((p1 &&& (2 : Int32)) = (0 : Int32))))), .val (.int (own_pi (¬ ((p2 &&& (1 : Int32)) = (0 : Int32))))), .val (.ref b4), .val (.int (1 : Int32)), .val .null, .val (.ref od7)] [(.ref b4)]))
    obtain ⟨cq15, kq15, qa15, qb15, qc15⟩ := isOf hZ rfl E_b4
    obtain ⟨_, _, ⟨T15, L15, k15, n15⟩, -, X15, ⟨Lc15, hQ15, l15, y15, z15⟩, st15⟩ := X14.virtualBack hx (y := (⟨"com/example/rules_for_records/rulesforrecords/Evaluation", "appliesEvery", "()Z"⟩ : MethodName)) (z := (⟨"com/example/rules_for_records/rulesforrecords/Evaluation", "appliesEvery", "()Z"⟩ : MethodName)) hown (mvT hZ (hw _ (List.mem_of_getElem? (i := 83) rfl))) (mvT hZ (hw _ (List.mem_of_getElem? (i := 84) rfl))) (notFace_of_selects (args := #[]) (mvT hZ (hw _ (List.mem_of_getElem? (i := 86) rfl)))) (mvT hZ (hw _ (List.mem_of_getElem? (i := 86) rfl))) (mvT hZ (hw _ (List.mem_of_getElem? (i := 85) rfl))) (by decide) (backOf (W := 0) (rm10a l Z a0 hw [] b4 (own_pi (¬ ((p1 &&& (2 : Int32)) = (0 : Int32)))) T14.heap n0 Z14 F_evaluated_b4 F_annotating_b4) hZ (hw _ (List.mem_of_getElem? (i := 87) rfl)) (hw _ (List.mem_of_getElem? (i := 2) rfl)) (by decide) (by decide)) qa15 qc15 (g := (mkF m 174 #[.val (.int p1), .val (.int p2), .val (.int (own_pi (¬ ((p1 &&& (1 : Int32)) = (0 : Int32))))), .val (.int (own_pi (¬ ((p1 &&& (2 : Int32)) = (0 : Int32))))), .val (.int (own_pi (¬ ((p2 &&& (1 : Int32)) = (0 : Int32))))), .val (.ref b4), .val (.int (1 : Int32)), .val .null, .val (.ref od7)] [(.ref b4)])) rfl (by rw [hml]; rfl) (Steps.refl _) (argsL := []) (rest := []) (lenOf pd_7 rfl) rfl (by show 2 * 0 + _ ≤ _; exact Nat.le_of_eq rfl) (hb hby at_174) (fun _ _ => ⟨rfl, rfl, (by decide : 19 + 0 ≤ _), (by decide : 84 + 0 ≤ _)⟩)
    dsimp only [Pt.U, Pt.locs, Pt.cells, Pt.slots] at X15 l15 y15 z15 st15 hQ15
    subst l15 y15 z15
    obtain ⟨rfl, N15q, e15⟩ := hQ15
    have N15 := Fr.app N14 N15q
    refine Gl.pre (fun _ k => st15.trans k) ?_
    show Gl p.tables e below PP (T15.setTop (mkF m 177 #[.val (.int p1), .val (.int p2), .val (.int (own_pi (¬ ((p1 &&& (1 : Int32)) = (0 : Int32))))), .val (.int (own_pi (¬ ((p1 &&& (2 : Int32)) = (0 : Int32))))), .val (.int (own_pi (¬ ((p2 &&& (1 : Int32)) = (0 : Int32))))), .val (.ref b4), .val (.int (1 : Int32)), .val .null, .val (.ref od7)] [(.int (own_pi (¬ ((own_pi (¬ ((p1 &&& (2 : Int32)) = (0 : Int32)))) = (0 : Int32)))))]))
    refine Gl.pre (fun _ k => XS.iloadN X15.here hx rfl (hb hby at_177) rfl k) ?_
    show Gl p.tables e below PP (T15.setTop (mkF m 178 #[.val (.int p1), .val (.int p2), .val (.int (own_pi (¬ ((p1 &&& (1 : Int32)) = (0 : Int32))))), .val (.int (own_pi (¬ ((p1 &&& (2 : Int32)) = (0 : Int32))))), .val (.int (own_pi (¬ ((p2 &&& (1 : Int32)) = (0 : Int32))))), .val (.ref b4), .val (.int (1 : Int32)), .val .null, .val (.ref od7)] [(.int (own_pi (¬ ((p1 &&& (2 : Int32)) = (0 : Int32))))), (.int (own_pi (¬ ((own_pi (¬ ((p1 &&& (2 : Int32)) = (0 : Int32)))) = (0 : Int32)))))]))
    refine Gl.pre (fun _ k => XS.icmpNo X15.here hx rfl (hb hby at_178) rfl (teq (show (own_pi (¬ ((own_pi (¬ ((p1 &&& (2 : Int32)) = (0 : Int32)))) = (0 : Int32)))) = (own_pi (¬ ((p1 &&& (2 : Int32)) = (0 : Int32)))) from (own_pi_eq own_piN))).2 k) ?_
    show Gl p.tables e below PP (T15.setTop (mkF m 181 #[.val (.int p1), .val (.int p2), .val (.int (own_pi (¬ ((p1 &&& (1 : Int32)) = (0 : Int32))))), .val (.int (own_pi (¬ ((p1 &&& (2 : Int32)) = (0 : Int32))))), .val (.int (own_pi (¬ ((p2 &&& (1 : Int32)) = (0 : Int32))))), .val (.ref b4), .val (.int (1 : Int32)), .val .null, .val (.ref od7)] []))
    refine Gl.pre (fun _ k => XS.iconst X15.here hx rfl (hb hby at_181) k) ?_
    show Gl p.tables e below PP (T15.setTop (mkF m 182 #[.val (.int p1), .val (.int p2), .val (.int (own_pi (¬ ((p1 &&& (1 : Int32)) = (0 : Int32))))), .val (.int (own_pi (¬ ((p1 &&& (2 : Int32)) = (0 : Int32))))), .val (.int (own_pi (¬ ((p2 &&& (1 : Int32)) = (0 : Int32))))), .val (.ref b4), .val (.int (1 : Int32)), .val .null, .val (.ref od7)] [(.int (1 : Int32))]))
    refine Gl.pre (fun _ k => XS.goto X15.here hx rfl (pc0 := 182) (pc' := 186) rfl (hb hby at_182) (by decide) (by decide) k) ?_
    show Gl p.tables e below PP (T15.setTop (mkF m 186 #[.val (.int p1), .val (.int p2), .val (.int (own_pi (¬ ((p1 &&& (1 : Int32)) = (0 : Int32))))), .val (.int (own_pi (¬ ((p1 &&& (2 : Int32)) = (0 : Int32))))), .val (.int (own_pi (¬ ((p2 &&& (1 : Int32)) = (0 : Int32))))), .val (.ref b4), .val (.int (1 : Int32)), .val .null, .val (.ref od7)] [(.int (1 : Int32))]))
    refine Gl.pre (fun _ k => XS.istore X15.here hx rfl (hb hby at_186) rfl (l' := #[.val (.int p1), .val (.int p2), .val (.int (own_pi (¬ ((p1 &&& (1 : Int32)) = (0 : Int32))))), .val (.int (own_pi (¬ ((p1 &&& (2 : Int32)) = (0 : Int32))))), .val (.int (own_pi (¬ ((p2 &&& (1 : Int32)) = (0 : Int32))))), .val (.ref b4), .val (.int (1 : Int32)), .val .null, .val (.ref od7)]) rfl k) ?_
    show Gl p.tables e below PP (T15.setTop (mkF m 188 #[.val (.int p1), .val (.int p2), .val (.int (own_pi (¬ ((p1 &&& (1 : Int32)) = (0 : Int32))))), .val (.int (own_pi (¬ ((p1 &&& (2 : Int32)) = (0 : Int32))))), .val (.int (own_pi (¬ ((p2 &&& (1 : Int32)) = (0 : Int32))))), .val (.ref b4), .val (.int (1 : Int32)), .val .null, .val (.ref od7)] []))
    refine Gl.pre (fun _ k => XS.iload X15.here hx rfl (hb hby at_188) rfl k) ?_
    show Gl p.tables e below PP (T15.setTop (mkF m 190 #[.val (.int p1), .val (.int p2), .val (.int (own_pi (¬ ((p1 &&& (1 : Int32)) = (0 : Int32))))), .val (.int (own_pi (¬ ((p1 &&& (2 : Int32)) = (0 : Int32))))), .val (.int (own_pi (¬ ((p2 &&& (1 : Int32)) = (0 : Int32))))), .val (.ref b4), .val (.int (1 : Int32)), .val .null, .val (.ref od7)] [(.int (1 : Int32))]))
    rw [hPP]
    refine own_finN (Q := (Q0 Z p1 p2 dc em h0 n0)) X15 hx hlk Bd.returns (t := .boolean) (z' := (1 : Int32)) (by simp) (by decide) (hb hby at_190) ?_ (by decide) (by decide)
    show Q0 Z p1 p2 dc em h0 n0 _ T15.heap _
    rw [e15]
    exact ⟨rfl, N15⟩
  · refine Gl.pre (fun _ k => XS.ifYes X8.here hx rfl (pc0 := 98) (pc' := 160) rfl (hb hby at_98) rfl ((if0 _ _).trans (teq ((own_pi0 (P := ¬ ((p2 &&& (1 : Int32)) = (0 : Int32)))).mpr hc9)).1) (by decide) (by decide) k) ?_
    show Gl p.tables e below PP (T8.setTop (mkF m 160 #[.val (.int p1), .val (.int p2), .val (.int (own_pi (¬ ((p1 &&& (1 : Int32)) = (0 : Int32))))), .val (.int (own_pi (¬ ((p1 &&& (2 : Int32)) = (0 : Int32))))), .val (.int (own_pi (¬ ((p2 &&& (1 : Int32)) = (0 : Int32))))), .val (.ref b4), .val (.int (1 : Int32)), .val .null, .unset] []))
    refine Gl.pre (fun _ k => XS.aload X8.here hx rfl (hb hby at_160) rfl rfl k) ?_
    show Gl p.tables e below PP (T8.setTop (mkF m 162 #[.val (.int p1), .val (.int p2), .val (.int (own_pi (¬ ((p1 &&& (1 : Int32)) = (0 : Int32))))), .val (.int (own_pi (¬ ((p1 &&& (2 : Int32)) = (0 : Int32))))), .val (.int (own_pi (¬ ((p2 &&& (1 : Int32)) = (0 : Int32))))), .val (.ref b4), .val (.int (1 : Int32)), .val .null, .unset] [(.ref b4)]))
    refine Gl.pre (fun _ k => XS.aload X8.here hx rfl (hb hby at_162) rfl rfl k) ?_
    show Gl p.tables e below PP (T8.setTop (mkF m 164 #[.val (.int p1), .val (.int p2), .val (.int (own_pi (¬ ((p1 &&& (1 : Int32)) = (0 : Int32))))), .val (.int (own_pi (¬ ((p1 &&& (2 : Int32)) = (0 : Int32))))), .val (.int (own_pi (¬ ((p2 &&& (1 : Int32)) = (0 : Int32))))), .val (.ref b4), .val (.int (1 : Int32)), .val .null, .unset] [.null, (.ref b4)]))
    obtain ⟨cq16, kq16, qa16, qb16, qc16⟩ := isOf hZ e8 E_b4
    obtain ⟨_, _, ⟨T16, L16, k16, n16⟩, -, X16, ⟨Lc16, hQ16, l16, y16, z16⟩, st16⟩ := X8.virtualBack hx (y := (⟨"com/example/rules_for_records/rulesforrecords/Evaluation", "finish", "(Lcom/example/rules_for_records/rulesforrecords/Evaluated;)V"⟩ : MethodName)) (z := (⟨"com/example/rules_for_records/rulesforrecords/Evaluation", "finish", "(Lcom/example/rules_for_records/rulesforrecords/Evaluated;)V"⟩ : MethodName)) hown (mvT hZ (hw _ (List.mem_of_getElem? (i := 147) rfl))) (mvT hZ (hw _ (List.mem_of_getElem? (i := 148) rfl))) (notFace_of_selects (args := #[]) (mvT hZ (hw _ (List.mem_of_getElem? (i := 150) rfl)))) (mvT hZ (hw _ (List.mem_of_getElem? (i := 150) rfl))) (mvT hZ (hw _ (List.mem_of_getElem? (i := 149) rfl))) (by decide) (backOf (W := 0) (rm18a l Z a0 hw [] b4 (own_pi (¬ ((p1 &&& (2 : Int32)) = (0 : Int32)))) od7 T7.heap n0 Z7 E_b4 F_evaluated_b4 F_annotating_b4 g_b4) hZ (hw _ (List.mem_of_getElem? (i := 151) rfl)) (hw _ (List.mem_of_getElem? (i := 2) rfl)) (by decide) (by decide)) qa16 qc16 (g := (mkF m 164 #[.val (.int p1), .val (.int p2), .val (.int (own_pi (¬ ((p1 &&& (1 : Int32)) = (0 : Int32))))), .val (.int (own_pi (¬ ((p1 &&& (2 : Int32)) = (0 : Int32))))), .val (.int (own_pi (¬ ((p2 &&& (1 : Int32)) = (0 : Int32))))), .val (.ref b4), .val (.int (1 : Int32)), .val .null, .unset] [.null, (.ref b4)])) rfl (by rw [hml]; rfl) (Steps.refl _) (argsL := [.null]) (rest := []) (lenOf pd_11 rfl) rfl (by show 2 * 0 + _ ≤ _; exact Nat.le_of_eq rfl) (hb hby at_164) (fun _ _ => ⟨rfl, e8, (by decide : 12 + 0 ≤ _), (by decide : 62 + 0 ≤ _)⟩)
    dsimp only [Pt.U, Pt.locs, Pt.cells, Pt.slots] at X16 l16 y16 z16 st16 hQ16
    subst l16 y16 z16
    obtain ⟨rfl, N16q, K16, x16_0, x16_1⟩ := hQ16
    have N16 := Fr.app N8 N16q
    refine Gl.pre (fun _ k => st16.trans k) ?_
    have O_ := O_.keep K16 (allS g_b4 all0)
    have E_b4 := E_b4.keep K16
    have E_od7 := E_od7.keep K16
    have F_names_od7 := F_names_od7.keep K16 (ninS (own_ne_od7_b4) nin0)
    have F_items_od7 := F_items_od7.keep K16 (ninS (own_ne_od7_b4) nin0)
    have F_keysNamed_od7 := F_keysNamed_od7.keep K16 (ninS (own_ne_od7_b4) nin0)
    have E_oh7 := E_oh7.keep K16
    have F_map_oh7 := F_map_oh7.keep K16 (ninS (own_ne_oh7_b4) nin0)
    have E_om7 := E_om7.keep K16
    have F_keySet_om7 := F_keySet_om7.keep K16 (ninS (own_ne_om7_b4) nin0)
    have F_modCount_om7 := F_modCount_om7.keep K16 (ninS (own_ne_om7_b4) nin0)
    have F_table_om7 := F_table_om7.keep K16 (ninS (own_ne_om7_b4) nin0)
    have E_ob7 := E_ob7.keep K16
    have F_wordsInUse_ob7 := F_wordsInUse_ob7.keep K16 (ninS (own_ne_ob7_b4) nin0)
    have Z16 : n0 ≤ T16.heap.size := Nat.le_trans Z7 K16.1
    have F_evaluated_b4 := x16_0
    have F_annotating_b4 := x16_1
    show Gl p.tables e below PP (T16.setTop (mkF m 167 #[.val (.int p1), .val (.int p2), .val (.int (own_pi (¬ ((p1 &&& (1 : Int32)) = (0 : Int32))))), .val (.int (own_pi (¬ ((p1 &&& (2 : Int32)) = (0 : Int32))))), .val (.int (own_pi (¬ ((p2 &&& (1 : Int32)) = (0 : Int32))))), .val (.ref b4), .val (.int (1 : Int32)), .val .null, .unset] []))
    refine Gl.pre (fun _ k => XS.iload X16.here hx rfl (hb hby at_167) rfl k) ?_
    show Gl p.tables e below PP (T16.setTop (mkF m 169 #[.val (.int p1), .val (.int p2), .val (.int (own_pi (¬ ((p1 &&& (1 : Int32)) = (0 : Int32))))), .val (.int (own_pi (¬ ((p1 &&& (2 : Int32)) = (0 : Int32))))), .val (.int (own_pi (¬ ((p2 &&& (1 : Int32)) = (0 : Int32))))), .val (.ref b4), .val (.int (1 : Int32)), .val .null, .unset] [(.int (1 : Int32))]))
    refine Gl.pre (fun _ k => XS.ifNo X16.here hx rfl (hb hby at_169) rfl ((if0 _ _).trans (feq (show ¬ ((1 : Int32) = (0 : Int32)) from (by decide))).1) k) ?_
    show Gl p.tables e below PP (T16.setTop (mkF m 172 #[.val (.int p1), .val (.int p2), .val (.int (own_pi (¬ ((p1 &&& (1 : Int32)) = (0 : Int32))))), .val (.int (own_pi (¬ ((p1 &&& (2 : Int32)) = (0 : Int32))))), .val (.int (own_pi (¬ ((p2 &&& (1 : Int32)) = (0 : Int32))))), .val (.ref b4), .val (.int (1 : Int32)), .val .null, .unset] []))
    refine Gl.pre (fun _ k => XS.aload X16.here hx rfl (hb hby at_172) rfl rfl k) ?_
    show Gl p.tables e below PP (T16.setTop (mkF m 174 #[.val (.int p1), .val (.int p2), .val (.int (own_pi (¬ ((p1 &&& (1 : Int32)) = (0 : Int32))))), .val (.int (own_pi (¬ ((p1 &&& (2 : Int32)) = (0 : Int32))))), .val (.int (own_pi (¬ ((p2 &&& (1 : Int32)) = (0 : Int32))))), .val (.ref b4), .val (.int (1 : Int32)), .val .null, .unset] [(.ref b4)]))
    obtain ⟨cq17, kq17, qa17, qb17, qc17⟩ := isOf hZ rfl E_b4
    obtain ⟨_, _, ⟨T17, L17, k17, n17⟩, -, X17, ⟨Lc17, hQ17, l17, y17, z17⟩, st17⟩ := X16.virtualBack hx (y := (⟨"com/example/rules_for_records/rulesforrecords/Evaluation", "appliesEvery", "()Z"⟩ : MethodName)) (z := (⟨"com/example/rules_for_records/rulesforrecords/Evaluation", "appliesEvery", "()Z"⟩ : MethodName)) hown (mvT hZ (hw _ (List.mem_of_getElem? (i := 83) rfl))) (mvT hZ (hw _ (List.mem_of_getElem? (i := 84) rfl))) (notFace_of_selects (args := #[]) (mvT hZ (hw _ (List.mem_of_getElem? (i := 86) rfl)))) (mvT hZ (hw _ (List.mem_of_getElem? (i := 86) rfl))) (mvT hZ (hw _ (List.mem_of_getElem? (i := 85) rfl))) (by decide) (backOf (W := 0) (rm10a l Z a0 hw [] b4 (own_pi (¬ ((p1 &&& (2 : Int32)) = (0 : Int32)))) T16.heap n0 Z16 F_evaluated_b4 F_annotating_b4) hZ (hw _ (List.mem_of_getElem? (i := 87) rfl)) (hw _ (List.mem_of_getElem? (i := 2) rfl)) (by decide) (by decide)) qa17 qc17 (g := (mkF m 174 #[.val (.int p1), .val (.int p2), .val (.int (own_pi (¬ ((p1 &&& (1 : Int32)) = (0 : Int32))))), .val (.int (own_pi (¬ ((p1 &&& (2 : Int32)) = (0 : Int32))))), .val (.int (own_pi (¬ ((p2 &&& (1 : Int32)) = (0 : Int32))))), .val (.ref b4), .val (.int (1 : Int32)), .val .null, .unset] [(.ref b4)])) rfl (by rw [hml]; rfl) (Steps.refl _) (argsL := []) (rest := []) (lenOf pd_7 rfl) rfl (by show 2 * 0 + _ ≤ _; exact Nat.le_of_eq rfl) (hb hby at_174) (fun _ _ => ⟨rfl, rfl, (by decide : 12 + 0 ≤ _), (by decide : 62 + 0 ≤ _)⟩)
    dsimp only [Pt.U, Pt.locs, Pt.cells, Pt.slots] at X17 l17 y17 z17 st17 hQ17
    subst l17 y17 z17
    obtain ⟨rfl, N17q, e17⟩ := hQ17
    have N17 := Fr.app N16 N17q
    refine Gl.pre (fun _ k => st17.trans k) ?_
    show Gl p.tables e below PP (T17.setTop (mkF m 177 #[.val (.int p1), .val (.int p2), .val (.int (own_pi (¬ ((p1 &&& (1 : Int32)) = (0 : Int32))))), .val (.int (own_pi (¬ ((p1 &&& (2 : Int32)) = (0 : Int32))))), .val (.int (own_pi (¬ ((p2 &&& (1 : Int32)) = (0 : Int32))))), .val (.ref b4), .val (.int (1 : Int32)), .val .null, .unset] [(.int (own_pi (¬ ((own_pi (¬ ((p1 &&& (2 : Int32)) = (0 : Int32)))) = (0 : Int32)))))]))
    refine Gl.pre (fun _ k => XS.iloadN X17.here hx rfl (hb hby at_177) rfl k) ?_
    show Gl p.tables e below PP (T17.setTop (mkF m 178 #[.val (.int p1), .val (.int p2), .val (.int (own_pi (¬ ((p1 &&& (1 : Int32)) = (0 : Int32))))), .val (.int (own_pi (¬ ((p1 &&& (2 : Int32)) = (0 : Int32))))), .val (.int (own_pi (¬ ((p2 &&& (1 : Int32)) = (0 : Int32))))), .val (.ref b4), .val (.int (1 : Int32)), .val .null, .unset] [(.int (own_pi (¬ ((p1 &&& (2 : Int32)) = (0 : Int32))))), (.int (own_pi (¬ ((own_pi (¬ ((p1 &&& (2 : Int32)) = (0 : Int32)))) = (0 : Int32)))))]))
    refine Gl.pre (fun _ k => XS.icmpNo X17.here hx rfl (hb hby at_178) rfl (teq (show (own_pi (¬ ((own_pi (¬ ((p1 &&& (2 : Int32)) = (0 : Int32)))) = (0 : Int32)))) = (own_pi (¬ ((p1 &&& (2 : Int32)) = (0 : Int32)))) from (own_pi_eq own_piN))).2 k) ?_
    show Gl p.tables e below PP (T17.setTop (mkF m 181 #[.val (.int p1), .val (.int p2), .val (.int (own_pi (¬ ((p1 &&& (1 : Int32)) = (0 : Int32))))), .val (.int (own_pi (¬ ((p1 &&& (2 : Int32)) = (0 : Int32))))), .val (.int (own_pi (¬ ((p2 &&& (1 : Int32)) = (0 : Int32))))), .val (.ref b4), .val (.int (1 : Int32)), .val .null, .unset] []))
    refine Gl.pre (fun _ k => XS.iconst X17.here hx rfl (hb hby at_181) k) ?_
    show Gl p.tables e below PP (T17.setTop (mkF m 182 #[.val (.int p1), .val (.int p2), .val (.int (own_pi (¬ ((p1 &&& (1 : Int32)) = (0 : Int32))))), .val (.int (own_pi (¬ ((p1 &&& (2 : Int32)) = (0 : Int32))))), .val (.int (own_pi (¬ ((p2 &&& (1 : Int32)) = (0 : Int32))))), .val (.ref b4), .val (.int (1 : Int32)), .val .null, .unset] [(.int (1 : Int32))]))
    refine Gl.pre (fun _ k => XS.goto X17.here hx rfl (pc0 := 182) (pc' := 186) rfl (hb hby at_182) (by decide) (by decide) k) ?_
    show Gl p.tables e below PP (T17.setTop (mkF m 186 #[.val (.int p1), .val (.int p2), .val (.int (own_pi (¬ ((p1 &&& (1 : Int32)) = (0 : Int32))))), .val (.int (own_pi (¬ ((p1 &&& (2 : Int32)) = (0 : Int32))))), .val (.int (own_pi (¬ ((p2 &&& (1 : Int32)) = (0 : Int32))))), .val (.ref b4), .val (.int (1 : Int32)), .val .null, .unset] [(.int (1 : Int32))]))
    refine Gl.pre (fun _ k => XS.istore X17.here hx rfl (hb hby at_186) rfl (l' := #[.val (.int p1), .val (.int p2), .val (.int (own_pi (¬ ((p1 &&& (1 : Int32)) = (0 : Int32))))), .val (.int (own_pi (¬ ((p1 &&& (2 : Int32)) = (0 : Int32))))), .val (.int (own_pi (¬ ((p2 &&& (1 : Int32)) = (0 : Int32))))), .val (.ref b4), .val (.int (1 : Int32)), .val .null, .unset]) rfl k) ?_
    show Gl p.tables e below PP (T17.setTop (mkF m 188 #[.val (.int p1), .val (.int p2), .val (.int (own_pi (¬ ((p1 &&& (1 : Int32)) = (0 : Int32))))), .val (.int (own_pi (¬ ((p1 &&& (2 : Int32)) = (0 : Int32))))), .val (.int (own_pi (¬ ((p2 &&& (1 : Int32)) = (0 : Int32))))), .val (.ref b4), .val (.int (1 : Int32)), .val .null, .unset] []))
    refine Gl.pre (fun _ k => XS.iload X17.here hx rfl (hb hby at_188) rfl k) ?_
    show Gl p.tables e below PP (T17.setTop (mkF m 190 #[.val (.int p1), .val (.int p2), .val (.int (own_pi (¬ ((p1 &&& (1 : Int32)) = (0 : Int32))))), .val (.int (own_pi (¬ ((p1 &&& (2 : Int32)) = (0 : Int32))))), .val (.int (own_pi (¬ ((p2 &&& (1 : Int32)) = (0 : Int32))))), .val (.ref b4), .val (.int (1 : Int32)), .val .null, .unset] [(.int (1 : Int32))]))
    rw [hPP]
    refine own_finN (Q := (Q0 Z p1 p2 dc em h0 n0)) X17 hx hlk Bd.returns (t := .boolean) (z' := (1 : Int32)) (by simp) (by decide) (hb hby at_190) ?_ (by decide) (by decide)
    show Q0 Z p1 p2 dc em h0 n0 _ T17.heap _
    rw [e17]
    exact ⟨rfl, N17⟩
set_option maxRecDepth 65536 in
set_option maxHeartbeats 40000000 in
theorem comes_1 {Post : Tables → Env → Array Value → State → Outcome → State → Prop} (hpost : ∀ tb e args s v u, (limb_1_1.after args s (.returned v) u = true ∧ limb_1_2.after args s (.returned v) u = true ∧ True) → FrameEnd s (.returned v) u (Jvm.fieldLocs frame_1_writes args s ++ Jvm.arrayLocs frame_1_arrays args s ++ Jvm.staticLocs frame_1_statics s) 48 256 → Post tb e args s (.returned v) u) :
    ArmFor flags0 classFile x code maxLocals ret World_1 tables_1 room_1 Calls_1 rest_1 Pre_1 Post := by
  intro l hfl _ _ p e ha hc hk s m args below hf hA hF happ hP
  obtain ⟨hcalls, hrest, hpre⟩ := hP
  obtain ⟨-, -, -, hnamed, -, -, -, hat⟩ := (Spec.applies_iff hf).mp happ
  obtain ⟨hg, hn⟩ := and_e (Cond.before_iff.mp (show (Jvm.Cond.and given_1 narrow_1).before args s = true from hpre))
  obtain ⟨gc, gr0⟩ := and_e hg
  obtain ⟨ga0, gr1⟩ := and_e gr0
  obtain ⟨w0, w1, rfl⟩ : ∃ w0 w1 : Value, args = #[w0, w1] := by
    have hs : args.size = 2 := by simpa [Cond.value, given_1] using gc
    obtain ⟨L⟩ := args
    match L, hs with
    | [w0, w1], _ => exact ⟨w0, w1, rfl⟩
  have hw := fun d (hd : d ∈ tables_1) => atoms_spec (ws := Jvm.Cond.code x code maxLocals ret :: tables_1) hat d (List.mem_cons_of_mem _ hd)
  have hfit : Fit s := fun {y c} hc i hi => by
    obtain ⟨ha, rfl⟩ := Array.getElem?_eq_some_iff.mp hc
    have q := List.all_eq_true.mp ((Array.all_eq_true_iff_forall_mem.mp hF) _ (Array.getElem_mem ha)) i (List.mem_range.mpr hi)
    simpa [Array.getElem?_eq_getElem hi] using q
  obtain ⟨i0, ei0⟩ := is_v ga0
  obtain rfl : w0 = (.int i0) := Option.some.inj ei0
  obtain ⟨i1, ei1⟩ := is_v gr1
  obtain rfl : w1 = (.int i1) := Option.some.inj ei1
  obtain ⟨hsets, hown0⟩ := atoms_of _ (rest_1_c_eq ▸ (show rest_1_c.before _ s = true from hrest))
  obtain ⟨dc, edc⟩ := arr_v (Cond.before_iff.mp (hsets _ (List.mem_of_getElem? (i := 6) rfl)))
  obtain ⟨em, eem⟩ := exa_v (Cond.before_iff.mp (hsets _ (List.mem_of_getElem? (i := 11) rfl)))
  have SDC : Sta s s.heap "java/util/ArrayList" "DEFAULTCAPACITY_EMPTY_ELEMENTDATA" "[Ljava/lang/Object;" (.ref dc) := Sta.start edc (Or.inr ⟨(hw _ (List.mem_of_getElem? (i := 11) rfl)), (hsets _ (List.mem_of_getElem? (i := 2) rfl))⟩)
  have SEM : Sta s s.heap "java/util/ImmutableCollections" "EMPTY_MAP" "Ljava/util/ImmutableCollections$MapN;" (.ref em) := Sta.start eem (Or.inl (hsets _ (List.mem_of_getElem? (i := 10) rfl)))
  have SAD : Sta s s.heap "java/util/BitSet" "$assertionsDisabled" "Z" (.int (1 : Int32)) := Sta.start (own_statI (Cond.before_iff.mp (hsets _ (List.mem_of_getElem? (i := 18) rfl)))) (Or.inl (hsets _ (List.mem_of_getElem? (i := 17) rfl)))
  obtain ⟨n, o, h1, h2, h3, _, L, rfl, ⟨rfl, N⟩, hq⟩ := rm0 l s _ hw tables_1 i0 i1 dc em s.heap s.heap.size (Nat.le_refl _) SDC SEM SAD (Old.start s) p e ha hc hk s m _ below hf ((Spec.applies_iff_loose hf).mp happ).1 ⟨rfl, State.Warmed39.refl s, rfl⟩ trivial
  refine ⟨n, _, h1, h2, h3, hpost _ _ _ _ _ _ ⟨Cond.after_iff.mpr rfl, Cond.after_iff.mpr (eq_i res_at (Term.int_eval (1)) rfl), trivial⟩ ⟨hq.1, hq.2.1, (hq.2.2.sift fun y hy => Or.inr (N y hy)).mono (by decide) (by decide)⟩⟩
theorem main_1_1 : Claimed_1_1 := comes_1 fun _ _ _ _ _ _ h hF => ⟨h.1, hF⟩
theorem main_1_2 : Claimed_1_2 := comes_1 fun _ _ _ _ _ _ h hF => ⟨h.2.1, hF⟩
end Jvm.Pilot.@@N@@
namespace Jvm.Pilot.@@N@@
open Jvm Jvm.ClassFile Sem Op Lib Jvm.Free Jvm.Stand Jvm.Pilot.@@N@@.Jvm.D
/-! MADE BY PROGRAM (witnessworld.py) out of the Statement's table words and the real class files: 39 classes; the members and pool entries that the words name. The judged class is class 1, her method 1. -/
namespace start1
open Jvm.ClassFile
def u (s : String) : CpInfo := .utf8 (stringToUtf16 s)
/-- a pool by its gaps: so many unusable entries, then the entry; so many at the end -/
def gap : Nat → List CpInfo → List CpInfo
  | 0, r => r
  | n + 1, r => .unusable :: gap n r
def poolList (es : List (Nat × CpInfo)) (last : Nat) : List CpInfo := es.foldr (fun e r => gap e.1 (e.2 :: r)) (gap last [])
def pool (es : List (Nat × CpInfo)) (last : Nat) : Array CpInfo := ⟨poolList es last⟩
def fileOf (pool : Array CpInfo) (this : Nat) (attrs : Array Attribute := #[]) (ms : Array MethodInfo := #[]) (fl : Nat := 33) (sup : Nat := 0) (ifs : Array Nat := #[]) (fds : Array FieldInfo := #[]) : ClassFile where
  minorVersion := 0
  majorVersion := 65
  constantPool := pool
  accessFlags := fl
  thisClass := this
  superClass := sup
  interfaces := ifs
  fields := fds
  methods := ms
  attributes := attrs
def plain (name : String) (sup : Option ClassId) : Class where
  name := name
  kind := .ordinary
  loader := none
  accessFlags := 33
  super := sup
  interfaces := #[]
  cf := none
  fields := #[]
  methods := #[]
  instanceTypes := #[]
  staticTypes := #[]
  resolved := #[]
  callSites := []
  init := .initialized
  statics := none
  mirror := none

def pool0 : Array CpInfo := pool [(5, u "<init>"), (0, u "()V"), (1, .class_ 10), (1, u "java/lang/Object")] 113

def k0c0 : Code := { maxStack := 0, maxLocals := 1, code := object_method_1_code, exceptionTable := #[], attributes := #[] }
def k0m0 : Method := { name := "<init>", desc := "()V", sig := { parameters := [], returnType := none }, accessFlags := 1, code := some k0c0 }
/-- java/lang/Object -/
def k0 : Class := { plain "java/lang/Object" none with
  accessFlags := 33
  interfaces := #[]
  cf := some (fileOf pool0 8 #[] #[{ accessFlags := 1, nameIndex := 5, descriptorIndex := 6, attributes := #[] }] 33 0 #[] #[])
  fields := #[]
  methods := #[k0m0]
  instanceTypes := #[]
  staticTypes := #[]
  resolved := Array.replicate 124 none
  statics := none }

def pool1 : Array CpInfo := pool [(2, .class_ 4), (1, u "java/lang/Object"), (0, u "<init>"), (0, u "()V"), (0, .class_ 8), (0, u "com/example/rules_for_records/rulesforrecords/Evaluation"), (0, .methodref 7 10), (0, .nameAndType 5 11), (0, u "(ZZ)V"), (0, .methodref 7 13), (0, .nameAndType 14 15), (0, u "appliesEvery"), (0, u "()Z"), (0, .methodref 7 17), (0, .nameAndType 18 19), (0, u "gather"), (0, u "()Lcom/example/rules_for_records/rulesforrecords/Evaluated;"), (0, .methodref 7 21), (0, .nameAndType 22 23), (0, u "finish"), (0, u "(Lcom/example/rules_for_records/rulesforrecords/Evaluated;)V"), (0, .class_ 25), (0, u "com/example/rules_for_records/rulesforrecords/EvaluationAppliesEveryPinLaw"), (2, u "law"), (0, u "(II)Z")] 5

def k1m0 : Method := { name := "<init>", desc := "()V", sig := { parameters := [], returnType := none }, accessFlags := 1, code := none }
def k1c1 : Code := { maxStack := 4, maxLocals := 9, code := code, exceptionTable := #[], attributes := #[] }
def k1m1 : Method := { name := "law", desc := "(II)Z", sig := { parameters := [.int, .int], returnType := some .boolean }, accessFlags := 9, code := some k1c1 }
/-- com/example/rules_for_records/rulesforrecords/EvaluationAppliesEveryPinLaw -/
def k1 : Class := { plain "com/example/rules_for_records/rulesforrecords/EvaluationAppliesEveryPinLaw" (some 0) with
  accessFlags := 49
  interfaces := #[]
  cf := some (fileOf pool1 24 #[] #[{ accessFlags := 1, nameIndex := 5, descriptorIndex := 6, attributes := #[] }, { accessFlags := 9, nameIndex := 28, descriptorIndex := 29, attributes := #[] }] 49 2 #[] #[])
  fields := #[]
  methods := #[k1m0, k1m1]
  instanceTypes := #[]
  staticTypes := #[]
  resolved := Array.replicate 35 none
  statics := none }

def pool2 : Array CpInfo := pool [(1, .methodref 2 3), (0, .class_ 4), (0, .nameAndType 5 6), (0, u "java/lang/Object"), (0, u "<init>"), (0, u "()V"), (0, .class_ 8), (0, u "java/util/ArrayList"), (0, .methodref 7 3), (0, .fieldref 11 12), (0, .class_ 13), (0, .nameAndType 14 15), (0, u "com/example/rules_for_records/rulesforrecords/Evaluation"), (0, u "errors"), (0, u "Ljava/util/List;"), (0, .fieldref 11 17), (0, .nameAndType 18 15), (0, u "secrets"), (0, .fieldref 11 20), (0, .nameAndType 21 15), (0, u "notes"), (0, .interfaceMethodref 23 24), (0, .class_ 25), (0, .nameAndType 26 27), (0, u "java/util/Map"), (0, u "of"), (0, u "()Ljava/util/Map;"), (0, .fieldref 11 29), (0, .nameAndType 30 31), (0, u "scope"), (0, u "Ljava/util/Map;"), (0, .class_ 33), (0, u "java/util/ArrayDeque"), (0, .methodref 32 3), (0, .fieldref 11 36), (0, .nameAndType 37 38), (0, u "outerScopes"), (0, u "Ljava/util/Deque;"), (0, .class_ 40), (0, u "java/util/HashMap"), (0, .methodref 39 3), (0, .fieldref 11 43), (0, .nameAndType 44 31), (0, u "outcomes"), (0, .fieldref 11 46), (0, .nameAndType 47 48), (0, u "configuring"), (0, u "Z"), (0, .fieldref 11 50), (0, .nameAndType 51 48), (0, u "annotating"), (0, .class_ 53), (0, u "com/example/rules_for_records/rulesforrecords/Evaluation$Reported"), (11, .class_ 66), (0, u "com/example/rules_for_records/rulesforrecords/Evaluation$Deprecated"), (43, u "()Z"), (4, .class_ 116), (0, u "com/example/rules_for_records/rulesforrecords/Evaluation$Entry"), (0, .class_ 118), (0, u "com/example/rules_for_records/rulesforrecords/Evaluation$Judged"), (10, u "evaluated"), (0, u "()Lcom/example/rules_for_records/rulesforrecords/Evaluated;"), (0, .methodref 132 133), (0, .class_ 134), (0, .nameAndType 135 136), (0, u "com/example/rules_for_records/rulesforrecords/Evaluated"), (0, u "addAll"), (0, u "(Lcom/example/rules_for_records/rulesforrecords/Evaluated;)V"), (70, .fieldref 11 208), (0, .nameAndType 129 209), (0, u "Lcom/example/rules_for_records/rulesforrecords/Evaluated;"), (0, .methodref 132 3), (53, .class_ 265), (0, u "com/example/rules_for_records/rulesforrecords/Evaluation$Outcome"), (4, .class_ 271), (0, u "com/example/rules_for_records/rulesforrecords/Evaluation$Judging"), (65, .class_ 338), (0, u "com/example/rules_for_records/rulesforrecords/Evaluation$1Level"), (47, u "WITHHELD"), (0, u "Ljava/lang/String;"), (7, u "(ZZ)V"), (13, u "appliesEvery"), (0, u "gather"), (0, u "finish")] 71

def k2c0 : Code := { maxStack := 3, maxLocals := 3, code := prog_10_method_1_code, exceptionTable := #[], attributes := #[] }
def k2m0 : Method := { name := "<init>", desc := "(ZZ)V", sig := { parameters := [.boolean, .boolean], returnType := none }, accessFlags := 0, code := some k2c0 }
def k2c1 : Code := { maxStack := 1, maxLocals := 1, code := prog_10_method_9_code, exceptionTable := #[], attributes := #[] }
def k2m1 : Method := { name := "appliesEvery", desc := "()Z", sig := { parameters := [], returnType := some .boolean }, accessFlags := 0, code := some k2c1 }
def k2c2 : Code := { maxStack := 3, maxLocals := 2, code := prog_10_method_11_code, exceptionTable := #[], attributes := #[] }
def k2m2 : Method := { name := "gather", desc := "()Lcom/example/rules_for_records/rulesforrecords/Evaluated;", sig := { parameters := [], returnType := some (.object "com/example/rules_for_records/rulesforrecords/Evaluated") }, accessFlags := 0, code := some k2c2 }
def k2c3 : Code := { maxStack := 2, maxLocals := 2, code := prog_10_method_12_code, exceptionTable := #[], attributes := #[] }
def k2m3 : Method := { name := "finish", desc := "(Lcom/example/rules_for_records/rulesforrecords/Evaluated;)V", sig := { parameters := [(.object "com/example/rules_for_records/rulesforrecords/Evaluated")], returnType := none }, accessFlags := 0, code := some k2c3 }
/-- com/example/rules_for_records/rulesforrecords/Evaluation -/
def k2 : Class := { plain "com/example/rules_for_records/rulesforrecords/Evaluation" (some 0) with
  accessFlags := 48
  interfaces := #[]
  cf := some (fileOf pool2 11 #[.nestMembers #[270, 264, 65, 117, 52, 115, 337]] #[{ accessFlags := 0, nameIndex := 5, descriptorIndex := 395, attributes := #[] }, { accessFlags := 0, nameIndex := 409, descriptorIndex := 110, attributes := #[] }, { accessFlags := 0, nameIndex := 410, descriptorIndex := 130, attributes := #[] }, { accessFlags := 0, nameIndex := 411, descriptorIndex := 136, attributes := #[] }] 48 2 #[] #[{ accessFlags := 24, nameIndex := 386, descriptorIndex := 387, attributes := #[] }, { accessFlags := 18, nameIndex := 47, descriptorIndex := 48, attributes := #[] }, { accessFlags := 18, nameIndex := 51, descriptorIndex := 48, attributes := #[] }, { accessFlags := 18, nameIndex := 14, descriptorIndex := 15, attributes := #[] }, { accessFlags := 18, nameIndex := 18, descriptorIndex := 15, attributes := #[] }, { accessFlags := 18, nameIndex := 21, descriptorIndex := 15, attributes := #[] }, { accessFlags := 2, nameIndex := 129, descriptorIndex := 209, attributes := #[] }, { accessFlags := 2, nameIndex := 30, descriptorIndex := 31, attributes := #[] }, { accessFlags := 18, nameIndex := 37, descriptorIndex := 38, attributes := #[] }, { accessFlags := 18, nameIndex := 44, descriptorIndex := 31, attributes := #[] }])
  fields := #[{ name := "WITHHELD", type := (.object "java/lang/String"), accessFlags := 24, slot := 0, constantValue := 0 }, { name := "configuring", type := .boolean, accessFlags := 18, slot := 0, constantValue := 0 }, { name := "annotating", type := .boolean, accessFlags := 18, slot := 1, constantValue := 0 }, { name := "errors", type := (.object "java/util/List"), accessFlags := 18, slot := 2, constantValue := 0 }, { name := "secrets", type := (.object "java/util/List"), accessFlags := 18, slot := 3, constantValue := 0 }, { name := "notes", type := (.object "java/util/List"), accessFlags := 18, slot := 4, constantValue := 0 }, { name := "evaluated", type := (.object "com/example/rules_for_records/rulesforrecords/Evaluated"), accessFlags := 2, slot := 5, constantValue := 0 }, { name := "scope", type := (.object "java/util/Map"), accessFlags := 2, slot := 6, constantValue := 0 }, { name := "outerScopes", type := (.object "java/util/Deque"), accessFlags := 18, slot := 7, constantValue := 0 }, { name := "outcomes", type := (.object "java/util/Map"), accessFlags := 18, slot := 8, constantValue := 0 }]
  methods := #[k2m0, k2m1, k2m2, k2m3]
  instanceTypes := #[.boolean, .boolean, (.object "java/util/List"), (.object "java/util/List"), (.object "java/util/List"), (.object "com/example/rules_for_records/rulesforrecords/Evaluated"), (.object "java/util/Map"), (.object "java/util/Deque"), (.object "java/util/Map")]
  staticTypes := #[(.object "java/lang/String")]
  resolved := Array.replicate 483 none
  statics := none }

def pool3 : Array CpInfo := pool [(8, .class_ 10), (1, u "java/lang/Iterable"), (24, .class_ 36), (0, u "java/lang/Object")] 25

/-- java/lang/Iterable -/
def k3 : Class := { plain "java/lang/Iterable" (some 0) with
  accessFlags := 1537
  interfaces := #[]
  cf := some (fileOf pool3 8 #[] #[] 1537 35 #[] #[])
  fields := #[]
  methods := #[]
  instanceTypes := #[]
  staticTypes := #[]
  resolved := Array.replicate 62 none
  statics := none }

def pool4 : Array CpInfo := pool [(10, .class_ 12), (1, u "java/util/Collection"), (10, u "iterator"), (0, u "()Ljava/util/Iterator;"), (35, .class_ 61), (0, u "java/lang/Object"), (0, .class_ 63), (0, u "java/lang/Iterable")] 51

def k4m0 : Method := { name := "iterator", desc := "()Ljava/util/Iterator;", sig := { parameters := [], returnType := some (.object "java/util/Iterator") }, accessFlags := 1025, code := none }
/-- java/util/Collection -/
def k4 : Class := { plain "java/util/Collection" (some 0) with
  accessFlags := 1537
  interfaces := #[3]
  cf := some (fileOf pool4 10 #[] #[{ accessFlags := 1025, nameIndex := 23, descriptorIndex := 24, attributes := #[] }] 1537 60 #[62] #[])
  fields := #[]
  methods := #[k4m0]
  instanceTypes := #[]
  staticTypes := #[]
  resolved := Array.replicate 115 none
  statics := none }

def pool5 : Array CpInfo := pool [(1, .methodref 2 3), (0, .class_ 4), (0, .nameAndType 5 6), (0, u "java/lang/Object"), (0, u "<init>"), (0, u "()V"), (1, .class_ 10), (1, u "java/util/AbstractCollection"), (3, .nameAndType 15 16), (0, u "iterator"), (0, u "()Ljava/util/Iterator;"), (0, .interfaceMethodref 18 19), (0, .class_ 20), (0, .nameAndType 21 22), (0, u "java/util/Iterator"), (0, u "hasNext"), (0, u "()Z"), (53, .interfaceMethodref 77 14), (0, .class_ 78), (0, u "java/util/Collection"), (63, u "(Ljava/util/Collection;)Z"), (4, u "addAll")] 12

def k5c0 : Code := { maxStack := 1, maxLocals := 1, code := jdk_22_method_1_code, exceptionTable := #[], attributes := #[] }
def k5m0 : Method := { name := "<init>", desc := "()V", sig := { parameters := [], returnType := none }, accessFlags := 4, code := some k5c0 }
def k5c1 : Code := { maxStack := 2, maxLocals := 5, code := jdk_22_method_12_code, exceptionTable := #[], attributes := #[] }
def k5m1 : Method := { name := "addAll", desc := "(Ljava/util/Collection;)Z", sig := { parameters := [(.object "java/util/Collection")], returnType := some .boolean }, accessFlags := 1, code := some k5c1 }
/-- java/util/AbstractCollection -/
def k5 : Class := { plain "java/util/AbstractCollection" (some 0) with
  accessFlags := 1057
  interfaces := #[4]
  cf := some (fileOf pool5 8 #[] #[{ accessFlags := 4, nameIndex := 5, descriptorIndex := 6, attributes := #[] }, { accessFlags := 1, nameIndex := 147, descriptorIndex := 142, attributes := #[] }] 1057 2 #[77] #[])
  fields := #[]
  methods := #[k5m0, k5m1]
  instanceTypes := #[]
  staticTypes := #[]
  resolved := Array.replicate 160 none
  statics := none }

def pool6 : Array CpInfo := pool [(8, .class_ 10), (1, u "java/util/SequencedCollection"), (15, .class_ 27), (0, u "java/lang/Object"), (0, .class_ 29), (0, u "java/util/Collection")] 27

/-- java/util/SequencedCollection -/
def k6 : Class := { plain "java/util/SequencedCollection" (some 0) with
  accessFlags := 1537
  interfaces := #[4]
  cf := some (fileOf pool6 8 #[] #[] 1537 26 #[28] #[])
  fields := #[]
  methods := #[]
  instanceTypes := #[]
  staticTypes := #[]
  resolved := Array.replicate 57 none
  statics := none }

def pool7 : Array CpInfo := pool [(8, .class_ 10), (1, u "java/util/List"), (92, .class_ 104), (0, u "java/lang/Object"), (15, .class_ 121), (0, u "java/util/SequencedCollection")] 129

/-- java/util/List -/
def k7 : Class := { plain "java/util/List" (some 0) with
  accessFlags := 1537
  interfaces := #[6]
  cf := some (fileOf pool7 8 #[] #[] 1537 103 #[120] #[])
  fields := #[]
  methods := #[]
  instanceTypes := #[]
  staticTypes := #[]
  resolved := Array.replicate 251 none
  statics := none }

def pool8 : Array CpInfo := pool [(1, .methodref 2 3), (0, .class_ 4), (0, .nameAndType 5 6), (0, u "java/util/AbstractCollection"), (0, u "<init>"), (0, u "()V"), (0, .fieldref 8 9), (0, .class_ 10), (0, .nameAndType 11 12), (0, u "java/util/AbstractList"), (0, u "modCount"), (0, u "I"), (64, .class_ 78), (0, u "java/util/AbstractList$Itr"), (3, .class_ 83), (0, u "java/util/AbstractList$ListItr"), (9, .class_ 94), (0, u "java/util/AbstractList$RandomAccessSubList"), (3, .class_ 99), (0, u "java/util/AbstractList$SubList"), (33, .class_ 134), (0, u "java/util/List"), (73, .class_ 209), (0, u "java/util/AbstractList$SubList$1"), (0, .class_ 211), (0, u "java/util/AbstractList$RandomAccessSpliterator")] 6

def k8c0 : Code := { maxStack := 2, maxLocals := 1, code := jdk_39_method_1_code, exceptionTable := #[], attributes := #[] }
def k8m0 : Method := { name := "<init>", desc := "()V", sig := { parameters := [], returnType := none }, accessFlags := 4, code := some k8c0 }
/-- java/util/AbstractList -/
def k8 : Class := { plain "java/util/AbstractList" (some 5) with
  accessFlags := 1057
  interfaces := #[7]
  cf := some (fileOf pool8 8 #[.nestMembers #[93, 98, 208, 210, 82, 77]] #[{ accessFlags := 4, nameIndex := 5, descriptorIndex := 6, attributes := #[] }] 1057 2 #[133] #[{ accessFlags := 132, nameIndex := 11, descriptorIndex := 12, attributes := #[] }])
  fields := #[{ name := "modCount", type := .int, accessFlags := 132, slot := 0, constantValue := 0 }]
  methods := #[k8m0]
  instanceTypes := #[.int]
  staticTypes := #[]
  resolved := Array.replicate 218 none
  statics := none }

def pool9 : Array CpInfo := pool [(1, .class_ 2), (0, u "java/util/RandomAccess"), (0, .class_ 4), (0, u "java/lang/Object")] 2

/-- java/util/RandomAccess -/
def k9 : Class := { plain "java/util/RandomAccess" (some 0) with
  accessFlags := 1537
  interfaces := #[]
  cf := some (fileOf pool9 1 #[] #[] 1537 3 #[] #[])
  fields := #[]
  methods := #[]
  instanceTypes := #[]
  staticTypes := #[]
  resolved := Array.replicate 7 none
  statics := none }

def pool10 : Array CpInfo := pool [(1, .class_ 2), (0, u "java/lang/Cloneable"), (0, .class_ 4), (0, u "java/lang/Object")] 2

/-- java/lang/Cloneable -/
def k10 : Class := { plain "java/lang/Cloneable" (some 0) with
  accessFlags := 1537
  interfaces := #[]
  cf := some (fileOf pool10 1 #[] #[] 1537 3 #[] #[])
  fields := #[]
  methods := #[]
  instanceTypes := #[]
  staticTypes := #[]
  resolved := Array.replicate 7 none
  statics := none }

def pool11 : Array CpInfo := pool [(1, .class_ 2), (0, u "java/io/Serializable"), (0, .class_ 4), (0, u "java/lang/Object")] 2

/-- java/io/Serializable -/
def k11 : Class := { plain "java/io/Serializable" (some 0) with
  accessFlags := 1537
  interfaces := #[]
  cf := some (fileOf pool11 1 #[] #[] 1537 3 #[] #[])
  fields := #[]
  methods := #[]
  instanceTypes := #[]
  staticTypes := #[]
  resolved := Array.replicate 7 none
  statics := none }

def pool12 : Array CpInfo := pool [(1, .methodref 2 3), (0, .class_ 4), (0, .nameAndType 5 6), (0, u "java/util/AbstractList"), (0, u "<init>"), (0, u "()V"), (2, .fieldref 10 11), (0, .class_ 12), (0, .nameAndType 13 14), (0, u "java/util/ArrayList"), (0, u "elementData"), (0, u "[Ljava/lang/Object;"), (2, u "EMPTY_ELEMENTDATA"), (21, .fieldref 10 40), (0, .nameAndType 41 14), (0, u "DEFAULTCAPACITY_EMPTY_ELEMENTDATA"), (8, u "size"), (0, u "I"), (96, .class_ 149), (0, u "java/util/List"), (112, .class_ 263), (0, u "java/util/ArrayList$ListItr"), (3, .class_ 268), (0, u "java/util/ArrayList$Itr"), (7, .class_ 277), (0, u "java/util/ArrayList$SubList"), (12, .class_ 291), (0, u "java/util/ArrayList$ArrayListSpliterator"), (37, .class_ 330), (0, u "java/util/RandomAccess"), (0, .class_ 332), (0, u "java/lang/Cloneable"), (0, .class_ 334), (0, u "java/io/Serializable"), (0, u "serialVersionUID"), (0, u "J"), (3, u "DEFAULT_CAPACITY"), (159, .class_ 501), (0, u "java/util/ArrayList$SubList$2"), (0, .class_ 503), (0, u "java/util/ArrayList$SubList$1")] 5

def k12c0 : Code := { maxStack := 2, maxLocals := 1, code := jdk_38_method_2_code, exceptionTable := #[], attributes := #[] }
def k12m0 : Method := { name := "<init>", desc := "()V", sig := { parameters := [], returnType := none }, accessFlags := 1, code := some k12c0 }
/-- java/util/ArrayList -/
def k12 : Class := { plain "java/util/ArrayList" (some 8) with
  accessFlags := 33
  interfaces := #[7, 9, 10, 11]
  cf := some (fileOf pool12 10 #[.nestMembers #[290, 276, 500, 502, 262, 267]] #[{ accessFlags := 1, nameIndex := 5, descriptorIndex := 6, attributes := #[] }] 33 2 #[148, 329, 331, 333] #[{ accessFlags := 26, nameIndex := 335, descriptorIndex := 336, attributes := #[] }, { accessFlags := 26, nameIndex := 340, descriptorIndex := 51, attributes := #[] }, { accessFlags := 26, nameIndex := 17, descriptorIndex := 14, attributes := #[] }, { accessFlags := 26, nameIndex := 41, descriptorIndex := 14, attributes := #[] }, { accessFlags := 128, nameIndex := 13, descriptorIndex := 14, attributes := #[] }, { accessFlags := 2, nameIndex := 50, descriptorIndex := 51, attributes := #[] }])
  fields := #[{ name := "serialVersionUID", type := .long, accessFlags := 26, slot := 0, constantValue := 0 }, { name := "DEFAULT_CAPACITY", type := .int, accessFlags := 26, slot := 1, constantValue := 0 }, { name := "EMPTY_ELEMENTDATA", type := (.array (.object "java/lang/Object")), accessFlags := 26, slot := 2, constantValue := 0 }, { name := "DEFAULTCAPACITY_EMPTY_ELEMENTDATA", type := (.array (.object "java/lang/Object")), accessFlags := 26, slot := 3, constantValue := 0 }, { name := "elementData", type := (.array (.object "java/lang/Object")), accessFlags := 128, slot := 1, constantValue := 0 }, { name := "size", type := .int, accessFlags := 2, slot := 2, constantValue := 0 }]
  methods := #[k12m0]
  instanceTypes := #[.int, (.array (.object "java/lang/Object")), .int]
  staticTypes := #[.long, .int, (.array (.object "java/lang/Object")), (.array (.object "java/lang/Object"))]
  resolved := Array.replicate 509 none
  statics := some 0 }

def pool13 : Array CpInfo := pool [(2, .class_ 4), (1, u "java/util/Map"), (31, .class_ 37), (0, u "java/util/Map$Entry"), (43, .fieldref 82 83), (0, .class_ 84), (0, .nameAndType 85 86), (0, u "java/util/ImmutableCollections"), (0, u "EMPTY_MAP"), (0, u "Ljava/util/ImmutableCollections$MapN;"), (6, .class_ 94), (0, u "java/lang/Object"), (13, u "of"), (0, u "()Ljava/util/Map;")] 153

def k13c0 : Code := { maxStack := 1, maxLocals := 0, code := jdk_72_method_26_code, exceptionTable := #[], attributes := #[] }
def k13m0 : Method := { name := "of", desc := "()Ljava/util/Map;", sig := { parameters := [], returnType := some (.object "java/util/Map") }, accessFlags := 9, code := some k13c0 }
/-- java/util/Map -/
def k13 : Class := { plain "java/util/Map" (some 0) with
  accessFlags := 1537
  interfaces := #[]
  cf := some (fileOf pool13 2 #[.nestMembers #[36]] #[{ accessFlags := 9, nameIndex := 108, descriptorIndex := 109, attributes := #[] }] 1537 93 #[] #[])
  fields := #[]
  methods := #[k13m0]
  instanceTypes := #[]
  staticTypes := #[]
  resolved := Array.replicate 263 none
  statics := none }

def pool14 : Array CpInfo := pool [(2, .class_ 4), (1, u "java/lang/Object"), (0, u "<init>"), (0, u "()V"), (3, .class_ 11), (0, u "java/util/ImmutableCollections$List12"), (0, .class_ 13), (0, u "java/util/ImmutableCollections$ListN"), (3, u "Z"), (29, .class_ 49), (1, u "java/util/ImmutableCollections"), (0, u "$assertionsDisabled"), (5, u "[Ljava/lang/Object;"), (5, u "EMPTY_LIST"), (0, u "Ljava/util/ImmutableCollections$ListN;"), (8, u "EMPTY_LIST_NULLS"), (22, u "SALT32L"), (0, u "J"), (2, u "REVERSE"), (6, u "archivedObjects"), (2, u "EMPTY"), (0, u "Ljava/lang/Object;"), (0, .class_ 112), (0, u "java/util/ImmutableCollections$SetN"), (5, u "EMPTY_SET"), (0, u "Ljava/util/ImmutableCollections$SetN;"), (0, .class_ 121), (0, u "java/util/ImmutableCollections$MapN"), (3, u "EMPTY_MAP"), (0, u "Ljava/util/ImmutableCollections$MapN;"), (4, u "EXPAND_FACTOR"), (0, u "I"), (36, .class_ 170), (0, u "java/util/ImmutableCollections$MapN$MapNIterator"), (0, .class_ 172), (0, u "java/util/ImmutableCollections$MapN$1"), (0, .class_ 174), (0, u "java/util/ImmutableCollections$Map1"), (0, .class_ 176), (0, u "java/util/ImmutableCollections$AbstractImmutableMap"), (0, .class_ 178), (0, u "java/util/ImmutableCollections$SetN$SetNIterator"), (0, .class_ 180), (0, u "java/util/ImmutableCollections$Set12"), (0, .class_ 182), (0, u "java/util/ImmutableCollections$Set12$1"), (0, .class_ 184), (0, u "java/util/ImmutableCollections$AbstractImmutableSet"), (0, .class_ 186), (0, u "java/util/ImmutableCollections$SubList"), (0, .class_ 188), (0, u "java/util/ImmutableCollections$ListItr"), (0, .class_ 190), (0, u "java/util/ImmutableCollections$AbstractImmutableList"), (0, .class_ 192), (0, u "java/util/ImmutableCollections$AbstractImmutableCollection"), (0, .class_ 194), (0, u "java/util/ImmutableCollections$Access"), (0, .class_ 196), (0, u "java/util/ImmutableCollections$Access$1")] 16

def k14m0 : Method := { name := "<init>", desc := "()V", sig := { parameters := [], returnType := none }, accessFlags := 2, code := none }
/-- java/util/ImmutableCollections -/
def k14 : Class := { plain "java/util/ImmutableCollections" (some 0) with
  accessFlags := 32
  interfaces := #[]
  cf := some (fileOf pool14 47 #[.nestMembers #[120, 169, 171, 173, 175, 111, 177, 179, 181, 183, 12, 10, 185, 187, 189, 191, 193, 195]] #[{ accessFlags := 2, nameIndex := 5, descriptorIndex := 6, attributes := #[] }] 32 2 #[] #[{ accessFlags := 26, nameIndex := 95, descriptorIndex := 96, attributes := #[] }, { accessFlags := 26, nameIndex := 99, descriptorIndex := 17, attributes := #[] }, { accessFlags := 10, nameIndex := 106, descriptorIndex := 56, attributes := #[] }, { accessFlags := 26, nameIndex := 109, descriptorIndex := 110, attributes := #[] }, { accessFlags := 24, nameIndex := 62, descriptorIndex := 63, attributes := #[] }, { accessFlags := 24, nameIndex := 72, descriptorIndex := 63, attributes := #[] }, { accessFlags := 24, nameIndex := 118, descriptorIndex := 119, attributes := #[] }, { accessFlags := 24, nameIndex := 125, descriptorIndex := 126, attributes := #[] }, { accessFlags := 24, nameIndex := 131, descriptorIndex := 132, attributes := #[] }, { accessFlags := 4120, nameIndex := 50, descriptorIndex := 17, attributes := #[] }])
  fields := #[{ name := "SALT32L", type := .long, accessFlags := 26, slot := 0, constantValue := 0 }, { name := "REVERSE", type := .boolean, accessFlags := 26, slot := 1, constantValue := 0 }, { name := "archivedObjects", type := (.array (.object "java/lang/Object")), accessFlags := 10, slot := 2, constantValue := 0 }, { name := "EMPTY", type := (.object "java/lang/Object"), accessFlags := 26, slot := 3, constantValue := 0 }, { name := "EMPTY_LIST", type := (.object "java/util/ImmutableCollections$ListN"), accessFlags := 24, slot := 4, constantValue := 0 }, { name := "EMPTY_LIST_NULLS", type := (.object "java/util/ImmutableCollections$ListN"), accessFlags := 24, slot := 5, constantValue := 0 }, { name := "EMPTY_SET", type := (.object "java/util/ImmutableCollections$SetN"), accessFlags := 24, slot := 6, constantValue := 0 }, { name := "EMPTY_MAP", type := (.object "java/util/ImmutableCollections$MapN"), accessFlags := 24, slot := 7, constantValue := 0 }, { name := "EXPAND_FACTOR", type := .int, accessFlags := 24, slot := 8, constantValue := 0 }, { name := "$assertionsDisabled", type := .boolean, accessFlags := 4120, slot := 9, constantValue := 0 }]
  methods := #[k14m0]
  instanceTypes := #[]
  staticTypes := #[.long, .boolean, (.array (.object "java/lang/Object")), (.object "java/lang/Object"), (.object "java/util/ImmutableCollections$ListN"), (.object "java/util/ImmutableCollections$ListN"), (.object "java/util/ImmutableCollections$SetN"), (.object "java/util/ImmutableCollections$MapN"), .int, .boolean]
  resolved := Array.replicate 213 none
  statics := some 1 }

def pool15 : Array CpInfo := pool [(1, .class_ 2), (0, u "java/util/Queue"), (0, .class_ 4), (0, u "java/lang/Object"), (0, .class_ 6), (0, u "java/util/Collection")] 14

/-- java/util/Queue -/
def k15 : Class := { plain "java/util/Queue" (some 0) with
  accessFlags := 1537
  interfaces := #[4]
  cf := some (fileOf pool15 1 #[] #[] 1537 3 #[5] #[])
  fields := #[]
  methods := #[]
  instanceTypes := #[]
  staticTypes := #[]
  resolved := Array.replicate 21 none
  statics := none }

def pool16 : Array CpInfo := pool [(8, .class_ 10), (1, u "java/util/Deque"), (2, .class_ 14), (0, u "java/lang/Object"), (0, .class_ 16), (0, u "java/util/Queue"), (0, .class_ 18), (0, u "java/util/SequencedCollection")] 51

/-- java/util/Deque -/
def k16 : Class := { plain "java/util/Deque" (some 0) with
  accessFlags := 1537
  interfaces := #[15, 6]
  cf := some (fileOf pool16 8 #[] #[] 1537 13 #[15, 17] #[])
  fields := #[]
  methods := #[]
  instanceTypes := #[]
  staticTypes := #[]
  resolved := Array.replicate 70 none
  statics := none }

def pool17 : Array CpInfo := pool [(3, .fieldref 4 5), (0, .class_ 6), (0, .nameAndType 7 8), (0, u "java/util/ArrayDeque"), (0, u "elements"), (0, u "[Ljava/lang/Object;"), (13, u "tail"), (0, u "I"), (2, u "head"), (12, u "<init>"), (2, .methodref 43 44), (0, .class_ 45), (0, .nameAndType 39 46), (0, u "java/util/AbstractCollection"), (0, u "()V"), (0, .class_ 48), (0, u "java/lang/Object"), (82, .class_ 132), (0, u "java/util/ArrayDeque$DeqIterator"), (3, .class_ 137), (0, u "java/util/ArrayDeque$DescendingIterator"), (1, .class_ 140), (0, u "java/util/ArrayDeque$DeqSpliterator"), (137, .class_ 279), (0, u "java/util/Deque"), (0, .class_ 281), (0, u "java/lang/Cloneable"), (0, .class_ 283), (0, u "java/io/Serializable"), (0, u "MAX_ARRAY_SIZE"), (1, u "serialVersionUID"), (0, u "J")] 150

def k17c0 : Code := { maxStack := 2, maxLocals := 1, code := jdk_21_method_3_code, exceptionTable := #[], attributes := #[] }
def k17m0 : Method := { name := "<init>", desc := "()V", sig := { parameters := [], returnType := none }, accessFlags := 1, code := some k17c0 }
/-- java/util/ArrayDeque -/
def k17 : Class := { plain "java/util/ArrayDeque" (some 5) with
  accessFlags := 33
  interfaces := #[16, 10, 11]
  cf := some (fileOf pool17 4 #[.nestMembers #[139, 136, 131]] #[{ accessFlags := 1, nameIndex := 39, descriptorIndex := 46, attributes := #[] }] 33 43 #[278, 280, 282] #[{ accessFlags := 128, nameIndex := 7, descriptorIndex := 8, attributes := #[] }, { accessFlags := 128, nameIndex := 26, descriptorIndex := 23, attributes := #[] }, { accessFlags := 128, nameIndex := 22, descriptorIndex := 23, attributes := #[] }, { accessFlags := 26, nameIndex := 284, descriptorIndex := 23, attributes := #[] }, { accessFlags := 26, nameIndex := 286, descriptorIndex := 287, attributes := #[] }])
  fields := #[{ name := "elements", type := (.array (.object "java/lang/Object")), accessFlags := 128, slot := 0, constantValue := 0 }, { name := "head", type := .int, accessFlags := 128, slot := 1, constantValue := 0 }, { name := "tail", type := .int, accessFlags := 128, slot := 2, constantValue := 0 }, { name := "MAX_ARRAY_SIZE", type := .int, accessFlags := 26, slot := 0, constantValue := 0 }, { name := "serialVersionUID", type := .long, accessFlags := 26, slot := 1, constantValue := 0 }]
  methods := #[k17m0]
  instanceTypes := #[(.array (.object "java/lang/Object")), .int, .int]
  staticTypes := #[.int, .long]
  resolved := Array.replicate 438 none
  statics := none }

def pool18 : Array CpInfo := pool [(1, .methodref 2 3), (0, .class_ 4), (0, .nameAndType 5 6), (0, u "java/lang/Object"), (0, u "<init>"), (0, u "()V"), (1, .class_ 10), (1, u "java/util/AbstractMap"), (42, .class_ 54), (0, u "java/util/Map"), (9, u "keySet"), (0, u "Ljava/util/Set;"), (0, .class_ 67), (0, u "java/util/AbstractMap$1"), (5, u "values"), (0, u "Ljava/util/Collection;"), (0, .class_ 76), (0, u "java/util/AbstractMap$2"), (104, .class_ 182), (0, u "java/util/AbstractMap$ViewCollection"), (0, .class_ 184), (0, u "java/util/AbstractMap$SimpleImmutableEntry"), (0, .class_ 186), (0, u "java/util/AbstractMap$SimpleEntry"), (0, .class_ 188), (0, u "java/util/AbstractMap$2$1"), (0, .class_ 190), (0, u "java/util/AbstractMap$1$1")] 5

def k18c0 : Code := { maxStack := 1, maxLocals := 1, code := jdk_71_method_1_code, exceptionTable := #[], attributes := #[] }
def k18m0 : Method := { name := "<init>", desc := "()V", sig := { parameters := [], returnType := none }, accessFlags := 4, code := some k18c0 }
/-- java/util/AbstractMap -/
def k18 : Class := { plain "java/util/AbstractMap" (some 0) with
  accessFlags := 1057
  interfaces := #[13]
  cf := some (fileOf pool18 8 #[.nestMembers #[181, 183, 185, 75, 187, 66, 189]] #[{ accessFlags := 4, nameIndex := 5, descriptorIndex := 6, attributes := #[] }] 1057 2 #[53] #[{ accessFlags := 128, nameIndex := 64, descriptorIndex := 65, attributes := #[] }, { accessFlags := 128, nameIndex := 73, descriptorIndex := 74, attributes := #[] }])
  fields := #[{ name := "keySet", type := (.object "java/util/Set"), accessFlags := 128, slot := 0, constantValue := 0 }, { name := "values", type := (.object "java/util/Collection"), accessFlags := 128, slot := 1, constantValue := 0 }]
  methods := #[k18m0]
  instanceTypes := #[(.object "java/util/Set"), (.object "java/util/Collection")]
  staticTypes := #[]
  resolved := Array.replicate 196 none
  statics := none }

def pool19 : Array CpInfo := pool [(40, .class_ 41), (0, u "java/util/HashMap"), (1, .methodref 44 45), (0, .class_ 46), (0, .nameAndType 47 48), (0, u "java/util/AbstractMap"), (0, u "<init>"), (0, u "()V"), (32, .fieldref 40 82), (0, .nameAndType 83 84), (0, u "loadFactor"), (0, u "F"), (5, u "threshold"), (0, u "I"), (0, .float 1061158912), (8, .class_ 103), (1, u "java/util/Map"), (0, u "size"), (2, u "table"), (0, u "[Ljava/util/HashMap$Node;"), (14, u "entrySet"), (0, u "()Ljava/util/Set;"), (38, .class_ 165), (1, u "java/util/HashMap$Node"), (14, .class_ 181), (0, u "java/util/HashMap$TreeNode"), (22, u "modCount"), (34, .fieldref 40 240), (0, .nameAndType 241 242), (0, u "keySet"), (0, u "Ljava/util/Set;"), (0, .class_ 244), (0, u "java/util/HashMap$KeySet"), (0, .methodref 243 246), (0, .nameAndType 47 247), (0, u "(Ljava/util/HashMap;)V"), (15, .class_ 264), (0, u "java/util/HashMap$Values"), (3, .class_ 269), (0, u "java/util/HashMap$EntrySet"), (76, .class_ 348), (1, u "java/util/HashMap$UnsafeHolder"), (43, .class_ 393), (0, u "java/lang/Cloneable"), (0, .class_ 395), (0, u "java/io/Serializable"), (0, u "serialVersionUID"), (0, u "J"), (3, u "DEFAULT_INITIAL_CAPACITY"), (1, u "MAXIMUM_CAPACITY"), (0, u "DEFAULT_LOAD_FACTOR"), (0, u "TREEIFY_THRESHOLD"), (1, u "UNTREEIFY_THRESHOLD"), (1, u "MIN_TREEIFY_CAPACITY"), (186, .class_ 597), (0, u "java/util/HashMap$EntrySpliterator"), (0, .class_ 599), (0, u "java/util/HashMap$ValueSpliterator"), (0, .class_ 601), (0, u "java/util/HashMap$KeySpliterator"), (0, .class_ 603), (0, u "java/util/HashMap$HashMapSpliterator"), (0, .class_ 605), (0, u "java/util/HashMap$EntryIterator"), (0, .class_ 607), (0, u "java/util/HashMap$ValueIterator"), (0, .class_ 609), (0, u "java/util/HashMap$KeyIterator"), (0, .class_ 611), (0, u "java/util/HashMap$HashIterator")] 17

def k19c0 : Code := { maxStack := 2, maxLocals := 1, code := jdk_69_method_7_code, exceptionTable := #[], attributes := #[] }
def k19m0 : Method := { name := "<init>", desc := "()V", sig := { parameters := [], returnType := none }, accessFlags := 1, code := some k19c0 }
def k19c1 : Code := { maxStack := 3, maxLocals := 2, code := jdk_69_method_24_code, exceptionTable := #[], attributes := #[] }
def k19m1 : Method := { name := "keySet", desc := "()Ljava/util/Set;", sig := { parameters := [], returnType := some (.object "java/util/Set") }, accessFlags := 1, code := some k19c1 }
/-- java/util/HashMap -/
def k19 : Class := { plain "java/util/HashMap" (some 18) with
  accessFlags := 33
  interfaces := #[13, 10, 11]
  cf := some (fileOf pool19 40 #[.nestMembers #[180, 596, 598, 600, 602, 604, 606, 608, 610, 346, 268, 263, 243, 163]] #[{ accessFlags := 1, nameIndex := 47, descriptorIndex := 48, attributes := #[] }, { accessFlags := 1, nameIndex := 241, descriptorIndex := 124, attributes := #[] }] 33 44 #[101, 392, 394] #[{ accessFlags := 26, nameIndex := 396, descriptorIndex := 397, attributes := #[] }, { accessFlags := 24, nameIndex := 401, descriptorIndex := 91, attributes := #[] }, { accessFlags := 24, nameIndex := 403, descriptorIndex := 91, attributes := #[] }, { accessFlags := 24, nameIndex := 404, descriptorIndex := 84, attributes := #[] }, { accessFlags := 24, nameIndex := 405, descriptorIndex := 91, attributes := #[] }, { accessFlags := 24, nameIndex := 407, descriptorIndex := 91, attributes := #[] }, { accessFlags := 24, nameIndex := 409, descriptorIndex := 91, attributes := #[] }, { accessFlags := 128, nameIndex := 107, descriptorIndex := 108, attributes := #[] }, { accessFlags := 128, nameIndex := 123, descriptorIndex := 242, attributes := #[] }, { accessFlags := 128, nameIndex := 104, descriptorIndex := 91, attributes := #[] }, { accessFlags := 128, nameIndex := 204, descriptorIndex := 91, attributes := #[] }, { accessFlags := 0, nameIndex := 90, descriptorIndex := 91, attributes := #[] }, { accessFlags := 16, nameIndex := 83, descriptorIndex := 84, attributes := #[] }])
  fields := #[{ name := "serialVersionUID", type := .long, accessFlags := 26, slot := 0, constantValue := 0 }, { name := "DEFAULT_INITIAL_CAPACITY", type := .int, accessFlags := 24, slot := 1, constantValue := 0 }, { name := "MAXIMUM_CAPACITY", type := .int, accessFlags := 24, slot := 2, constantValue := 0 }, { name := "DEFAULT_LOAD_FACTOR", type := .float, accessFlags := 24, slot := 3, constantValue := 0 }, { name := "TREEIFY_THRESHOLD", type := .int, accessFlags := 24, slot := 4, constantValue := 0 }, { name := "UNTREEIFY_THRESHOLD", type := .int, accessFlags := 24, slot := 5, constantValue := 0 }, { name := "MIN_TREEIFY_CAPACITY", type := .int, accessFlags := 24, slot := 6, constantValue := 0 }, { name := "table", type := (.array (.object "java/util/HashMap$Node")), accessFlags := 128, slot := 2, constantValue := 0 }, { name := "entrySet", type := (.object "java/util/Set"), accessFlags := 128, slot := 3, constantValue := 0 }, { name := "size", type := .int, accessFlags := 128, slot := 4, constantValue := 0 }, { name := "modCount", type := .int, accessFlags := 128, slot := 5, constantValue := 0 }, { name := "threshold", type := .int, accessFlags := 0, slot := 6, constantValue := 0 }, { name := "loadFactor", type := .float, accessFlags := 16, slot := 7, constantValue := 0 }]
  methods := #[k19m0, k19m1]
  instanceTypes := #[(.object "java/util/Set"), (.object "java/util/Collection"), (.array (.object "java/util/HashMap$Node")), (.object "java/util/Set"), .int, .int, .int, .float]
  staticTypes := #[.long, .int, .int, .float, .int, .int, .int]
  resolved := Array.replicate 629 none
  statics := none }

def pool20 : Array CpInfo := pool [(1, .methodref 2 3), (0, .class_ 4), (0, .nameAndType 5 6), (0, u "java/lang/Object"), (0, u "<init>"), (0, u "()V"), (0, .class_ 8), (0, u "java/util/HashSet"), (0, .methodref 7 3), (0, .fieldref 11 12), (0, .class_ 13), (0, .nameAndType 14 15), (0, u "com/example/rules_for_records/rulesforrecords/Evaluated"), (0, u "names"), (0, u "Ljava/util/Set;"), (0, .class_ 17), (0, u "java/util/BitSet"), (0, .methodref 16 3), (0, .fieldref 11 20), (0, .nameAndType 21 22), (0, u "items"), (0, u "Ljava/util/BitSet;"), (1, .class_ 26), (1, u "java/util/Set"), (13, .fieldref 11 41), (0, .nameAndType 42 43), (0, u "keysNamed"), (0, u "Z"), (0, .interfaceMethodref 24 45), (0, .nameAndType 46 47), (0, u "addAll"), (0, u "(Ljava/util/Collection;)Z"), (0, .methodref 16 49), (0, .nameAndType 50 51), (0, u "or"), (0, u "(Ljava/util/BitSet;)V"), (12, u "(Lcom/example/rules_for_records/rulesforrecords/Evaluated;)V")] 2

def k20c0 : Code := { maxStack := 3, maxLocals := 1, code := prog_9_method_1_code, exceptionTable := #[], attributes := #[] }
def k20m0 : Method := { name := "<init>", desc := "()V", sig := { parameters := [], returnType := none }, accessFlags := 0, code := some k20c0 }
def k20c1 : Code := { maxStack := 3, maxLocals := 2, code := prog_9_method_8_code, exceptionTable := #[], attributes := #[] }
def k20m1 : Method := { name := "addAll", desc := "(Lcom/example/rules_for_records/rulesforrecords/Evaluated;)V", sig := { parameters := [(.object "com/example/rules_for_records/rulesforrecords/Evaluated")], returnType := none }, accessFlags := 0, code := some k20c1 }
/-- com/example/rules_for_records/rulesforrecords/Evaluated -/
def k20 : Class := { plain "com/example/rules_for_records/rulesforrecords/Evaluated" (some 0) with
  accessFlags := 48
  interfaces := #[]
  cf := some (fileOf pool20 11 #[] #[{ accessFlags := 0, nameIndex := 5, descriptorIndex := 6, attributes := #[] }, { accessFlags := 0, nameIndex := 46, descriptorIndex := 64, attributes := #[] }] 48 2 #[] #[{ accessFlags := 18, nameIndex := 14, descriptorIndex := 15, attributes := #[] }, { accessFlags := 18, nameIndex := 21, descriptorIndex := 22, attributes := #[] }, { accessFlags := 2, nameIndex := 42, descriptorIndex := 43, attributes := #[] }])
  fields := #[{ name := "names", type := (.object "java/util/Set"), accessFlags := 18, slot := 0, constantValue := 0 }, { name := "items", type := (.object "java/util/BitSet"), accessFlags := 18, slot := 1, constantValue := 0 }, { name := "keysNamed", type := .boolean, accessFlags := 2, slot := 2, constantValue := 0 }]
  methods := #[k20m0, k20m1]
  instanceTypes := #[(.object "java/util/Set"), (.object "java/util/BitSet"), .boolean]
  staticTypes := #[]
  resolved := Array.replicate 67 none
  statics := none }

def pool21 : Array CpInfo := pool [(26, .class_ 27), (0, u "java/lang/Object"), (5, .class_ 34), (0, u "java/util/Set"), (1, .class_ 38), (1, u "java/util/Collection"), (22, u "iterator"), (0, u "()Ljava/util/Iterator;"), (8, u "(Ljava/util/Collection;)Z"), (1, u "addAll")] 70

def k21m0 : Method := { name := "iterator", desc := "()Ljava/util/Iterator;", sig := { parameters := [], returnType := some (.object "java/util/Iterator") }, accessFlags := 1025, code := none }
def k21m1 : Method := { name := "addAll", desc := "(Ljava/util/Collection;)Z", sig := { parameters := [(.object "java/util/Collection")], returnType := some .boolean }, accessFlags := 1025, code := none }
/-- java/util/Set -/
def k21 : Class := { plain "java/util/Set" (some 0) with
  accessFlags := 1537
  interfaces := #[4]
  cf := some (fileOf pool21 33 #[] #[{ accessFlags := 1025, nameIndex := 61, descriptorIndex := 62, attributes := #[] }, { accessFlags := 1025, nameIndex := 73, descriptorIndex := 71, attributes := #[] }] 1537 26 #[36] #[])
  fields := #[]
  methods := #[k21m0, k21m1]
  instanceTypes := #[]
  staticTypes := #[]
  resolved := Array.replicate 144 none
  statics := none }

def pool22 : Array CpInfo := pool [(1, .methodref 2 3), (0, .class_ 4), (0, .nameAndType 5 6), (0, u "java/util/AbstractCollection"), (0, u "<init>"), (0, u "()V"), (0, .class_ 8), (0, u "java/util/Set"), (7, .class_ 17), (0, u "java/util/AbstractSet")] 78

def k22c0 : Code := { maxStack := 1, maxLocals := 1, code := jdk_91_method_1_code, exceptionTable := #[], attributes := #[] }
def k22m0 : Method := { name := "<init>", desc := "()V", sig := { parameters := [], returnType := none }, accessFlags := 4, code := some k22c0 }
/-- java/util/AbstractSet -/
def k22 : Class := { plain "java/util/AbstractSet" (some 5) with
  accessFlags := 1057
  interfaces := #[21]
  cf := some (fileOf pool22 16 #[] #[{ accessFlags := 4, nameIndex := 5, descriptorIndex := 6, attributes := #[] }] 1057 2 #[7] #[])
  fields := #[]
  methods := #[k22m0]
  instanceTypes := #[]
  staticTypes := #[]
  resolved := Array.replicate 96 none
  statics := none }

def pool23 : Array CpInfo := pool [(1, .methodref 2 3), (0, .class_ 4), (0, .nameAndType 5 6), (0, u "java/util/AbstractSet"), (0, u "<init>"), (0, u "()V"), (0, .class_ 8), (0, u "java/util/HashMap"), (0, .methodref 7 3), (0, .fieldref 11 12), (0, .class_ 13), (0, .nameAndType 14 15), (0, u "java/util/HashSet"), (0, u "map"), (0, u "Ljava/util/HashMap;"), (29, .methodref 7 46), (0, .nameAndType 47 48), (0, u "keySet"), (0, u "()Ljava/util/Set;"), (0, .interfaceMethodref 50 51), (0, .class_ 52), (0, .nameAndType 53 54), (0, u "java/util/Set"), (0, u "iterator"), (0, u "()Ljava/util/Iterator;"), (11, u "PRESENT"), (0, u "Ljava/lang/Object;"), (158, .class_ 227), (0, u "java/lang/Cloneable"), (0, .class_ 229), (0, u "java/io/Serializable"), (0, u "serialVersionUID"), (0, u "J")] 71

def k23c0 : Code := { maxStack := 3, maxLocals := 1, code := jdk_93_method_1_code, exceptionTable := #[], attributes := #[] }
def k23m0 : Method := { name := "<init>", desc := "()V", sig := { parameters := [], returnType := none }, accessFlags := 1, code := some k23c0 }
def k23c1 : Code := { maxStack := 1, maxLocals := 1, code := jdk_93_method_6_code, exceptionTable := #[], attributes := #[] }
def k23m1 : Method := { name := "iterator", desc := "()Ljava/util/Iterator;", sig := { parameters := [], returnType := some (.object "java/util/Iterator") }, accessFlags := 1, code := some k23c1 }
/-- java/util/HashSet -/
def k23 : Class := { plain "java/util/HashSet" (some 22) with
  accessFlags := 33
  interfaces := #[21, 10, 11]
  cf := some (fileOf pool23 11 #[] #[{ accessFlags := 1, nameIndex := 5, descriptorIndex := 6, attributes := #[] }, { accessFlags := 1, nameIndex := 53, descriptorIndex := 54, attributes := #[] }] 33 2 #[50, 226, 228] #[{ accessFlags := 24, nameIndex := 230, descriptorIndex := 231, attributes := #[] }, { accessFlags := 128, nameIndex := 14, descriptorIndex := 15, attributes := #[] }, { accessFlags := 24, nameIndex := 66, descriptorIndex := 67, attributes := #[] }])
  fields := #[{ name := "serialVersionUID", type := .long, accessFlags := 24, slot := 0, constantValue := 0 }, { name := "map", type := (.object "java/util/HashMap"), accessFlags := 128, slot := 0, constantValue := 0 }, { name := "PRESENT", type := (.object "java/lang/Object"), accessFlags := 24, slot := 1, constantValue := 0 }]
  methods := #[k23m0, k23m1]
  instanceTypes := #[(.object "java/util/HashMap")]
  staticTypes := #[.long, (.object "java/lang/Object")]
  resolved := Array.replicate 303 none
  statics := none }

def pool24 : Array CpInfo := pool [(1, .class_ 2), (0, u "java/util/BitSet"), (0, .fieldref 1 4), (0, .nameAndType 5 6), (0, u "$assertionsDisabled"), (0, u "Z"), (0, .fieldref 1 8), (0, .nameAndType 9 10), (0, u "wordsInUse"), (0, u "I"), (0, .fieldref 1 12), (0, .nameAndType 13 14), (0, u "words"), (0, u "[J"), (3, .nameAndType 19 20), (0, u "<init>"), (0, u "()V"), (0, .methodref 22 18), (0, .class_ 23), (0, u "java/lang/Object"), (0, .fieldref 1 25), (0, .nameAndType 26 6), (0, u "sizeIsSticky"), (0, .methodref 1 28), (0, .nameAndType 29 30), (0, u "initWords"), (0, u "(I)V"), (21, .methodref 1 53), (0, .nameAndType 54 55), (0, u "wordIndex"), (0, u "(I)I"), (0, .methodref 1 57), (0, .nameAndType 58 20), (0, u "checkInvariants"), (75, .class_ 136), (1, u "java/lang/Math"), (1, u "(II)I"), (54, .methodref 134 194), (0, .nameAndType 195 138), (0, u "min"), (73, .class_ 270), (0, u "java/util/BitSet$1BitSetSpliterator"), (22, u "serialPersistentFields"), (0, u "[Ljava/io/ObjectStreamField;"), (0, .class_ 296), (0, u "java/lang/Cloneable"), (0, .class_ 298), (0, u "java/io/Serializable"), (0, u "ADDRESS_BITS_PER_WORD"), (2, u "BITS_PER_WORD"), (1, u "BIT_INDEX_MASK"), (1, u "WORD_MASK"), (0, u "J"), (0, u "serialVersionUID"), (57, u "(Ljava/util/BitSet;)V"), (0, u "or")] 49

def k24c0 : Code := { maxStack := 2, maxLocals := 1, code := jdk_92_method_1_code, exceptionTable := #[], attributes := #[] }
def k24m0 : Method := { name := "wordIndex", desc := "(I)I", sig := { parameters := [.int], returnType := some .int }, accessFlags := 10, code := some k24c0 }
def k24c1 : Code := { maxStack := 4, maxLocals := 1, code := jdk_92_method_2_code, exceptionTable := #[], attributes := #[] }
def k24m1 : Method := { name := "checkInvariants", desc := "()V", sig := { parameters := [], returnType := none }, accessFlags := 2, code := some k24c1 }
def k24c2 : Code := { maxStack := 2, maxLocals := 1, code := jdk_92_method_4_code, exceptionTable := #[], attributes := #[] }
def k24m2 : Method := { name := "<init>", desc := "()V", sig := { parameters := [], returnType := none }, accessFlags := 1, code := some k24c2 }
def k24c3 : Code := { maxStack := 3, maxLocals := 2, code := jdk_92_method_6_code, exceptionTable := #[], attributes := #[] }
def k24m3 : Method := { name := "initWords", desc := "(I)V", sig := { parameters := [.int], returnType := none }, accessFlags := 2, code := some k24c3 }
def k24c4 : Code := { maxStack := 6, maxLocals := 4, code := jdk_92_method_37_code, exceptionTable := #[], attributes := #[] }
def k24m4 : Method := { name := "or", desc := "(Ljava/util/BitSet;)V", sig := { parameters := [(.object "java/util/BitSet")], returnType := none }, accessFlags := 1, code := some k24c4 }
/-- java/util/BitSet -/
def k24 : Class := { plain "java/util/BitSet" (some 0) with
  accessFlags := 33
  interfaces := #[10, 11]
  cf := some (fileOf pool24 1 #[.nestMembers #[269]] #[{ accessFlags := 10, nameIndex := 54, descriptorIndex := 55, attributes := #[] }, { accessFlags := 2, nameIndex := 58, descriptorIndex := 20, attributes := #[] }, { accessFlags := 1, nameIndex := 19, descriptorIndex := 20, attributes := #[] }, { accessFlags := 2, nameIndex := 29, descriptorIndex := 30, attributes := #[] }, { accessFlags := 1, nameIndex := 367, descriptorIndex := 366, attributes := #[] }] 33 22 #[295, 297] #[{ accessFlags := 26, nameIndex := 299, descriptorIndex := 10, attributes := #[] }, { accessFlags := 26, nameIndex := 302, descriptorIndex := 10, attributes := #[] }, { accessFlags := 26, nameIndex := 304, descriptorIndex := 10, attributes := #[] }, { accessFlags := 26, nameIndex := 306, descriptorIndex := 307, attributes := #[] }, { accessFlags := 26, nameIndex := 293, descriptorIndex := 294, attributes := #[] }, { accessFlags := 2, nameIndex := 13, descriptorIndex := 14, attributes := #[] }, { accessFlags := 130, nameIndex := 9, descriptorIndex := 10, attributes := #[] }, { accessFlags := 130, nameIndex := 26, descriptorIndex := 6, attributes := #[] }, { accessFlags := 26, nameIndex := 308, descriptorIndex := 307, attributes := #[] }, { accessFlags := 4120, nameIndex := 5, descriptorIndex := 6, attributes := #[] }])
  fields := #[{ name := "ADDRESS_BITS_PER_WORD", type := .int, accessFlags := 26, slot := 0, constantValue := 0 }, { name := "BITS_PER_WORD", type := .int, accessFlags := 26, slot := 1, constantValue := 0 }, { name := "BIT_INDEX_MASK", type := .int, accessFlags := 26, slot := 2, constantValue := 0 }, { name := "WORD_MASK", type := .long, accessFlags := 26, slot := 3, constantValue := 0 }, { name := "serialPersistentFields", type := (.array (.object "java/io/ObjectStreamField")), accessFlags := 26, slot := 4, constantValue := 0 }, { name := "words", type := (.array .long), accessFlags := 2, slot := 0, constantValue := 0 }, { name := "wordsInUse", type := .int, accessFlags := 130, slot := 1, constantValue := 0 }, { name := "sizeIsSticky", type := .boolean, accessFlags := 130, slot := 2, constantValue := 0 }, { name := "serialVersionUID", type := .long, accessFlags := 26, slot := 5, constantValue := 0 }, { name := "$assertionsDisabled", type := .boolean, accessFlags := 4120, slot := 6, constantValue := 0 }]
  methods := #[k24m0, k24m1, k24m2, k24m3, k24m4]
  instanceTypes := #[(.array .long), .int, .boolean]
  staticTypes := #[.int, .int, .int, .long, (.array (.object "java/io/ObjectStreamField")), .long, .boolean]
  resolved := Array.replicate 417 none
  statics := some 2 }

def pool25 : Array CpInfo := pool [(1, .fieldref 2 3), (0, .class_ 4), (0, .nameAndType 5 6), (0, u "java/util/HashMap$KeySet"), (0, u "this$0"), (0, u "Ljava/util/HashMap;"), (0, .methodref 8 9), (0, .class_ 10), (0, .nameAndType 11 12), (0, u "java/util/AbstractSet"), (0, u "<init>"), (0, u "()V"), (1, .class_ 16), (1, u "java/util/HashMap"), (5, .class_ 23), (0, u "java/util/HashMap$KeyIterator"), (0, .methodref 22 25), (0, .nameAndType 11 26), (0, u "(Ljava/util/HashMap;)V"), (64, u "iterator"), (0, u "()Ljava/util/Iterator;")] 36

def k25c0 : Code := { maxStack := 2, maxLocals := 2, code := jdk_97_method_1_code, exceptionTable := #[], attributes := #[] }
def k25m0 : Method := { name := "<init>", desc := "(Ljava/util/HashMap;)V", sig := { parameters := [(.object "java/util/HashMap")], returnType := none }, accessFlags := 0, code := some k25c0 }
def k25c1 : Code := { maxStack := 3, maxLocals := 1, code := jdk_97_method_4_code, exceptionTable := #[], attributes := #[] }
def k25m1 : Method := { name := "iterator", desc := "()Ljava/util/Iterator;", sig := { parameters := [], returnType := some (.object "java/util/Iterator") }, accessFlags := 17, code := some k25c1 }
/-- java/util/HashMap$KeySet -/
def k25 : Class := { plain "java/util/HashMap$KeySet" (some 22) with
  accessFlags := 48
  interfaces := #[]
  cf := some (fileOf pool25 2 #[.nestHost 14] #[{ accessFlags := 0, nameIndex := 11, descriptorIndex := 26, attributes := #[] }, { accessFlags := 17, nameIndex := 91, descriptorIndex := 92, attributes := #[] }] 48 8 #[] #[{ accessFlags := 4112, nameIndex := 5, descriptorIndex := 6, attributes := #[] }])
  fields := #[{ name := "this$0", type := (.object "java/util/HashMap"), accessFlags := 4112, slot := 0, constantValue := 0 }]
  methods := #[k25m0, k25m1]
  instanceTypes := #[(.object "java/util/HashMap")]
  staticTypes := #[]
  resolved := Array.replicate 129 none
  statics := none }

def pool26 : Array CpInfo := pool [(1, .fieldref 2 3), (0, .class_ 4), (0, .nameAndType 5 6), (0, u "java/util/HashMap$HashIterator"), (0, u "this$0"), (0, u "Ljava/util/HashMap;"), (0, .methodref 8 9), (0, .class_ 10), (0, .nameAndType 11 12), (0, u "java/lang/Object"), (0, u "<init>"), (0, u "()V"), (0, .fieldref 14 15), (0, .class_ 16), (0, .nameAndType 17 18), (0, u "java/util/HashMap"), (0, u "modCount"), (0, u "I"), (0, .fieldref 2 20), (0, .nameAndType 21 18), (0, u "expectedModCount"), (0, .fieldref 14 23), (0, .nameAndType 24 25), (0, u "table"), (0, u "[Ljava/util/HashMap$Node;"), (0, .fieldref 2 27), (0, .nameAndType 28 29), (0, u "next"), (0, u "Ljava/util/HashMap$Node;"), (0, .fieldref 2 31), (0, .nameAndType 32 29), (0, u "current"), (0, .fieldref 2 34), (0, .nameAndType 35 18), (0, u "index"), (28, u "(Ljava/util/HashMap;)V"), (12, u "hasNext"), (0, u "()Z")] 12

def k26c0 : Code := { maxStack := 6, maxLocals := 3, code := jdk_99_method_1_code, exceptionTable := #[], attributes := #[] }
def k26m0 : Method := { name := "<init>", desc := "(Ljava/util/HashMap;)V", sig := { parameters := [(.object "java/util/HashMap")], returnType := none }, accessFlags := 0, code := some k26c0 }
def k26c1 : Code := { maxStack := 1, maxLocals := 1, code := jdk_99_method_2_code, exceptionTable := #[], attributes := #[] }
def k26m1 : Method := { name := "hasNext", desc := "()Z", sig := { parameters := [], returnType := some .boolean }, accessFlags := 17, code := some k26c1 }
/-- java/util/HashMap$HashIterator -/
def k26 : Class := { plain "java/util/HashMap$HashIterator" (some 0) with
  accessFlags := 1056
  interfaces := #[]
  cf := some (fileOf pool26 2 #[.nestHost 14] #[{ accessFlags := 0, nameIndex := 11, descriptorIndex := 64, attributes := #[] }, { accessFlags := 17, nameIndex := 77, descriptorIndex := 78, attributes := #[] }] 1056 8 #[] #[{ accessFlags := 0, nameIndex := 28, descriptorIndex := 29, attributes := #[] }, { accessFlags := 0, nameIndex := 32, descriptorIndex := 29, attributes := #[] }, { accessFlags := 0, nameIndex := 21, descriptorIndex := 18, attributes := #[] }, { accessFlags := 0, nameIndex := 35, descriptorIndex := 18, attributes := #[] }, { accessFlags := 4112, nameIndex := 5, descriptorIndex := 6, attributes := #[] }])
  fields := #[{ name := "next", type := (.object "java/util/HashMap$Node"), accessFlags := 0, slot := 0, constantValue := 0 }, { name := "current", type := (.object "java/util/HashMap$Node"), accessFlags := 0, slot := 1, constantValue := 0 }, { name := "expectedModCount", type := .int, accessFlags := 0, slot := 2, constantValue := 0 }, { name := "index", type := .int, accessFlags := 0, slot := 3, constantValue := 0 }, { name := "this$0", type := (.object "java/util/HashMap"), accessFlags := 4112, slot := 4, constantValue := 0 }]
  methods := #[k26m0, k26m1]
  instanceTypes := #[(.object "java/util/HashMap$Node"), (.object "java/util/HashMap$Node"), .int, .int, (.object "java/util/HashMap")]
  staticTypes := #[]
  resolved := Array.replicate 91 none
  statics := none }

def pool27 : Array CpInfo := pool [(16, .class_ 18), (1, u "java/util/Iterator"), (0, u "hasNext"), (0, u "()Z"), (10, .class_ 32), (0, u "java/lang/Object")] 20

def k27m0 : Method := { name := "hasNext", desc := "()Z", sig := { parameters := [], returnType := some .boolean }, accessFlags := 1025, code := none }
/-- java/util/Iterator -/
def k27 : Class := { plain "java/util/Iterator" (some 0) with
  accessFlags := 1537
  interfaces := #[]
  cf := some (fileOf pool27 16 #[] #[{ accessFlags := 1025, nameIndex := 19, descriptorIndex := 20, attributes := #[] }] 1537 31 #[] #[])
  fields := #[]
  methods := #[k27m0]
  instanceTypes := #[]
  staticTypes := #[]
  resolved := Array.replicate 53 none
  statics := none }

def pool28 : Array CpInfo := pool [(1, .methodref 2 3), (0, .class_ 4), (0, .nameAndType 5 6), (0, u "java/util/HashMap$HashIterator"), (0, u "<init>"), (0, u "(Ljava/util/HashMap;)V"), (1, .class_ 10), (1, u "java/util/HashMap$KeyIterator"), (8, .class_ 20), (0, u "java/util/Iterator"), (18, .class_ 40), (0, u "java/util/HashMap")] 4

def k28c0 : Code := { maxStack := 2, maxLocals := 2, code := jdk_98_method_1_code, exceptionTable := #[], attributes := #[] }
def k28m0 : Method := { name := "<init>", desc := "(Ljava/util/HashMap;)V", sig := { parameters := [(.object "java/util/HashMap")], returnType := none }, accessFlags := 0, code := some k28c0 }
/-- java/util/HashMap$KeyIterator -/
def k28 : Class := { plain "java/util/HashMap$KeyIterator" (some 26) with
  accessFlags := 48
  interfaces := #[27]
  cf := some (fileOf pool28 8 #[.nestHost 39] #[{ accessFlags := 0, nameIndex := 5, descriptorIndex := 6, attributes := #[] }] 48 2 #[19] #[])
  fields := #[]
  methods := #[k28m0]
  instanceTypes := #[(.object "java/util/HashMap$Node"), (.object "java/util/HashMap$Node"), .int, .int, (.object "java/util/HashMap")]
  staticTypes := #[]
  resolved := Array.replicate 45 none
  statics := none }

def pool29 : Array CpInfo := pool [(1, .class_ 2), (0, u "java/lang/Math"), (1, .class_ 6), (1, u "java/lang/Object"), (0, u "<init>"), (0, u "()V"), (89, .class_ 100), (1, u "java/lang/Math$RandomNumberGeneratorHolder"), (71, u "negativeZeroFloatBits"), (0, u "J"), (2, u "negativeZeroDoubleBits"), (24, u "min"), (43, u "$assertionsDisabled"), (0, u "Z"), (88, u "(II)I"), (2, u "twoToTheDoubleScaleDown"), (0, u "D"), (4, u "twoToTheDoubleScaleUp"), (9, u "E"), (3, u "PI"), (2, u "TAU"), (2, u "DEGREES_TO_RADIANS"), (0, u "RADIANS_TO_DEGREES")] 94

def k29m0 : Method := { name := "<init>", desc := "()V", sig := { parameters := [], returnType := none }, accessFlags := 2, code := none }
def k29c1 : Code := { maxStack := 2, maxLocals := 2, code := jdk_29_method_69_code, exceptionTable := #[], attributes := #[] }
def k29m1 : Method := { name := "min", desc := "(II)I", sig := { parameters := [.int, .int], returnType := some .int }, accessFlags := 9, code := some k29c1 }
/-- java/lang/Math -/
def k29 : Class := { plain "java/lang/Math" (some 0) with
  accessFlags := 49
  interfaces := #[]
  cf := some (fileOf pool29 1 #[.nestMembers #[98]] #[{ accessFlags := 2, nameIndex := 7, descriptorIndex := 8, attributes := #[] }, { accessFlags := 9, nameIndex := 201, descriptorIndex := 335, attributes := #[] }] 49 4 #[] #[{ accessFlags := 25, nameIndex := 354, descriptorIndex := 339, attributes := #[] }, { accessFlags := 25, nameIndex := 358, descriptorIndex := 339, attributes := #[] }, { accessFlags := 25, nameIndex := 361, descriptorIndex := 339, attributes := #[] }, { accessFlags := 26, nameIndex := 364, descriptorIndex := 339, attributes := #[] }, { accessFlags := 26, nameIndex := 365, descriptorIndex := 339, attributes := #[] }, { accessFlags := 26, nameIndex := 172, descriptorIndex := 173, attributes := #[] }, { accessFlags := 26, nameIndex := 176, descriptorIndex := 173, attributes := #[] }, { accessFlags := 8, nameIndex := 344, descriptorIndex := 339, attributes := #[] }, { accessFlags := 8, nameIndex := 338, descriptorIndex := 339, attributes := #[] }, { accessFlags := 4120, nameIndex := 245, descriptorIndex := 246, attributes := #[] }])
  fields := #[{ name := "E", type := .double, accessFlags := 25, slot := 0, constantValue := 0 }, { name := "PI", type := .double, accessFlags := 25, slot := 1, constantValue := 0 }, { name := "TAU", type := .double, accessFlags := 25, slot := 2, constantValue := 0 }, { name := "DEGREES_TO_RADIANS", type := .double, accessFlags := 26, slot := 3, constantValue := 0 }, { name := "RADIANS_TO_DEGREES", type := .double, accessFlags := 26, slot := 4, constantValue := 0 }, { name := "negativeZeroFloatBits", type := .long, accessFlags := 26, slot := 5, constantValue := 0 }, { name := "negativeZeroDoubleBits", type := .long, accessFlags := 26, slot := 6, constantValue := 0 }, { name := "twoToTheDoubleScaleUp", type := .double, accessFlags := 8, slot := 7, constantValue := 0 }, { name := "twoToTheDoubleScaleDown", type := .double, accessFlags := 8, slot := 8, constantValue := 0 }, { name := "$assertionsDisabled", type := .boolean, accessFlags := 4120, slot := 9, constantValue := 0 }]
  methods := #[k29m0, k29m1]
  instanceTypes := #[]
  staticTypes := #[.double, .double, .double, .double, .double, .long, .long, .double, .double, .boolean]
  resolved := Array.replicate 460 none
  statics := none }

def pool30 : Array CpInfo := pool [(2, .class_ 4), (1, u "java/util/AbstractMap"), (0, u "<init>"), (0, u "()V"), (1, .class_ 10), (1, u "java/util/ImmutableCollections"), (3, .class_ 16), (1, u "java/util/ImmutableCollections$AbstractImmutableMap"), (2, .class_ 20), (0, u "java/io/Serializable")] 66

def k30m0 : Method := { name := "<init>", desc := "()V", sig := { parameters := [], returnType := none }, accessFlags := 0, code := none }
/-- java/util/ImmutableCollections$AbstractImmutableMap -/
def k30 : Class := { plain "java/util/ImmutableCollections$AbstractImmutableMap" (some 18) with
  accessFlags := 1056
  interfaces := #[11]
  cf := some (fileOf pool30 14 #[.nestHost 8] #[{ accessFlags := 0, nameIndex := 5, descriptorIndex := 6, attributes := #[] }] 1056 2 #[19] #[])
  fields := #[]
  methods := #[k30m0]
  instanceTypes := #[(.object "java/util/Set"), (.object "java/util/Collection")]
  staticTypes := #[]
  resolved := Array.replicate 87 none
  statics := none }

def pool31 : Array CpInfo := pool [(1, .class_ 2), (0, u "java/util/ImmutableCollections"), (1, .class_ 6), (1, u "java/util/ImmutableCollections$AbstractImmutableMap"), (10, .class_ 19), (1, u "java/util/ImmutableCollections$MapN"), (0, u "size"), (0, u "I"), (4, u "table"), (0, u "[Ljava/lang/Object;")] 121

/-- java/util/ImmutableCollections$MapN -/
def k31 : Class := { plain "java/util/ImmutableCollections$MapN" (some 30) with
  accessFlags := 48
  interfaces := #[]
  cf := some (fileOf pool31 17 #[.nestHost 1] #[] 48 4 #[] #[{ accessFlags := 16, nameIndex := 26, descriptorIndex := 27, attributes := #[] }, { accessFlags := 16, nameIndex := 20, descriptorIndex := 21, attributes := #[] }])
  fields := #[{ name := "table", type := (.array (.object "java/lang/Object")), accessFlags := 16, slot := 2, constantValue := 0 }, { name := "size", type := .int, accessFlags := 16, slot := 3, constantValue := 0 }]
  methods := #[]
  instanceTypes := #[(.object "java/util/Set"), (.object "java/util/Collection"), (.array (.object "java/lang/Object")), .int]
  staticTypes := #[]
  resolved := Array.replicate 149 none
  statics := none }

/-- the primitive byte -/
def k32 : Class := { plain "byte" none with kind := .primitive 'B', accessFlags := 0x411 }
/-- [B -/
def k33 : Class := { plain "[B" (some 0) with kind := .array 32 .byte, interfaces := #[10, 11], accessFlags := 1041 }

/-- the primitive int -/
def k34 : Class := { plain "int" none with kind := .primitive 'I', accessFlags := 0x411 }
/-- [I -/
def k35 : Class := { plain "[I" (some 0) with kind := .array 34 .int, interfaces := #[10, 11], accessFlags := 1041 }

/-- the primitive long -/
def k36 : Class := { plain "long" none with kind := .primitive 'J', accessFlags := 0x411 }
/-- [J -/
def k37 : Class := { plain "[J" (some 0) with kind := .array 36 .long, interfaces := #[10, 11], accessFlags := 1041 }

/-- [Ljava/lang/Object; -/
def k38 : Class := { plain "[Ljava/lang/Object;" (some 0) with kind := .array 0 (.object "java/lang/Object"), interfaces := #[10, 11], accessFlags := 1041 }

def heap : Heap := #[{ cls := 12, slots := #[.long 0, .int 0, .ref 5, .ref 6], vm := .statics 12 },
  { cls := 14, slots := #[.long 0, .int 0, .null, .null, .null, .null, .null, .ref 4, .int 0, .int 0], vm := .statics 14 },
  { cls := 24, slots := #[.int 0, .int 0, .int 0, .long 0, .null, .long 0, .int 1], vm := .statics 24 },
  { cls := 38, slots := #[], vm := .none },
  { cls := 31, slots := #[.null, .null, .ref 3, .int 0], vm := .none },
  { cls := 38, slots := #[], vm := .none },
  { cls := 38, slots := #[], vm := .none }]
def classes : Array Class := #[k0, k1, k2, k3, k4, k5, k6, k7, k8, k9, k10, k11, k12, k13, k14, k15, k16, k17, k18, k19, k20, k21, k22, k23, k24, k25, k26, k27, k28, k29, k30, k31, k32, k33, k34, k35, k36, k37, k38]
def interned : List (Array UInt16 × Addr) := []
def slotsUsed : Nat := 25
def theMethod : MethodId := ⟨1, 1⟩
def args0 : Array Value := #[.int 3, .int 1]
def aboutOver (below : List Frame) : State where
  vm := { classes := classes, interned := interned.toArray }
  heap := heap
  slotsUsed := slotsUsed
  threads := #[{ frames := .invoking theMethod args0 :: below }]
def below0 : List Frame := [.native { method := ⟨0, 0⟩, args := #[] }]
def about1 : State := aboutOver below0
def p0 : Program := .bare "" "" ""
def e0 : Env := launch0.env 0 0 0
theorem w_frames : about1.frames = Frame.invoking theMethod args0 :: below0 := rfl
set_option maxRecDepth 65536 in
theorem w_args : argsFit about1.vm theMethod args0 = true := by decide +kernel
set_option maxRecDepth 65536 in
theorem w_heap : heapFits about1 = true := by decide +kernel
set_option maxRecDepth 65536 in
theorem w_runnable : about1.curStatus? = some .runnable := by decide +kernel
set_option maxRecDepth 65536 in
theorem w_alone : about1.alone = true := by decide +kernel
set_option maxRecDepth 65536 in
theorem w_named : about1.methodNamed? x = some theMethod := by decide +kernel
set_option maxRecDepth 65536 in
theorem w_hears : about1.hears theMethod below0 = true := by decide +kernel
set_option maxRecDepth 65536 in
theorem w_ripe : about1.ripe theMethod args0 below0 = true := by decide +kernel
theorem w_running : about1.status = .running := rfl
set_option maxRecDepth 65536 in
theorem w_room : about1.hasRoom e0.platform room_1 = true :=
  launch0.hasRoom_least _ room_1 (by decide +kernel) (by decide +kernel) (by decide +kernel) (by decide +kernel) (by decide +kernel) (by decide +kernel)
theorem allAtoms_all (ts : List Jvm.Cond) (a : Array Jvm.Value) (st : Jvm.State) : (allAtoms ts).before a st = ts.all (fun c => c.before a st) := by
  induction ts with
  | nil => rfl
  | cons c t ih =>
    show (Jvm.Cond.and c (allAtoms t)).before a st = _
    rw [Jvm.Cond.before_and, ih, List.all_cons]
def words1 : List Jvm.Cond := Jvm.Cond.code x code maxLocals ret :: tables_1
/-- a 'code' word, met by the world's own term for the bytes: nothing is compared byte by byte -/
theorem code_word {y : MethodName} {bytes : ByteArray} {mx : Nat} {rt : Option FieldType} {a : Array Value} {s : State} {m : MethodId} {meth : Method} {c : Code} (h1 : s.methodNamed? y = some m) (h2 : s.vm.method? m = some meth) (h3 : meth.code = some c) (h4 : c.code = bytes)
    (h5 : (c.maxLocals == mx && c.exceptionTable.isEmpty && decide (c.maxStack ≤ mostOperands) && decide (meth.sig.returnType = rt) && !meth.locks && decide (parseMethodDescriptor y.desc = some meth.sig)) = true) : (Jvm.Cond.code y bytes mx rt).before a s = true := by
  simp only [Bool.and_eq_true, beq_iff_eq, Bool.not_eq_true', decide_eq_true_eq] at h5
  obtain ⟨⟨⟨⟨⟨g1, g2⟩, g3⟩, g4⟩, g5⟩, g6⟩ := h5
  simp [Cond.before, Cond.holds, Cond.value, h1, h2, h3, h4, g1, g2, g3, g4, g5, g6]
def isCode : Jvm.Cond → Bool
  | .code _ _ _ _ => true
  | _ => false
theorem all_split {L : List Jvm.Cond} {P : Jvm.Cond → Bool} (h1 : L.all (fun c => isCode c || P c) = true) (h2 : ∀ c ∈ L.filter isCode, P c = true) : L.all P = true := by
  refine List.all_eq_true.mpr fun c hc => ?_
  have h := List.all_eq_true.mp h1 c hc
  rcases Bool.eq_false_or_eq_true (isCode c) with hi | hi
  · exact h2 c (List.mem_filter.mpr ⟨hc, hi⟩)
  · simpa [hi] using h
set_option maxRecDepth 65536 in
theorem w_c0 : (Jvm.Cond.code x code maxLocals ret).before args0 about1 = true := code_word (m := ⟨1, 1⟩) (meth := k1m1) (c := k1c1) (by decide +kernel) rfl rfl rfl (by decide +kernel)
set_option maxRecDepth 65536 in
theorem w_c1 : (Jvm.Cond.code ({ cls := "com/example/rules_for_records/rulesforrecords/Evaluation", name := "<init>", desc := "(ZZ)V" } : Jvm.MethodName) prog_10_method_1_code (3 : Nat) (Option.none : Option Jvm.ClassFile.FieldType)).before args0 about1 = true := code_word (m := ⟨2, 0⟩) (meth := k2m0) (c := k2c0) (by decide +kernel) rfl rfl rfl (by decide +kernel)
set_option maxRecDepth 65536 in
theorem w_c2 : (Jvm.Cond.code ({ cls := "java/lang/Object", name := "<init>", desc := "()V" } : Jvm.MethodName) object_method_1_code (1 : Nat) (Option.none : Option Jvm.ClassFile.FieldType)).before args0 about1 = true := code_word (m := ⟨0, 0⟩) (meth := k0m0) (c := k0c0) (by decide +kernel) rfl rfl rfl (by decide +kernel)
set_option maxRecDepth 65536 in
theorem w_c3 : (Jvm.Cond.code ({ cls := "java/util/ArrayList", name := "<init>", desc := "()V" } : Jvm.MethodName) jdk_38_method_2_code (1 : Nat) (Option.none : Option Jvm.ClassFile.FieldType)).before args0 about1 = true := code_word (m := ⟨12, 0⟩) (meth := k12m0) (c := k12c0) (by decide +kernel) rfl rfl rfl (by decide +kernel)
set_option maxRecDepth 65536 in
theorem w_c4 : (Jvm.Cond.code ({ cls := "java/util/AbstractList", name := "<init>", desc := "()V" } : Jvm.MethodName) jdk_39_method_1_code (1 : Nat) (Option.none : Option Jvm.ClassFile.FieldType)).before args0 about1 = true := code_word (m := ⟨8, 0⟩) (meth := k8m0) (c := k8c0) (by decide +kernel) rfl rfl rfl (by decide +kernel)
set_option maxRecDepth 65536 in
theorem w_c5 : (Jvm.Cond.code ({ cls := "java/util/AbstractCollection", name := "<init>", desc := "()V" } : Jvm.MethodName) jdk_22_method_1_code (1 : Nat) (Option.none : Option Jvm.ClassFile.FieldType)).before args0 about1 = true := code_word (m := ⟨5, 0⟩) (meth := k5m0) (c := k5c0) (by decide +kernel) rfl rfl rfl (by decide +kernel)
set_option maxRecDepth 65536 in
theorem w_c6 : (Jvm.Cond.code ({ cls := "java/util/Map", name := "of", desc := "()Ljava/util/Map;" } : Jvm.MethodName) jdk_72_method_26_code (0 : Nat) (Option.some (Jvm.ClassFile.FieldType.object "java/util/Map"))).before args0 about1 = true := code_word (m := ⟨13, 0⟩) (meth := k13m0) (c := k13c0) (by decide +kernel) rfl rfl rfl (by decide +kernel)
set_option maxRecDepth 65536 in
theorem w_c7 : (Jvm.Cond.code ({ cls := "java/util/ArrayDeque", name := "<init>", desc := "()V" } : Jvm.MethodName) jdk_21_method_3_code (1 : Nat) (Option.none : Option Jvm.ClassFile.FieldType)).before args0 about1 = true := code_word (m := ⟨17, 0⟩) (meth := k17m0) (c := k17c0) (by decide +kernel) rfl rfl rfl (by decide +kernel)
set_option maxRecDepth 65536 in
theorem w_c8 : (Jvm.Cond.code ({ cls := "java/util/HashMap", name := "<init>", desc := "()V" } : Jvm.MethodName) jdk_69_method_7_code (1 : Nat) (Option.none : Option Jvm.ClassFile.FieldType)).before args0 about1 = true := code_word (m := ⟨19, 0⟩) (meth := k19m0) (c := k19c0) (by decide +kernel) rfl rfl rfl (by decide +kernel)
set_option maxRecDepth 65536 in
theorem w_c9 : (Jvm.Cond.code ({ cls := "java/util/AbstractMap", name := "<init>", desc := "()V" } : Jvm.MethodName) jdk_71_method_1_code (1 : Nat) (Option.none : Option Jvm.ClassFile.FieldType)).before args0 about1 = true := code_word (m := ⟨18, 0⟩) (meth := k18m0) (c := k18c0) (by decide +kernel) rfl rfl rfl (by decide +kernel)
set_option maxRecDepth 65536 in
theorem w_c10 : (Jvm.Cond.code ({ cls := "com/example/rules_for_records/rulesforrecords/Evaluation", name := "appliesEvery", desc := "()Z" } : Jvm.MethodName) prog_10_method_9_code (1 : Nat) (Option.some Jvm.ClassFile.FieldType.boolean)).before args0 about1 = true := code_word (m := ⟨2, 1⟩) (meth := k2m1) (c := k2c1) (by decide +kernel) rfl rfl rfl (by decide +kernel)
set_option maxRecDepth 65536 in
theorem w_c11 : (Jvm.Cond.code ({ cls := "com/example/rules_for_records/rulesforrecords/Evaluation", name := "gather", desc := "()Lcom/example/rules_for_records/rulesforrecords/Evaluated;" } : Jvm.MethodName) prog_10_method_11_code (2 : Nat) (Option.some (Jvm.ClassFile.FieldType.object "com/example/rules_for_records/rulesforrecords/Evaluated"))).before args0 about1 = true := code_word (m := ⟨2, 2⟩) (meth := k2m2) (c := k2c2) (by decide +kernel) rfl rfl rfl (by decide +kernel)
set_option maxRecDepth 65536 in
theorem w_c12 : (Jvm.Cond.code ({ cls := "com/example/rules_for_records/rulesforrecords/Evaluated", name := "<init>", desc := "()V" } : Jvm.MethodName) prog_9_method_1_code (1 : Nat) (Option.none : Option Jvm.ClassFile.FieldType)).before args0 about1 = true := code_word (m := ⟨20, 0⟩) (meth := k20m0) (c := k20c0) (by decide +kernel) rfl rfl rfl (by decide +kernel)
set_option maxRecDepth 65536 in
theorem w_c13 : (Jvm.Cond.code ({ cls := "java/util/HashSet", name := "<init>", desc := "()V" } : Jvm.MethodName) jdk_93_method_1_code (1 : Nat) (Option.none : Option Jvm.ClassFile.FieldType)).before args0 about1 = true := code_word (m := ⟨23, 0⟩) (meth := k23m0) (c := k23c0) (by decide +kernel) rfl rfl rfl (by decide +kernel)
set_option maxRecDepth 65536 in
theorem w_c14 : (Jvm.Cond.code ({ cls := "java/util/AbstractSet", name := "<init>", desc := "()V" } : Jvm.MethodName) jdk_91_method_1_code (1 : Nat) (Option.none : Option Jvm.ClassFile.FieldType)).before args0 about1 = true := code_word (m := ⟨22, 0⟩) (meth := k22m0) (c := k22c0) (by decide +kernel) rfl rfl rfl (by decide +kernel)
set_option maxRecDepth 65536 in
theorem w_c15 : (Jvm.Cond.code ({ cls := "java/util/BitSet", name := "<init>", desc := "()V" } : Jvm.MethodName) jdk_92_method_4_code (1 : Nat) (Option.none : Option Jvm.ClassFile.FieldType)).before args0 about1 = true := code_word (m := ⟨24, 2⟩) (meth := k24m2) (c := k24c2) (by decide +kernel) rfl rfl rfl (by decide +kernel)
set_option maxRecDepth 65536 in
theorem w_c16 : (Jvm.Cond.code ({ cls := "java/util/BitSet", name := "initWords", desc := "(I)V" } : Jvm.MethodName) jdk_92_method_6_code (2 : Nat) (Option.none : Option Jvm.ClassFile.FieldType)).before args0 about1 = true := code_word (m := ⟨24, 3⟩) (meth := k24m3) (c := k24c3) (by decide +kernel) rfl rfl rfl (by decide +kernel)
set_option maxRecDepth 65536 in
theorem w_c17 : (Jvm.Cond.code ({ cls := "java/util/BitSet", name := "wordIndex", desc := "(I)I" } : Jvm.MethodName) jdk_92_method_1_code (1 : Nat) (Option.some Jvm.ClassFile.FieldType.int)).before args0 about1 = true := code_word (m := ⟨24, 0⟩) (meth := k24m0) (c := k24c0) (by decide +kernel) rfl rfl rfl (by decide +kernel)
set_option maxRecDepth 65536 in
theorem w_c18 : (Jvm.Cond.code ({ cls := "com/example/rules_for_records/rulesforrecords/Evaluation", name := "finish", desc := "(Lcom/example/rules_for_records/rulesforrecords/Evaluated;)V" } : Jvm.MethodName) prog_10_method_12_code (2 : Nat) (Option.none : Option Jvm.ClassFile.FieldType)).before args0 about1 = true := code_word (m := ⟨2, 3⟩) (meth := k2m3) (c := k2c3) (by decide +kernel) rfl rfl rfl (by decide +kernel)
set_option maxRecDepth 65536 in
theorem w_c19 : (Jvm.Cond.code ({ cls := "com/example/rules_for_records/rulesforrecords/Evaluated", name := "addAll", desc := "(Lcom/example/rules_for_records/rulesforrecords/Evaluated;)V" } : Jvm.MethodName) prog_9_method_8_code (2 : Nat) (Option.none : Option Jvm.ClassFile.FieldType)).before args0 about1 = true := code_word (m := ⟨20, 1⟩) (meth := k20m1) (c := k20c1) (by decide +kernel) rfl rfl rfl (by decide +kernel)
set_option maxRecDepth 65536 in
theorem w_c20 : (Jvm.Cond.code ({ cls := "java/util/AbstractCollection", name := "addAll", desc := "(Ljava/util/Collection;)Z" } : Jvm.MethodName) jdk_22_method_12_code (5 : Nat) (Option.some Jvm.ClassFile.FieldType.boolean)).before args0 about1 = true := code_word (m := ⟨5, 1⟩) (meth := k5m1) (c := k5c1) (by decide +kernel) rfl rfl rfl (by decide +kernel)
set_option maxRecDepth 65536 in
theorem w_c21 : (Jvm.Cond.code ({ cls := "java/util/HashSet", name := "iterator", desc := "()Ljava/util/Iterator;" } : Jvm.MethodName) jdk_93_method_6_code (1 : Nat) (Option.some (Jvm.ClassFile.FieldType.object "java/util/Iterator"))).before args0 about1 = true := code_word (m := ⟨23, 1⟩) (meth := k23m1) (c := k23c1) (by decide +kernel) rfl rfl rfl (by decide +kernel)
set_option maxRecDepth 65536 in
theorem w_c22 : (Jvm.Cond.code ({ cls := "java/util/HashMap", name := "keySet", desc := "()Ljava/util/Set;" } : Jvm.MethodName) jdk_69_method_24_code (2 : Nat) (Option.some (Jvm.ClassFile.FieldType.object "java/util/Set"))).before args0 about1 = true := code_word (m := ⟨19, 1⟩) (meth := k19m1) (c := k19c1) (by decide +kernel) rfl rfl rfl (by decide +kernel)
set_option maxRecDepth 65536 in
theorem w_c23 : (Jvm.Cond.code ({ cls := "java/util/HashMap$KeySet", name := "<init>", desc := "(Ljava/util/HashMap;)V" } : Jvm.MethodName) jdk_97_method_1_code (2 : Nat) (Option.none : Option Jvm.ClassFile.FieldType)).before args0 about1 = true := code_word (m := ⟨25, 0⟩) (meth := k25m0) (c := k25c0) (by decide +kernel) rfl rfl rfl (by decide +kernel)
set_option maxRecDepth 65536 in
theorem w_c24 : (Jvm.Cond.code ({ cls := "java/util/HashMap$KeySet", name := "iterator", desc := "()Ljava/util/Iterator;" } : Jvm.MethodName) jdk_97_method_4_code (1 : Nat) (Option.some (Jvm.ClassFile.FieldType.object "java/util/Iterator"))).before args0 about1 = true := code_word (m := ⟨25, 1⟩) (meth := k25m1) (c := k25c1) (by decide +kernel) rfl rfl rfl (by decide +kernel)
set_option maxRecDepth 65536 in
theorem w_c25 : (Jvm.Cond.code ({ cls := "java/util/HashMap$KeyIterator", name := "<init>", desc := "(Ljava/util/HashMap;)V" } : Jvm.MethodName) jdk_98_method_1_code (2 : Nat) (Option.none : Option Jvm.ClassFile.FieldType)).before args0 about1 = true := code_word (m := ⟨28, 0⟩) (meth := k28m0) (c := k28c0) (by decide +kernel) rfl rfl rfl (by decide +kernel)
set_option maxRecDepth 65536 in
theorem w_c26 : (Jvm.Cond.code ({ cls := "java/util/HashMap$HashIterator", name := "<init>", desc := "(Ljava/util/HashMap;)V" } : Jvm.MethodName) jdk_99_method_1_code (3 : Nat) (Option.none : Option Jvm.ClassFile.FieldType)).before args0 about1 = true := code_word (m := ⟨26, 0⟩) (meth := k26m0) (c := k26c0) (by decide +kernel) rfl rfl rfl (by decide +kernel)
set_option maxRecDepth 65536 in
theorem w_c27 : (Jvm.Cond.code ({ cls := "java/util/HashMap$HashIterator", name := "hasNext", desc := "()Z" } : Jvm.MethodName) jdk_99_method_2_code (1 : Nat) (Option.some Jvm.ClassFile.FieldType.boolean)).before args0 about1 = true := code_word (m := ⟨26, 1⟩) (meth := k26m1) (c := k26c1) (by decide +kernel) rfl rfl rfl (by decide +kernel)
set_option maxRecDepth 65536 in
theorem w_c28 : (Jvm.Cond.code ({ cls := "java/util/BitSet", name := "or", desc := "(Ljava/util/BitSet;)V" } : Jvm.MethodName) jdk_92_method_37_code (4 : Nat) (Option.none : Option Jvm.ClassFile.FieldType)).before args0 about1 = true := code_word (m := ⟨24, 4⟩) (meth := k24m4) (c := k24c4) (by decide +kernel) rfl rfl rfl (by decide +kernel)
set_option maxRecDepth 65536 in
theorem w_c29 : (Jvm.Cond.code ({ cls := "java/lang/Math", name := "min", desc := "(II)I" } : Jvm.MethodName) jdk_29_method_69_code (2 : Nat) (Option.some Jvm.ClassFile.FieldType.int)).before args0 about1 = true := code_word (m := ⟨29, 1⟩) (meth := k29m1) (c := k29c1) (by decide +kernel) rfl rfl rfl (by decide +kernel)
set_option maxRecDepth 65536 in
theorem w_c30 : (Jvm.Cond.code ({ cls := "java/util/BitSet", name := "checkInvariants", desc := "()V" } : Jvm.MethodName) jdk_92_method_2_code (1 : Nat) (Option.none : Option Jvm.ClassFile.FieldType)).before args0 about1 = true := code_word (m := ⟨24, 1⟩) (meth := k24m1) (c := k24c1) (by decide +kernel) rfl rfl rfl (by decide +kernel)
def codes1 : List Jvm.Cond := [Jvm.Cond.code x code maxLocals ret, Jvm.Cond.code ({ cls := "com/example/rules_for_records/rulesforrecords/Evaluation", name := "<init>", desc := "(ZZ)V" } : Jvm.MethodName) prog_10_method_1_code (3 : Nat) (Option.none : Option Jvm.ClassFile.FieldType), Jvm.Cond.code ({ cls := "java/lang/Object", name := "<init>", desc := "()V" } : Jvm.MethodName) object_method_1_code (1 : Nat) (Option.none : Option Jvm.ClassFile.FieldType), Jvm.Cond.code ({ cls := "java/util/ArrayList", name := "<init>", desc := "()V" } : Jvm.MethodName) jdk_38_method_2_code (1 : Nat) (Option.none : Option Jvm.ClassFile.FieldType), Jvm.Cond.code ({ cls := "java/util/AbstractList", name := "<init>", desc := "()V" } : Jvm.MethodName) jdk_39_method_1_code (1 : Nat) (Option.none : Option Jvm.ClassFile.FieldType), Jvm.Cond.code ({ cls := "java/util/AbstractCollection", name := "<init>", desc := "()V" } : Jvm.MethodName) jdk_22_method_1_code (1 : Nat) (Option.none : Option Jvm.ClassFile.FieldType), Jvm.Cond.code ({ cls := "java/util/Map", name := "of", desc := "()Ljava/util/Map;" } : Jvm.MethodName) jdk_72_method_26_code (0 : Nat) (Option.some (Jvm.ClassFile.FieldType.object "java/util/Map")), Jvm.Cond.code ({ cls := "java/util/ArrayDeque", name := "<init>", desc := "()V" } : Jvm.MethodName) jdk_21_method_3_code (1 : Nat) (Option.none : Option Jvm.ClassFile.FieldType), Jvm.Cond.code ({ cls := "java/util/HashMap", name := "<init>", desc := "()V" } : Jvm.MethodName) jdk_69_method_7_code (1 : Nat) (Option.none : Option Jvm.ClassFile.FieldType), Jvm.Cond.code ({ cls := "java/util/AbstractMap", name := "<init>", desc := "()V" } : Jvm.MethodName) jdk_71_method_1_code (1 : Nat) (Option.none : Option Jvm.ClassFile.FieldType), Jvm.Cond.code ({ cls := "com/example/rules_for_records/rulesforrecords/Evaluation", name := "appliesEvery", desc := "()Z" } : Jvm.MethodName) prog_10_method_9_code (1 : Nat) (Option.some Jvm.ClassFile.FieldType.boolean), Jvm.Cond.code ({ cls := "com/example/rules_for_records/rulesforrecords/Evaluation", name := "gather", desc := "()Lcom/example/rules_for_records/rulesforrecords/Evaluated;" } : Jvm.MethodName) prog_10_method_11_code (2 : Nat) (Option.some (Jvm.ClassFile.FieldType.object "com/example/rules_for_records/rulesforrecords/Evaluated")), Jvm.Cond.code ({ cls := "com/example/rules_for_records/rulesforrecords/Evaluated", name := "<init>", desc := "()V" } : Jvm.MethodName) prog_9_method_1_code (1 : Nat) (Option.none : Option Jvm.ClassFile.FieldType), Jvm.Cond.code ({ cls := "java/util/HashSet", name := "<init>", desc := "()V" } : Jvm.MethodName) jdk_93_method_1_code (1 : Nat) (Option.none : Option Jvm.ClassFile.FieldType), Jvm.Cond.code ({ cls := "java/util/AbstractSet", name := "<init>", desc := "()V" } : Jvm.MethodName) jdk_91_method_1_code (1 : Nat) (Option.none : Option Jvm.ClassFile.FieldType), Jvm.Cond.code ({ cls := "java/util/BitSet", name := "<init>", desc := "()V" } : Jvm.MethodName) jdk_92_method_4_code (1 : Nat) (Option.none : Option Jvm.ClassFile.FieldType), Jvm.Cond.code ({ cls := "java/util/BitSet", name := "initWords", desc := "(I)V" } : Jvm.MethodName) jdk_92_method_6_code (2 : Nat) (Option.none : Option Jvm.ClassFile.FieldType), Jvm.Cond.code ({ cls := "java/util/BitSet", name := "wordIndex", desc := "(I)I" } : Jvm.MethodName) jdk_92_method_1_code (1 : Nat) (Option.some Jvm.ClassFile.FieldType.int), Jvm.Cond.code ({ cls := "com/example/rules_for_records/rulesforrecords/Evaluation", name := "finish", desc := "(Lcom/example/rules_for_records/rulesforrecords/Evaluated;)V" } : Jvm.MethodName) prog_10_method_12_code (2 : Nat) (Option.none : Option Jvm.ClassFile.FieldType), Jvm.Cond.code ({ cls := "com/example/rules_for_records/rulesforrecords/Evaluated", name := "addAll", desc := "(Lcom/example/rules_for_records/rulesforrecords/Evaluated;)V" } : Jvm.MethodName) prog_9_method_8_code (2 : Nat) (Option.none : Option Jvm.ClassFile.FieldType), Jvm.Cond.code ({ cls := "java/util/AbstractCollection", name := "addAll", desc := "(Ljava/util/Collection;)Z" } : Jvm.MethodName) jdk_22_method_12_code (5 : Nat) (Option.some Jvm.ClassFile.FieldType.boolean), Jvm.Cond.code ({ cls := "java/util/HashSet", name := "iterator", desc := "()Ljava/util/Iterator;" } : Jvm.MethodName) jdk_93_method_6_code (1 : Nat) (Option.some (Jvm.ClassFile.FieldType.object "java/util/Iterator")), Jvm.Cond.code ({ cls := "java/util/HashMap", name := "keySet", desc := "()Ljava/util/Set;" } : Jvm.MethodName) jdk_69_method_24_code (2 : Nat) (Option.some (Jvm.ClassFile.FieldType.object "java/util/Set")), Jvm.Cond.code ({ cls := "java/util/HashMap$KeySet", name := "<init>", desc := "(Ljava/util/HashMap;)V" } : Jvm.MethodName) jdk_97_method_1_code (2 : Nat) (Option.none : Option Jvm.ClassFile.FieldType), Jvm.Cond.code ({ cls := "java/util/HashMap$KeySet", name := "iterator", desc := "()Ljava/util/Iterator;" } : Jvm.MethodName) jdk_97_method_4_code (1 : Nat) (Option.some (Jvm.ClassFile.FieldType.object "java/util/Iterator")), Jvm.Cond.code ({ cls := "java/util/HashMap$KeyIterator", name := "<init>", desc := "(Ljava/util/HashMap;)V" } : Jvm.MethodName) jdk_98_method_1_code (2 : Nat) (Option.none : Option Jvm.ClassFile.FieldType), Jvm.Cond.code ({ cls := "java/util/HashMap$HashIterator", name := "<init>", desc := "(Ljava/util/HashMap;)V" } : Jvm.MethodName) jdk_99_method_1_code (3 : Nat) (Option.none : Option Jvm.ClassFile.FieldType), Jvm.Cond.code ({ cls := "java/util/HashMap$HashIterator", name := "hasNext", desc := "()Z" } : Jvm.MethodName) jdk_99_method_2_code (1 : Nat) (Option.some Jvm.ClassFile.FieldType.boolean), Jvm.Cond.code ({ cls := "java/util/BitSet", name := "or", desc := "(Ljava/util/BitSet;)V" } : Jvm.MethodName) jdk_92_method_37_code (4 : Nat) (Option.none : Option Jvm.ClassFile.FieldType), Jvm.Cond.code ({ cls := "java/lang/Math", name := "min", desc := "(II)I" } : Jvm.MethodName) jdk_29_method_69_code (2 : Nat) (Option.some Jvm.ClassFile.FieldType.int), Jvm.Cond.code ({ cls := "java/util/BitSet", name := "checkInvariants", desc := "()V" } : Jvm.MethodName) jdk_92_method_2_code (1 : Nat) (Option.none : Option Jvm.ClassFile.FieldType)]
set_option maxRecDepth 65536 in
theorem codes_eq : words1.filter isCode = codes1 := rfl
theorem w_codes : ∀ c ∈ words1.filter isCode, c.before args0 about1 = true := by
  rw [codes_eq]
  intro c hc
  simp only [codes1, List.mem_cons, List.not_mem_nil, or_false] at hc
  rcases hc with rfl | rfl | rfl | rfl | rfl | rfl | rfl | rfl | rfl | rfl | rfl | rfl | rfl | rfl | rfl | rfl | rfl | rfl | rfl | rfl | rfl | rfl | rfl | rfl | rfl | rfl | rfl | rfl | rfl | rfl | rfl
  · exact w_c0
  · exact w_c1
  · exact w_c2
  · exact w_c3
  · exact w_c4
  · exact w_c5
  · exact w_c6
  · exact w_c7
  · exact w_c8
  · exact w_c9
  · exact w_c10
  · exact w_c11
  · exact w_c12
  · exact w_c13
  · exact w_c14
  · exact w_c15
  · exact w_c16
  · exact w_c17
  · exact w_c18
  · exact w_c19
  · exact w_c20
  · exact w_c21
  · exact w_c22
  · exact w_c23
  · exact w_c24
  · exact w_c25
  · exact w_c26
  · exact w_c27
  · exact w_c28
  · exact w_c29
  · exact w_c30
set_option maxRecDepth 65536 in
theorem w_t1 : (words1.take 24).all (fun c => isCode c || c.before args0 about1) = true := by decide +kernel
set_option maxRecDepth 65536 in
theorem w_t2 : ((words1.drop 24).take 24).all (fun c => isCode c || c.before args0 about1) = true := by decide +kernel
set_option maxRecDepth 65536 in
theorem w_t3 : (((words1.drop 24).drop 24).take 24).all (fun c => isCode c || c.before args0 about1) = true := by decide +kernel
set_option maxRecDepth 65536 in
theorem w_t4 : ((((words1.drop 24).drop 24).drop 24).take 24).all (fun c => isCode c || c.before args0 about1) = true := by decide +kernel
set_option maxRecDepth 65536 in
theorem w_t5 : (((((words1.drop 24).drop 24).drop 24).drop 24).take 24).all (fun c => isCode c || c.before args0 about1) = true := by decide +kernel
set_option maxRecDepth 65536 in
theorem w_t6 : ((((((words1.drop 24).drop 24).drop 24).drop 24).drop 24).take 24).all (fun c => isCode c || c.before args0 about1) = true := by decide +kernel
set_option maxRecDepth 65536 in
theorem w_t7 : (((((((words1.drop 24).drop 24).drop 24).drop 24).drop 24).drop 24).take 24).all (fun c => isCode c || c.before args0 about1) = true := by decide +kernel
set_option maxRecDepth 65536 in
theorem w_t8 : ((((((((words1.drop 24).drop 24).drop 24).drop 24).drop 24).drop 24).drop 24).take 24).all (fun c => isCode c || c.before args0 about1) = true := by decide +kernel
set_option maxRecDepth 65536 in
theorem w_t9 : (((((((((words1.drop 24).drop 24).drop 24).drop 24).drop 24).drop 24).drop 24).drop 24).take 24).all (fun c => isCode c || c.before args0 about1) = true := by decide +kernel
set_option maxRecDepth 65536 in
theorem w_t10 : ((((((((((words1.drop 24).drop 24).drop 24).drop 24).drop 24).drop 24).drop 24).drop 24).drop 24).take 24).all (fun c => isCode c || c.before args0 about1) = true := by decide +kernel
set_option maxRecDepth 65536 in
theorem w_t11 : ((((((((((words1.drop 24).drop 24).drop 24).drop 24).drop 24).drop 24).drop 24).drop 24).drop 24).drop 24).all (fun c => isCode c || c.before args0 about1) = true := by decide +kernel
theorem w_tables : (allAtoms (Jvm.Cond.code x code maxLocals ret :: tables_1)).before args0 about1 = true := by
  rw [allAtoms_all]
  show words1.all (fun c => c.before args0 about1) = true
  refine all_split ?_ w_codes
  rw [← List.take_append_drop 24 words1, List.all_append, w_t1, ← List.take_append_drop 24 (words1.drop 24), List.all_append, w_t2, ← List.take_append_drop 24 ((words1.drop 24).drop 24), List.all_append, w_t3, ← List.take_append_drop 24 (((words1.drop 24).drop 24).drop 24), List.all_append, w_t4, ← List.take_append_drop 24 ((((words1.drop 24).drop 24).drop 24).drop 24), List.all_append, w_t5, ← List.take_append_drop 24 (((((words1.drop 24).drop 24).drop 24).drop 24).drop 24), List.all_append, w_t6, ← List.take_append_drop 24 ((((((words1.drop 24).drop 24).drop 24).drop 24).drop 24).drop 24), List.all_append, w_t7, ← List.take_append_drop 24 (((((((words1.drop 24).drop 24).drop 24).drop 24).drop 24).drop 24).drop 24), List.all_append, w_t8, ← List.take_append_drop 24 ((((((((words1.drop 24).drop 24).drop 24).drop 24).drop 24).drop 24).drop 24).drop 24), List.all_append, w_t9, ← List.take_append_drop 24 (((((((((words1.drop 24).drop 24).drop 24).drop 24).drop 24).drop 24).drop 24).drop 24).drop 24), List.all_append, w_t10, w_t11]
  rfl
set_option maxRecDepth 65536 in
theorem w_rest : rest_1_c.before args0 about1 = true := by decide +kernel
set_option maxRecDepth 65536 in
theorem w_case : (Jvm.Cond.and given_1 narrow_1).before args0 about1 = true := by decide +kernel
theorem w_applies : (headSpec (Jvm.Cond.code x code maxLocals ret :: tables_1) room_1).applies x e0.platform about1 = true :=
  (Spec.applies_iff w_frames).mpr ⟨w_running, w_runnable, w_alone, w_named, w_hears, w_ripe, w_room, w_tables⟩
theorem atStart : AtStart classFile x code maxLocals ret World_1 tables_1 room_1 Calls_1 rest_1 Pre_1 launch0 p0 e0 about1 theMethod args0 below0 :=
  ⟨lists_1, trivial, launch0.admits_env _ _ _, launch0.least_env, fairChoices_fair.cas, fairChoices_fair.clock, w_frames, w_args, w_heap, w_applies, trivial, w_rest, w_case⟩
end start1
theorem witness_1 : WitnessClaimed_1 := ⟨start1.p0, start1.e0, start1.about1, start1.theMethod, start1.args0, start1.below0, start1.atStart⟩
end Jvm.Pilot.@@N@@
