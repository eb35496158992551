import JvmDerived
import JvmDerived.Pilot.@@N@@Statement
import JvmDerived.Pilot.@@N@@Code
set_option linter.unusedVariables false
set_option linter.unusedSimpArgs false
namespace Jvm.RoadKit
open Sem ClassFile Op Lib Jvm.Stand Jvm.Free Jvm.LawKit
section Own
variable {p : Program} {l : Launch} {e : Env} {R : Room} {s : State} {m : MethodId} {args : Array Value} {below : List Frame} {meth : Method} {c : Code} {T : State} {locs : List Loc} {cells slots : Nat} {Z : State} {h h' : Heap} {a b : Addr}
/-- from the state U the method runs to its end, and what it leaves is as G says -/
def own_Go (p : Program) (e : Env) (below : List Frame) (G : Outcome → State → Prop) (U : State) : Prop := ∃ s₂ o, Steps p.tables e below U s₂ ∧ s₂.status = .running ∧ Ended s₂ below o ∧ G o s₂
def own_G (s : State) (Q : Option Value → Heap → List Loc → Prop) (C N : Nat) : Outcome → State → Prop := fun o U' => ∃ v L, o = .returned v ∧ Q v U'.heap L ∧ FrameEnd s o U' L C N
theorem own_st {G : Outcome → State → Prop} {U V : State} (hs : ∀ t, Steps p.tables e below V t → Steps p.tables e below U t) (k : own_Go p e below G V) : own_Go p e below G U := by
  obtain ⟨s₂, o, h1, h2⟩ := k
  exact ⟨s₂, o, hs _ h1, h2⟩
theorem own_retI (X : Stand p l e R s m args below meth c T locs cells slots) (hx : p.tables.exec = Jvm.exec) (hlocks : meth.locks = false) {pc : Nat} {Ls : Array Slot} {z : Int32} {rest : List Value} (hret : meth.sig.returnType = some .int) (hd : decode c.code pc = .ok (.ireturn, 1)) {Q : Option Value → Heap → List Loc → Prop} {C N : Nat}
    (hQ : Q (some (.int z)) T.heap locs) (hC : cells ≤ C) (hN : slots ≤ N) : own_Go p e below (own_G s Q C N) (T.setTop (mkF m pc Ls (.int z :: rest))) := by
  obtain ⟨fs, hr, hrun, hended, hW, hsame⟩ := X.leave (v := some (.int z)) (fun h => by rw [hret] at h; cases h)
  refine ⟨_, _, ?_, hrun, hended, _, _, rfl, hQ, ⟨_, rfl⟩, hW, hsame.mono hC hN⟩
  have hm' : T.vm.method? m = some meth := X.method'
  have hn : narrow .int (.int z) = .int z := rfl
  show Steps p.tables e below (T.setTop { method := m, pc := pc, locals := Ls, stack := _ :: rest, locked := none }) _
  jvm_step X.here [X.here.top, hx, hd, hm', hret, hn]
  first | (intro acts; rw [hr _ acts rfl rfl rfl]) | rw [hr _ _ rfl rfl rfl]
  exact Steps.refl _
theorem own_retN (X : Stand p l e R s m args below meth c T locs cells slots) (hx : p.tables.exec = Jvm.exec) (hlocks : meth.locks = false) {pc : Nat} {Ls : Array Slot} {z z' : Int32} {t : FieldType} {rest : List Value} (hret : meth.sig.returnType = some t) (ht : t = .boolean ∨ t = .byte ∨ t = .char ∨ t = .short) (hz : nar t z = z') (hd : decode c.code pc = .ok (.ireturn, 1)) {Q : Option Value → Heap → List Loc → Prop} {C N : Nat}
    (hQ : Q (some (.int z')) T.heap locs) (hC : cells ≤ C) (hN : slots ≤ N) : own_Go p e below (own_G s Q C N) (T.setTop (mkF m pc Ls (.int z :: rest))) := by
  subst hz
  obtain ⟨fs, hr, hrun, hended, hW, hsame⟩ := X.leave (v := some (.int (nar t z))) (fun h => by rw [hret] at h; cases h)
  exact ⟨_, _, retN X hx hret ht hd hr, hrun, hended, _, _, rfl, hQ, ⟨_, rfl⟩, hW, hsame.mono hC hN⟩
theorem own_retJ (X : Stand p l e R s m args below meth c T locs cells slots) (hx : p.tables.exec = Jvm.exec) (hlocks : meth.locks = false) {pc : Nat} {Ls : Array Slot} {z : Int64} (hret : meth.sig.returnType = some .long) (hd : decode c.code pc = .ok (.lreturn, 1)) {Q : Option Value → Heap → List Loc → Prop} {C N : Nat}
    (hQ : Q (some (.long z)) T.heap locs) (hC : cells ≤ C) (hN : slots ≤ N) : own_Go p e below (own_G s Q C N) (T.setTop (mkF m pc Ls [.long z])) := by
  obtain ⟨fs, hr, hrun, hended, hW, hsame⟩ := X.leave (v := some (.long z)) (fun h => by rw [hret] at h; cases h)
  exact ⟨_, _, X.lreturnOut hx hret hd hr, hrun, hended, _, _, rfl, hQ, ⟨_, rfl⟩, hW, hsame.mono hC hN⟩
theorem own_ret0 (X : Stand p l e R s m args below meth c T locs cells slots) (hx : p.tables.exec = Jvm.exec) (hlocks : meth.locks = false) {pc : Nat} {Ls : Array Slot} (hret : meth.sig.returnType = none) (hd : decode c.code pc = .ok (.return_, 1)) {Q : Option Value → Heap → List Loc → Prop} {C N : Nat}
    (hQ : Q none T.heap locs) (hC : cells ≤ C) (hN : slots ≤ N) : own_Go p e below (own_G s Q C N) (T.setTop (mkF m pc Ls [])) := by
  obtain ⟨fs, hr, hrun, hended, hW, hsame⟩ := X.leave (v := none) (fun _ => rfl)
  exact ⟨_, _, X.returnOut hx hret hd hr, hrun, hended, _, _, rfl, hQ, ⟨_, rfl⟩, hW, hsame.mono hC hN⟩
theorem own_z0 {i j : Nat} (q : i = 0) : i ≤ j := q ▸ Nat.zero_le j
/-! arrays of ints (or bytes), of longs: their length and their elements by a plain function -/
def own_Ai (Z : State) (h : Heap) (a : Addr) (ty : FieldType) (n : Nat) (f : Nat → Int32) : Prop := ∃ c : Cell, Arr Z h a c ty ∧ c.slots.size = n ∧ ∀ i, i < n → c.slots[i]? = some (.int (f i))
def own_Aj (Z : State) (h : Heap) (a : Addr) (ty : FieldType) (n : Nat) (f : Nat → Int64) : Prop := ∃ c : Cell, Arr Z h a c ty ∧ c.slots.size = n ∧ ∀ i, i < n → c.slots[i]? = some (.long (f i))
def own_up (f : Nat → Int32) (k : Nat) (x : Int32) : Nat → Int32 := fun i => if i = k then x else f i
def own_upJ (f : Nat → Int64) (k : Nat) (x : Int64) : Nat → Int64 := fun i => if i = k then x else f i
theorem own_up_at (f : Nat → Int32) (k : Nat) (x : Int32) (i : Nat) : own_up f k x i = if i = k then x else f i := rfl
theorem own_upJ_at (f : Nat → Int64) (k : Nat) (x : Int64) (i : Nat) : own_upJ f k x i = if i = k then x else f i := rfl
variable {ty : FieldType} {n : Nat} {f : Nat → Int32} {fj : Nat → Int64} {ws : List Addr} {sl : Nat} {v : Value}
theorem own_Ai.lt (F : own_Ai Z h a ty n f) : a < h.size := by obtain ⟨c, A, -⟩ := F; exact A.lt
theorem own_Aj.lt (F : own_Aj Z h a ty n fj) : a < h.size := by obtain ⟨c, A, -⟩ := F; exact A.lt
theorem own_Ai.ext (F : own_Ai Z h a ty n f) (E : Ext h h') : own_Ai Z h' a ty n f := by obtain ⟨c, A, r⟩ := F; exact ⟨c, A.ext E, r⟩
theorem own_Aj.ext (F : own_Aj Z h a ty n fj) (E : Ext h h') : own_Aj Z h' a ty n fj := by obtain ⟨c, A, r⟩ := F; exact ⟨c, A.ext E, r⟩
theorem own_Ai.other (F : own_Ai Z h b ty n f) (W : Wr h h' a sl v) (q : b ≠ a) : own_Ai Z h' b ty n f := by obtain ⟨c, A, r⟩ := F; exact ⟨c, A.other W q, r⟩
theorem own_Aj.other (F : own_Aj Z h b ty n fj) (W : Wr h h' a sl v) (q : b ≠ a) : own_Aj Z h' b ty n fj := by obtain ⟨c, A, r⟩ := F; exact ⟨c, A.other W q, r⟩
theorem own_Ai.keep (F : own_Ai Z h a ty n f) (K : Keep h h' ws) (q : a ∉ ws) : own_Ai Z h' a ty n f := by obtain ⟨c, A, r⟩ := F; exact ⟨c, ⟨K.2.1 a c A.1 q, A.2⟩, r⟩
theorem own_Aj.keep (F : own_Aj Z h a ty n fj) (K : Keep h h' ws) (q : a ∉ ws) : own_Aj Z h' a ty n fj := by obtain ⟨c, A, r⟩ := F; exact ⟨c, ⟨K.2.1 a c A.1 q, A.2⟩, r⟩
theorem own_Ai.neq {a0 : Array Value} {k : Nat} {C : String} (F : own_Ai Z h b ty n f) (E : Exa Z h a C) (wi : (Cond.instantiable C k).before a0 Z = true) : a ≠ b := by obtain ⟨c, A, -⟩ := F; exact ne_arr E wi A
theorem own_Aj.neq {a0 : Array Value} {k : Nat} {C : String} (F : own_Aj Z h b ty n fj) (E : Exa Z h a C) (wi : (Cond.instantiable C k).before a0 Z = true) : a ≠ b := by obtain ⟨c, A, -⟩ := F; exact ne_arr E wi A
theorem own_nat {j : Int32} {k : Nat} (hj : j.toInt = k) : j.toNatClampNeg = k := by simp only [Int32.toNatClampNeg, hj]; rfl
theorem own_in {j : Int32} {k n : Nat} (hj : j.toInt = k) (hk : k < n) : ¬ (j < 0 ∨ n ≤ j.toNatClampNeg) := by
  rw [own_nat hj, Int32.lt_iff_toInt_lt, hj, show (0 : Int32).toInt = 0 from rfl]; omega
theorem own_len {z : Int32} (hz : z.toInt = n) : n.toInt32 = z := by
  have := Int32.toInt_lt z
  exact Int32.toInt_inj.mp (by rw [Int32.toInt_ofNat_small (by omega), hz])
theorem own_iaload (X : Stand p l e R s m args below meth c T locs cells slots) (hx : p.tables.exec = Jvm.exec) (hZ : Z.Warmed39 s.vm) (eT : T.heap = h) (A : own_Ai Z h a .int n f) {j : Int32} {k : Nat} (hj : j.toInt = k) (hk : k < n) {g : JFrame} (hg : g.method = m) {rest : List Value} (hs : g.stack = .int j :: .ref a :: rest) (hd : decode c.code g.pc = .ok (.iaload, 1)) {target : State}
    (hr : Steps p.tables e below (T.setTop { g with pc := g.pc + 1, stack := .int (f k) :: rest }) target) : Steps p.tables e below (T.setTop g) target := by
  obtain ⟨cl, A, S, H⟩ := A
  exact X.iaload hx (j := j) (v := .int (f k)) (by rw [eT]; exact A.1) (State.isArrayOf_alike hZ.alike A.2.1) A.2.2 (by rw [S]; exact own_in hj hk) (by rw [own_nat hj]; exact H k hk) hg hs hd _ hr
theorem own_baload (X : Stand p l e R s m args below meth c T locs cells slots) (hx : p.tables.exec = Jvm.exec) (hZ : Z.Warmed39 s.vm) (eT : T.heap = h) (A : own_Ai Z h a .byte n f) {j : Int32} {k : Nat} (hj : j.toInt = k) (hk : k < n) {g : JFrame} (hg : g.method = m) {rest : List Value} (hs : g.stack = .int j :: .ref a :: rest) (hd : decode c.code g.pc = .ok (.baload, 1)) {target : State}
    (hr : Steps p.tables e below (T.setTop { g with pc := g.pc + 1, stack := .int (f k) :: rest }) target) : Steps p.tables e below (T.setTop g) target := by
  obtain ⟨cl, A, S, H⟩ := A
  exact X.baloadBytes hx (j := j) (v := .int (f k)) (by rw [eT]; exact A.1) (State.isArrayOf_alike hZ.alike A.2.1) A.2.2 (by rw [S]; exact own_in hj hk) (by rw [own_nat hj]; exact H k hk) hg hs hd _ hr
theorem own_laload (X : Stand p l e R s m args below meth c T locs cells slots) (hx : p.tables.exec = Jvm.exec) (hZ : Z.Warmed39 s.vm) (eT : T.heap = h) (A : own_Aj Z h a .long n fj) {j : Int32} {k : Nat} (hj : j.toInt = k) (hk : k < n) {g : JFrame} (hg : g.method = m) {rest : List Value} (hs : g.stack = .int j :: .ref a :: rest) (hd : decode c.code g.pc = .ok (.laload, 1)) {target : State}
    (hr : Steps p.tables e below (T.setTop { g with pc := g.pc + 1, stack := .long (fj k) :: rest }) target) : Steps p.tables e below (T.setTop g) target := by
  obtain ⟨cl, A, S, H⟩ := A
  exact X.laload hx (j := j) (v := .long (fj k)) (by rw [eT]; exact A.1) (State.isArrayOf_alike hZ.alike A.2.1) A.2.2 (by rw [S]; exact own_in hj hk) (by rw [own_nat hj]; exact H k hk) hg hs hd _ hr
theorem own_alen (X : Stand p l e R s m args below meth c T locs cells slots) (hx : p.tables.exec = Jvm.exec) (hZ : Z.Warmed39 s.vm) (eT : T.heap = h) (A : own_Ai Z h a ty n f) {z : Int32} (hz : z.toInt = n) {g : JFrame} (hg : g.method = m) {rest : List Value} (hs : g.stack = .ref a :: rest) (hd : decode c.code g.pc = .ok (.arraylength, 1)) {target : State}
    (hr : Steps p.tables e below (T.setTop { g with pc := g.pc + 1, stack := .int z :: rest }) target) : Steps p.tables e below (T.setTop g) target := by
  obtain ⟨cl, A, S, H⟩ := A
  refine X.arraylength hx (by rw [eT]; exact A.1) (State.isArrayOf_alike hZ.alike A.2.1) hg hs hd _ ?_
  rw [S, own_len hz]; exact hr
theorem own_Ai.set (F : own_Ai Z h a ty n f) {j : Nat} {x : Int32} (W : Wr h h' a j (.int x)) : own_Ai Z h' a ty n (own_up f j x) := by
  obtain ⟨cl, A, S, H⟩ := F
  refine ⟨_, A.same W, by rw [sz_set]; exact S, fun i hi => ?_⟩
  rw [own_up_at]
  by_cases q : i = j
  · subst q
    rw [if_pos rfl]
    simp [Cell.setSlot, S, hi]
  · rw [if_neg q, show (cl.setSlot j (.int x)).slots[i]? = cl.slots[i]? from Array.getElem?_setIfInBounds_ne (Ne.symm q)]
    exact H i hi
theorem own_Aj.set (F : own_Aj Z h a ty n fj) {j : Nat} {x : Int64} (W : Wr h h' a j (.long x)) : own_Aj Z h' a ty n (own_upJ fj j x) := by
  obtain ⟨cl, A, S, H⟩ := F
  refine ⟨_, A.same W, by rw [sz_set]; exact S, fun i hi => ?_⟩
  rw [own_upJ_at]
  by_cases q : i = j
  · subst q
    rw [if_pos rfl]
    simp [Cell.setSlot, S, hi]
  · rw [if_neg q, show (cl.setSlot j (.long x)).slots[i]? = cl.slots[i]? from Array.getElem?_setIfInBounds_ne (Ne.symm q)]
    exact H i hi
theorem own_iastore (X : Stand p l e R s m args below meth c T locs cells slots) (hx : p.tables.exec = Jvm.exec) (hZ : Z.Warmed39 s.vm) (eT : T.heap = h) (A : own_Ai Z h a .int n f) {j x : Int32} {k : Nat} (hj : j.toInt = k) (hk : k < n) {g : JFrame} (hg : g.method = m) {rest : List Value} (hs : g.stack = .int x :: .int j :: .ref a :: rest) (hd : decode c.code g.pc = .ok (.iastore, 1)) :
    ∃ T' h', Stand p l e R s m args below meth c T' (locs ++ [⟨a, k⟩]) cells slots ∧ T'.heap = h' ∧ Wr h h' a k (.int x) ∧ own_Ai Z h' a .int n (own_up f k x) ∧ ∀ target, Steps p.tables e below (T'.setTop { g with pc := g.pc + 1, stack := rest }) target → Steps p.tables e below (T.setTop g) target := by
  obtain ⟨cl, B, S, H⟩ := id A
  obtain ⟨T', h', X', e', W, st⟩ := stI X hx hZ eT B (j := j) (x := x) (by rw [S]; exact own_in hj hk) hg hs hd
  rw [own_nat hj] at X' W
  exact ⟨T', h', X', e', W, A.set W, st⟩
theorem own_bastore (X : Stand p l e R s m args below meth c T locs cells slots) (hx : p.tables.exec = Jvm.exec) (hZ : Z.Warmed39 s.vm) (eT : T.heap = h) (A : own_Ai Z h a .byte n f) {j x : Int32} {k : Nat} (hj : j.toInt = k) (hk : k < n) {g : JFrame} (hg : g.method = m) {rest : List Value} (hs : g.stack = .int x :: .int j :: .ref a :: rest) (hd : decode c.code g.pc = .ok (.bastore, 1)) :
    ∃ T' h', Stand p l e R s m args below meth c T' (locs ++ [⟨a, k⟩]) cells slots ∧ T'.heap = h' ∧ Wr h h' a k (.int x.toInt8.toInt32) ∧ own_Ai Z h' a .byte n (own_up f k x.toInt8.toInt32) ∧ ∀ target, Steps p.tables e below (T'.setTop { g with pc := g.pc + 1, stack := rest }) target → Steps p.tables e below (T.setTop g) target := by
  obtain ⟨cl, B, S, H⟩ := id A
  obtain ⟨T', h', X', e', W, st⟩ := stB X hx hZ eT B (j := j) (x := x) (by rw [S]; exact own_in hj hk) hg hs hd
  rw [own_nat hj] at X' W
  exact ⟨T', h', X', e', W, A.set W, st⟩
theorem own_lastore (X : Stand p l e R s m args below meth c T locs cells slots) (hx : p.tables.exec = Jvm.exec) (hZ : Z.Warmed39 s.vm) (eT : T.heap = h) (A : own_Aj Z h a .long n fj) {j : Int32} {x : Int64} {k : Nat} (hj : j.toInt = k) (hk : k < n) {g : JFrame} (hg : g.method = m) {rest : List Value} (hs : g.stack = .long x :: .int j :: .ref a :: rest) (hd : decode c.code g.pc = .ok (.lastore, 1)) :
    ∃ T' h', Stand p l e R s m args below meth c T' (locs ++ [⟨a, k⟩]) cells slots ∧ T'.heap = h' ∧ Wr h h' a k (.long x) ∧ own_Aj Z h' a .long n (own_upJ fj k x) ∧ ∀ target, Steps p.tables e below (T'.setTop { g with pc := g.pc + 1, stack := rest }) target → Steps p.tables e below (T.setTop g) target := by
  obtain ⟨cl, B, S, H⟩ := id A
  obtain ⟨T', h', X', e', W, st⟩ := stJ X hx hZ eT B (j := j) (x := x) (by rw [S]; exact own_in hj hk) hg hs hd
  rw [own_nat hj] at X' W
  exact ⟨T', h', X', e', W, A.set W, st⟩
theorem own_newarr (X : Stand p l e R s m args below meth c T locs cells slots) (hx : p.tables.exec = Jvm.exec) (hZ : Z.Warmed39 s.vm) {a0 : Array Value} {aty : ArrayType} (w : (Cond.arrayClass (newarray.typeOf aty)).before a0 Z = true) (eT : T.heap = h) {g : JFrame} (hg : g.method = m) (hd : decode c.code g.pc = .ok (.newarray aty, 2)) {z : Int32} {rest : List Value} (hs : g.stack = .int z :: rest) {k : Nat}
    (hz : z.toInt = k) {cap : Nat} (hcap : k ≤ cap) (hb : cap * 8 ≤ 536870912) (hc : cells + 1 ≤ R.cells) (hl : slots + cap ≤ R.slots) :
    ∃ T' h' cl, Stand p l e R s m args below meth c T' locs (cells + 1) (slots + cap) ∧ T'.heap = h' ∧ Ext h h' ∧ (Arr Z h' h.size cl (newarray.typeOf aty) ∧ cl.slots = Array.replicate k (defaultValue (newarray.typeOf aty))) ∧
      ∀ target, Steps p.tables e below (T'.setTop { g with pc := g.pc + 2, stack := .ref h.size :: rest }) target → Steps p.tables e below (T.setTop g) target := by
  have hn : ¬ z < 0 := by rw [Int32.lt_iff_toInt_lt, hz, show (0 : Int32).toInt = 0 from rfl]; omega
  obtain ⟨T', h', cA, X', e', E, A, st⟩ := newP X hx hZ w eT hg hd hs hn (by rw [own_nat hz]; exact hcap) hb hc hl
  exact ⟨T', h', _, X', e', E, ⟨A, by simp [newA, own_nat hz]⟩, st⟩
theorem own_Ai.new {cl : Cell} {k : Nat} (A : Arr Z h a cl ty ∧ cl.slots = Array.replicate k (.int 0)) : own_Ai Z h a ty k (fun _ => 0) :=
  ⟨cl, A.1, by rw [A.2]; simp, fun i hi => by rw [A.2]; simp [hi]⟩
theorem own_Aj.new {cl : Cell} {k : Nat} (A : Arr Z h a cl ty ∧ cl.slots = Array.replicate k (.long 0)) : own_Aj Z h a ty k (fun _ => 0) :=
  ⟨cl, A.1, by rw [A.2]; simp, fun i hi => by rw [A.2]; simp [hi]⟩
theorem own_l_lt (x y : Int64) {b : Bool} (h : if_icmp.holds .lt (lcmpW x y) 0 = b) : ifCond.holds .lt (lcmpW x y) = b := (if0 _ _).trans h
end Own
end Jvm.RoadKit
namespace Jvm.Pilot.@@N@@
open Jvm Jvm.ClassFile Sem Op Lib Jvm.Free Jvm.Stand Jvm.LawKit Jvm.RoadKit Bundle Jvm.Pilot.@@N@@.Jvm.D
theorem own_can (a b : Int64) : (a + b) - a = b := by rw [Int64.add_comm, Int64.add_sub_cancel]
theorem own_mul64 (a b : Int64) (h0 : 0 ≤ a.toInt * b.toInt) (h1 : a.toInt * b.toInt < 9223372036854775808) : (a * b).toInt = a.toInt * b.toInt := by
  have h2 := c_lmul a b
  have h3 := rng64 (a * b)
  generalize a.toInt * b.toInt = q at *
  omega
theorem own_div64 (a f : Int64) (ha : 0 ≤ a.toInt) (hf : 1 ≤ f.toInt) : (a / f).toInt = a.toInt / f.toInt :=
  (c_ldiv a f f.toInt rfl (fun e => by rw [e] at hf; revert hf; decide)).1 ha
theorem own_lt64 {a b : Int64} : a < b ↔ a.toInt < b.toInt := Int64.lt_iff_toInt_lt
theorem own_nz64 {a : Int64} (h : 1 ≤ a.toInt) : a ≠ 0 := fun e => by rw [e] at h; revert h; decide
theorem own_pos64 (a : Int64) : 0 ≤ (a &&& 9223372036854775807).toInt := by
  rw [c_maskL a 9223372036854775807 63 (by decide) (by decide)]; omega
def own_D (f t : Int64) : Int64 := if (2305843009213693951 : Int64) / f < t then 2305843009213693951 else t * f
theorem own_facts (f t : Int64) (hf : 1 ≤ f.toInt) (ht : 0 ≤ t.toInt) : ¬ own_D f t < 0 ∧ ¬ (2305843009213693951 < own_D f t) ∧ (own_D f t < 2305843009213693951 → own_D f t - (own_D f t / f) * f = 0 ∧ own_D f t / f = t) ∧ (¬ own_D f t < 2305843009213693951 → (2305843009213693951 - 1) / f < t) := by
  have eM : (2305843009213693951 : Int64).toInt = 2305843009213693951 := by decide
  have e0 : (0 : Int64).toInt = 0 := by decide
  have q1 := own_div64 2305843009213693951 f (by decide) hf
  have q2 := own_div64 (2305843009213693951 - 1) f (by decide) hf
  have e1 : (2305843009213693951 - 1 : Int64).toInt = 2305843009213693950 := by decide
  rw [eM] at q1
  rw [e1] at q2
  by_cases c : (2305843009213693951 : Int64) / f < t
  · have e : own_D f t = 2305843009213693951 := if_pos c
    rw [e]
    rw [own_lt64, q1] at c
    refine ⟨by decide, by decide, fun h => absurd h (by decide), fun _ => ?_⟩
    rw [own_lt64, q2]
    have := Int.ediv_le_ediv (a := 2305843009213693950) (b := 2305843009213693951) (c := f.toInt) (by omega) (by omega)
    omega
  · have e : own_D f t = t * f := if_neg c
    rw [e]
    rw [own_lt64, q1] at c
    have hc : t.toInt * f.toInt ≤ 2305843009213693951 := (Int.le_ediv_iff_mul_le (by omega)).mp (by omega)
    have h0 : 0 ≤ t.toInt * f.toInt := Int.mul_nonneg ht (by omega)
    have em := own_mul64 t f h0 (by omega)
    have ed : (t * f / f).toInt = t.toInt := by rw [own_div64 _ _ (by rw [em]; exact h0) hf, em, Int.mul_ediv_cancel _ (by omega)]
    have ed' : t * f / f = t := Int64.toInt_inj.mp ed
    refine ⟨by rw [own_lt64, em, e0]; omega, by rw [own_lt64, em, eM]; omega, fun _ => ⟨by rw [ed']; exact Int64.sub_self _, ed'⟩, fun h => ?_⟩
    rw [own_lt64, em, eM] at h
    rw [own_lt64, q2]
    exact (Int.ediv_lt_iff_lt_mul (by omega)).mpr (by omega)
theorem d1_0 : decode prog_29_method_1_code 0 = .ok (.aload_n 0, 1) := by decide +kernel
theorem d1_1 : decode prog_29_method_1_code 1 = .ok (.invokespecial 1, 3) := by decide +kernel
theorem d1_4 : decode prog_29_method_1_code 4 = .ok (.aload_n 0, 1) := by decide +kernel
theorem d1_5 : decode prog_29_method_1_code 5 = .ok (.lload_n 1, 1) := by decide +kernel
theorem d1_6 : decode prog_29_method_1_code 6 = .ok (.putfield 7, 3) := by decide +kernel
theorem d1_9 : decode prog_29_method_1_code 9 = .ok (.aload_n 0, 1) := by decide +kernel
theorem d1_10 : decode prog_29_method_1_code 10 = .ok (.lload_n 3, 1) := by decide +kernel
theorem d1_11 : decode prog_29_method_1_code 11 = .ok (.putfield 13, 3) := by decide +kernel
theorem d1_14 : decode prog_29_method_1_code 14 = .ok (.return_, 1) := by decide +kernel
theorem pn_1 : plainName "com/example/headwater/headwater/connectors/ListingPace" = true := by first | (simp [plainName, overriddenIn]; done) | decide +kernel
theorem ef_1 (m : MethodId) (x0 : Addr) (x1 : Int64) (x2 : Int64) : entryFrame m #[(.ref x0), (.long x1), (.long x2)] 5 = mkF m 0 #[.val (.ref x0), .val (.long x1), .second, .val (.long x2), .second] [] := by first | (simp [entryFrame, mkF, argsToLocals, Value.category]; done) | rfl
def Q1 (Z : State) (ob : Addr) (f0 : Int64) (b0 : Int64) (h0 : Heap) (n0 : Nat) (v : Option Value) (h : Heap) (L : List Loc) : Prop := v = none ∧ Fr n0 L ∧ Keep h0 h [ob] ∧ (Exa Z h ob "com/example/headwater/headwater/connectors/ListingPace") ∧ (Fld Z h ob "com/example/headwater/headwater/connectors/ListingPace" "factor" "J" (.long f0)) ∧ (Fld Z h ob "com/example/headwater/headwater/connectors/ListingPace" "began" "J" (.long b0)) ∧ (Fld Z h ob "com/example/headwater/headwater/connectors/ListingPace" "took" "J" (.long (0 : Int64)))
set_option maxRecDepth 65536 in
set_option maxHeartbeats 40000000 in
theorem rm1 (l : Launch) (Z : State) (a0 : Array Value) (hw : ∀ d ∈ tables_1, d.before a0 Z = true) (ws : List Jvm.Cond) (ob : Addr) (f0 : Int64) (b0 : Int64) (h0 : Heap) (n0 : Nat) (Z0 : n0 ≤ h0.size) (E1 : Exa Z h0 ob "com/example/headwater/headwater/connectors/ListingPace") (F1 : Fld Z h0 ob "com/example/headwater/headwater/connectors/ListingPace" "factor" "J" (.long (0 : Int64))) (F2 : Fld Z h0 ob "com/example/headwater/headwater/connectors/ListingPace" "began" "J" (.long (0 : Int64))) (F3 : Fld Z h0 ob "com/example/headwater/headwater/connectors/ListingPace" "took" "J" (.long (0 : Int64))) (G1 : n0 ≤ ob) :
    MetFree l (⟨"com/example/headwater/headwater/connectors/ListingPace", "<init>", "(JJ)V"⟩ : MethodName) (head1 (Jvm.Cond.code (⟨"com/example/headwater/headwater/connectors/ListingPace", "<init>", "(JJ)V"⟩ : MethodName) prog_29_method_1_code 5 none :: ws) ({ frames := 1, cells := 0, slots := 0, locals := 12 } : Room)) (fun a U => a = #[(.ref ob), (.long f0), (.long b0)] ∧ Z.Warmed39 U.vm ∧ U.heap = h0) (fun _ _ _ _ _ => True) (fun _ U o U' => ∃ v L, o = .returned v ∧ Q1 Z ob f0 b0 h0 n0 v U'.heap L ∧ FrameEnd U o U' L ({ frames := 1, cells := 0, slots := 0, locals := 12 } : Room).cells ({ frames := 1, cells := 0, slots := 0, locals := 12 } : Room).slots) := by
  refine MetFree.of_bodySF (plainFor_of_name pn_1) hisR ?_
  intro p e s m args below meth c s₁ Bd hml0 hP hK
  obtain ⟨rfl, hZ, hh⟩ := hP
  have hx := Bd.exec
  have hby := Bd.bytes
  have hlk : meth.locks = false := BodyLoose.notSynchronized Bd
  have hml : c.maxLocals = 5 := hml0
  have hown : s.vm.findClass "com/example/headwater/headwater/connectors/ListingPace" = some m.cls := findClass_of_methodNamed Bd.named
  have hnm := (name_of_methodNamed Bd.named Bd.method).1
  have X0 : Stand p l e ({ frames := 1, cells := 0, slots := 0, locals := 12 } : Room) s m #[(.ref ob), (.long f0), (.long b0)] below meth c s₁ [] 0 0 := Stand.of_body Bd
  have e0 : s₁.heap = h0 := by rw [← hh, Bd.state]; rfl
  have N0 := Fr.nil n0
  have K0 : Keep h0 h0 [ob] := Keep.refl _ _
  show own_Go p e below (own_G s (Q1 Z ob f0 b0 h0 n0) ({ frames := 1, cells := 0, slots := 0, locals := 12 } : Room).cells ({ frames := 1, cells := 0, slots := 0, locals := 12 } : Room).slots) (s₁.setTop (entryFrame m #[(.ref ob), (.long f0), (.long b0)] 5))
  refine own_st (fun tgt k => castTop (ef_1 m ob f0 b0) k) ?_
  show own_Go p e below _ (s₁.setTop (mkF m 0 #[.val (.ref ob), .val (.long f0), .second, .val (.long b0), .second] []))
  refine own_st (V := s₁.setTop (mkF m 1 #[.val (.ref ob), .val (.long f0), .second, .val (.long b0), .second] [(.ref ob)])) (fun tgt k => ?_) ?_
  · show Steps p.tables e below (s₁.setTop (mkF m 0 #[.val (.ref ob), .val (.long f0), .second, .val (.long b0), .second] [])) tgt
    refine XS.aloadN X0.here hx rfl (hb hby d1_0) rfl rfl ?_
    exact k
  obtain ⟨T1, X1, e1, st1⟩ := initO X0 hx hZ hown (hw _ (List.mem_of_getElem? (i := 8) rfl)) (hw _ (List.mem_of_getElem? (i := 9) rfl)) (hw _ (List.mem_of_getElem? (i := 10) rfl)) e0 (g := (mkF m 1 #[.val (.ref ob), .val (.long f0), .second, .val (.long b0), .second] [(.ref ob)])) rfl (by rw [hml]; rfl) rfl (hb hby d1_1) (by decide) (W := 0) (by show 2 * 0 + _ ≤ _; exact Nat.le_of_eq rfl) (by decide)
  refine own_st st1 ?_
  show own_Go p e below _ (T1.setTop (mkF m 4 #[.val (.ref ob), .val (.long f0), .second, .val (.long b0), .second] []))
  refine own_st (V := T1.setTop (mkF m 6 #[.val (.ref ob), .val (.long f0), .second, .val (.long b0), .second] [(.long f0), (.ref ob)])) (fun tgt k => ?_) ?_
  · show Steps p.tables e below (T1.setTop (mkF m 4 #[.val (.ref ob), .val (.long f0), .second, .val (.long b0), .second] [])) tgt
    refine XS.aloadN X1.here hx rfl (hb hby d1_4) rfl rfl ?_
    show Steps p.tables e below (T1.setTop (mkF m 5 #[.val (.ref ob), .val (.long f0), .second, .val (.long b0), .second] [(.ref ob)])) tgt
    refine XS.lloadN X1.here hx rfl (hb hby d1_5) rfl ?_
    exact k
  obtain ⟨T2, h2, X2, e2, W2, st2⟩ := putF X1 hx hZ hown (host := "") (Or.inl (hw _ (List.mem_of_getElem? (i := 11) rfl))) Via.refl e1 F1 E1 (Or.inr ⟨(hw _ (List.mem_of_getElem? (i := 12) rfl)), rfl, hnm⟩) (hw _ (List.mem_of_getElem? (i := 3) rfl)) (ty := .long) (by decide) rfl rfl (g := (mkF m 6 #[.val (.ref ob), .val (.long f0), .second, .val (.long b0), .second] [(.long f0), (.ref ob)])) rfl rfl (hb hby d1_6)
  have E_ob_2 := E1.wr W2
  have F_ob_began_2 := Fld.other W2 F2 (Or.inr (slot_ne (Or.inl (hw _ (List.mem_of_getElem? (i := 14) rfl))) (Or.inr (hw _ (List.mem_of_getElem? (i := 12) rfl))) (by decide) (t := .long) (t' := .long) (by decide) (by decide)))
  have F_ob_took_2 := Fld.other W2 F3 (Or.inr (slot_ne (Or.inl (hw _ (List.mem_of_getElem? (i := 21) rfl))) (Or.inr (hw _ (List.mem_of_getElem? (i := 12) rfl))) (by decide) (t := .long) (t' := .long) (by decide) (by decide)))
  have F_ob_factor_2 := Fld.same W2 F1
  have N2 := Fr.snoc X2 N0 G1
  have Zs2 : n0 ≤ h2.size := Nat.le_trans Z0 (Keep.of_wr W2).1
  have Kp2 := K0.wr W2 (Or.inl (List.mem_of_getElem? (i := 0) rfl))
  refine own_st st2 ?_
  show own_Go p e below _ (T2.setTop (mkF m 9 #[.val (.ref ob), .val (.long f0), .second, .val (.long b0), .second] []))
  refine own_st (V := T2.setTop (mkF m 11 #[.val (.ref ob), .val (.long f0), .second, .val (.long b0), .second] [(.long b0), (.ref ob)])) (fun tgt k => ?_) ?_
  · show Steps p.tables e below (T2.setTop (mkF m 9 #[.val (.ref ob), .val (.long f0), .second, .val (.long b0), .second] [])) tgt
    refine XS.aloadN X2.here hx rfl (hb hby d1_9) rfl rfl ?_
    show Steps p.tables e below (T2.setTop (mkF m 10 #[.val (.ref ob), .val (.long f0), .second, .val (.long b0), .second] [(.ref ob)])) tgt
    refine XS.lloadN X2.here hx rfl (hb hby d1_10) rfl ?_
    exact k
  obtain ⟨T3, h3, X3, e3, W3, st3⟩ := putF X2 hx hZ hown (host := "") (Or.inl (hw _ (List.mem_of_getElem? (i := 13) rfl))) Via.refl e2 F_ob_began_2 E_ob_2 (Or.inl (hw _ (List.mem_of_getElem? (i := 14) rfl))) (hw _ (List.mem_of_getElem? (i := 3) rfl)) (ty := .long) (by decide) rfl rfl (g := (mkF m 11 #[.val (.ref ob), .val (.long f0), .second, .val (.long b0), .second] [(.long b0), (.ref ob)])) rfl rfl (hb hby d1_11)
  have E_ob_3 := E_ob_2.wr W3
  have F_ob_factor_3 := Fld.other W3 F_ob_factor_2 (Or.inr (slot_ne (Or.inr (hw _ (List.mem_of_getElem? (i := 12) rfl))) (Or.inl (hw _ (List.mem_of_getElem? (i := 14) rfl))) (by decide) (t := .long) (t' := .long) (by decide) (by decide)))
  have F_ob_took_3 := Fld.other W3 F_ob_took_2 (Or.inr (slot_ne (Or.inl (hw _ (List.mem_of_getElem? (i := 21) rfl))) (Or.inl (hw _ (List.mem_of_getElem? (i := 14) rfl))) (by decide) (t := .long) (t' := .long) (by decide) (by decide)))
  have F_ob_began_3 := Fld.same W3 F_ob_began_2
  have N3 := Fr.snoc X3 N2 G1
  have Zs3 : n0 ≤ h3.size := Nat.le_trans Zs2 (Keep.of_wr W3).1
  have Kp3 := Kp2.wr W3 (Or.inl (List.mem_of_getElem? (i := 0) rfl))
  refine own_st st3 ?_
  show own_Go p e below _ (T3.setTop (mkF m 14 #[.val (.ref ob), .val (.long f0), .second, .val (.long b0), .second] []))
  refine own_ret0 X3 hx hlk Bd.returns (hb hby d1_14) ?_ (by decide) (by decide)
  show Q1 Z ob f0 b0 h0 n0 none T3.heap _
  rw [e3]
  exact ⟨rfl, N3, Kp3, E_ob_3, F_ob_factor_3, F_ob_began_3, F_ob_took_3⟩
theorem d3_0 : decode prog_29_method_5_code 0 = .ok (.aload_n 0, 1) := by decide +kernel
theorem d3_1 : decode prog_29_method_5_code 1 = .ok (.lload_n 1, 1) := by decide +kernel
theorem d3_2 : decode prog_29_method_5_code 2 = .ok (.aload_n 0, 1) := by decide +kernel
theorem d3_3 : decode prog_29_method_5_code 3 = .ok (.getfield 13, 3) := by decide +kernel
theorem d3_6 : decode prog_29_method_5_code 6 = .ok (.lsub, 1) := by decide +kernel
theorem d3_7 : decode prog_29_method_5_code 7 = .ok (.putfield 16, 3) := by decide +kernel
theorem d3_10 : decode prog_29_method_5_code 10 = .ok (.return_, 1) := by decide +kernel
theorem pn_3 : plainName "com/example/headwater/headwater/connectors/ListingPace" = true := by first | (simp [plainName, overriddenIn]; done) | decide +kernel
theorem ef_3 (m : MethodId) (x0 : Addr) (x1 : Int64) : entryFrame m #[(.ref x0), (.long x1)] 3 = mkF m 0 #[.val (.ref x0), .val (.long x1), .second] [] := by first | (simp [entryFrame, mkF, argsToLocals, Value.category]; done) | rfl
def Q3 (Z : State) (ob : Addr) (vv : Int64) (fc : Int64) (bg : Int64) (tk : Int64) (h0 : Heap) (n0 : Nat) (v : Option Value) (h : Heap) (L : List Loc) : Prop := v = none ∧ Fr n0 L ∧ Keep h0 h [ob] ∧ (Exa Z h ob "com/example/headwater/headwater/connectors/ListingPace") ∧ (Fld Z h ob "com/example/headwater/headwater/connectors/ListingPace" "factor" "J" (.long fc)) ∧ (Fld Z h ob "com/example/headwater/headwater/connectors/ListingPace" "began" "J" (.long bg)) ∧ (Fld Z h ob "com/example/headwater/headwater/connectors/ListingPace" "took" "J" (.long (vv - bg)))
set_option maxRecDepth 65536 in
set_option maxHeartbeats 40000000 in
theorem rm3 (l : Launch) (Z : State) (a0 : Array Value) (hw : ∀ d ∈ tables_1, d.before a0 Z = true) (ws : List Jvm.Cond) (ob : Addr) (vv : Int64) (fc : Int64) (bg : Int64) (tk : Int64) (h0 : Heap) (n0 : Nat) (Z0 : n0 ≤ h0.size) (E1 : Exa Z h0 ob "com/example/headwater/headwater/connectors/ListingPace") (F1 : Fld Z h0 ob "com/example/headwater/headwater/connectors/ListingPace" "factor" "J" (.long fc)) (F2 : Fld Z h0 ob "com/example/headwater/headwater/connectors/ListingPace" "began" "J" (.long bg)) (F3 : Fld Z h0 ob "com/example/headwater/headwater/connectors/ListingPace" "took" "J" (.long tk)) (G1 : n0 ≤ ob) :
    MetFree l (⟨"com/example/headwater/headwater/connectors/ListingPace", "ended", "(J)V"⟩ : MethodName) (head1 (Jvm.Cond.code (⟨"com/example/headwater/headwater/connectors/ListingPace", "ended", "(J)V"⟩ : MethodName) prog_29_method_5_code 3 none :: ws) ({ frames := 0, cells := 0, slots := 0, locals := 0 } : Room)) (fun a U => a = #[(.ref ob), (.long vv)] ∧ Z.Warmed39 U.vm ∧ U.heap = h0) (fun _ _ _ _ _ => True) (fun _ U o U' => ∃ v L, o = .returned v ∧ Q3 Z ob vv fc bg tk h0 n0 v U'.heap L ∧ FrameEnd U o U' L ({ frames := 0, cells := 0, slots := 0, locals := 0 } : Room).cells ({ frames := 0, cells := 0, slots := 0, locals := 0 } : Room).slots) := by
  refine MetFree.of_bodySF (plainFor_of_name pn_3) hisR ?_
  intro p e s m args below meth c s₁ Bd hml0 hP hK
  obtain ⟨rfl, hZ, hh⟩ := hP
  have hx := Bd.exec
  have hby := Bd.bytes
  have hlk : meth.locks = false := BodyLoose.notSynchronized Bd
  have hml : c.maxLocals = 3 := hml0
  have hown : s.vm.findClass "com/example/headwater/headwater/connectors/ListingPace" = some m.cls := findClass_of_methodNamed Bd.named
  have hnm := (name_of_methodNamed Bd.named Bd.method).1
  have X0 : Stand p l e ({ frames := 0, cells := 0, slots := 0, locals := 0 } : Room) s m #[(.ref ob), (.long vv)] below meth c s₁ [] 0 0 := Stand.of_body Bd
  have e0 : s₁.heap = h0 := by rw [← hh, Bd.state]; rfl
  have N0 := Fr.nil n0
  have K0 : Keep h0 h0 [ob] := Keep.refl _ _
  show own_Go p e below (own_G s (Q3 Z ob vv fc bg tk h0 n0) ({ frames := 0, cells := 0, slots := 0, locals := 0 } : Room).cells ({ frames := 0, cells := 0, slots := 0, locals := 0 } : Room).slots) (s₁.setTop (entryFrame m #[(.ref ob), (.long vv)] 3))
  refine own_st (fun tgt k => castTop (ef_3 m ob vv) k) ?_
  show own_Go p e below _ (s₁.setTop (mkF m 0 #[.val (.ref ob), .val (.long vv), .second] []))
  refine own_st (V := s₁.setTop (mkF m 3 #[.val (.ref ob), .val (.long vv), .second] [(.ref ob), (.long vv), (.ref ob)])) (fun tgt k => ?_) ?_
  · show Steps p.tables e below (s₁.setTop (mkF m 0 #[.val (.ref ob), .val (.long vv), .second] [])) tgt
    refine XS.aloadN X0.here hx rfl (hb hby d3_0) rfl rfl ?_
    show Steps p.tables e below (s₁.setTop (mkF m 1 #[.val (.ref ob), .val (.long vv), .second] [(.ref ob)])) tgt
    refine XS.lloadN X0.here hx rfl (hb hby d3_1) rfl ?_
    show Steps p.tables e below (s₁.setTop (mkF m 2 #[.val (.ref ob), .val (.long vv), .second] [(.long vv), (.ref ob)])) tgt
    refine XS.aloadN X0.here hx rfl (hb hby d3_2) rfl rfl ?_
    exact k
  obtain ⟨T1, X1, e1, st1⟩ := getF X0 hx hZ hown (host := "") (Or.inl (hw _ (List.mem_of_getElem? (i := 13) rfl))) Via.refl e0 F2 (g := (mkF m 3 #[.val (.ref ob), .val (.long vv), .second] [(.ref ob), (.long vv), (.ref ob)])) rfl rfl (hb hby d3_3)
  refine own_st st1 ?_
  show own_Go p e below _ (T1.setTop (mkF m 6 #[.val (.ref ob), .val (.long vv), .second] [(.long bg), (.long vv), (.ref ob)]))
  refine own_st (V := T1.setTop (mkF m 7 #[.val (.ref ob), .val (.long vv), .second] [(.long (vv - bg)), (.ref ob)])) (fun tgt k => ?_) ?_
  · show Steps p.tables e below (T1.setTop (mkF m 6 #[.val (.ref ob), .val (.long vv), .second] [(.long bg), (.long vv), (.ref ob)])) tgt
    refine XS.lsub X1.here hx rfl (hb hby d3_6) rfl ?_
    exact k
  obtain ⟨T2, h2, X2, e2, W2, st2⟩ := putF X1 hx hZ hown (host := "") (Or.inl (hw _ (List.mem_of_getElem? (i := 20) rfl))) Via.refl e1 F3 E1 (Or.inl (hw _ (List.mem_of_getElem? (i := 21) rfl))) (hw _ (List.mem_of_getElem? (i := 3) rfl)) (ty := .long) (by decide) rfl rfl (g := (mkF m 7 #[.val (.ref ob), .val (.long vv), .second] [(.long (vv - bg)), (.ref ob)])) rfl rfl (hb hby d3_7)
  have E_ob_2 := E1.wr W2
  have F_ob_factor_2 := Fld.other W2 F1 (Or.inr (slot_ne (Or.inr (hw _ (List.mem_of_getElem? (i := 12) rfl))) (Or.inl (hw _ (List.mem_of_getElem? (i := 21) rfl))) (by decide) (t := .long) (t' := .long) (by decide) (by decide)))
  have F_ob_began_2 := Fld.other W2 F2 (Or.inr (slot_ne (Or.inl (hw _ (List.mem_of_getElem? (i := 14) rfl))) (Or.inl (hw _ (List.mem_of_getElem? (i := 21) rfl))) (by decide) (t := .long) (t' := .long) (by decide) (by decide)))
  have F_ob_took_2 := Fld.same W2 F3
  have N2 := Fr.snoc X2 N0 G1
  have Zs2 : n0 ≤ h2.size := Nat.le_trans Z0 (Keep.of_wr W2).1
  have Kp2 := K0.wr W2 (Or.inl (List.mem_of_getElem? (i := 0) rfl))
  refine own_st st2 ?_
  show own_Go p e below _ (T2.setTop (mkF m 10 #[.val (.ref ob), .val (.long vv), .second] []))
  refine own_ret0 X2 hx hlk Bd.returns (hb hby d3_10) ?_ (by decide) (by decide)
  show Q3 Z ob vv fc bg tk h0 n0 none T2.heap _
  rw [e2]
  exact ⟨rfl, N2, Kp2, E_ob_2, F_ob_factor_2, F_ob_began_2, F_ob_took_2⟩
theorem d4_0 : decode prog_29_method_4_code 0 = .ok (.aload_n 0, 1) := by decide +kernel
theorem d4_1 : decode prog_29_method_4_code 1 = .ok (.lload_n 1, 1) := by decide +kernel
theorem d4_2 : decode prog_29_method_4_code 2 = .ok (.putfield 13, 3) := by decide +kernel
theorem d4_5 : decode prog_29_method_4_code 5 = .ok (.return_, 1) := by decide +kernel
theorem pn_4 : plainName "com/example/headwater/headwater/connectors/ListingPace" = true := by first | (simp [plainName, overriddenIn]; done) | decide +kernel
theorem ef_4 (m : MethodId) (x0 : Addr) (x1 : Int64) : entryFrame m #[(.ref x0), (.long x1)] 3 = mkF m 0 #[.val (.ref x0), .val (.long x1), .second] [] := by first | (simp [entryFrame, mkF, argsToLocals, Value.category]; done) | rfl
def Q4 (Z : State) (ob : Addr) (vv : Int64) (fc : Int64) (bg : Int64) (tk : Int64) (h0 : Heap) (n0 : Nat) (v : Option Value) (h : Heap) (L : List Loc) : Prop := v = none ∧ Fr n0 L ∧ Keep h0 h [ob] ∧ (Exa Z h ob "com/example/headwater/headwater/connectors/ListingPace") ∧ (Fld Z h ob "com/example/headwater/headwater/connectors/ListingPace" "factor" "J" (.long fc)) ∧ (Fld Z h ob "com/example/headwater/headwater/connectors/ListingPace" "began" "J" (.long vv)) ∧ (Fld Z h ob "com/example/headwater/headwater/connectors/ListingPace" "took" "J" (.long tk))
set_option maxRecDepth 65536 in
set_option maxHeartbeats 40000000 in
theorem rm4 (l : Launch) (Z : State) (a0 : Array Value) (hw : ∀ d ∈ tables_1, d.before a0 Z = true) (ws : List Jvm.Cond) (ob : Addr) (vv : Int64) (fc : Int64) (bg : Int64) (tk : Int64) (h0 : Heap) (n0 : Nat) (Z0 : n0 ≤ h0.size) (E1 : Exa Z h0 ob "com/example/headwater/headwater/connectors/ListingPace") (F1 : Fld Z h0 ob "com/example/headwater/headwater/connectors/ListingPace" "factor" "J" (.long fc)) (F2 : Fld Z h0 ob "com/example/headwater/headwater/connectors/ListingPace" "began" "J" (.long bg)) (F3 : Fld Z h0 ob "com/example/headwater/headwater/connectors/ListingPace" "took" "J" (.long tk)) (G1 : n0 ≤ ob) :
    MetFree l (⟨"com/example/headwater/headwater/connectors/ListingPace", "began", "(J)V"⟩ : MethodName) (head1 (Jvm.Cond.code (⟨"com/example/headwater/headwater/connectors/ListingPace", "began", "(J)V"⟩ : MethodName) prog_29_method_4_code 3 none :: ws) ({ frames := 0, cells := 0, slots := 0, locals := 0 } : Room)) (fun a U => a = #[(.ref ob), (.long vv)] ∧ Z.Warmed39 U.vm ∧ U.heap = h0) (fun _ _ _ _ _ => True) (fun _ U o U' => ∃ v L, o = .returned v ∧ Q4 Z ob vv fc bg tk h0 n0 v U'.heap L ∧ FrameEnd U o U' L ({ frames := 0, cells := 0, slots := 0, locals := 0 } : Room).cells ({ frames := 0, cells := 0, slots := 0, locals := 0 } : Room).slots) := by
  refine MetFree.of_bodySF (plainFor_of_name pn_4) hisR ?_
  intro p e s m args below meth c s₁ Bd hml0 hP hK
  obtain ⟨rfl, hZ, hh⟩ := hP
  have hx := Bd.exec
  have hby := Bd.bytes
  have hlk : meth.locks = false := BodyLoose.notSynchronized Bd
  have hml : c.maxLocals = 3 := hml0
  have hown : s.vm.findClass "com/example/headwater/headwater/connectors/ListingPace" = some m.cls := findClass_of_methodNamed Bd.named
  have hnm := (name_of_methodNamed Bd.named Bd.method).1
  have X0 : Stand p l e ({ frames := 0, cells := 0, slots := 0, locals := 0 } : Room) s m #[(.ref ob), (.long vv)] below meth c s₁ [] 0 0 := Stand.of_body Bd
  have e0 : s₁.heap = h0 := by rw [← hh, Bd.state]; rfl
  have N0 := Fr.nil n0
  have K0 : Keep h0 h0 [ob] := Keep.refl _ _
  show own_Go p e below (own_G s (Q4 Z ob vv fc bg tk h0 n0) ({ frames := 0, cells := 0, slots := 0, locals := 0 } : Room).cells ({ frames := 0, cells := 0, slots := 0, locals := 0 } : Room).slots) (s₁.setTop (entryFrame m #[(.ref ob), (.long vv)] 3))
  refine own_st (fun tgt k => castTop (ef_4 m ob vv) k) ?_
  show own_Go p e below _ (s₁.setTop (mkF m 0 #[.val (.ref ob), .val (.long vv), .second] []))
  refine own_st (V := s₁.setTop (mkF m 2 #[.val (.ref ob), .val (.long vv), .second] [(.long vv), (.ref ob)])) (fun tgt k => ?_) ?_
  · show Steps p.tables e below (s₁.setTop (mkF m 0 #[.val (.ref ob), .val (.long vv), .second] [])) tgt
    refine XS.aloadN X0.here hx rfl (hb hby d4_0) rfl rfl ?_
    show Steps p.tables e below (s₁.setTop (mkF m 1 #[.val (.ref ob), .val (.long vv), .second] [(.ref ob)])) tgt
    refine XS.lloadN X0.here hx rfl (hb hby d4_1) rfl ?_
    exact k
  obtain ⟨T1, h1, X1, e1, W1, st1⟩ := putF X0 hx hZ hown (host := "") (Or.inl (hw _ (List.mem_of_getElem? (i := 13) rfl))) Via.refl e0 F2 E1 (Or.inl (hw _ (List.mem_of_getElem? (i := 14) rfl))) (hw _ (List.mem_of_getElem? (i := 3) rfl)) (ty := .long) (by decide) rfl rfl (g := (mkF m 2 #[.val (.ref ob), .val (.long vv), .second] [(.long vv), (.ref ob)])) rfl rfl (hb hby d4_2)
  have E_ob_1 := E1.wr W1
  have F_ob_factor_1 := Fld.other W1 F1 (Or.inr (slot_ne (Or.inr (hw _ (List.mem_of_getElem? (i := 12) rfl))) (Or.inl (hw _ (List.mem_of_getElem? (i := 14) rfl))) (by decide) (t := .long) (t' := .long) (by decide) (by decide)))
  have F_ob_took_1 := Fld.other W1 F3 (Or.inr (slot_ne (Or.inl (hw _ (List.mem_of_getElem? (i := 21) rfl))) (Or.inl (hw _ (List.mem_of_getElem? (i := 14) rfl))) (by decide) (t := .long) (t' := .long) (by decide) (by decide)))
  have F_ob_began_1 := Fld.same W1 F2
  have N1 := Fr.snoc X1 N0 G1
  have Zs1 : n0 ≤ h1.size := Nat.le_trans Z0 (Keep.of_wr W1).1
  have Kp1 := K0.wr W1 (Or.inl (List.mem_of_getElem? (i := 0) rfl))
  refine own_st st1 ?_
  show own_Go p e below _ (T1.setTop (mkF m 5 #[.val (.ref ob), .val (.long vv), .second] []))
  refine own_ret0 X1 hx hlk Bd.returns (hb hby d4_5) ?_ (by decide) (by decide)
  show Q4 Z ob vv fc bg tk h0 n0 none T1.heap _
  rw [e1]
  exact ⟨rfl, N1, Kp1, E_ob_1, F_ob_factor_1, F_ob_began_1, F_ob_took_1⟩
theorem d5_0 : decode prog_29_method_3_code 0 = .ok (.ldc2_w 21, 3) := by decide +kernel
theorem d5_3 : decode prog_29_method_3_code 3 = .ok (.lstore_n 1, 1) := by decide +kernel
theorem d5_4 : decode prog_29_method_3_code 4 = .ok (.aload_n 0, 1) := by decide +kernel
theorem d5_5 : decode prog_29_method_3_code 5 = .ok (.getfield 13, 3) := by decide +kernel
theorem d5_8 : decode prog_29_method_3_code 8 = .ok (.aload_n 0, 1) := by decide +kernel
theorem d5_9 : decode prog_29_method_3_code 9 = .ok (.getfield 16, 3) := by decide +kernel
theorem d5_12 : decode prog_29_method_3_code 12 = .ok (.lload_n 1, 1) := by decide +kernel
theorem d5_13 : decode prog_29_method_3_code 13 = .ok (.aload_n 0, 1) := by decide +kernel
theorem d5_14 : decode prog_29_method_3_code 14 = .ok (.getfield 7, 3) := by decide +kernel
theorem d5_17 : decode prog_29_method_3_code 17 = .ok (.ldiv, 1) := by decide +kernel
theorem d5_18 : decode prog_29_method_3_code 18 = .ok (.lcmp, 1) := by decide +kernel
theorem d5_19 : decode prog_29_method_3_code 19 = .ok (.ifCond .le 7, 3) := by decide +kernel
theorem d5_22 : decode prog_29_method_3_code 22 = .ok (.lload_n 1, 1) := by decide +kernel
theorem d5_23 : decode prog_29_method_3_code 23 = .ok (.goto 12, 3) := by decide +kernel
theorem d5_26 : decode prog_29_method_3_code 26 = .ok (.aload_n 0, 1) := by decide +kernel
theorem d5_27 : decode prog_29_method_3_code 27 = .ok (.getfield 16, 3) := by decide +kernel
theorem d5_30 : decode prog_29_method_3_code 30 = .ok (.aload_n 0, 1) := by decide +kernel
theorem d5_31 : decode prog_29_method_3_code 31 = .ok (.getfield 7, 3) := by decide +kernel
theorem d5_34 : decode prog_29_method_3_code 34 = .ok (.lmul, 1) := by decide +kernel
theorem d5_35 : decode prog_29_method_3_code 35 = .ok (.ladd, 1) := by decide +kernel
theorem d5_36 : decode prog_29_method_3_code 36 = .ok (.lreturn, 1) := by decide +kernel
theorem pn_5 : plainName "com/example/headwater/headwater/connectors/ListingPace" = true := by first | (simp [plainName, overriddenIn]; done) | decide +kernel
theorem ef_5 (m : MethodId) (x0 : Addr) : entryFrame m #[(.ref x0)] 3 = mkF m 0 #[.val (.ref x0), .unset, .unset] [] := by first | (simp [entryFrame, mkF, argsToLocals, Value.category]; done) | rfl
def Q5 (Z : State) (ob : Addr) (fc : Int64) (bg : Int64) (tk : Int64) (h0 : Heap) (n0 : Nat) (v : Option Value) (h : Heap) (L : List Loc) : Prop := v = some (.long (bg + (own_D fc tk))) ∧ Fr n0 L ∧ h = h0
set_option maxRecDepth 65536 in
set_option maxHeartbeats 40000000 in
theorem rm5 (l : Launch) (Z : State) (a0 : Array Value) (hw : ∀ d ∈ tables_1, d.before a0 Z = true) (ws : List Jvm.Cond) (ob : Addr) (fc : Int64) (bg : Int64) (tk : Int64) (h0 : Heap) (n0 : Nat) (Z0 : n0 ≤ h0.size) (E1 : Exa Z h0 ob "com/example/headwater/headwater/connectors/ListingPace") (F1 : Fld Z h0 ob "com/example/headwater/headwater/connectors/ListingPace" "factor" "J" (.long fc)) (F2 : Fld Z h0 ob "com/example/headwater/headwater/connectors/ListingPace" "began" "J" (.long bg)) (F3 : Fld Z h0 ob "com/example/headwater/headwater/connectors/ListingPace" "took" "J" (.long tk)) (NZ : fc ≠ 0) :
    MetFree l (⟨"com/example/headwater/headwater/connectors/ListingPace", "allowedFrom", "()J"⟩ : MethodName) (head1 (Jvm.Cond.code (⟨"com/example/headwater/headwater/connectors/ListingPace", "allowedFrom", "()J"⟩ : MethodName) prog_29_method_3_code 3 (some .long) :: ws) ({ frames := 0, cells := 0, slots := 0, locals := 0 } : Room)) (fun a U => a = #[(.ref ob)] ∧ Z.Warmed39 U.vm ∧ U.heap = h0) (fun _ _ _ _ _ => True) (fun _ U o U' => ∃ v L, o = .returned v ∧ Q5 Z ob fc bg tk h0 n0 v U'.heap L ∧ FrameEnd U o U' L ({ frames := 0, cells := 0, slots := 0, locals := 0 } : Room).cells ({ frames := 0, cells := 0, slots := 0, locals := 0 } : Room).slots) := by
  refine MetFree.of_bodySF (plainFor_of_name pn_5) hisR ?_
  intro p e s m args below meth c s₁ Bd hml0 hP hK
  obtain ⟨rfl, hZ, hh⟩ := hP
  have hx := Bd.exec
  have hby := Bd.bytes
  have hlk : meth.locks = false := BodyLoose.notSynchronized Bd
  have hml : c.maxLocals = 3 := hml0
  have hown : s.vm.findClass "com/example/headwater/headwater/connectors/ListingPace" = some m.cls := findClass_of_methodNamed Bd.named
  have hnm := (name_of_methodNamed Bd.named Bd.method).1
  have X0 : Stand p l e ({ frames := 0, cells := 0, slots := 0, locals := 0 } : Room) s m #[(.ref ob)] below meth c s₁ [] 0 0 := Stand.of_body Bd
  have e0 : s₁.heap = h0 := by rw [← hh, Bd.state]; rfl
  have N0 := Fr.nil n0
  show own_Go p e below (own_G s (Q5 Z ob fc bg tk h0 n0) ({ frames := 0, cells := 0, slots := 0, locals := 0 } : Room).cells ({ frames := 0, cells := 0, slots := 0, locals := 0 } : Room).slots) (s₁.setTop (entryFrame m #[(.ref ob)] 3))
  refine own_st (fun tgt k => castTop (ef_5 m ob) k) ?_
  show own_Go p e below _ (s₁.setTop (mkF m 0 #[.val (.ref ob), .unset, .unset] []))
  refine own_st (V := s₁.setTop (mkF m 5 #[.val (.ref ob), .val (.long (2305843009213693951 : Int64)), .second] [(.ref ob)])) (fun tgt k => ?_) ?_
  · show Steps p.tables e below (s₁.setTop (mkF m 0 #[.val (.ref ob), .unset, .unset] [])) tgt
    refine X0.ldc2Long hx hown (mvT hZ (hw _ (List.mem_of_getElem? (i := 32) rfl))) (g := (mkF m 0 #[.val (.ref ob), .unset, .unset] [])) rfl (hb hby d5_0) _ ?_
    show Steps p.tables e below (s₁.setTop (mkF m 3 #[.val (.ref ob), .unset, .unset] [(.long (2305843009213693951 : Int64))])) tgt
    refine XS.lstoreN X0.here hx rfl (hb hby d5_3) rfl (l' := #[.val (.ref ob), .val (.long (2305843009213693951 : Int64)), .second]) rfl ?_
    show Steps p.tables e below (s₁.setTop (mkF m 4 #[.val (.ref ob), .val (.long (2305843009213693951 : Int64)), .second] [])) tgt
    refine XS.aloadN X0.here hx rfl (hb hby d5_4) rfl rfl ?_
    exact k
  obtain ⟨T1, X1, e1, st1⟩ := getF X0 hx hZ hown (host := "") (Or.inl (hw _ (List.mem_of_getElem? (i := 13) rfl))) Via.refl e0 F2 (g := (mkF m 5 #[.val (.ref ob), .val (.long (2305843009213693951 : Int64)), .second] [(.ref ob)])) rfl rfl (hb hby d5_5)
  refine own_st st1 ?_
  show own_Go p e below _ (T1.setTop (mkF m 8 #[.val (.ref ob), .val (.long (2305843009213693951 : Int64)), .second] [(.long bg)]))
  refine own_st (V := T1.setTop (mkF m 9 #[.val (.ref ob), .val (.long (2305843009213693951 : Int64)), .second] [(.ref ob), (.long bg)])) (fun tgt k => ?_) ?_
  · show Steps p.tables e below (T1.setTop (mkF m 8 #[.val (.ref ob), .val (.long (2305843009213693951 : Int64)), .second] [(.long bg)])) tgt
    refine XS.aloadN X1.here hx rfl (hb hby d5_8) rfl rfl ?_
    exact k
  obtain ⟨T2, X2, e2, st2⟩ := getF X1 hx hZ hown (host := "") (Or.inl (hw _ (List.mem_of_getElem? (i := 20) rfl))) Via.refl e1 F3 (g := (mkF m 9 #[.val (.ref ob), .val (.long (2305843009213693951 : Int64)), .second] [(.ref ob), (.long bg)])) rfl rfl (hb hby d5_9)
  refine own_st st2 ?_
  show own_Go p e below _ (T2.setTop (mkF m 12 #[.val (.ref ob), .val (.long (2305843009213693951 : Int64)), .second] [(.long tk), (.long bg)]))
  refine own_st (V := T2.setTop (mkF m 14 #[.val (.ref ob), .val (.long (2305843009213693951 : Int64)), .second] [(.ref ob), (.long (2305843009213693951 : Int64)), (.long tk), (.long bg)])) (fun tgt k => ?_) ?_
  · show Steps p.tables e below (T2.setTop (mkF m 12 #[.val (.ref ob), .val (.long (2305843009213693951 : Int64)), .second] [(.long tk), (.long bg)])) tgt
    refine XS.lloadN X2.here hx rfl (hb hby d5_12) rfl ?_
    show Steps p.tables e below (T2.setTop (mkF m 13 #[.val (.ref ob), .val (.long (2305843009213693951 : Int64)), .second] [(.long (2305843009213693951 : Int64)), (.long tk), (.long bg)])) tgt
    refine XS.aloadN X2.here hx rfl (hb hby d5_13) rfl rfl ?_
    exact k
  obtain ⟨T3, X3, e3, st3⟩ := getF X2 hx hZ hown (host := "") (Or.inl (hw _ (List.mem_of_getElem? (i := 11) rfl))) Via.refl e2 F1 (g := (mkF m 14 #[.val (.ref ob), .val (.long (2305843009213693951 : Int64)), .second] [(.ref ob), (.long (2305843009213693951 : Int64)), (.long tk), (.long bg)])) rfl rfl (hb hby d5_14)
  refine own_st st3 ?_
  show own_Go p e below _ (T3.setTop (mkF m 17 #[.val (.ref ob), .val (.long (2305843009213693951 : Int64)), .second] [(.long fc), (.long (2305843009213693951 : Int64)), (.long tk), (.long bg)]))
  refine own_st (V := T3.setTop (mkF m 19 #[.val (.ref ob), .val (.long (2305843009213693951 : Int64)), .second] [(.int (lcmpW tk ((2305843009213693951 : Int64) / fc))), (.long bg)])) (fun tgt k => ?_) ?_
  · show Steps p.tables e below (T3.setTop (mkF m 17 #[.val (.ref ob), .val (.long (2305843009213693951 : Int64)), .second] [(.long fc), (.long (2305843009213693951 : Int64)), (.long tk), (.long bg)])) tgt
    refine XS.ldiv X3.here hx rfl (hb hby d5_17) rfl NZ ?_
    show Steps p.tables e below (T3.setTop (mkF m 18 #[.val (.ref ob), .val (.long (2305843009213693951 : Int64)), .second] [(.long ((2305843009213693951 : Int64) / fc)), (.long tk), (.long bg)])) tgt
    refine XS.lcmp X3.here hx rfl (hb hby d5_18) rfl ?_
    exact k
  by_cases hc19 : ((2305843009213693951 : Int64) / fc) < tk
  · skip
    refine own_st (V := T3.setTop (mkF m 36 #[.val (.ref ob), .val (.long (2305843009213693951 : Int64)), .second] [(.long (bg + (2305843009213693951 : Int64)))])) (fun tgt k => ?_) ?_
    · show Steps p.tables e below (T3.setTop (mkF m 19 #[.val (.ref ob), .val (.long (2305843009213693951 : Int64)), .second] [(.int (lcmpW tk ((2305843009213693951 : Int64) / fc))), (.long bg)])) tgt
      refine XS.ifNo X3.here hx rfl (hb hby d5_19) rfl ((if0 _ _).trans (tlt ((lw_gt tk ((2305843009213693951 : Int64) / fc)).mpr hc19)).2.2.2) ?_
      show Steps p.tables e below (T3.setTop (mkF m 22 #[.val (.ref ob), .val (.long (2305843009213693951 : Int64)), .second] [(.long bg)])) tgt
      refine XS.lloadN X3.here hx rfl (hb hby d5_22) rfl ?_
      show Steps p.tables e below (T3.setTop (mkF m 23 #[.val (.ref ob), .val (.long (2305843009213693951 : Int64)), .second] [(.long (2305843009213693951 : Int64)), (.long bg)])) tgt
      refine XS.goto X3.here hx rfl (pc0 := 23) (pc' := 35) rfl (hb hby d5_23) (by decide) (by decide) ?_
      show Steps p.tables e below (T3.setTop (mkF m 35 #[.val (.ref ob), .val (.long (2305843009213693951 : Int64)), .second] [(.long (2305843009213693951 : Int64)), (.long bg)])) tgt
      refine XS.ladd X3.here hx rfl (hb hby d5_35) rfl ?_
      exact k
    refine own_retJ X3 hx hlk Bd.returns (hb hby d5_36) ?_ (by decide) (by decide)
    show Q5 Z ob fc bg tk h0 n0 (some (.long (bg + (2305843009213693951 : Int64)))) T3.heap _
    rw [e3]
    refine ⟨?_, N0, rfl⟩
    exact congrArg (fun q => some (Value.long q)) (by unfold own_D; rw [if_pos hc19])
  · skip
    refine own_st (V := T3.setTop (mkF m 27 #[.val (.ref ob), .val (.long (2305843009213693951 : Int64)), .second] [(.ref ob), (.long bg)])) (fun tgt k => ?_) ?_
    · show Steps p.tables e below (T3.setTop (mkF m 19 #[.val (.ref ob), .val (.long (2305843009213693951 : Int64)), .second] [(.int (lcmpW tk ((2305843009213693951 : Int64) / fc))), (.long bg)])) tgt
      refine XS.ifYes X3.here hx rfl (pc0 := 19) (pc' := 26) rfl (hb hby d5_19) rfl ((if0 _ _).trans (flt (fun q => hc19 ((lw_gt tk ((2305843009213693951 : Int64) / fc)).mp q))).2.2.2) (by decide) (by decide) ?_
      show Steps p.tables e below (T3.setTop (mkF m 26 #[.val (.ref ob), .val (.long (2305843009213693951 : Int64)), .second] [(.long bg)])) tgt
      refine XS.aloadN X3.here hx rfl (hb hby d5_26) rfl rfl ?_
      exact k
    obtain ⟨T5, X5, e5, st5⟩ := getF X3 hx hZ hown (host := "") (Or.inl (hw _ (List.mem_of_getElem? (i := 20) rfl))) Via.refl e3 F3 (g := (mkF m 27 #[.val (.ref ob), .val (.long (2305843009213693951 : Int64)), .second] [(.ref ob), (.long bg)])) rfl rfl (hb hby d5_27)
    refine own_st st5 ?_
    show own_Go p e below _ (T5.setTop (mkF m 30 #[.val (.ref ob), .val (.long (2305843009213693951 : Int64)), .second] [(.long tk), (.long bg)]))
    refine own_st (V := T5.setTop (mkF m 31 #[.val (.ref ob), .val (.long (2305843009213693951 : Int64)), .second] [(.ref ob), (.long tk), (.long bg)])) (fun tgt k => ?_) ?_
    · show Steps p.tables e below (T5.setTop (mkF m 30 #[.val (.ref ob), .val (.long (2305843009213693951 : Int64)), .second] [(.long tk), (.long bg)])) tgt
      refine XS.aloadN X5.here hx rfl (hb hby d5_30) rfl rfl ?_
      exact k
    obtain ⟨T6, X6, e6, st6⟩ := getF X5 hx hZ hown (host := "") (Or.inl (hw _ (List.mem_of_getElem? (i := 11) rfl))) Via.refl e5 F1 (g := (mkF m 31 #[.val (.ref ob), .val (.long (2305843009213693951 : Int64)), .second] [(.ref ob), (.long tk), (.long bg)])) rfl rfl (hb hby d5_31)
    refine own_st st6 ?_
    show own_Go p e below _ (T6.setTop (mkF m 34 #[.val (.ref ob), .val (.long (2305843009213693951 : Int64)), .second] [(.long fc), (.long tk), (.long bg)]))
    refine own_st (V := T6.setTop (mkF m 36 #[.val (.ref ob), .val (.long (2305843009213693951 : Int64)), .second] [(.long (bg + (tk * fc)))])) (fun tgt k => ?_) ?_
    · show Steps p.tables e below (T6.setTop (mkF m 34 #[.val (.ref ob), .val (.long (2305843009213693951 : Int64)), .second] [(.long fc), (.long tk), (.long bg)])) tgt
      refine XS.lmul X6.here hx rfl (hb hby d5_34) rfl ?_
      show Steps p.tables e below (T6.setTop (mkF m 35 #[.val (.ref ob), .val (.long (2305843009213693951 : Int64)), .second] [(.long (tk * fc)), (.long bg)])) tgt
      refine XS.ladd X6.here hx rfl (hb hby d5_35) rfl ?_
      exact k
    refine own_retJ X6 hx hlk Bd.returns (hb hby d5_36) ?_ (by decide) (by decide)
    show Q5 Z ob fc bg tk h0 n0 (some (.long (bg + (tk * fc)))) T6.heap _
    rw [e6]
    refine ⟨?_, N0, rfl⟩
    exact congrArg (fun q => some (Value.long q)) (by unfold own_D; rw [if_neg hc19])
theorem pn_0 : plainName "com/example/headwater/headwater/connectors/ListingPaceAllowedFromPinLaw" = true := by first | (simp [plainName, overriddenIn]; done) | decide +kernel
theorem pd_0_0 : parseMethodDescriptor "(JJ)V" = some ⟨[.long, .long], none⟩ := by decide +kernel
theorem pd_0_1 : parseMethodDescriptor "(J)V" = some ⟨[.long], none⟩ := by decide +kernel
theorem pd_0_2 : parseMethodDescriptor "()J" = some ⟨[], some .long⟩ := by decide +kernel
theorem ef_0 (m : MethodId) (x0 : Int64) (x1 : Int64) (x2 : Int64) (x3 : Int64) (x4 : Int32) : entryFrame m #[(.long x0), (.long x1), (.long x2), (.long x3), (.int x4)] maxLocals = mkF m 0 #[.val (.long x0), .second, .val (.long x1), .second, .val (.long x2), .second, .val (.long x3), .second, .val (.int x4), .unset, .unset, .unset, .unset, .unset, .unset, .unset, .unset, .unset, .unset, .unset, .unset] [] := by first | (simp [entryFrame, mkF, argsToLocals, Value.category, maxLocals]; done) | rfl
def Q0 (Z : State) (fs : Int64) (ts : Int64) (b0 : Int64) (b1 : Int64) (fg : Int32) (h0 : Heap) (n0 : Nat) (v : Option Value) (h : Heap) (L : List Loc) : Prop := v = some (.int (1 : Int32)) ∧ Fr n0 L
set_option maxRecDepth 65536 in
set_option maxHeartbeats 40000000 in
theorem rm0 (l : Launch) (Z : State) (a0 : Array Value) (hw : ∀ d ∈ tables_1, d.before a0 Z = true) (ws : List Jvm.Cond) (fs : Int64) (ts : Int64) (b0 : Int64) (b1 : Int64) (fg : Int32) (h0 : Heap) (n0 : Nat) (Z0 : n0 ≤ h0.size) :
    MetFree l x (head1 (Jvm.Cond.code x code maxLocals ret :: ws) room_1) (fun a U => a = #[(.long fs), (.long ts), (.long b0), (.long b1), (.int fg)] ∧ Z.Warmed39 U.vm ∧ U.heap = h0) (fun _ _ _ _ _ => True) (fun _ U o U' => ∃ v L, o = .returned v ∧ Q0 Z fs ts b0 b1 fg h0 n0 v U'.heap L ∧ FrameEnd U o U' L 16 128) := by
  refine MetFree.of_bodySF (plainFor_of_name pn_0) hisR ?_
  intro p e s m args below meth c s₁ Bd hml0 hP hK
  obtain ⟨rfl, hZ, hh⟩ := hP
  have hx := Bd.exec
  have hby := Bd.bytes
  have hlk : meth.locks = false := BodyLoose.notSynchronized Bd
  have hml : c.maxLocals = 21 := hml0
  have hown : s.vm.findClass "com/example/headwater/headwater/connectors/ListingPaceAllowedFromPinLaw" = some m.cls := findClass_of_methodNamed Bd.named
  have hnm := (name_of_methodNamed Bd.named Bd.method).1
  have X0 : Stand p l e room_1 s m #[(.long fs), (.long ts), (.long b0), (.long b1), (.int fg)] below meth c s₁ [] 0 0 := Stand.of_body Bd
  have e0 : s₁.heap = h0 := by rw [← hh, Bd.state]; rfl
  have N0 := Fr.nil n0
  show own_Go p e below (own_G s (Q0 Z fs ts b0 b1 fg h0 n0) 16 128) (s₁.setTop (entryFrame m #[(.long fs), (.long ts), (.long b0), (.long b1), (.int fg)] maxLocals))
  refine own_st (fun tgt k => castTop (ef_0 m fs ts b0 b1 fg) k) ?_
  show own_Go p e below _ (s₁.setTop (mkF m 0 #[.val (.long fs), .second, .val (.long ts), .second, .val (.long b0), .second, .val (.long b1), .second, .val (.int fg), .unset, .unset, .unset, .unset, .unset, .unset, .unset, .unset, .unset, .unset, .unset, .unset] []))
  refine own_st (V := s₁.setTop (mkF m 16 #[.val (.long fs), .second, .val (.long ts), .second, .val (.long b0), .second, .val (.long b1), .second, .val (.int fg), .val (.long (2305843009213693951 : Int64)), .second, .val (.long (fs &&& (9223372036854775807 : Int64))), .second, .unset, .unset, .unset, .unset, .unset, .unset, .unset, .unset] [(.int (lcmpW (fs &&& (9223372036854775807 : Int64)) (0 : Int64)))])) (fun tgt k => ?_) ?_
  · show Steps p.tables e below (s₁.setTop (mkF m 0 #[.val (.long fs), .second, .val (.long ts), .second, .val (.long b0), .second, .val (.long b1), .second, .val (.int fg), .unset, .unset, .unset, .unset, .unset, .unset, .unset, .unset, .unset, .unset, .unset, .unset] [])) tgt
    refine X0.ldc2Long hx hown (mvT hZ (hw _ (List.mem_of_getElem? (i := 0) rfl))) (g := (mkF m 0 #[.val (.long fs), .second, .val (.long ts), .second, .val (.long b0), .second, .val (.long b1), .second, .val (.int fg), .unset, .unset, .unset, .unset, .unset, .unset, .unset, .unset, .unset, .unset, .unset, .unset] [])) rfl (hb hby at_0) _ ?_
    show Steps p.tables e below (s₁.setTop (mkF m 3 #[.val (.long fs), .second, .val (.long ts), .second, .val (.long b0), .second, .val (.long b1), .second, .val (.int fg), .unset, .unset, .unset, .unset, .unset, .unset, .unset, .unset, .unset, .unset, .unset, .unset] [(.long (2305843009213693951 : Int64))])) tgt
    refine XS.lstore X0.here hx rfl (hb hby at_3) rfl (l' := #[.val (.long fs), .second, .val (.long ts), .second, .val (.long b0), .second, .val (.long b1), .second, .val (.int fg), .val (.long (2305843009213693951 : Int64)), .second, .unset, .unset, .unset, .unset, .unset, .unset, .unset, .unset, .unset, .unset]) rfl ?_
    show Steps p.tables e below (s₁.setTop (mkF m 5 #[.val (.long fs), .second, .val (.long ts), .second, .val (.long b0), .second, .val (.long b1), .second, .val (.int fg), .val (.long (2305843009213693951 : Int64)), .second, .unset, .unset, .unset, .unset, .unset, .unset, .unset, .unset, .unset, .unset] [])) tgt
    refine XS.lloadN X0.here hx rfl (hb hby at_5) rfl ?_
    show Steps p.tables e below (s₁.setTop (mkF m 6 #[.val (.long fs), .second, .val (.long ts), .second, .val (.long b0), .second, .val (.long b1), .second, .val (.int fg), .val (.long (2305843009213693951 : Int64)), .second, .unset, .unset, .unset, .unset, .unset, .unset, .unset, .unset, .unset, .unset] [(.long fs)])) tgt
    refine X0.ldc2Long hx hown (mvT hZ (hw _ (List.mem_of_getElem? (i := 1) rfl))) (g := (mkF m 6 #[.val (.long fs), .second, .val (.long ts), .second, .val (.long b0), .second, .val (.long b1), .second, .val (.int fg), .val (.long (2305843009213693951 : Int64)), .second, .unset, .unset, .unset, .unset, .unset, .unset, .unset, .unset, .unset, .unset] [(.long fs)])) rfl (hb hby at_6) _ ?_
    show Steps p.tables e below (s₁.setTop (mkF m 9 #[.val (.long fs), .second, .val (.long ts), .second, .val (.long b0), .second, .val (.long b1), .second, .val (.int fg), .val (.long (2305843009213693951 : Int64)), .second, .unset, .unset, .unset, .unset, .unset, .unset, .unset, .unset, .unset, .unset] [(.long (9223372036854775807 : Int64)), (.long fs)])) tgt
    refine XS.land X0.here hx rfl (hb hby at_9) rfl ?_
    show Steps p.tables e below (s₁.setTop (mkF m 10 #[.val (.long fs), .second, .val (.long ts), .second, .val (.long b0), .second, .val (.long b1), .second, .val (.int fg), .val (.long (2305843009213693951 : Int64)), .second, .unset, .unset, .unset, .unset, .unset, .unset, .unset, .unset, .unset, .unset] [(.long (fs &&& (9223372036854775807 : Int64)))])) tgt
    refine XS.lstore X0.here hx rfl (hb hby at_10) rfl (l' := #[.val (.long fs), .second, .val (.long ts), .second, .val (.long b0), .second, .val (.long b1), .second, .val (.int fg), .val (.long (2305843009213693951 : Int64)), .second, .val (.long (fs &&& (9223372036854775807 : Int64))), .second, .unset, .unset, .unset, .unset, .unset, .unset, .unset, .unset]) rfl ?_
    show Steps p.tables e below (s₁.setTop (mkF m 12 #[.val (.long fs), .second, .val (.long ts), .second, .val (.long b0), .second, .val (.long b1), .second, .val (.int fg), .val (.long (2305843009213693951 : Int64)), .second, .val (.long (fs &&& (9223372036854775807 : Int64))), .second, .unset, .unset, .unset, .unset, .unset, .unset, .unset, .unset] [])) tgt
    refine XS.lload X0.here hx rfl (hb hby at_12) rfl ?_
    show Steps p.tables e below (s₁.setTop (mkF m 14 #[.val (.long fs), .second, .val (.long ts), .second, .val (.long b0), .second, .val (.long b1), .second, .val (.int fg), .val (.long (2305843009213693951 : Int64)), .second, .val (.long (fs &&& (9223372036854775807 : Int64))), .second, .unset, .unset, .unset, .unset, .unset, .unset, .unset, .unset] [(.long (fs &&& (9223372036854775807 : Int64)))])) tgt
    refine XS.lconst X0.here hx rfl (hb hby at_14) ?_
    show Steps p.tables e below (s₁.setTop (mkF m 15 #[.val (.long fs), .second, .val (.long ts), .second, .val (.long b0), .second, .val (.long b1), .second, .val (.int fg), .val (.long (2305843009213693951 : Int64)), .second, .val (.long (fs &&& (9223372036854775807 : Int64))), .second, .unset, .unset, .unset, .unset, .unset, .unset, .unset, .unset] [(.long (0 : Int64)), (.long (fs &&& (9223372036854775807 : Int64)))])) tgt
    refine XS.lcmp X0.here hx rfl (hb hby at_15) rfl ?_
    exact k
  obtain ⟨fv, hfv⟩ : ∃ z : Int64, z = (if (fs &&& (9223372036854775807 : Int64)) = (0 : Int64) then (1 : Int64) else (fs &&& (9223372036854775807 : Int64))) := ⟨_, rfl⟩
  refine own_st (V := s₁.setTop (mkF m 22 #[.val (.long fs), .second, .val (.long ts), .second, .val (.long b0), .second, .val (.long b1), .second, .val (.int fg), .val (.long (2305843009213693951 : Int64)), .second, .val (.long fv), .second, .unset, .unset, .unset, .unset, .unset, .unset, .unset, .unset] [])) (fun tgt k => ?_) ?_
  · skip
    by_cases hc16_2 : (fs &&& (9223372036854775807 : Int64)) = (0 : Int64)
    · skip
      rw [if_pos hc16_2] at hfv
      show Steps p.tables e below (s₁.setTop (mkF m 16 #[.val (.long fs), .second, .val (.long ts), .second, .val (.long b0), .second, .val (.long b1), .second, .val (.int fg), .val (.long (2305843009213693951 : Int64)), .second, .val (.long (fs &&& (9223372036854775807 : Int64))), .second, .unset, .unset, .unset, .unset, .unset, .unset, .unset, .unset] [(.int (lcmpW (fs &&& (9223372036854775807 : Int64)) (0 : Int64)))])) tgt
      refine XS.ifNo X0.here hx rfl (hb hby at_16) rfl ((if0 _ _).trans (teq ((lw_eq (fs &&& (9223372036854775807 : Int64)) (0 : Int64)).mpr hc16_2)).2) ?_
      show Steps p.tables e below (s₁.setTop (mkF m 19 #[.val (.long fs), .second, .val (.long ts), .second, .val (.long b0), .second, .val (.long b1), .second, .val (.int fg), .val (.long (2305843009213693951 : Int64)), .second, .val (.long (fs &&& (9223372036854775807 : Int64))), .second, .unset, .unset, .unset, .unset, .unset, .unset, .unset, .unset] [])) tgt
      refine XS.lconst X0.here hx rfl (hb hby at_19) ?_
      show Steps p.tables e below (s₁.setTop (mkF m 20 #[.val (.long fs), .second, .val (.long ts), .second, .val (.long b0), .second, .val (.long b1), .second, .val (.int fg), .val (.long (2305843009213693951 : Int64)), .second, .val (.long (fs &&& (9223372036854775807 : Int64))), .second, .unset, .unset, .unset, .unset, .unset, .unset, .unset, .unset] [(.long (1 : Int64))])) tgt
      refine XS.lstore X0.here hx rfl (hb hby at_20) rfl (l' := #[.val (.long fs), .second, .val (.long ts), .second, .val (.long b0), .second, .val (.long b1), .second, .val (.int fg), .val (.long (2305843009213693951 : Int64)), .second, .val (.long (1 : Int64)), .second, .unset, .unset, .unset, .unset, .unset, .unset, .unset, .unset]) rfl ?_
      rw [hfv] at k
      exact k
    · skip
      rw [if_neg hc16_2] at hfv
      show Steps p.tables e below (s₁.setTop (mkF m 16 #[.val (.long fs), .second, .val (.long ts), .second, .val (.long b0), .second, .val (.long b1), .second, .val (.int fg), .val (.long (2305843009213693951 : Int64)), .second, .val (.long (fs &&& (9223372036854775807 : Int64))), .second, .unset, .unset, .unset, .unset, .unset, .unset, .unset, .unset] [(.int (lcmpW (fs &&& (9223372036854775807 : Int64)) (0 : Int64)))])) tgt
      refine XS.ifYes X0.here hx rfl (pc0 := 16) (pc' := 22) rfl (hb hby at_16) rfl ((if0 _ _).trans (feq (fun q => hc16_2 ((lw_eq (fs &&& (9223372036854775807 : Int64)) (0 : Int64)).mp q))).2) (by decide) (by decide) ?_
      rw [hfv] at k
      exact k
  have hf1 : 1 ≤ fv.toInt := by
    have q := own_pos64 fs
    rw [hfv]
    split
    · decide
    · rename_i z
      have : (fs &&& 9223372036854775807).toInt ≠ 0 := fun e => z (Int64.toInt_inj.mp e)
      omega
  refine own_st (V := s₁.setTop (mkF m 29 #[.val (.long fs), .second, .val (.long ts), .second, .val (.long b0), .second, .val (.long b1), .second, .val (.int fg), .val (.long (2305843009213693951 : Int64)), .second, .val (.long fv), .second, .val (.long (ts &&& (9223372036854775807 : Int64))), .second, .unset, .unset, .unset, .unset, .unset, .unset] [])) (fun tgt k => ?_) ?_
  · show Steps p.tables e below (s₁.setTop (mkF m 22 #[.val (.long fs), .second, .val (.long ts), .second, .val (.long b0), .second, .val (.long b1), .second, .val (.int fg), .val (.long (2305843009213693951 : Int64)), .second, .val (.long fv), .second, .unset, .unset, .unset, .unset, .unset, .unset, .unset, .unset] [])) tgt
    refine XS.lloadN X0.here hx rfl (hb hby at_22) rfl ?_
    show Steps p.tables e below (s₁.setTop (mkF m 23 #[.val (.long fs), .second, .val (.long ts), .second, .val (.long b0), .second, .val (.long b1), .second, .val (.int fg), .val (.long (2305843009213693951 : Int64)), .second, .val (.long fv), .second, .unset, .unset, .unset, .unset, .unset, .unset, .unset, .unset] [(.long ts)])) tgt
    refine X0.ldc2Long hx hown (mvT hZ (hw _ (List.mem_of_getElem? (i := 1) rfl))) (g := (mkF m 23 #[.val (.long fs), .second, .val (.long ts), .second, .val (.long b0), .second, .val (.long b1), .second, .val (.int fg), .val (.long (2305843009213693951 : Int64)), .second, .val (.long fv), .second, .unset, .unset, .unset, .unset, .unset, .unset, .unset, .unset] [(.long ts)])) rfl (hb hby at_23) _ ?_
    show Steps p.tables e below (s₁.setTop (mkF m 26 #[.val (.long fs), .second, .val (.long ts), .second, .val (.long b0), .second, .val (.long b1), .second, .val (.int fg), .val (.long (2305843009213693951 : Int64)), .second, .val (.long fv), .second, .unset, .unset, .unset, .unset, .unset, .unset, .unset, .unset] [(.long (9223372036854775807 : Int64)), (.long ts)])) tgt
    refine XS.land X0.here hx rfl (hb hby at_26) rfl ?_
    show Steps p.tables e below (s₁.setTop (mkF m 27 #[.val (.long fs), .second, .val (.long ts), .second, .val (.long b0), .second, .val (.long b1), .second, .val (.int fg), .val (.long (2305843009213693951 : Int64)), .second, .val (.long fv), .second, .unset, .unset, .unset, .unset, .unset, .unset, .unset, .unset] [(.long (ts &&& (9223372036854775807 : Int64)))])) tgt
    refine XS.lstore X0.here hx rfl (hb hby at_27) rfl (l' := #[.val (.long fs), .second, .val (.long ts), .second, .val (.long b0), .second, .val (.long b1), .second, .val (.int fg), .val (.long (2305843009213693951 : Int64)), .second, .val (.long fv), .second, .val (.long (ts &&& (9223372036854775807 : Int64))), .second, .unset, .unset, .unset, .unset, .unset, .unset]) rfl ?_
    exact k
  obtain ⟨xv, hxv⟩ : ∃ z : Int64, z = (ts &&& (9223372036854775807 : Int64)) := ⟨_, rfl⟩
  rw [← hxv]
  have hx0 : 0 ≤ xv.toInt := by rw [hxv]; exact own_pos64 ts
  obtain ⟨T1, h1, X1, e1, E1, A1, D1, -, st1⟩ := newO X0 hx hZ hown (hw _ (List.mem_of_getElem? (i := 2) rfl)) (hw _ (List.mem_of_getElem? (i := 3) rfl)) (hw _ (List.mem_of_getElem? (i := 4) rfl)) e0 (g := (mkF m 29 #[.val (.long fs), .second, .val (.long ts), .second, .val (.long b0), .second, .val (.long b1), .second, .val (.int fg), .val (.long (2305843009213693951 : Int64)), .second, .val (.long fv), .second, .val (.long xv), .second, .unset, .unset, .unset, .unset, .unset, .unset] [])) rfl (hb hby at_29) (by decide) (by decide)
  obtain ⟨pv, g1⟩ : ∃ z, z = h0.size := ⟨_, rfl⟩
  rw [← g1] at A1 D1 st1
  have g_pv : n0 ≤ pv := Nat.le_trans Z0 (Nat.le_of_eq g1.symm)
  have Zs1 : n0 ≤ h1.size := Nat.le_trans Z0 E1.1
  have F_pv_factor_1 : Fld Z h1 pv "com/example/headwater/headwater/connectors/ListingPace" "factor" "J" (.long (0 : Int64)) := D1 (Or.inr (hw _ (List.mem_of_getElem? (i := 12) rfl))) (ty := .long) (by decide)
  have F_pv_began_1 : Fld Z h1 pv "com/example/headwater/headwater/connectors/ListingPace" "began" "J" (.long (0 : Int64)) := D1 (Or.inl (hw _ (List.mem_of_getElem? (i := 14) rfl))) (ty := .long) (by decide)
  have F_pv_took_1 : Fld Z h1 pv "com/example/headwater/headwater/connectors/ListingPace" "took" "J" (.long (0 : Int64)) := D1 (Or.inl (hw _ (List.mem_of_getElem? (i := 21) rfl))) (ty := .long) (by decide)
  refine own_st st1 ?_
  show own_Go p e below _ (T1.setTop (mkF m 32 #[.val (.long fs), .second, .val (.long ts), .second, .val (.long b0), .second, .val (.long b1), .second, .val (.int fg), .val (.long (2305843009213693951 : Int64)), .second, .val (.long fv), .second, .val (.long xv), .second, .unset, .unset, .unset, .unset, .unset, .unset] [(.ref pv)]))
  refine own_st (V := T1.setTop (mkF m 37 #[.val (.long fs), .second, .val (.long ts), .second, .val (.long b0), .second, .val (.long b1), .second, .val (.int fg), .val (.long (2305843009213693951 : Int64)), .second, .val (.long fv), .second, .val (.long xv), .second, .unset, .unset, .unset, .unset, .unset, .unset] [(.long b0), (.long fv), (.ref pv), (.ref pv)])) (fun tgt k => ?_) ?_
  · show Steps p.tables e below (T1.setTop (mkF m 32 #[.val (.long fs), .second, .val (.long ts), .second, .val (.long b0), .second, .val (.long b1), .second, .val (.int fg), .val (.long (2305843009213693951 : Int64)), .second, .val (.long fv), .second, .val (.long xv), .second, .unset, .unset, .unset, .unset, .unset, .unset] [(.ref pv)])) tgt
    refine XS.dup X1.here hx rfl (hb hby at_32) rfl rfl ?_
    show Steps p.tables e below (T1.setTop (mkF m 33 #[.val (.long fs), .second, .val (.long ts), .second, .val (.long b0), .second, .val (.long b1), .second, .val (.int fg), .val (.long (2305843009213693951 : Int64)), .second, .val (.long fv), .second, .val (.long xv), .second, .unset, .unset, .unset, .unset, .unset, .unset] [(.ref pv), (.ref pv)])) tgt
    refine XS.lload X1.here hx rfl (hb hby at_33) rfl ?_
    show Steps p.tables e below (T1.setTop (mkF m 35 #[.val (.long fs), .second, .val (.long ts), .second, .val (.long b0), .second, .val (.long b1), .second, .val (.int fg), .val (.long (2305843009213693951 : Int64)), .second, .val (.long fv), .second, .val (.long xv), .second, .unset, .unset, .unset, .unset, .unset, .unset] [(.long fv), (.ref pv), (.ref pv)])) tgt
    refine XS.lload X1.here hx rfl (hb hby at_35) rfl ?_
    exact k
  obtain ⟨_, _, ⟨T2, L2, k2, n2⟩, -, X2, ⟨Lc2, hQ2, l2, y2, z2⟩, st2⟩ := X1.specialBack hx (y := (⟨"com/example/headwater/headwater/connectors/ListingPace", "<init>", "(JJ)V"⟩ : MethodName)) rfl hown (mvT hZ (hw _ (List.mem_of_getElem? (i := 5) rfl))) (mvT hZ (hw _ (List.mem_of_getElem? (i := 6) rfl))) (mvT hZ (hw _ (List.mem_of_getElem? (i := 7) rfl))) (by decide) (backOf (W := 1) (rm1 l Z a0 hw [] pv fv b0 h1 n0 Zs1 A1 F_pv_factor_1 F_pv_began_1 F_pv_took_1 g_pv) hZ (hw _ (List.mem_of_getElem? (i := 7) rfl)) (hw _ (List.mem_of_getElem? (i := 4) rfl)) (by decide) (by decide)) (g := (mkF m 37 #[.val (.long fs), .second, .val (.long ts), .second, .val (.long b0), .second, .val (.long b1), .second, .val (.int fg), .val (.long (2305843009213693951 : Int64)), .second, .val (.long fv), .second, .val (.long xv), .second, .unset, .unset, .unset, .unset, .unset, .unset] [(.long b0), (.long fv), (.ref pv), (.ref pv)])) rfl (by rw [hml]; rfl) (Steps.refl _) (a := pv) (argsL := [(.long fv), (.long b0)]) (rest := [(.ref pv)]) (lenOf pd_0_0 rfl) rfl (by show 2 * 0 + _ ≤ _; exact Nat.le_of_eq rfl) (hb hby at_37) (fun _ _ => ⟨rfl, e1, (by decide : 1 + 0 ≤ _), (by decide : 3 + 0 ≤ _)⟩)
  dsimp only [Pt.U, Pt.locs, Pt.cells, Pt.slots] at X2 l2 y2 z2 st2 hQ2
  subst l2 y2 z2
  obtain ⟨rfl, N2q, K2, g2_0, g2_1, g2_2, g2_3⟩ := hQ2
  have N2 := Fr.app N0 N2q
  have E_pv_2 := A1.keep K2
  have Zs2 : n0 ≤ T2.heap.size := Nat.le_trans Zs1 K2.1
  refine own_st (fun tgt k => st2.trans k) ?_
  show own_Go p e below _ (T2.setTop (mkF m 40 #[.val (.long fs), .second, .val (.long ts), .second, .val (.long b0), .second, .val (.long b1), .second, .val (.int fg), .val (.long (2305843009213693951 : Int64)), .second, .val (.long fv), .second, .val (.long xv), .second, .unset, .unset, .unset, .unset, .unset, .unset] [(.ref pv)]))
  refine own_st (V := T2.setTop (mkF m 49 #[.val (.long fs), .second, .val (.long ts), .second, .val (.long b0), .second, .val (.long b1), .second, .val (.int fg), .val (.long (2305843009213693951 : Int64)), .second, .val (.long fv), .second, .val (.long xv), .second, .val (.ref pv), .unset, .unset, .unset, .unset, .unset] [(.long (b0 + xv)), (.ref pv)])) (fun tgt k => ?_) ?_
  · show Steps p.tables e below (T2.setTop (mkF m 40 #[.val (.long fs), .second, .val (.long ts), .second, .val (.long b0), .second, .val (.long b1), .second, .val (.int fg), .val (.long (2305843009213693951 : Int64)), .second, .val (.long fv), .second, .val (.long xv), .second, .unset, .unset, .unset, .unset, .unset, .unset] [(.ref pv)])) tgt
    refine XS.astore X2.here hx rfl (hb hby at_40) rfl rfl (l' := #[.val (.long fs), .second, .val (.long ts), .second, .val (.long b0), .second, .val (.long b1), .second, .val (.int fg), .val (.long (2305843009213693951 : Int64)), .second, .val (.long fv), .second, .val (.long xv), .second, .val (.ref pv), .unset, .unset, .unset, .unset, .unset]) rfl ?_
    show Steps p.tables e below (T2.setTop (mkF m 42 #[.val (.long fs), .second, .val (.long ts), .second, .val (.long b0), .second, .val (.long b1), .second, .val (.int fg), .val (.long (2305843009213693951 : Int64)), .second, .val (.long fv), .second, .val (.long xv), .second, .val (.ref pv), .unset, .unset, .unset, .unset, .unset] [])) tgt
    refine XS.aload X2.here hx rfl (hb hby at_42) rfl rfl ?_
    show Steps p.tables e below (T2.setTop (mkF m 44 #[.val (.long fs), .second, .val (.long ts), .second, .val (.long b0), .second, .val (.long b1), .second, .val (.int fg), .val (.long (2305843009213693951 : Int64)), .second, .val (.long fv), .second, .val (.long xv), .second, .val (.ref pv), .unset, .unset, .unset, .unset, .unset] [(.ref pv)])) tgt
    refine XS.lload X2.here hx rfl (hb hby at_44) rfl ?_
    show Steps p.tables e below (T2.setTop (mkF m 46 #[.val (.long fs), .second, .val (.long ts), .second, .val (.long b0), .second, .val (.long b1), .second, .val (.int fg), .val (.long (2305843009213693951 : Int64)), .second, .val (.long fv), .second, .val (.long xv), .second, .val (.ref pv), .unset, .unset, .unset, .unset, .unset] [(.long b0), (.ref pv)])) tgt
    refine XS.lload X2.here hx rfl (hb hby at_46) rfl ?_
    show Steps p.tables e below (T2.setTop (mkF m 48 #[.val (.long fs), .second, .val (.long ts), .second, .val (.long b0), .second, .val (.long b1), .second, .val (.int fg), .val (.long (2305843009213693951 : Int64)), .second, .val (.long fv), .second, .val (.long xv), .second, .val (.ref pv), .unset, .unset, .unset, .unset, .unset] [(.long xv), (.long b0), (.ref pv)])) tgt
    refine XS.ladd X2.here hx rfl (hb hby at_48) rfl ?_
    exact k
  obtain ⟨cq3, kq3, q3a, q3b, q3c⟩ := isOf hZ rfl g2_0
  obtain ⟨_, _, ⟨T3, L3, k3, n3⟩, -, X3, ⟨Lc3, hQ3, l3, y3, z3⟩, st3⟩ := X2.virtualBack hx (y := (⟨"com/example/headwater/headwater/connectors/ListingPace", "ended", "(J)V"⟩ : MethodName)) (z := (⟨"com/example/headwater/headwater/connectors/ListingPace", "ended", "(J)V"⟩ : MethodName)) hown (mvT hZ (hw _ (List.mem_of_getElem? (i := 15) rfl))) (mvT hZ (hw _ (List.mem_of_getElem? (i := 16) rfl))) (notFace_of_selects (args := #[]) (mvT hZ (hw _ (List.mem_of_getElem? (i := 18) rfl)))) (mvT hZ (hw _ (List.mem_of_getElem? (i := 18) rfl))) (mvT hZ (hw _ (List.mem_of_getElem? (i := 17) rfl))) (by decide) (backOf (W := 0) (rm3 l Z a0 hw [] pv (b0 + xv) fv b0 (0 : Int64) T2.heap n0 Zs2 g2_0 g2_1 g2_2 g2_3 g_pv) hZ (hw _ (List.mem_of_getElem? (i := 19) rfl)) (hw _ (List.mem_of_getElem? (i := 4) rfl)) (by decide) (by decide)) q3a q3c (g := (mkF m 49 #[.val (.long fs), .second, .val (.long ts), .second, .val (.long b0), .second, .val (.long b1), .second, .val (.int fg), .val (.long (2305843009213693951 : Int64)), .second, .val (.long fv), .second, .val (.long xv), .second, .val (.ref pv), .unset, .unset, .unset, .unset, .unset] [(.long (b0 + xv)), (.ref pv)])) rfl (by rw [hml]; rfl) (Steps.refl _) (argsL := [(.long (b0 + xv))]) (rest := []) (lenOf pd_0_1 rfl) rfl (by show 2 * 0 + _ ≤ _; exact Nat.le_of_eq rfl) (hb hby at_49) (fun _ _ => ⟨rfl, rfl, (by decide : 1 + 0 ≤ _), (by decide : 3 + 0 ≤ _)⟩)
  dsimp only [Pt.U, Pt.locs, Pt.cells, Pt.slots] at X3 l3 y3 z3 st3 hQ3
  subst l3 y3 z3
  obtain ⟨rfl, N3q, K3, g3_0, g3_1, g3_2, g3_3⟩ := hQ3
  have N3 := Fr.app N2 N3q
  have E_pv_3 := g2_0.keep K3
  have Zs3 : n0 ≤ T3.heap.size := Nat.le_trans Zs2 K3.1
  refine own_st (fun tgt k => st3.trans k) ?_
  show own_Go p e below _ (T3.setTop (mkF m 52 #[.val (.long fs), .second, .val (.long ts), .second, .val (.long b0), .second, .val (.long b1), .second, .val (.int fg), .val (.long (2305843009213693951 : Int64)), .second, .val (.long fv), .second, .val (.long xv), .second, .val (.ref pv), .unset, .unset, .unset, .unset, .unset] []))
  refine own_st (V := T3.setTop (mkF m 56 #[.val (.long fs), .second, .val (.long ts), .second, .val (.long b0), .second, .val (.long b1), .second, .val (.int fg), .val (.long (2305843009213693951 : Int64)), .second, .val (.long fv), .second, .val (.long xv), .second, .val (.ref pv), .unset, .unset, .unset, .unset, .unset] [(.int (fg &&& (1 : Int32)))])) (fun tgt k => ?_) ?_
  · show Steps p.tables e below (T3.setTop (mkF m 52 #[.val (.long fs), .second, .val (.long ts), .second, .val (.long b0), .second, .val (.long b1), .second, .val (.int fg), .val (.long (2305843009213693951 : Int64)), .second, .val (.long fv), .second, .val (.long xv), .second, .val (.ref pv), .unset, .unset, .unset, .unset, .unset] [])) tgt
    refine XS.iload X3.here hx rfl (hb hby at_52) rfl ?_
    show Steps p.tables e below (T3.setTop (mkF m 54 #[.val (.long fs), .second, .val (.long ts), .second, .val (.long b0), .second, .val (.long b1), .second, .val (.int fg), .val (.long (2305843009213693951 : Int64)), .second, .val (.long fv), .second, .val (.long xv), .second, .val (.ref pv), .unset, .unset, .unset, .unset, .unset] [(.int fg)])) tgt
    refine XS.iconst X3.here hx rfl (hb hby at_54) ?_
    show Steps p.tables e below (T3.setTop (mkF m 55 #[.val (.long fs), .second, .val (.long ts), .second, .val (.long b0), .second, .val (.long b1), .second, .val (.int fg), .val (.long (2305843009213693951 : Int64)), .second, .val (.long fv), .second, .val (.long xv), .second, .val (.ref pv), .unset, .unset, .unset, .unset, .unset] [(.int (1 : Int32)), (.int fg)])) tgt
    refine XS.iand X3.here hx rfl (hb hby at_55) rfl ?_
    exact k
  by_cases hc56 : (fg &&& (1 : Int32)) = (0 : Int32)
  · skip
    refine own_st (V := T3.setTop (mkF m 88 #[.val (.long fs), .second, .val (.long ts), .second, .val (.long b0), .second, .val (.long b1), .second, .val (.int fg), .val (.long (2305843009213693951 : Int64)), .second, .val (.long fv), .second, .val (.long xv), .second, .val (.ref pv), .val (.int (0 : Int32)), .val (.long b0), .second, .unset, .unset] [(.ref pv)])) (fun tgt k => ?_) ?_
    · show Steps p.tables e below (T3.setTop (mkF m 56 #[.val (.long fs), .second, .val (.long ts), .second, .val (.long b0), .second, .val (.long b1), .second, .val (.int fg), .val (.long (2305843009213693951 : Int64)), .second, .val (.long fv), .second, .val (.long xv), .second, .val (.ref pv), .unset, .unset, .unset, .unset, .unset] [(.int (fg &&& (1 : Int32)))])) tgt
      refine XS.ifYes X3.here hx rfl (pc0 := 56) (pc' := 63) rfl (hb hby at_56) rfl ((if0 _ _).trans (teq hc56).1) (by decide) (by decide) ?_
      show Steps p.tables e below (T3.setTop (mkF m 63 #[.val (.long fs), .second, .val (.long ts), .second, .val (.long b0), .second, .val (.long b1), .second, .val (.int fg), .val (.long (2305843009213693951 : Int64)), .second, .val (.long fv), .second, .val (.long xv), .second, .val (.ref pv), .unset, .unset, .unset, .unset, .unset] [])) tgt
      refine XS.iconst X3.here hx rfl (hb hby at_63) ?_
      show Steps p.tables e below (T3.setTop (mkF m 64 #[.val (.long fs), .second, .val (.long ts), .second, .val (.long b0), .second, .val (.long b1), .second, .val (.int fg), .val (.long (2305843009213693951 : Int64)), .second, .val (.long fv), .second, .val (.long xv), .second, .val (.ref pv), .unset, .unset, .unset, .unset, .unset] [(.int (0 : Int32))])) tgt
      refine XS.istore X3.here hx rfl (hb hby at_64) rfl (l' := #[.val (.long fs), .second, .val (.long ts), .second, .val (.long b0), .second, .val (.long b1), .second, .val (.int fg), .val (.long (2305843009213693951 : Int64)), .second, .val (.long fv), .second, .val (.long xv), .second, .val (.ref pv), .val (.int (0 : Int32)), .unset, .unset, .unset, .unset]) rfl ?_
      show Steps p.tables e below (T3.setTop (mkF m 66 #[.val (.long fs), .second, .val (.long ts), .second, .val (.long b0), .second, .val (.long b1), .second, .val (.int fg), .val (.long (2305843009213693951 : Int64)), .second, .val (.long fv), .second, .val (.long xv), .second, .val (.ref pv), .val (.int (0 : Int32)), .unset, .unset, .unset, .unset] [])) tgt
      refine XS.lload X3.here hx rfl (hb hby at_66) rfl ?_
      show Steps p.tables e below (T3.setTop (mkF m 68 #[.val (.long fs), .second, .val (.long ts), .second, .val (.long b0), .second, .val (.long b1), .second, .val (.int fg), .val (.long (2305843009213693951 : Int64)), .second, .val (.long fv), .second, .val (.long xv), .second, .val (.ref pv), .val (.int (0 : Int32)), .unset, .unset, .unset, .unset] [(.long b0)])) tgt
      refine XS.lstore X3.here hx rfl (hb hby at_68) rfl (l' := #[.val (.long fs), .second, .val (.long ts), .second, .val (.long b0), .second, .val (.long b1), .second, .val (.int fg), .val (.long (2305843009213693951 : Int64)), .second, .val (.long fv), .second, .val (.long xv), .second, .val (.ref pv), .val (.int (0 : Int32)), .val (.long b0), .second, .unset, .unset]) rfl ?_
      show Steps p.tables e below (T3.setTop (mkF m 70 #[.val (.long fs), .second, .val (.long ts), .second, .val (.long b0), .second, .val (.long b1), .second, .val (.int fg), .val (.long (2305843009213693951 : Int64)), .second, .val (.long fv), .second, .val (.long xv), .second, .val (.ref pv), .val (.int (0 : Int32)), .val (.long b0), .second, .unset, .unset] [])) tgt
      refine XS.iload X3.here hx rfl (hb hby at_70) rfl ?_
      show Steps p.tables e below (T3.setTop (mkF m 72 #[.val (.long fs), .second, .val (.long ts), .second, .val (.long b0), .second, .val (.long b1), .second, .val (.int fg), .val (.long (2305843009213693951 : Int64)), .second, .val (.long fv), .second, .val (.long xv), .second, .val (.ref pv), .val (.int (0 : Int32)), .val (.long b0), .second, .unset, .unset] [(.int (0 : Int32))])) tgt
      refine XS.ifYes X3.here hx rfl (pc0 := 72) (pc' := 86) rfl (hb hby at_72) rfl ((if0 _ _).trans (teq (by decide : (0 : Int32) = (0 : Int32))).1) (by decide) (by decide) ?_
      show Steps p.tables e below (T3.setTop (mkF m 86 #[.val (.long fs), .second, .val (.long ts), .second, .val (.long b0), .second, .val (.long b1), .second, .val (.int fg), .val (.long (2305843009213693951 : Int64)), .second, .val (.long fv), .second, .val (.long xv), .second, .val (.ref pv), .val (.int (0 : Int32)), .val (.long b0), .second, .unset, .unset] [])) tgt
      refine XS.aload X3.here hx rfl (hb hby at_86) rfl rfl ?_
      exact k
    obtain ⟨cq4, kq4, q4a, q4b, q4c⟩ := isOf hZ rfl g3_0
    obtain ⟨_, _, ⟨T4, L4, k4, n4⟩, -, X4, ⟨Lc4, hQ4, l4, y4, z4⟩, st4⟩ := X3.virtualBack hx (y := (⟨"com/example/headwater/headwater/connectors/ListingPace", "allowedFrom", "()J"⟩ : MethodName)) (z := (⟨"com/example/headwater/headwater/connectors/ListingPace", "allowedFrom", "()J"⟩ : MethodName)) hown (mvT hZ (hw _ (List.mem_of_getElem? (i := 27) rfl))) (mvT hZ (hw _ (List.mem_of_getElem? (i := 28) rfl))) (notFace_of_selects (args := #[]) (mvT hZ (hw _ (List.mem_of_getElem? (i := 30) rfl)))) (mvT hZ (hw _ (List.mem_of_getElem? (i := 30) rfl))) (mvT hZ (hw _ (List.mem_of_getElem? (i := 29) rfl))) (by decide) (backOf (W := 0) (rm5 l Z a0 hw [] pv fv b0 ((b0 + xv) - b0) T3.heap n0 Zs3 g3_0 g3_1 g3_2 g3_3 (own_nz64 hf1)) hZ (hw _ (List.mem_of_getElem? (i := 31) rfl)) (hw _ (List.mem_of_getElem? (i := 4) rfl)) (by decide) (by decide)) q4a q4c (g := (mkF m 88 #[.val (.long fs), .second, .val (.long ts), .second, .val (.long b0), .second, .val (.long b1), .second, .val (.int fg), .val (.long (2305843009213693951 : Int64)), .second, .val (.long fv), .second, .val (.long xv), .second, .val (.ref pv), .val (.int (0 : Int32)), .val (.long b0), .second, .unset, .unset] [(.ref pv)])) rfl (by rw [hml]; rfl) (Steps.refl _) (argsL := []) (rest := []) (lenOf pd_0_2 rfl) rfl (by show 2 * 0 + _ ≤ _; exact Nat.le_of_eq rfl) (hb hby at_88) (fun _ _ => ⟨rfl, rfl, (by decide : 1 + 0 ≤ _), (by decide : 3 + 0 ≤ _)⟩)
    dsimp only [Pt.U, Pt.locs, Pt.cells, Pt.slots] at X4 l4 y4 z4 st4 hQ4
    subst l4 y4 z4
    obtain ⟨rfl, N4q, K4⟩ := hQ4
    have N4 := Fr.app N3 N4q
    refine own_st (fun tgt k => st4.trans k) ?_
    show own_Go p e below _ (T4.setTop (mkF m 91 #[.val (.long fs), .second, .val (.long ts), .second, .val (.long b0), .second, .val (.long b1), .second, .val (.int fg), .val (.long (2305843009213693951 : Int64)), .second, .val (.long fv), .second, .val (.long xv), .second, .val (.ref pv), .val (.int (0 : Int32)), .val (.long b0), .second, .unset, .unset] [(.long (b0 + (own_D fv ((b0 + xv) - b0))))]))
    refine own_st (V := T4.setTop (mkF m 96 #[.val (.long fs), .second, .val (.long ts), .second, .val (.long b0), .second, .val (.long b1), .second, .val (.int fg), .val (.long (2305843009213693951 : Int64)), .second, .val (.long fv), .second, .val (.long xv), .second, .val (.ref pv), .val (.int (0 : Int32)), .val (.long b0), .second, .val (.long ((b0 + (own_D fv ((b0 + xv) - b0))) - b0)), .second] [])) (fun tgt k => ?_) ?_
    · show Steps p.tables e below (T4.setTop (mkF m 91 #[.val (.long fs), .second, .val (.long ts), .second, .val (.long b0), .second, .val (.long b1), .second, .val (.int fg), .val (.long (2305843009213693951 : Int64)), .second, .val (.long fv), .second, .val (.long xv), .second, .val (.ref pv), .val (.int (0 : Int32)), .val (.long b0), .second, .unset, .unset] [(.long (b0 + (own_D fv ((b0 + xv) - b0))))])) tgt
      refine XS.lload X4.here hx rfl (hb hby at_91) rfl ?_
      show Steps p.tables e below (T4.setTop (mkF m 93 #[.val (.long fs), .second, .val (.long ts), .second, .val (.long b0), .second, .val (.long b1), .second, .val (.int fg), .val (.long (2305843009213693951 : Int64)), .second, .val (.long fv), .second, .val (.long xv), .second, .val (.ref pv), .val (.int (0 : Int32)), .val (.long b0), .second, .unset, .unset] [(.long b0), (.long (b0 + (own_D fv ((b0 + xv) - b0))))])) tgt
      refine XS.lsub X4.here hx rfl (hb hby at_93) rfl ?_
      show Steps p.tables e below (T4.setTop (mkF m 94 #[.val (.long fs), .second, .val (.long ts), .second, .val (.long b0), .second, .val (.long b1), .second, .val (.int fg), .val (.long (2305843009213693951 : Int64)), .second, .val (.long fv), .second, .val (.long xv), .second, .val (.ref pv), .val (.int (0 : Int32)), .val (.long b0), .second, .unset, .unset] [(.long ((b0 + (own_D fv ((b0 + xv) - b0))) - b0))])) tgt
      refine XS.lstore X4.here hx rfl (hb hby at_94) rfl (l' := #[.val (.long fs), .second, .val (.long ts), .second, .val (.long b0), .second, .val (.long b1), .second, .val (.int fg), .val (.long (2305843009213693951 : Int64)), .second, .val (.long fv), .second, .val (.long xv), .second, .val (.ref pv), .val (.int (0 : Int32)), .val (.long b0), .second, .val (.long ((b0 + (own_D fv ((b0 + xv) - b0))) - b0)), .second]) rfl ?_
      exact k
    obtain ⟨dv, hdv⟩ : ∃ z : Int64, z = ((b0 + (own_D fv ((b0 + xv) - b0))) - b0) := ⟨_, rfl⟩
    rw [← hdv]
    have hdd : dv = own_D fv xv := by rw [hdv, own_can b0 xv, own_can]
    obtain ⟨z1, z2, z3, z4⟩ := own_facts fv xv hf1 hx0
    rw [← hdd] at z1 z2 z3 z4
    refine own_st (V := T4.setTop (mkF m 118 #[.val (.long fs), .second, .val (.long ts), .second, .val (.long b0), .second, .val (.long b1), .second, .val (.int fg), .val (.long (2305843009213693951 : Int64)), .second, .val (.long fv), .second, .val (.long xv), .second, .val (.ref pv), .val (.int (0 : Int32)), .val (.long b0), .second, .val (.long dv), .second] [(.int (lcmpW dv (2305843009213693951 : Int64)))])) (fun tgt k => ?_) ?_
    · show Steps p.tables e below (T4.setTop (mkF m 96 #[.val (.long fs), .second, .val (.long ts), .second, .val (.long b0), .second, .val (.long b1), .second, .val (.int fg), .val (.long (2305843009213693951 : Int64)), .second, .val (.long fv), .second, .val (.long xv), .second, .val (.ref pv), .val (.int (0 : Int32)), .val (.long b0), .second, .val (.long dv), .second] [])) tgt
      refine XS.lload X4.here hx rfl (hb hby at_96) rfl ?_
      show Steps p.tables e below (T4.setTop (mkF m 98 #[.val (.long fs), .second, .val (.long ts), .second, .val (.long b0), .second, .val (.long b1), .second, .val (.int fg), .val (.long (2305843009213693951 : Int64)), .second, .val (.long fv), .second, .val (.long xv), .second, .val (.ref pv), .val (.int (0 : Int32)), .val (.long b0), .second, .val (.long dv), .second] [(.long dv)])) tgt
      refine XS.lconst X4.here hx rfl (hb hby at_98) ?_
      show Steps p.tables e below (T4.setTop (mkF m 99 #[.val (.long fs), .second, .val (.long ts), .second, .val (.long b0), .second, .val (.long b1), .second, .val (.int fg), .val (.long (2305843009213693951 : Int64)), .second, .val (.long fv), .second, .val (.long xv), .second, .val (.ref pv), .val (.int (0 : Int32)), .val (.long b0), .second, .val (.long dv), .second] [(.long (0 : Int64)), (.long dv)])) tgt
      refine XS.lcmp X4.here hx rfl (hb hby at_99) rfl ?_
      show Steps p.tables e below (T4.setTop (mkF m 100 #[.val (.long fs), .second, .val (.long ts), .second, .val (.long b0), .second, .val (.long b1), .second, .val (.int fg), .val (.long (2305843009213693951 : Int64)), .second, .val (.long fv), .second, .val (.long xv), .second, .val (.ref pv), .val (.int (0 : Int32)), .val (.long b0), .second, .val (.long dv), .second] [(.int (lcmpW dv (0 : Int64)))])) tgt
      refine XS.ifNo X4.here hx rfl (hb hby at_100) rfl ((if0 _ _).trans (flt (fun q => z1 ((lw_lt dv (0 : Int64)).mp q))).1) ?_
      show Steps p.tables e below (T4.setTop (mkF m 103 #[.val (.long fs), .second, .val (.long ts), .second, .val (.long b0), .second, .val (.long b1), .second, .val (.int fg), .val (.long (2305843009213693951 : Int64)), .second, .val (.long fv), .second, .val (.long xv), .second, .val (.ref pv), .val (.int (0 : Int32)), .val (.long b0), .second, .val (.long dv), .second] [])) tgt
      refine XS.lload X4.here hx rfl (hb hby at_103) rfl ?_
      show Steps p.tables e below (T4.setTop (mkF m 105 #[.val (.long fs), .second, .val (.long ts), .second, .val (.long b0), .second, .val (.long b1), .second, .val (.int fg), .val (.long (2305843009213693951 : Int64)), .second, .val (.long fv), .second, .val (.long xv), .second, .val (.ref pv), .val (.int (0 : Int32)), .val (.long b0), .second, .val (.long dv), .second] [(.long dv)])) tgt
      refine XS.lload X4.here hx rfl (hb hby at_105) rfl ?_
      show Steps p.tables e below (T4.setTop (mkF m 107 #[.val (.long fs), .second, .val (.long ts), .second, .val (.long b0), .second, .val (.long b1), .second, .val (.int fg), .val (.long (2305843009213693951 : Int64)), .second, .val (.long fv), .second, .val (.long xv), .second, .val (.ref pv), .val (.int (0 : Int32)), .val (.long b0), .second, .val (.long dv), .second] [(.long (2305843009213693951 : Int64)), (.long dv)])) tgt
      refine XS.lcmp X4.here hx rfl (hb hby at_107) rfl ?_
      show Steps p.tables e below (T4.setTop (mkF m 108 #[.val (.long fs), .second, .val (.long ts), .second, .val (.long b0), .second, .val (.long b1), .second, .val (.int fg), .val (.long (2305843009213693951 : Int64)), .second, .val (.long fv), .second, .val (.long xv), .second, .val (.ref pv), .val (.int (0 : Int32)), .val (.long b0), .second, .val (.long dv), .second] [(.int (lcmpW dv (2305843009213693951 : Int64)))])) tgt
      refine XS.ifYes X4.here hx rfl (pc0 := 108) (pc' := 113) rfl (hb hby at_108) rfl ((if0 _ _).trans (flt (fun q => z2 ((lw_gt dv (2305843009213693951 : Int64)).mp q))).2.2.2) (by decide) (by decide) ?_
      show Steps p.tables e below (T4.setTop (mkF m 113 #[.val (.long fs), .second, .val (.long ts), .second, .val (.long b0), .second, .val (.long b1), .second, .val (.int fg), .val (.long (2305843009213693951 : Int64)), .second, .val (.long fv), .second, .val (.long xv), .second, .val (.ref pv), .val (.int (0 : Int32)), .val (.long b0), .second, .val (.long dv), .second] [])) tgt
      refine XS.lload X4.here hx rfl (hb hby at_113) rfl ?_
      show Steps p.tables e below (T4.setTop (mkF m 115 #[.val (.long fs), .second, .val (.long ts), .second, .val (.long b0), .second, .val (.long b1), .second, .val (.int fg), .val (.long (2305843009213693951 : Int64)), .second, .val (.long fv), .second, .val (.long xv), .second, .val (.ref pv), .val (.int (0 : Int32)), .val (.long b0), .second, .val (.long dv), .second] [(.long dv)])) tgt
      refine XS.lload X4.here hx rfl (hb hby at_115) rfl ?_
      show Steps p.tables e below (T4.setTop (mkF m 117 #[.val (.long fs), .second, .val (.long ts), .second, .val (.long b0), .second, .val (.long b1), .second, .val (.int fg), .val (.long (2305843009213693951 : Int64)), .second, .val (.long fv), .second, .val (.long xv), .second, .val (.ref pv), .val (.int (0 : Int32)), .val (.long b0), .second, .val (.long dv), .second] [(.long (2305843009213693951 : Int64)), (.long dv)])) tgt
      refine XS.lcmp X4.here hx rfl (hb hby at_117) rfl ?_
      exact k
    by_cases hc118 : dv < (2305843009213693951 : Int64)
    · skip
      refine own_st (V := T4.setTop (mkF m 147 #[.val (.long fs), .second, .val (.long ts), .second, .val (.long b0), .second, .val (.long b1), .second, .val (.int fg), .val (.long (2305843009213693951 : Int64)), .second, .val (.long fv), .second, .val (.long xv), .second, .val (.ref pv), .val (.int (0 : Int32)), .val (.long b0), .second, .val (.long dv), .second] [(.int (1 : Int32))])) (fun tgt k => ?_) ?_
      · show Steps p.tables e below (T4.setTop (mkF m 118 #[.val (.long fs), .second, .val (.long ts), .second, .val (.long b0), .second, .val (.long b1), .second, .val (.int fg), .val (.long (2305843009213693951 : Int64)), .second, .val (.long fv), .second, .val (.long xv), .second, .val (.ref pv), .val (.int (0 : Int32)), .val (.long b0), .second, .val (.long dv), .second] [(.int (lcmpW dv (2305843009213693951 : Int64)))])) tgt
        refine XS.ifNo X4.here hx rfl (hb hby at_118) rfl ((if0 _ _).trans (tlt ((lw_lt dv (2305843009213693951 : Int64)).mpr hc118)).2.1) ?_
        show Steps p.tables e below (T4.setTop (mkF m 121 #[.val (.long fs), .second, .val (.long ts), .second, .val (.long b0), .second, .val (.long b1), .second, .val (.int fg), .val (.long (2305843009213693951 : Int64)), .second, .val (.long fv), .second, .val (.long xv), .second, .val (.ref pv), .val (.int (0 : Int32)), .val (.long b0), .second, .val (.long dv), .second] [])) tgt
        refine XS.lload X4.here hx rfl (hb hby at_121) rfl ?_
        show Steps p.tables e below (T4.setTop (mkF m 123 #[.val (.long fs), .second, .val (.long ts), .second, .val (.long b0), .second, .val (.long b1), .second, .val (.int fg), .val (.long (2305843009213693951 : Int64)), .second, .val (.long fv), .second, .val (.long xv), .second, .val (.ref pv), .val (.int (0 : Int32)), .val (.long b0), .second, .val (.long dv), .second] [(.long dv)])) tgt
        refine XS.lload X4.here hx rfl (hb hby at_123) rfl ?_
        show Steps p.tables e below (T4.setTop (mkF m 125 #[.val (.long fs), .second, .val (.long ts), .second, .val (.long b0), .second, .val (.long b1), .second, .val (.int fg), .val (.long (2305843009213693951 : Int64)), .second, .val (.long fv), .second, .val (.long xv), .second, .val (.ref pv), .val (.int (0 : Int32)), .val (.long b0), .second, .val (.long dv), .second] [(.long fv), (.long dv)])) tgt
        refine XS.lrem X4.here hx rfl (hb hby at_125) rfl (own_nz64 hf1) ?_
        show Steps p.tables e below (T4.setTop (mkF m 126 #[.val (.long fs), .second, .val (.long ts), .second, .val (.long b0), .second, .val (.long b1), .second, .val (.int fg), .val (.long (2305843009213693951 : Int64)), .second, .val (.long fv), .second, .val (.long xv), .second, .val (.ref pv), .val (.int (0 : Int32)), .val (.long b0), .second, .val (.long dv), .second] [(.long (dv - (dv / fv) * fv))])) tgt
        refine XS.lconst X4.here hx rfl (hb hby at_126) ?_
        show Steps p.tables e below (T4.setTop (mkF m 127 #[.val (.long fs), .second, .val (.long ts), .second, .val (.long b0), .second, .val (.long b1), .second, .val (.int fg), .val (.long (2305843009213693951 : Int64)), .second, .val (.long fv), .second, .val (.long xv), .second, .val (.ref pv), .val (.int (0 : Int32)), .val (.long b0), .second, .val (.long dv), .second] [(.long (0 : Int64)), (.long (dv - (dv / fv) * fv))])) tgt
        refine XS.lcmp X4.here hx rfl (hb hby at_127) rfl ?_
        show Steps p.tables e below (T4.setTop (mkF m 128 #[.val (.long fs), .second, .val (.long ts), .second, .val (.long b0), .second, .val (.long b1), .second, .val (.int fg), .val (.long (2305843009213693951 : Int64)), .second, .val (.long fv), .second, .val (.long xv), .second, .val (.ref pv), .val (.int (0 : Int32)), .val (.long b0), .second, .val (.long dv), .second] [(.int (lcmpW (dv - (dv / fv) * fv) (0 : Int64)))])) tgt
        refine XS.ifNo X4.here hx rfl (hb hby at_128) rfl ((if0 _ _).trans (teq ((lw_eq (dv - (dv / fv) * fv) (0 : Int64)).mpr (z3 hc118).1)).2) ?_
        show Steps p.tables e below (T4.setTop (mkF m 131 #[.val (.long fs), .second, .val (.long ts), .second, .val (.long b0), .second, .val (.long b1), .second, .val (.int fg), .val (.long (2305843009213693951 : Int64)), .second, .val (.long fv), .second, .val (.long xv), .second, .val (.ref pv), .val (.int (0 : Int32)), .val (.long b0), .second, .val (.long dv), .second] [])) tgt
        refine XS.lload X4.here hx rfl (hb hby at_131) rfl ?_
        show Steps p.tables e below (T4.setTop (mkF m 133 #[.val (.long fs), .second, .val (.long ts), .second, .val (.long b0), .second, .val (.long b1), .second, .val (.int fg), .val (.long (2305843009213693951 : Int64)), .second, .val (.long fv), .second, .val (.long xv), .second, .val (.ref pv), .val (.int (0 : Int32)), .val (.long b0), .second, .val (.long dv), .second] [(.long dv)])) tgt
        refine XS.lload X4.here hx rfl (hb hby at_133) rfl ?_
        show Steps p.tables e below (T4.setTop (mkF m 135 #[.val (.long fs), .second, .val (.long ts), .second, .val (.long b0), .second, .val (.long b1), .second, .val (.int fg), .val (.long (2305843009213693951 : Int64)), .second, .val (.long fv), .second, .val (.long xv), .second, .val (.ref pv), .val (.int (0 : Int32)), .val (.long b0), .second, .val (.long dv), .second] [(.long fv), (.long dv)])) tgt
        refine XS.ldiv X4.here hx rfl (hb hby at_135) rfl (own_nz64 hf1) ?_
        show Steps p.tables e below (T4.setTop (mkF m 136 #[.val (.long fs), .second, .val (.long ts), .second, .val (.long b0), .second, .val (.long b1), .second, .val (.int fg), .val (.long (2305843009213693951 : Int64)), .second, .val (.long fv), .second, .val (.long xv), .second, .val (.ref pv), .val (.int (0 : Int32)), .val (.long b0), .second, .val (.long dv), .second] [(.long (dv / fv))])) tgt
        refine XS.lload X4.here hx rfl (hb hby at_136) rfl ?_
        show Steps p.tables e below (T4.setTop (mkF m 138 #[.val (.long fs), .second, .val (.long ts), .second, .val (.long b0), .second, .val (.long b1), .second, .val (.int fg), .val (.long (2305843009213693951 : Int64)), .second, .val (.long fv), .second, .val (.long xv), .second, .val (.ref pv), .val (.int (0 : Int32)), .val (.long b0), .second, .val (.long dv), .second] [(.long xv), (.long (dv / fv))])) tgt
        refine XS.lcmp X4.here hx rfl (hb hby at_138) rfl ?_
        show Steps p.tables e below (T4.setTop (mkF m 139 #[.val (.long fs), .second, .val (.long ts), .second, .val (.long b0), .second, .val (.long b1), .second, .val (.int fg), .val (.long (2305843009213693951 : Int64)), .second, .val (.long fv), .second, .val (.long xv), .second, .val (.ref pv), .val (.int (0 : Int32)), .val (.long b0), .second, .val (.long dv), .second] [(.int (lcmpW (dv / fv) xv))])) tgt
        refine XS.ifNo X4.here hx rfl (hb hby at_139) rfl ((if0 _ _).trans (teq ((lw_eq (dv / fv) xv).mpr (z3 hc118).2)).2) ?_
        show Steps p.tables e below (T4.setTop (mkF m 142 #[.val (.long fs), .second, .val (.long ts), .second, .val (.long b0), .second, .val (.long b1), .second, .val (.int fg), .val (.long (2305843009213693951 : Int64)), .second, .val (.long fv), .second, .val (.long xv), .second, .val (.ref pv), .val (.int (0 : Int32)), .val (.long b0), .second, .val (.long dv), .second] [])) tgt
        refine XS.iconst X4.here hx rfl (hb hby at_142) ?_
        show Steps p.tables e below (T4.setTop (mkF m 143 #[.val (.long fs), .second, .val (.long ts), .second, .val (.long b0), .second, .val (.long b1), .second, .val (.int fg), .val (.long (2305843009213693951 : Int64)), .second, .val (.long fv), .second, .val (.long xv), .second, .val (.ref pv), .val (.int (0 : Int32)), .val (.long b0), .second, .val (.long dv), .second] [(.int (1 : Int32))])) tgt
        refine XS.goto X4.here hx rfl (pc0 := 143) (pc' := 147) rfl (hb hby at_143) (by decide) (by decide) ?_
        exact k
      refine own_retN X4 hx hlk (t := .boolean) (z' := (1 : Int32)) Bd.returns (by simp) rfl (hb hby at_147) ?_ (by decide) (by decide)
      show Q0 Z fs ts b0 b1 fg h0 n0 (some (.int (1 : Int32))) T4.heap _
      rw [K4]
      exact ⟨rfl, N4⟩
    · skip
      refine own_st (V := T4.setTop (mkF m 166 #[.val (.long fs), .second, .val (.long ts), .second, .val (.long b0), .second, .val (.long b1), .second, .val (.int fg), .val (.long (2305843009213693951 : Int64)), .second, .val (.long fv), .second, .val (.long xv), .second, .val (.ref pv), .val (.int (0 : Int32)), .val (.long b0), .second, .val (.long dv), .second] [(.int (1 : Int32))])) (fun tgt k => ?_) ?_
      · show Steps p.tables e below (T4.setTop (mkF m 118 #[.val (.long fs), .second, .val (.long ts), .second, .val (.long b0), .second, .val (.long b1), .second, .val (.int fg), .val (.long (2305843009213693951 : Int64)), .second, .val (.long fv), .second, .val (.long xv), .second, .val (.ref pv), .val (.int (0 : Int32)), .val (.long b0), .second, .val (.long dv), .second] [(.int (lcmpW dv (2305843009213693951 : Int64)))])) tgt
        refine XS.ifYes X4.here hx rfl (pc0 := 118) (pc' := 148) rfl (hb hby at_118) rfl ((if0 _ _).trans (flt (fun q => hc118 ((lw_lt dv (2305843009213693951 : Int64)).mp q))).2.1) (by decide) (by decide) ?_
        show Steps p.tables e below (T4.setTop (mkF m 148 #[.val (.long fs), .second, .val (.long ts), .second, .val (.long b0), .second, .val (.long b1), .second, .val (.int fg), .val (.long (2305843009213693951 : Int64)), .second, .val (.long fv), .second, .val (.long xv), .second, .val (.ref pv), .val (.int (0 : Int32)), .val (.long b0), .second, .val (.long dv), .second] [])) tgt
        refine XS.lload X4.here hx rfl (hb hby at_148) rfl ?_
        show Steps p.tables e below (T4.setTop (mkF m 150 #[.val (.long fs), .second, .val (.long ts), .second, .val (.long b0), .second, .val (.long b1), .second, .val (.int fg), .val (.long (2305843009213693951 : Int64)), .second, .val (.long fv), .second, .val (.long xv), .second, .val (.ref pv), .val (.int (0 : Int32)), .val (.long b0), .second, .val (.long dv), .second] [(.long xv)])) tgt
        refine XS.lload X4.here hx rfl (hb hby at_150) rfl ?_
        show Steps p.tables e below (T4.setTop (mkF m 152 #[.val (.long fs), .second, .val (.long ts), .second, .val (.long b0), .second, .val (.long b1), .second, .val (.int fg), .val (.long (2305843009213693951 : Int64)), .second, .val (.long fv), .second, .val (.long xv), .second, .val (.ref pv), .val (.int (0 : Int32)), .val (.long b0), .second, .val (.long dv), .second] [(.long (2305843009213693951 : Int64)), (.long xv)])) tgt
        refine XS.lconst X4.here hx rfl (hb hby at_152) ?_
        show Steps p.tables e below (T4.setTop (mkF m 153 #[.val (.long fs), .second, .val (.long ts), .second, .val (.long b0), .second, .val (.long b1), .second, .val (.int fg), .val (.long (2305843009213693951 : Int64)), .second, .val (.long fv), .second, .val (.long xv), .second, .val (.ref pv), .val (.int (0 : Int32)), .val (.long b0), .second, .val (.long dv), .second] [(.long (1 : Int64)), (.long (2305843009213693951 : Int64)), (.long xv)])) tgt
        refine XS.lsub X4.here hx rfl (hb hby at_153) rfl ?_
        show Steps p.tables e below (T4.setTop (mkF m 154 #[.val (.long fs), .second, .val (.long ts), .second, .val (.long b0), .second, .val (.long b1), .second, .val (.int fg), .val (.long (2305843009213693951 : Int64)), .second, .val (.long fv), .second, .val (.long xv), .second, .val (.ref pv), .val (.int (0 : Int32)), .val (.long b0), .second, .val (.long dv), .second] [(.long ((2305843009213693951 : Int64) - (1 : Int64))), (.long xv)])) tgt
        refine XS.lload X4.here hx rfl (hb hby at_154) rfl ?_
        show Steps p.tables e below (T4.setTop (mkF m 156 #[.val (.long fs), .second, .val (.long ts), .second, .val (.long b0), .second, .val (.long b1), .second, .val (.int fg), .val (.long (2305843009213693951 : Int64)), .second, .val (.long fv), .second, .val (.long xv), .second, .val (.ref pv), .val (.int (0 : Int32)), .val (.long b0), .second, .val (.long dv), .second] [(.long fv), (.long ((2305843009213693951 : Int64) - (1 : Int64))), (.long xv)])) tgt
        refine XS.ldiv X4.here hx rfl (hb hby at_156) rfl (own_nz64 hf1) ?_
        show Steps p.tables e below (T4.setTop (mkF m 157 #[.val (.long fs), .second, .val (.long ts), .second, .val (.long b0), .second, .val (.long b1), .second, .val (.int fg), .val (.long (2305843009213693951 : Int64)), .second, .val (.long fv), .second, .val (.long xv), .second, .val (.ref pv), .val (.int (0 : Int32)), .val (.long b0), .second, .val (.long dv), .second] [(.long (((2305843009213693951 : Int64) - (1 : Int64)) / fv)), (.long xv)])) tgt
        refine XS.lcmp X4.here hx rfl (hb hby at_157) rfl ?_
        show Steps p.tables e below (T4.setTop (mkF m 158 #[.val (.long fs), .second, .val (.long ts), .second, .val (.long b0), .second, .val (.long b1), .second, .val (.int fg), .val (.long (2305843009213693951 : Int64)), .second, .val (.long fv), .second, .val (.long xv), .second, .val (.ref pv), .val (.int (0 : Int32)), .val (.long b0), .second, .val (.long dv), .second] [(.int (lcmpW xv (((2305843009213693951 : Int64) - (1 : Int64)) / fv)))])) tgt
        refine XS.ifNo X4.here hx rfl (hb hby at_158) rfl ((if0 _ _).trans (tlt ((lw_gt xv (((2305843009213693951 : Int64) - (1 : Int64)) / fv)).mpr (z4 hc118))).2.2.2) ?_
        show Steps p.tables e below (T4.setTop (mkF m 161 #[.val (.long fs), .second, .val (.long ts), .second, .val (.long b0), .second, .val (.long b1), .second, .val (.int fg), .val (.long (2305843009213693951 : Int64)), .second, .val (.long fv), .second, .val (.long xv), .second, .val (.ref pv), .val (.int (0 : Int32)), .val (.long b0), .second, .val (.long dv), .second] [])) tgt
        refine XS.iconst X4.here hx rfl (hb hby at_161) ?_
        show Steps p.tables e below (T4.setTop (mkF m 162 #[.val (.long fs), .second, .val (.long ts), .second, .val (.long b0), .second, .val (.long b1), .second, .val (.int fg), .val (.long (2305843009213693951 : Int64)), .second, .val (.long fv), .second, .val (.long xv), .second, .val (.ref pv), .val (.int (0 : Int32)), .val (.long b0), .second, .val (.long dv), .second] [(.int (1 : Int32))])) tgt
        refine XS.goto X4.here hx rfl (pc0 := 162) (pc' := 166) rfl (hb hby at_162) (by decide) (by decide) ?_
        exact k
      refine own_retN X4 hx hlk (t := .boolean) (z' := (1 : Int32)) Bd.returns (by simp) rfl (hb hby at_166) ?_ (by decide) (by decide)
      show Q0 Z fs ts b0 b1 fg h0 n0 (some (.int (1 : Int32))) T4.heap _
      rw [K4]
      exact ⟨rfl, N4⟩
  · skip
    refine own_st (V := T3.setTop (mkF m 79 #[.val (.long fs), .second, .val (.long ts), .second, .val (.long b0), .second, .val (.long b1), .second, .val (.int fg), .val (.long (2305843009213693951 : Int64)), .second, .val (.long fv), .second, .val (.long xv), .second, .val (.ref pv), .val (.int (1 : Int32)), .val (.long b0), .second, .unset, .unset] [(.long b1), (.ref pv)])) (fun tgt k => ?_) ?_
    · show Steps p.tables e below (T3.setTop (mkF m 56 #[.val (.long fs), .second, .val (.long ts), .second, .val (.long b0), .second, .val (.long b1), .second, .val (.int fg), .val (.long (2305843009213693951 : Int64)), .second, .val (.long fv), .second, .val (.long xv), .second, .val (.ref pv), .unset, .unset, .unset, .unset, .unset] [(.int (fg &&& (1 : Int32)))])) tgt
      refine XS.ifNo X3.here hx rfl (hb hby at_56) rfl ((if0 _ _).trans (feq hc56).1) ?_
      show Steps p.tables e below (T3.setTop (mkF m 59 #[.val (.long fs), .second, .val (.long ts), .second, .val (.long b0), .second, .val (.long b1), .second, .val (.int fg), .val (.long (2305843009213693951 : Int64)), .second, .val (.long fv), .second, .val (.long xv), .second, .val (.ref pv), .unset, .unset, .unset, .unset, .unset] [])) tgt
      refine XS.iconst X3.here hx rfl (hb hby at_59) ?_
      show Steps p.tables e below (T3.setTop (mkF m 60 #[.val (.long fs), .second, .val (.long ts), .second, .val (.long b0), .second, .val (.long b1), .second, .val (.int fg), .val (.long (2305843009213693951 : Int64)), .second, .val (.long fv), .second, .val (.long xv), .second, .val (.ref pv), .unset, .unset, .unset, .unset, .unset] [(.int (1 : Int32))])) tgt
      refine XS.goto X3.here hx rfl (pc0 := 60) (pc' := 64) rfl (hb hby at_60) (by decide) (by decide) ?_
      show Steps p.tables e below (T3.setTop (mkF m 64 #[.val (.long fs), .second, .val (.long ts), .second, .val (.long b0), .second, .val (.long b1), .second, .val (.int fg), .val (.long (2305843009213693951 : Int64)), .second, .val (.long fv), .second, .val (.long xv), .second, .val (.ref pv), .unset, .unset, .unset, .unset, .unset] [(.int (1 : Int32))])) tgt
      refine XS.istore X3.here hx rfl (hb hby at_64) rfl (l' := #[.val (.long fs), .second, .val (.long ts), .second, .val (.long b0), .second, .val (.long b1), .second, .val (.int fg), .val (.long (2305843009213693951 : Int64)), .second, .val (.long fv), .second, .val (.long xv), .second, .val (.ref pv), .val (.int (1 : Int32)), .unset, .unset, .unset, .unset]) rfl ?_
      show Steps p.tables e below (T3.setTop (mkF m 66 #[.val (.long fs), .second, .val (.long ts), .second, .val (.long b0), .second, .val (.long b1), .second, .val (.int fg), .val (.long (2305843009213693951 : Int64)), .second, .val (.long fv), .second, .val (.long xv), .second, .val (.ref pv), .val (.int (1 : Int32)), .unset, .unset, .unset, .unset] [])) tgt
      refine XS.lload X3.here hx rfl (hb hby at_66) rfl ?_
      show Steps p.tables e below (T3.setTop (mkF m 68 #[.val (.long fs), .second, .val (.long ts), .second, .val (.long b0), .second, .val (.long b1), .second, .val (.int fg), .val (.long (2305843009213693951 : Int64)), .second, .val (.long fv), .second, .val (.long xv), .second, .val (.ref pv), .val (.int (1 : Int32)), .unset, .unset, .unset, .unset] [(.long b0)])) tgt
      refine XS.lstore X3.here hx rfl (hb hby at_68) rfl (l' := #[.val (.long fs), .second, .val (.long ts), .second, .val (.long b0), .second, .val (.long b1), .second, .val (.int fg), .val (.long (2305843009213693951 : Int64)), .second, .val (.long fv), .second, .val (.long xv), .second, .val (.ref pv), .val (.int (1 : Int32)), .val (.long b0), .second, .unset, .unset]) rfl ?_
      show Steps p.tables e below (T3.setTop (mkF m 70 #[.val (.long fs), .second, .val (.long ts), .second, .val (.long b0), .second, .val (.long b1), .second, .val (.int fg), .val (.long (2305843009213693951 : Int64)), .second, .val (.long fv), .second, .val (.long xv), .second, .val (.ref pv), .val (.int (1 : Int32)), .val (.long b0), .second, .unset, .unset] [])) tgt
      refine XS.iload X3.here hx rfl (hb hby at_70) rfl ?_
      show Steps p.tables e below (T3.setTop (mkF m 72 #[.val (.long fs), .second, .val (.long ts), .second, .val (.long b0), .second, .val (.long b1), .second, .val (.int fg), .val (.long (2305843009213693951 : Int64)), .second, .val (.long fv), .second, .val (.long xv), .second, .val (.ref pv), .val (.int (1 : Int32)), .val (.long b0), .second, .unset, .unset] [(.int (1 : Int32))])) tgt
      refine XS.ifNo X3.here hx rfl (hb hby at_72) rfl ((if0 _ _).trans (feq (by decide : ¬ ((1 : Int32) = (0 : Int32)))).1) ?_
      show Steps p.tables e below (T3.setTop (mkF m 75 #[.val (.long fs), .second, .val (.long ts), .second, .val (.long b0), .second, .val (.long b1), .second, .val (.int fg), .val (.long (2305843009213693951 : Int64)), .second, .val (.long fv), .second, .val (.long xv), .second, .val (.ref pv), .val (.int (1 : Int32)), .val (.long b0), .second, .unset, .unset] [])) tgt
      refine XS.aload X3.here hx rfl (hb hby at_75) rfl rfl ?_
      show Steps p.tables e below (T3.setTop (mkF m 77 #[.val (.long fs), .second, .val (.long ts), .second, .val (.long b0), .second, .val (.long b1), .second, .val (.int fg), .val (.long (2305843009213693951 : Int64)), .second, .val (.long fv), .second, .val (.long xv), .second, .val (.ref pv), .val (.int (1 : Int32)), .val (.long b0), .second, .unset, .unset] [(.ref pv)])) tgt
      refine XS.lload X3.here hx rfl (hb hby at_77) rfl ?_
      exact k
    obtain ⟨cq7, kq7, q7a, q7b, q7c⟩ := isOf hZ rfl g3_0
    obtain ⟨_, _, ⟨T7, L7, k7, n7⟩, -, X7, ⟨Lc7, hQ7, l7, y7, z7⟩, st7⟩ := X3.virtualBack hx (y := (⟨"com/example/headwater/headwater/connectors/ListingPace", "began", "(J)V"⟩ : MethodName)) (z := (⟨"com/example/headwater/headwater/connectors/ListingPace", "began", "(J)V"⟩ : MethodName)) hown (mvT hZ (hw _ (List.mem_of_getElem? (i := 22) rfl))) (mvT hZ (hw _ (List.mem_of_getElem? (i := 23) rfl))) (notFace_of_selects (args := #[]) (mvT hZ (hw _ (List.mem_of_getElem? (i := 25) rfl)))) (mvT hZ (hw _ (List.mem_of_getElem? (i := 25) rfl))) (mvT hZ (hw _ (List.mem_of_getElem? (i := 24) rfl))) (by decide) (backOf (W := 0) (rm4 l Z a0 hw [] pv b1 fv b0 ((b0 + xv) - b0) T3.heap n0 Zs3 g3_0 g3_1 g3_2 g3_3 g_pv) hZ (hw _ (List.mem_of_getElem? (i := 26) rfl)) (hw _ (List.mem_of_getElem? (i := 4) rfl)) (by decide) (by decide)) q7a q7c (g := (mkF m 79 #[.val (.long fs), .second, .val (.long ts), .second, .val (.long b0), .second, .val (.long b1), .second, .val (.int fg), .val (.long (2305843009213693951 : Int64)), .second, .val (.long fv), .second, .val (.long xv), .second, .val (.ref pv), .val (.int (1 : Int32)), .val (.long b0), .second, .unset, .unset] [(.long b1), (.ref pv)])) rfl (by rw [hml]; rfl) (Steps.refl _) (argsL := [(.long b1)]) (rest := []) (lenOf pd_0_1 rfl) rfl (by show 2 * 0 + _ ≤ _; exact Nat.le_of_eq rfl) (hb hby at_79) (fun _ _ => ⟨rfl, rfl, (by decide : 1 + 0 ≤ _), (by decide : 3 + 0 ≤ _)⟩)
    dsimp only [Pt.U, Pt.locs, Pt.cells, Pt.slots] at X7 l7 y7 z7 st7 hQ7
    subst l7 y7 z7
    obtain ⟨rfl, N7q, K7, g7_0, g7_1, g7_2, g7_3⟩ := hQ7
    have N7 := Fr.app N3 N7q
    have E_pv_7 := g3_0.keep K7
    have Zs7 : n0 ≤ T7.heap.size := Nat.le_trans Zs3 K7.1
    refine own_st (fun tgt k => st7.trans k) ?_
    show own_Go p e below _ (T7.setTop (mkF m 82 #[.val (.long fs), .second, .val (.long ts), .second, .val (.long b0), .second, .val (.long b1), .second, .val (.int fg), .val (.long (2305843009213693951 : Int64)), .second, .val (.long fv), .second, .val (.long xv), .second, .val (.ref pv), .val (.int (1 : Int32)), .val (.long b0), .second, .unset, .unset] []))
    refine own_st (V := T7.setTop (mkF m 88 #[.val (.long fs), .second, .val (.long ts), .second, .val (.long b0), .second, .val (.long b1), .second, .val (.int fg), .val (.long (2305843009213693951 : Int64)), .second, .val (.long fv), .second, .val (.long xv), .second, .val (.ref pv), .val (.int (1 : Int32)), .val (.long b1), .second, .unset, .unset] [(.ref pv)])) (fun tgt k => ?_) ?_
    · show Steps p.tables e below (T7.setTop (mkF m 82 #[.val (.long fs), .second, .val (.long ts), .second, .val (.long b0), .second, .val (.long b1), .second, .val (.int fg), .val (.long (2305843009213693951 : Int64)), .second, .val (.long fv), .second, .val (.long xv), .second, .val (.ref pv), .val (.int (1 : Int32)), .val (.long b0), .second, .unset, .unset] [])) tgt
      refine XS.lload X7.here hx rfl (hb hby at_82) rfl ?_
      show Steps p.tables e below (T7.setTop (mkF m 84 #[.val (.long fs), .second, .val (.long ts), .second, .val (.long b0), .second, .val (.long b1), .second, .val (.int fg), .val (.long (2305843009213693951 : Int64)), .second, .val (.long fv), .second, .val (.long xv), .second, .val (.ref pv), .val (.int (1 : Int32)), .val (.long b0), .second, .unset, .unset] [(.long b1)])) tgt
      refine XS.lstore X7.here hx rfl (hb hby at_84) rfl (l' := #[.val (.long fs), .second, .val (.long ts), .second, .val (.long b0), .second, .val (.long b1), .second, .val (.int fg), .val (.long (2305843009213693951 : Int64)), .second, .val (.long fv), .second, .val (.long xv), .second, .val (.ref pv), .val (.int (1 : Int32)), .val (.long b1), .second, .unset, .unset]) rfl ?_
      show Steps p.tables e below (T7.setTop (mkF m 86 #[.val (.long fs), .second, .val (.long ts), .second, .val (.long b0), .second, .val (.long b1), .second, .val (.int fg), .val (.long (2305843009213693951 : Int64)), .second, .val (.long fv), .second, .val (.long xv), .second, .val (.ref pv), .val (.int (1 : Int32)), .val (.long b1), .second, .unset, .unset] [])) tgt
      refine XS.aload X7.here hx rfl (hb hby at_86) rfl rfl ?_
      exact k
    obtain ⟨cq8, kq8, q8a, q8b, q8c⟩ := isOf hZ rfl g7_0
    obtain ⟨_, _, ⟨T8, L8, k8, n8⟩, -, X8, ⟨Lc8, hQ8, l8, y8, z8⟩, st8⟩ := X7.virtualBack hx (y := (⟨"com/example/headwater/headwater/connectors/ListingPace", "allowedFrom", "()J"⟩ : MethodName)) (z := (⟨"com/example/headwater/headwater/connectors/ListingPace", "allowedFrom", "()J"⟩ : MethodName)) hown (mvT hZ (hw _ (List.mem_of_getElem? (i := 27) rfl))) (mvT hZ (hw _ (List.mem_of_getElem? (i := 28) rfl))) (notFace_of_selects (args := #[]) (mvT hZ (hw _ (List.mem_of_getElem? (i := 30) rfl)))) (mvT hZ (hw _ (List.mem_of_getElem? (i := 30) rfl))) (mvT hZ (hw _ (List.mem_of_getElem? (i := 29) rfl))) (by decide) (backOf (W := 0) (rm5 l Z a0 hw [] pv fv b1 ((b0 + xv) - b0) T7.heap n0 Zs7 g7_0 g7_1 g7_2 g7_3 (own_nz64 hf1)) hZ (hw _ (List.mem_of_getElem? (i := 31) rfl)) (hw _ (List.mem_of_getElem? (i := 4) rfl)) (by decide) (by decide)) q8a q8c (g := (mkF m 88 #[.val (.long fs), .second, .val (.long ts), .second, .val (.long b0), .second, .val (.long b1), .second, .val (.int fg), .val (.long (2305843009213693951 : Int64)), .second, .val (.long fv), .second, .val (.long xv), .second, .val (.ref pv), .val (.int (1 : Int32)), .val (.long b1), .second, .unset, .unset] [(.ref pv)])) rfl (by rw [hml]; rfl) (Steps.refl _) (argsL := []) (rest := []) (lenOf pd_0_2 rfl) rfl (by show 2 * 0 + _ ≤ _; exact Nat.le_of_eq rfl) (hb hby at_88) (fun _ _ => ⟨rfl, rfl, (by decide : 1 + 0 ≤ _), (by decide : 3 + 0 ≤ _)⟩)
    dsimp only [Pt.U, Pt.locs, Pt.cells, Pt.slots] at X8 l8 y8 z8 st8 hQ8
    subst l8 y8 z8
    obtain ⟨rfl, N8q, K8⟩ := hQ8
    have N8 := Fr.app N7 N8q
    refine own_st (fun tgt k => st8.trans k) ?_
    show own_Go p e below _ (T8.setTop (mkF m 91 #[.val (.long fs), .second, .val (.long ts), .second, .val (.long b0), .second, .val (.long b1), .second, .val (.int fg), .val (.long (2305843009213693951 : Int64)), .second, .val (.long fv), .second, .val (.long xv), .second, .val (.ref pv), .val (.int (1 : Int32)), .val (.long b1), .second, .unset, .unset] [(.long (b1 + (own_D fv ((b0 + xv) - b0))))]))
    refine own_st (V := T8.setTop (mkF m 96 #[.val (.long fs), .second, .val (.long ts), .second, .val (.long b0), .second, .val (.long b1), .second, .val (.int fg), .val (.long (2305843009213693951 : Int64)), .second, .val (.long fv), .second, .val (.long xv), .second, .val (.ref pv), .val (.int (1 : Int32)), .val (.long b1), .second, .val (.long ((b1 + (own_D fv ((b0 + xv) - b0))) - b1)), .second] [])) (fun tgt k => ?_) ?_
    · show Steps p.tables e below (T8.setTop (mkF m 91 #[.val (.long fs), .second, .val (.long ts), .second, .val (.long b0), .second, .val (.long b1), .second, .val (.int fg), .val (.long (2305843009213693951 : Int64)), .second, .val (.long fv), .second, .val (.long xv), .second, .val (.ref pv), .val (.int (1 : Int32)), .val (.long b1), .second, .unset, .unset] [(.long (b1 + (own_D fv ((b0 + xv) - b0))))])) tgt
      refine XS.lload X8.here hx rfl (hb hby at_91) rfl ?_
      show Steps p.tables e below (T8.setTop (mkF m 93 #[.val (.long fs), .second, .val (.long ts), .second, .val (.long b0), .second, .val (.long b1), .second, .val (.int fg), .val (.long (2305843009213693951 : Int64)), .second, .val (.long fv), .second, .val (.long xv), .second, .val (.ref pv), .val (.int (1 : Int32)), .val (.long b1), .second, .unset, .unset] [(.long b1), (.long (b1 + (own_D fv ((b0 + xv) - b0))))])) tgt
      refine XS.lsub X8.here hx rfl (hb hby at_93) rfl ?_
      show Steps p.tables e below (T8.setTop (mkF m 94 #[.val (.long fs), .second, .val (.long ts), .second, .val (.long b0), .second, .val (.long b1), .second, .val (.int fg), .val (.long (2305843009213693951 : Int64)), .second, .val (.long fv), .second, .val (.long xv), .second, .val (.ref pv), .val (.int (1 : Int32)), .val (.long b1), .second, .unset, .unset] [(.long ((b1 + (own_D fv ((b0 + xv) - b0))) - b1))])) tgt
      refine XS.lstore X8.here hx rfl (hb hby at_94) rfl (l' := #[.val (.long fs), .second, .val (.long ts), .second, .val (.long b0), .second, .val (.long b1), .second, .val (.int fg), .val (.long (2305843009213693951 : Int64)), .second, .val (.long fv), .second, .val (.long xv), .second, .val (.ref pv), .val (.int (1 : Int32)), .val (.long b1), .second, .val (.long ((b1 + (own_D fv ((b0 + xv) - b0))) - b1)), .second]) rfl ?_
      exact k
    obtain ⟨dv, hdv⟩ : ∃ z : Int64, z = ((b1 + (own_D fv ((b0 + xv) - b0))) - b1) := ⟨_, rfl⟩
    rw [← hdv]
    have hdd : dv = own_D fv xv := by rw [hdv, own_can b0 xv, own_can]
    obtain ⟨z1, z2, z3, z4⟩ := own_facts fv xv hf1 hx0
    rw [← hdd] at z1 z2 z3 z4
    refine own_st (V := T8.setTop (mkF m 118 #[.val (.long fs), .second, .val (.long ts), .second, .val (.long b0), .second, .val (.long b1), .second, .val (.int fg), .val (.long (2305843009213693951 : Int64)), .second, .val (.long fv), .second, .val (.long xv), .second, .val (.ref pv), .val (.int (1 : Int32)), .val (.long b1), .second, .val (.long dv), .second] [(.int (lcmpW dv (2305843009213693951 : Int64)))])) (fun tgt k => ?_) ?_
    · show Steps p.tables e below (T8.setTop (mkF m 96 #[.val (.long fs), .second, .val (.long ts), .second, .val (.long b0), .second, .val (.long b1), .second, .val (.int fg), .val (.long (2305843009213693951 : Int64)), .second, .val (.long fv), .second, .val (.long xv), .second, .val (.ref pv), .val (.int (1 : Int32)), .val (.long b1), .second, .val (.long dv), .second] [])) tgt
      refine XS.lload X8.here hx rfl (hb hby at_96) rfl ?_
      show Steps p.tables e below (T8.setTop (mkF m 98 #[.val (.long fs), .second, .val (.long ts), .second, .val (.long b0), .second, .val (.long b1), .second, .val (.int fg), .val (.long (2305843009213693951 : Int64)), .second, .val (.long fv), .second, .val (.long xv), .second, .val (.ref pv), .val (.int (1 : Int32)), .val (.long b1), .second, .val (.long dv), .second] [(.long dv)])) tgt
      refine XS.lconst X8.here hx rfl (hb hby at_98) ?_
      show Steps p.tables e below (T8.setTop (mkF m 99 #[.val (.long fs), .second, .val (.long ts), .second, .val (.long b0), .second, .val (.long b1), .second, .val (.int fg), .val (.long (2305843009213693951 : Int64)), .second, .val (.long fv), .second, .val (.long xv), .second, .val (.ref pv), .val (.int (1 : Int32)), .val (.long b1), .second, .val (.long dv), .second] [(.long (0 : Int64)), (.long dv)])) tgt
      refine XS.lcmp X8.here hx rfl (hb hby at_99) rfl ?_
      show Steps p.tables e below (T8.setTop (mkF m 100 #[.val (.long fs), .second, .val (.long ts), .second, .val (.long b0), .second, .val (.long b1), .second, .val (.int fg), .val (.long (2305843009213693951 : Int64)), .second, .val (.long fv), .second, .val (.long xv), .second, .val (.ref pv), .val (.int (1 : Int32)), .val (.long b1), .second, .val (.long dv), .second] [(.int (lcmpW dv (0 : Int64)))])) tgt
      refine XS.ifNo X8.here hx rfl (hb hby at_100) rfl ((if0 _ _).trans (flt (fun q => z1 ((lw_lt dv (0 : Int64)).mp q))).1) ?_
      show Steps p.tables e below (T8.setTop (mkF m 103 #[.val (.long fs), .second, .val (.long ts), .second, .val (.long b0), .second, .val (.long b1), .second, .val (.int fg), .val (.long (2305843009213693951 : Int64)), .second, .val (.long fv), .second, .val (.long xv), .second, .val (.ref pv), .val (.int (1 : Int32)), .val (.long b1), .second, .val (.long dv), .second] [])) tgt
      refine XS.lload X8.here hx rfl (hb hby at_103) rfl ?_
      show Steps p.tables e below (T8.setTop (mkF m 105 #[.val (.long fs), .second, .val (.long ts), .second, .val (.long b0), .second, .val (.long b1), .second, .val (.int fg), .val (.long (2305843009213693951 : Int64)), .second, .val (.long fv), .second, .val (.long xv), .second, .val (.ref pv), .val (.int (1 : Int32)), .val (.long b1), .second, .val (.long dv), .second] [(.long dv)])) tgt
      refine XS.lload X8.here hx rfl (hb hby at_105) rfl ?_
      show Steps p.tables e below (T8.setTop (mkF m 107 #[.val (.long fs), .second, .val (.long ts), .second, .val (.long b0), .second, .val (.long b1), .second, .val (.int fg), .val (.long (2305843009213693951 : Int64)), .second, .val (.long fv), .second, .val (.long xv), .second, .val (.ref pv), .val (.int (1 : Int32)), .val (.long b1), .second, .val (.long dv), .second] [(.long (2305843009213693951 : Int64)), (.long dv)])) tgt
      refine XS.lcmp X8.here hx rfl (hb hby at_107) rfl ?_
      show Steps p.tables e below (T8.setTop (mkF m 108 #[.val (.long fs), .second, .val (.long ts), .second, .val (.long b0), .second, .val (.long b1), .second, .val (.int fg), .val (.long (2305843009213693951 : Int64)), .second, .val (.long fv), .second, .val (.long xv), .second, .val (.ref pv), .val (.int (1 : Int32)), .val (.long b1), .second, .val (.long dv), .second] [(.int (lcmpW dv (2305843009213693951 : Int64)))])) tgt
      refine XS.ifYes X8.here hx rfl (pc0 := 108) (pc' := 113) rfl (hb hby at_108) rfl ((if0 _ _).trans (flt (fun q => z2 ((lw_gt dv (2305843009213693951 : Int64)).mp q))).2.2.2) (by decide) (by decide) ?_
      show Steps p.tables e below (T8.setTop (mkF m 113 #[.val (.long fs), .second, .val (.long ts), .second, .val (.long b0), .second, .val (.long b1), .second, .val (.int fg), .val (.long (2305843009213693951 : Int64)), .second, .val (.long fv), .second, .val (.long xv), .second, .val (.ref pv), .val (.int (1 : Int32)), .val (.long b1), .second, .val (.long dv), .second] [])) tgt
      refine XS.lload X8.here hx rfl (hb hby at_113) rfl ?_
      show Steps p.tables e below (T8.setTop (mkF m 115 #[.val (.long fs), .second, .val (.long ts), .second, .val (.long b0), .second, .val (.long b1), .second, .val (.int fg), .val (.long (2305843009213693951 : Int64)), .second, .val (.long fv), .second, .val (.long xv), .second, .val (.ref pv), .val (.int (1 : Int32)), .val (.long b1), .second, .val (.long dv), .second] [(.long dv)])) tgt
      refine XS.lload X8.here hx rfl (hb hby at_115) rfl ?_
      show Steps p.tables e below (T8.setTop (mkF m 117 #[.val (.long fs), .second, .val (.long ts), .second, .val (.long b0), .second, .val (.long b1), .second, .val (.int fg), .val (.long (2305843009213693951 : Int64)), .second, .val (.long fv), .second, .val (.long xv), .second, .val (.ref pv), .val (.int (1 : Int32)), .val (.long b1), .second, .val (.long dv), .second] [(.long (2305843009213693951 : Int64)), (.long dv)])) tgt
      refine XS.lcmp X8.here hx rfl (hb hby at_117) rfl ?_
      exact k
    by_cases hc118 : dv < (2305843009213693951 : Int64)
    · skip
      refine own_st (V := T8.setTop (mkF m 147 #[.val (.long fs), .second, .val (.long ts), .second, .val (.long b0), .second, .val (.long b1), .second, .val (.int fg), .val (.long (2305843009213693951 : Int64)), .second, .val (.long fv), .second, .val (.long xv), .second, .val (.ref pv), .val (.int (1 : Int32)), .val (.long b1), .second, .val (.long dv), .second] [(.int (1 : Int32))])) (fun tgt k => ?_) ?_
      · show Steps p.tables e below (T8.setTop (mkF m 118 #[.val (.long fs), .second, .val (.long ts), .second, .val (.long b0), .second, .val (.long b1), .second, .val (.int fg), .val (.long (2305843009213693951 : Int64)), .second, .val (.long fv), .second, .val (.long xv), .second, .val (.ref pv), .val (.int (1 : Int32)), .val (.long b1), .second, .val (.long dv), .second] [(.int (lcmpW dv (2305843009213693951 : Int64)))])) tgt
        refine XS.ifNo X8.here hx rfl (hb hby at_118) rfl ((if0 _ _).trans (tlt ((lw_lt dv (2305843009213693951 : Int64)).mpr hc118)).2.1) ?_
        show Steps p.tables e below (T8.setTop (mkF m 121 #[.val (.long fs), .second, .val (.long ts), .second, .val (.long b0), .second, .val (.long b1), .second, .val (.int fg), .val (.long (2305843009213693951 : Int64)), .second, .val (.long fv), .second, .val (.long xv), .second, .val (.ref pv), .val (.int (1 : Int32)), .val (.long b1), .second, .val (.long dv), .second] [])) tgt
        refine XS.lload X8.here hx rfl (hb hby at_121) rfl ?_
        show Steps p.tables e below (T8.setTop (mkF m 123 #[.val (.long fs), .second, .val (.long ts), .second, .val (.long b0), .second, .val (.long b1), .second, .val (.int fg), .val (.long (2305843009213693951 : Int64)), .second, .val (.long fv), .second, .val (.long xv), .second, .val (.ref pv), .val (.int (1 : Int32)), .val (.long b1), .second, .val (.long dv), .second] [(.long dv)])) tgt
        refine XS.lload X8.here hx rfl (hb hby at_123) rfl ?_
        show Steps p.tables e below (T8.setTop (mkF m 125 #[.val (.long fs), .second, .val (.long ts), .second, .val (.long b0), .second, .val (.long b1), .second, .val (.int fg), .val (.long (2305843009213693951 : Int64)), .second, .val (.long fv), .second, .val (.long xv), .second, .val (.ref pv), .val (.int (1 : Int32)), .val (.long b1), .second, .val (.long dv), .second] [(.long fv), (.long dv)])) tgt
        refine XS.lrem X8.here hx rfl (hb hby at_125) rfl (own_nz64 hf1) ?_
        show Steps p.tables e below (T8.setTop (mkF m 126 #[.val (.long fs), .second, .val (.long ts), .second, .val (.long b0), .second, .val (.long b1), .second, .val (.int fg), .val (.long (2305843009213693951 : Int64)), .second, .val (.long fv), .second, .val (.long xv), .second, .val (.ref pv), .val (.int (1 : Int32)), .val (.long b1), .second, .val (.long dv), .second] [(.long (dv - (dv / fv) * fv))])) tgt
        refine XS.lconst X8.here hx rfl (hb hby at_126) ?_
        show Steps p.tables e below (T8.setTop (mkF m 127 #[.val (.long fs), .second, .val (.long ts), .second, .val (.long b0), .second, .val (.long b1), .second, .val (.int fg), .val (.long (2305843009213693951 : Int64)), .second, .val (.long fv), .second, .val (.long xv), .second, .val (.ref pv), .val (.int (1 : Int32)), .val (.long b1), .second, .val (.long dv), .second] [(.long (0 : Int64)), (.long (dv - (dv / fv) * fv))])) tgt
        refine XS.lcmp X8.here hx rfl (hb hby at_127) rfl ?_
        show Steps p.tables e below (T8.setTop (mkF m 128 #[.val (.long fs), .second, .val (.long ts), .second, .val (.long b0), .second, .val (.long b1), .second, .val (.int fg), .val (.long (2305843009213693951 : Int64)), .second, .val (.long fv), .second, .val (.long xv), .second, .val (.ref pv), .val (.int (1 : Int32)), .val (.long b1), .second, .val (.long dv), .second] [(.int (lcmpW (dv - (dv / fv) * fv) (0 : Int64)))])) tgt
        refine XS.ifNo X8.here hx rfl (hb hby at_128) rfl ((if0 _ _).trans (teq ((lw_eq (dv - (dv / fv) * fv) (0 : Int64)).mpr (z3 hc118).1)).2) ?_
        show Steps p.tables e below (T8.setTop (mkF m 131 #[.val (.long fs), .second, .val (.long ts), .second, .val (.long b0), .second, .val (.long b1), .second, .val (.int fg), .val (.long (2305843009213693951 : Int64)), .second, .val (.long fv), .second, .val (.long xv), .second, .val (.ref pv), .val (.int (1 : Int32)), .val (.long b1), .second, .val (.long dv), .second] [])) tgt
        refine XS.lload X8.here hx rfl (hb hby at_131) rfl ?_
        show Steps p.tables e below (T8.setTop (mkF m 133 #[.val (.long fs), .second, .val (.long ts), .second, .val (.long b0), .second, .val (.long b1), .second, .val (.int fg), .val (.long (2305843009213693951 : Int64)), .second, .val (.long fv), .second, .val (.long xv), .second, .val (.ref pv), .val (.int (1 : Int32)), .val (.long b1), .second, .val (.long dv), .second] [(.long dv)])) tgt
        refine XS.lload X8.here hx rfl (hb hby at_133) rfl ?_
        show Steps p.tables e below (T8.setTop (mkF m 135 #[.val (.long fs), .second, .val (.long ts), .second, .val (.long b0), .second, .val (.long b1), .second, .val (.int fg), .val (.long (2305843009213693951 : Int64)), .second, .val (.long fv), .second, .val (.long xv), .second, .val (.ref pv), .val (.int (1 : Int32)), .val (.long b1), .second, .val (.long dv), .second] [(.long fv), (.long dv)])) tgt
        refine XS.ldiv X8.here hx rfl (hb hby at_135) rfl (own_nz64 hf1) ?_
        show Steps p.tables e below (T8.setTop (mkF m 136 #[.val (.long fs), .second, .val (.long ts), .second, .val (.long b0), .second, .val (.long b1), .second, .val (.int fg), .val (.long (2305843009213693951 : Int64)), .second, .val (.long fv), .second, .val (.long xv), .second, .val (.ref pv), .val (.int (1 : Int32)), .val (.long b1), .second, .val (.long dv), .second] [(.long (dv / fv))])) tgt
        refine XS.lload X8.here hx rfl (hb hby at_136) rfl ?_
        show Steps p.tables e below (T8.setTop (mkF m 138 #[.val (.long fs), .second, .val (.long ts), .second, .val (.long b0), .second, .val (.long b1), .second, .val (.int fg), .val (.long (2305843009213693951 : Int64)), .second, .val (.long fv), .second, .val (.long xv), .second, .val (.ref pv), .val (.int (1 : Int32)), .val (.long b1), .second, .val (.long dv), .second] [(.long xv), (.long (dv / fv))])) tgt
        refine XS.lcmp X8.here hx rfl (hb hby at_138) rfl ?_
        show Steps p.tables e below (T8.setTop (mkF m 139 #[.val (.long fs), .second, .val (.long ts), .second, .val (.long b0), .second, .val (.long b1), .second, .val (.int fg), .val (.long (2305843009213693951 : Int64)), .second, .val (.long fv), .second, .val (.long xv), .second, .val (.ref pv), .val (.int (1 : Int32)), .val (.long b1), .second, .val (.long dv), .second] [(.int (lcmpW (dv / fv) xv))])) tgt
        refine XS.ifNo X8.here hx rfl (hb hby at_139) rfl ((if0 _ _).trans (teq ((lw_eq (dv / fv) xv).mpr (z3 hc118).2)).2) ?_
        show Steps p.tables e below (T8.setTop (mkF m 142 #[.val (.long fs), .second, .val (.long ts), .second, .val (.long b0), .second, .val (.long b1), .second, .val (.int fg), .val (.long (2305843009213693951 : Int64)), .second, .val (.long fv), .second, .val (.long xv), .second, .val (.ref pv), .val (.int (1 : Int32)), .val (.long b1), .second, .val (.long dv), .second] [])) tgt
        refine XS.iconst X8.here hx rfl (hb hby at_142) ?_
        show Steps p.tables e below (T8.setTop (mkF m 143 #[.val (.long fs), .second, .val (.long ts), .second, .val (.long b0), .second, .val (.long b1), .second, .val (.int fg), .val (.long (2305843009213693951 : Int64)), .second, .val (.long fv), .second, .val (.long xv), .second, .val (.ref pv), .val (.int (1 : Int32)), .val (.long b1), .second, .val (.long dv), .second] [(.int (1 : Int32))])) tgt
        refine XS.goto X8.here hx rfl (pc0 := 143) (pc' := 147) rfl (hb hby at_143) (by decide) (by decide) ?_
        exact k
      refine own_retN X8 hx hlk (t := .boolean) (z' := (1 : Int32)) Bd.returns (by simp) rfl (hb hby at_147) ?_ (by decide) (by decide)
      show Q0 Z fs ts b0 b1 fg h0 n0 (some (.int (1 : Int32))) T8.heap _
      rw [K8]
      exact ⟨rfl, N8⟩
    · skip
      refine own_st (V := T8.setTop (mkF m 166 #[.val (.long fs), .second, .val (.long ts), .second, .val (.long b0), .second, .val (.long b1), .second, .val (.int fg), .val (.long (2305843009213693951 : Int64)), .second, .val (.long fv), .second, .val (.long xv), .second, .val (.ref pv), .val (.int (1 : Int32)), .val (.long b1), .second, .val (.long dv), .second] [(.int (1 : Int32))])) (fun tgt k => ?_) ?_
      · show Steps p.tables e below (T8.setTop (mkF m 118 #[.val (.long fs), .second, .val (.long ts), .second, .val (.long b0), .second, .val (.long b1), .second, .val (.int fg), .val (.long (2305843009213693951 : Int64)), .second, .val (.long fv), .second, .val (.long xv), .second, .val (.ref pv), .val (.int (1 : Int32)), .val (.long b1), .second, .val (.long dv), .second] [(.int (lcmpW dv (2305843009213693951 : Int64)))])) tgt
        refine XS.ifYes X8.here hx rfl (pc0 := 118) (pc' := 148) rfl (hb hby at_118) rfl ((if0 _ _).trans (flt (fun q => hc118 ((lw_lt dv (2305843009213693951 : Int64)).mp q))).2.1) (by decide) (by decide) ?_
        show Steps p.tables e below (T8.setTop (mkF m 148 #[.val (.long fs), .second, .val (.long ts), .second, .val (.long b0), .second, .val (.long b1), .second, .val (.int fg), .val (.long (2305843009213693951 : Int64)), .second, .val (.long fv), .second, .val (.long xv), .second, .val (.ref pv), .val (.int (1 : Int32)), .val (.long b1), .second, .val (.long dv), .second] [])) tgt
        refine XS.lload X8.here hx rfl (hb hby at_148) rfl ?_
        show Steps p.tables e below (T8.setTop (mkF m 150 #[.val (.long fs), .second, .val (.long ts), .second, .val (.long b0), .second, .val (.long b1), .second, .val (.int fg), .val (.long (2305843009213693951 : Int64)), .second, .val (.long fv), .second, .val (.long xv), .second, .val (.ref pv), .val (.int (1 : Int32)), .val (.long b1), .second, .val (.long dv), .second] [(.long xv)])) tgt
        refine XS.lload X8.here hx rfl (hb hby at_150) rfl ?_
        show Steps p.tables e below (T8.setTop (mkF m 152 #[.val (.long fs), .second, .val (.long ts), .second, .val (.long b0), .second, .val (.long b1), .second, .val (.int fg), .val (.long (2305843009213693951 : Int64)), .second, .val (.long fv), .second, .val (.long xv), .second, .val (.ref pv), .val (.int (1 : Int32)), .val (.long b1), .second, .val (.long dv), .second] [(.long (2305843009213693951 : Int64)), (.long xv)])) tgt
        refine XS.lconst X8.here hx rfl (hb hby at_152) ?_
        show Steps p.tables e below (T8.setTop (mkF m 153 #[.val (.long fs), .second, .val (.long ts), .second, .val (.long b0), .second, .val (.long b1), .second, .val (.int fg), .val (.long (2305843009213693951 : Int64)), .second, .val (.long fv), .second, .val (.long xv), .second, .val (.ref pv), .val (.int (1 : Int32)), .val (.long b1), .second, .val (.long dv), .second] [(.long (1 : Int64)), (.long (2305843009213693951 : Int64)), (.long xv)])) tgt
        refine XS.lsub X8.here hx rfl (hb hby at_153) rfl ?_
        show Steps p.tables e below (T8.setTop (mkF m 154 #[.val (.long fs), .second, .val (.long ts), .second, .val (.long b0), .second, .val (.long b1), .second, .val (.int fg), .val (.long (2305843009213693951 : Int64)), .second, .val (.long fv), .second, .val (.long xv), .second, .val (.ref pv), .val (.int (1 : Int32)), .val (.long b1), .second, .val (.long dv), .second] [(.long ((2305843009213693951 : Int64) - (1 : Int64))), (.long xv)])) tgt
        refine XS.lload X8.here hx rfl (hb hby at_154) rfl ?_
        show Steps p.tables e below (T8.setTop (mkF m 156 #[.val (.long fs), .second, .val (.long ts), .second, .val (.long b0), .second, .val (.long b1), .second, .val (.int fg), .val (.long (2305843009213693951 : Int64)), .second, .val (.long fv), .second, .val (.long xv), .second, .val (.ref pv), .val (.int (1 : Int32)), .val (.long b1), .second, .val (.long dv), .second] [(.long fv), (.long ((2305843009213693951 : Int64) - (1 : Int64))), (.long xv)])) tgt
        refine XS.ldiv X8.here hx rfl (hb hby at_156) rfl (own_nz64 hf1) ?_
        show Steps p.tables e below (T8.setTop (mkF m 157 #[.val (.long fs), .second, .val (.long ts), .second, .val (.long b0), .second, .val (.long b1), .second, .val (.int fg), .val (.long (2305843009213693951 : Int64)), .second, .val (.long fv), .second, .val (.long xv), .second, .val (.ref pv), .val (.int (1 : Int32)), .val (.long b1), .second, .val (.long dv), .second] [(.long (((2305843009213693951 : Int64) - (1 : Int64)) / fv)), (.long xv)])) tgt
        refine XS.lcmp X8.here hx rfl (hb hby at_157) rfl ?_
        show Steps p.tables e below (T8.setTop (mkF m 158 #[.val (.long fs), .second, .val (.long ts), .second, .val (.long b0), .second, .val (.long b1), .second, .val (.int fg), .val (.long (2305843009213693951 : Int64)), .second, .val (.long fv), .second, .val (.long xv), .second, .val (.ref pv), .val (.int (1 : Int32)), .val (.long b1), .second, .val (.long dv), .second] [(.int (lcmpW xv (((2305843009213693951 : Int64) - (1 : Int64)) / fv)))])) tgt
        refine XS.ifNo X8.here hx rfl (hb hby at_158) rfl ((if0 _ _).trans (tlt ((lw_gt xv (((2305843009213693951 : Int64) - (1 : Int64)) / fv)).mpr (z4 hc118))).2.2.2) ?_
        show Steps p.tables e below (T8.setTop (mkF m 161 #[.val (.long fs), .second, .val (.long ts), .second, .val (.long b0), .second, .val (.long b1), .second, .val (.int fg), .val (.long (2305843009213693951 : Int64)), .second, .val (.long fv), .second, .val (.long xv), .second, .val (.ref pv), .val (.int (1 : Int32)), .val (.long b1), .second, .val (.long dv), .second] [])) tgt
        refine XS.iconst X8.here hx rfl (hb hby at_161) ?_
        show Steps p.tables e below (T8.setTop (mkF m 162 #[.val (.long fs), .second, .val (.long ts), .second, .val (.long b0), .second, .val (.long b1), .second, .val (.int fg), .val (.long (2305843009213693951 : Int64)), .second, .val (.long fv), .second, .val (.long xv), .second, .val (.ref pv), .val (.int (1 : Int32)), .val (.long b1), .second, .val (.long dv), .second] [(.int (1 : Int32))])) tgt
        refine XS.goto X8.here hx rfl (pc0 := 162) (pc' := 166) rfl (hb hby at_162) (by decide) (by decide) ?_
        exact k
      refine own_retN X8 hx hlk (t := .boolean) (z' := (1 : Int32)) Bd.returns (by simp) rfl (hb hby at_166) ?_ (by decide) (by decide)
      show Q0 Z fs ts b0 b1 fg h0 n0 (some (.int (1 : Int32))) T8.heap _
      rw [K8]
      exact ⟨rfl, N8⟩
set_option maxRecDepth 65536 in
set_option maxHeartbeats 40000000 in
theorem comes_1 {Post : Tables → Env → Array Value → State → Outcome → State → Prop} (hpost : ∀ tb e args s v u, (limb_1_1.after args s (.returned v) u = true ∧ limb_1_2.after args s (.returned v) u = true ∧ True) → FrameEnd s (.returned v) u (Jvm.fieldLocs frame_1_writes args s ++ Jvm.arrayLocs frame_1_arrays args s ++ Jvm.staticLocs frame_1_statics s) 16 128 → Post tb e args s (.returned v) u) :
    ArmFor flags0 classFile x code maxLocals ret World_1 tables_1 room_1 Calls_1 rest_1 Pre_1 Post := by
  intro l hfl _ _ p e ha hc hk s m args below hf hA hF happ hP
  obtain ⟨hcalls, hrest, hpre⟩ := hP
  obtain ⟨-, -, -, hnamed, -, -, -, hat⟩ := (Spec.applies_iff hf).mp happ
  obtain ⟨hg, hn⟩ := and_e (Cond.before_iff.mp (show (Jvm.Cond.and given_1 narrow_1).before args s = true from hpre))
  obtain ⟨hcount, g0⟩ := and_e hg
  obtain ⟨a0, g1⟩ := and_e g0
  obtain ⟨a1, g2⟩ := and_e g1
  obtain ⟨a2, g3⟩ := and_e g2
  obtain ⟨a3, g4⟩ := and_e g3
  have a4 := g4
  obtain ⟨w0, w1, w2, w3, w4, rfl⟩ : ∃ w0 w1 w2 w3 w4 : Value, args = #[w0, w1, w2, w3, w4] := by
    have hs : args.size = 5 := by simpa [Cond.value, given_1] using hcount
    obtain ⟨L⟩ := args
    match L, hs with
    | [w0, w1, w2, w3, w4], _ => exact ⟨w0, w1, w2, w3, w4, rfl⟩
  have hw := fun d (hd : d ∈ tables_1) => atoms_spec (ws := Jvm.Cond.code x code maxLocals ret :: tables_1) hat d (List.mem_cons_of_mem _ hd)
  obtain ⟨i0, ei0⟩ := isL_v a0
  obtain rfl : w0 = (.long i0) := Option.some.inj ei0
  obtain ⟨i1, ei1⟩ := isL_v a1
  obtain rfl : w1 = (.long i1) := Option.some.inj ei1
  obtain ⟨i2, ei2⟩ := isL_v a2
  obtain rfl : w2 = (.long i2) := Option.some.inj ei2
  obtain ⟨i3, ei3⟩ := isL_v a3
  obtain rfl : w3 = (.long i3) := Option.some.inj ei3
  obtain ⟨i4, ei4⟩ := is_v a4
  obtain rfl : w4 = (.int i4) := Option.some.inj ei4
  obtain ⟨n, o, h1, h2, h3, _, L, rfl, ⟨rfl, N⟩, hq⟩ := rm0 l s _ hw tables_1 i0 i1 i2 i3 i4 s.heap s.heap.size (Nat.le_refl _) p e ha hc hk s m _ below hf ((Spec.applies_iff_loose hf).mp happ).1 ⟨rfl, State.Warmed39.refl s, rfl⟩ trivial
  refine ⟨n, _, h1, h2, h3, hpost _ _ _ _ _ _ ⟨Cond.after_iff.mpr rfl, Cond.after_iff.mpr (eq_i res_at (Term.int_eval (1)) rfl), trivial⟩ ⟨hq.1, hq.2.1, (hq.2.2.sift fun y hy => Or.inr (N y hy)).mono (by decide) (by decide)⟩⟩
theorem main_1_1 : Claimed_1_1 := comes_1 fun _ _ _ _ _ _ h hF => ⟨h.1, hF⟩
theorem main_1_2 : Claimed_1_2 := comes_1 fun _ _ _ _ _ _ h hF => ⟨h.2.1, hF⟩
end Jvm.Pilot.@@N@@
namespace Jvm.Pilot.@@N@@
open Jvm Jvm.ClassFile Sem Op Lib Jvm.Free Jvm.Stand Jvm.Pilot.@@N@@.Jvm.D
/-! MADE BY PROGRAM (witnessworld.py) out of the Statement's table words and the real class files: 9 classes; the members and pool entries that the words name. The judged class is class 1, her method 1. -/
namespace start1
open Jvm.ClassFile
def u (s : String) : CpInfo := .utf8 (stringToUtf16 s)
/-- a pool by its gaps: so many unusable entries, then the entry; so many at the end -/
def gap : Nat → List CpInfo → List CpInfo
  | 0, r => r
  | n + 1, r => .unusable :: gap n r
def poolList (es : List (Nat × CpInfo)) (last : Nat) : List CpInfo := es.foldr (fun e r => gap e.1 (e.2 :: r)) (gap last [])
def pool (es : List (Nat × CpInfo)) (last : Nat) : Array CpInfo := ⟨poolList es last⟩
def fileOf (pool : Array CpInfo) (this : Nat) (attrs : Array Attribute := #[]) (ms : Array MethodInfo := #[]) (fl : Nat := 33) (sup : Nat := 0) (ifs : Array Nat := #[]) (fds : Array FieldInfo := #[]) : ClassFile where
  minorVersion := 0
  majorVersion := 65
  constantPool := pool
  accessFlags := fl
  thisClass := this
  superClass := sup
  interfaces := ifs
  fields := fds
  methods := ms
  attributes := attrs
def plain (name : String) (sup : Option ClassId) : Class where
  name := name
  kind := .ordinary
  loader := none
  accessFlags := 33
  super := sup
  interfaces := #[]
  cf := none
  fields := #[]
  methods := #[]
  instanceTypes := #[]
  staticTypes := #[]
  resolved := #[]
  callSites := []
  init := .initialized
  statics := none
  mirror := none

def pool0 : Array CpInfo := pool [(5, u "<init>"), (0, u "()V"), (1, .class_ 10), (1, u "java/lang/Object")] 113

def k0c0 : Code := { maxStack := 0, maxLocals := 1, code := object_method_1_code, exceptionTable := #[], attributes := #[] }
def k0m0 : Method := { name := "<init>", desc := "()V", sig := { parameters := [], returnType := none }, accessFlags := 1, code := some k0c0 }
/-- java/lang/Object -/
def k0 : Class := { plain "java/lang/Object" none with
  accessFlags := 33
  interfaces := #[]
  cf := some (fileOf pool0 8 #[] #[{ accessFlags := 1, nameIndex := 5, descriptorIndex := 6, attributes := #[] }] 33 0 #[] #[])
  fields := #[]
  methods := #[k0m0]
  instanceTypes := #[]
  staticTypes := #[]
  resolved := Array.replicate 124 none
  statics := none }

def pool1 : Array CpInfo := pool [(2, .class_ 4), (1, u "java/lang/Object"), (0, u "<init>"), (0, u "()V"), (2, .long 2305843009213693951), (1, .long 9223372036854775807), (1, .class_ 14), (0, u "com/example/headwater/headwater/connectors/ListingPace"), (0, .methodref 13 16), (0, .nameAndType 5 17), (0, u "(JJ)V"), (0, .methodref 13 19), (0, .nameAndType 20 21), (0, u "ended"), (0, u "(J)V"), (0, .methodref 13 23), (0, .nameAndType 24 21), (0, u "began"), (0, .methodref 13 26), (0, .nameAndType 27 28), (0, u "allowedFrom"), (0, u "()J"), (0, .class_ 30), (0, u "com/example/headwater/headwater/connectors/ListingPaceAllowedFromPinLaw"), (2, u "law"), (0, u "(JJJJI)Z")] 3

def k1m0 : Method := { name := "<init>", desc := "()V", sig := { parameters := [], returnType := none }, accessFlags := 1, code := none }
def k1c1 : Code := { maxStack := 6, maxLocals := 21, code := code, exceptionTable := #[], attributes := #[] }
def k1m1 : Method := { name := "law", desc := "(JJJJI)Z", sig := { parameters := [.long, .long, .long, .long, .int], returnType := some .boolean }, accessFlags := 9, code := some k1c1 }
/-- com/example/headwater/headwater/connectors/ListingPaceAllowedFromPinLaw -/
def k1 : Class := { plain "com/example/headwater/headwater/connectors/ListingPaceAllowedFromPinLaw" (some 0) with
  accessFlags := 49
  interfaces := #[]
  cf := some (fileOf pool1 29 #[] #[{ accessFlags := 1, nameIndex := 5, descriptorIndex := 6, attributes := #[] }, { accessFlags := 9, nameIndex := 33, descriptorIndex := 34, attributes := #[] }] 49 2 #[] #[])
  fields := #[]
  methods := #[k1m0, k1m1]
  instanceTypes := #[]
  staticTypes := #[]
  resolved := Array.replicate 38 none
  statics := none }

def pool2 : Array CpInfo := pool [(1, .methodref 2 3), (0, .class_ 4), (0, .nameAndType 5 6), (0, u "java/lang/Object"), (0, u "<init>"), (0, u "()V"), (0, .fieldref 8 9), (0, .class_ 10), (0, .nameAndType 11 12), (0, u "com/example/headwater/headwater/connectors/ListingPace"), (0, u "factor"), (0, u "J"), (0, .fieldref 8 14), (0, .nameAndType 15 12), (0, u "began"), (0, .fieldref 8 17), (0, .nameAndType 18 12), (0, u "took"), (2, .long 2305843009213693951), (1, u "RELISTING_FACTOR"), (3, u "(JJ)V"), (5, u "allowedFrom"), (0, u "()J"), (0, u "(J)V"), (0, u "ended")] 2

def k2c0 : Code := { maxStack := 3, maxLocals := 5, code := prog_29_method_1_code, exceptionTable := #[], attributes := #[] }
def k2m0 : Method := { name := "<init>", desc := "(JJ)V", sig := { parameters := [.long, .long], returnType := none }, accessFlags := 0, code := some k2c0 }
def k2c1 : Code := { maxStack := 8, maxLocals := 3, code := prog_29_method_3_code, exceptionTable := #[], attributes := #[] }
def k2m1 : Method := { name := "allowedFrom", desc := "()J", sig := { parameters := [], returnType := some .long }, accessFlags := 0, code := some k2c1 }
def k2c2 : Code := { maxStack := 3, maxLocals := 3, code := prog_29_method_4_code, exceptionTable := #[], attributes := #[] }
def k2m2 : Method := { name := "began", desc := "(J)V", sig := { parameters := [.long], returnType := none }, accessFlags := 0, code := some k2c2 }
def k2c3 : Code := { maxStack := 5, maxLocals := 3, code := prog_29_method_5_code, exceptionTable := #[], attributes := #[] }
def k2m3 : Method := { name := "ended", desc := "(J)V", sig := { parameters := [.long], returnType := none }, accessFlags := 0, code := some k2c3 }
/-- com/example/headwater/headwater/connectors/ListingPace -/
def k2 : Class := { plain "com/example/headwater/headwater/connectors/ListingPace" (some 0) with
  accessFlags := 48
  interfaces := #[]
  cf := some (fileOf pool2 8 #[] #[{ accessFlags := 0, nameIndex := 5, descriptorIndex := 27, attributes := #[] }, { accessFlags := 0, nameIndex := 33, descriptorIndex := 34, attributes := #[] }, { accessFlags := 0, nameIndex := 15, descriptorIndex := 35, attributes := #[] }, { accessFlags := 0, nameIndex := 36, descriptorIndex := 35, attributes := #[] }] 48 2 #[] #[{ accessFlags := 24, nameIndex := 23, descriptorIndex := 12, attributes := #[] }, { accessFlags := 18, nameIndex := 11, descriptorIndex := 12, attributes := #[] }, { accessFlags := 2, nameIndex := 15, descriptorIndex := 12, attributes := #[] }, { accessFlags := 2, nameIndex := 18, descriptorIndex := 12, attributes := #[] }])
  fields := #[{ name := "RELISTING_FACTOR", type := .long, accessFlags := 24, slot := 0, constantValue := 0 }, { name := "factor", type := .long, accessFlags := 18, slot := 0, constantValue := 0 }, { name := "began", type := .long, accessFlags := 2, slot := 1, constantValue := 0 }, { name := "took", type := .long, accessFlags := 2, slot := 2, constantValue := 0 }]
  methods := #[k2m0, k2m1, k2m2, k2m3]
  instanceTypes := #[.long, .long, .long]
  staticTypes := #[.long]
  resolved := Array.replicate 39 none
  statics := none }

def pool3 : Array CpInfo := pool [(1, u "java/lang/Cloneable"), (0, .class_ 1), (0, u "java/lang/Object"), (0, .class_ 3)] 3

/-- java/lang/Cloneable -/
def k3 : Class := { plain "java/lang/Cloneable" (some 0) with
  accessFlags := 1537
  interfaces := #[]
  cf := some (fileOf pool3 2 #[] #[] 1537 4 #[] #[])
  fields := #[]
  methods := #[]
  instanceTypes := #[]
  staticTypes := #[]
  resolved := Array.replicate 8 none
  statics := none }

def pool4 : Array CpInfo := pool [(1, u "java/io/Serializable"), (0, .class_ 1), (0, u "java/lang/Object"), (0, .class_ 3)] 3

/-- java/io/Serializable -/
def k4 : Class := { plain "java/io/Serializable" (some 0) with
  accessFlags := 1537
  interfaces := #[]
  cf := some (fileOf pool4 2 #[] #[] 1537 4 #[] #[])
  fields := #[]
  methods := #[]
  instanceTypes := #[]
  staticTypes := #[]
  resolved := Array.replicate 8 none
  statics := none }

/-- the primitive byte -/
def k5 : Class := { plain "byte" none with kind := .primitive 'B', accessFlags := 0x411 }
/-- [B -/
def k6 : Class := { plain "[B" (some 0) with kind := .array 5 .byte, interfaces := #[3, 4], accessFlags := 1041 }

/-- the primitive int -/
def k7 : Class := { plain "int" none with kind := .primitive 'I', accessFlags := 0x411 }
/-- [I -/
def k8 : Class := { plain "[I" (some 0) with kind := .array 7 .int, interfaces := #[3, 4], accessFlags := 1041 }

def heap : Heap := #[]
def classes : Array Class := #[k0, k1, k2, k3, k4, k5, k6, k7, k8]
def interned : List (Array UInt16 × Addr) := []
def slotsUsed : Nat := 0
def theMethod : MethodId := ⟨1, 1⟩
def args0 : Array Value := #[.long 5, .long 3, .long 0, .long 7, .int 9]
def aboutOver (below : List Frame) : State where
  vm := { classes := classes, interned := interned.toArray }
  heap := heap
  slotsUsed := slotsUsed
  threads := #[{ frames := .invoking theMethod args0 :: below }]
def below0 : List Frame := [.native { method := ⟨0, 0⟩, args := #[] }]
def about1 : State := aboutOver below0
def p0 : Program := .bare "" "" ""
def e0 : Env := launch0.env 0 0 0
theorem w_frames : about1.frames = Frame.invoking theMethod args0 :: below0 := rfl
set_option maxRecDepth 65536 in
theorem w_args : argsFit about1.vm theMethod args0 = true := by decide +kernel
set_option maxRecDepth 65536 in
theorem w_heap : heapFits about1 = true := by decide +kernel
set_option maxRecDepth 65536 in
theorem w_runnable : about1.curStatus? = some .runnable := by decide +kernel
set_option maxRecDepth 65536 in
theorem w_alone : about1.alone = true := by decide +kernel
set_option maxRecDepth 65536 in
theorem w_named : about1.methodNamed? x = some theMethod := by decide +kernel
set_option maxRecDepth 65536 in
theorem w_hears : about1.hears theMethod below0 = true := by decide +kernel
set_option maxRecDepth 65536 in
theorem w_ripe : about1.ripe theMethod args0 below0 = true := by decide +kernel
theorem w_running : about1.status = .running := rfl
set_option maxRecDepth 65536 in
theorem w_room : about1.hasRoom e0.platform room_1 = true :=
  launch0.hasRoom_least _ room_1 (by decide +kernel) (by decide +kernel) (by decide +kernel) (by decide +kernel) (by decide +kernel) (by decide +kernel)
theorem allAtoms_all (ts : List Jvm.Cond) (a : Array Jvm.Value) (st : Jvm.State) : (allAtoms ts).before a st = ts.all (fun c => c.before a st) := by
  induction ts with
  | nil => rfl
  | cons c t ih =>
    show (Jvm.Cond.and c (allAtoms t)).before a st = _
    rw [Jvm.Cond.before_and, ih, List.all_cons]
def words1 : List Jvm.Cond := Jvm.Cond.code x code maxLocals ret :: tables_1
/-- a 'code' word, met by the world's own term for the bytes: nothing is compared byte by byte -/
theorem code_word {y : MethodName} {bytes : ByteArray} {mx : Nat} {rt : Option FieldType} {a : Array Value} {s : State} {m : MethodId} {meth : Method} {c : Code} (h1 : s.methodNamed? y = some m) (h2 : s.vm.method? m = some meth) (h3 : meth.code = some c) (h4 : c.code = bytes)
    (h5 : (c.maxLocals == mx && c.exceptionTable.isEmpty && decide (c.maxStack ≤ mostOperands) && decide (meth.sig.returnType = rt) && !meth.locks && decide (parseMethodDescriptor y.desc = some meth.sig)) = true) : (Jvm.Cond.code y bytes mx rt).before a s = true := by
  simp only [Bool.and_eq_true, beq_iff_eq, Bool.not_eq_true', decide_eq_true_eq] at h5
  obtain ⟨⟨⟨⟨⟨g1, g2⟩, g3⟩, g4⟩, g5⟩, g6⟩ := h5
  simp [Cond.before, Cond.holds, Cond.value, h1, h2, h3, h4, g1, g2, g3, g4, g5, g6]
def isCode : Jvm.Cond → Bool
  | .code _ _ _ _ => true
  | _ => false
theorem all_split {L : List Jvm.Cond} {P : Jvm.Cond → Bool} (h1 : L.all (fun c => isCode c || P c) = true) (h2 : ∀ c ∈ L.filter isCode, P c = true) : L.all P = true := by
  refine List.all_eq_true.mpr fun c hc => ?_
  have h := List.all_eq_true.mp h1 c hc
  rcases Bool.eq_false_or_eq_true (isCode c) with hi | hi
  · exact h2 c (List.mem_filter.mpr ⟨hc, hi⟩)
  · simpa [hi] using h
set_option maxRecDepth 65536 in
theorem w_c0 : (Jvm.Cond.code x code maxLocals ret).before args0 about1 = true := code_word (m := ⟨1, 1⟩) (meth := k1m1) (c := k1c1) (by decide +kernel) rfl rfl rfl (by decide +kernel)
set_option maxRecDepth 65536 in
theorem w_c1 : (Jvm.Cond.code ({ cls := "com/example/headwater/headwater/connectors/ListingPace", name := "<init>", desc := "(JJ)V" } : Jvm.MethodName) prog_29_method_1_code (5 : Nat) (Option.none : Option Jvm.ClassFile.FieldType)).before args0 about1 = true := code_word (m := ⟨2, 0⟩) (meth := k2m0) (c := k2c0) (by decide +kernel) rfl rfl rfl (by decide +kernel)
set_option maxRecDepth 65536 in
theorem w_c2 : (Jvm.Cond.code ({ cls := "java/lang/Object", name := "<init>", desc := "()V" } : Jvm.MethodName) object_method_1_code (1 : Nat) (Option.none : Option Jvm.ClassFile.FieldType)).before args0 about1 = true := code_word (m := ⟨0, 0⟩) (meth := k0m0) (c := k0c0) (by decide +kernel) rfl rfl rfl (by decide +kernel)
set_option maxRecDepth 65536 in
theorem w_c3 : (Jvm.Cond.code ({ cls := "com/example/headwater/headwater/connectors/ListingPace", name := "ended", desc := "(J)V" } : Jvm.MethodName) prog_29_method_5_code (3 : Nat) (Option.none : Option Jvm.ClassFile.FieldType)).before args0 about1 = true := code_word (m := ⟨2, 3⟩) (meth := k2m3) (c := k2c3) (by decide +kernel) rfl rfl rfl (by decide +kernel)
set_option maxRecDepth 65536 in
theorem w_c4 : (Jvm.Cond.code ({ cls := "com/example/headwater/headwater/connectors/ListingPace", name := "began", desc := "(J)V" } : Jvm.MethodName) prog_29_method_4_code (3 : Nat) (Option.none : Option Jvm.ClassFile.FieldType)).before args0 about1 = true := code_word (m := ⟨2, 2⟩) (meth := k2m2) (c := k2c2) (by decide +kernel) rfl rfl rfl (by decide +kernel)
set_option maxRecDepth 65536 in
theorem w_c5 : (Jvm.Cond.code ({ cls := "com/example/headwater/headwater/connectors/ListingPace", name := "allowedFrom", desc := "()J" } : Jvm.MethodName) prog_29_method_3_code (3 : Nat) (Option.some Jvm.ClassFile.FieldType.long)).before args0 about1 = true := code_word (m := ⟨2, 1⟩) (meth := k2m1) (c := k2c1) (by decide +kernel) rfl rfl rfl (by decide +kernel)
def codes1 : List Jvm.Cond := [Jvm.Cond.code x code maxLocals ret, Jvm.Cond.code ({ cls := "com/example/headwater/headwater/connectors/ListingPace", name := "<init>", desc := "(JJ)V" } : Jvm.MethodName) prog_29_method_1_code (5 : Nat) (Option.none : Option Jvm.ClassFile.FieldType), Jvm.Cond.code ({ cls := "java/lang/Object", name := "<init>", desc := "()V" } : Jvm.MethodName) object_method_1_code (1 : Nat) (Option.none : Option Jvm.ClassFile.FieldType), Jvm.Cond.code ({ cls := "com/example/headwater/headwater/connectors/ListingPace", name := "ended", desc := "(J)V" } : Jvm.MethodName) prog_29_method_5_code (3 : Nat) (Option.none : Option Jvm.ClassFile.FieldType), Jvm.Cond.code ({ cls := "com/example/headwater/headwater/connectors/ListingPace", name := "began", desc := "(J)V" } : Jvm.MethodName) prog_29_method_4_code (3 : Nat) (Option.none : Option Jvm.ClassFile.FieldType), Jvm.Cond.code ({ cls := "com/example/headwater/headwater/connectors/ListingPace", name := "allowedFrom", desc := "()J" } : Jvm.MethodName) prog_29_method_3_code (3 : Nat) (Option.some Jvm.ClassFile.FieldType.long)]
set_option maxRecDepth 65536 in
theorem codes_eq : words1.filter isCode = codes1 := rfl
theorem w_codes : ∀ c ∈ words1.filter isCode, c.before args0 about1 = true := by
  rw [codes_eq]
  intro c hc
  simp only [codes1, List.mem_cons, List.not_mem_nil, or_false] at hc
  rcases hc with rfl | rfl | rfl | rfl | rfl | rfl
  · exact w_c0
  · exact w_c1
  · exact w_c2
  · exact w_c3
  · exact w_c4
  · exact w_c5
set_option maxRecDepth 65536 in
theorem w_t1 : (words1.take 24).all (fun c => isCode c || c.before args0 about1) = true := by decide +kernel
set_option maxRecDepth 65536 in
theorem w_t2 : (words1.drop 24).all (fun c => isCode c || c.before args0 about1) = true := by decide +kernel
theorem w_tables : (allAtoms (Jvm.Cond.code x code maxLocals ret :: tables_1)).before args0 about1 = true := by
  rw [allAtoms_all]
  show words1.all (fun c => c.before args0 about1) = true
  refine all_split ?_ w_codes
  rw [← List.take_append_drop 24 words1, List.all_append, w_t1, w_t2]
  rfl
set_option maxRecDepth 65536 in
theorem w_case : (Jvm.Cond.and given_1 narrow_1).before args0 about1 = true := by decide +kernel
theorem w_applies : (headSpec (Jvm.Cond.code x code maxLocals ret :: tables_1) room_1).applies x e0.platform about1 = true :=
  (Spec.applies_iff w_frames).mpr ⟨w_running, w_runnable, w_alone, w_named, w_hears, w_ripe, w_room, w_tables⟩
theorem atStart : AtStart classFile x code maxLocals ret World_1 tables_1 room_1 Calls_1 rest_1 Pre_1 launch0 p0 e0 about1 theMethod args0 below0 :=
  ⟨lists_1, trivial, launch0.admits_env _ _ _, launch0.least_env, fairChoices_fair.cas, fairChoices_fair.clock, w_frames, w_args, w_heap, w_applies, trivial, trivial, w_case⟩
end start1
theorem witness_1 : WitnessClaimed_1 := ⟨start1.p0, start1.e0, start1.about1, start1.theMethod, start1.args0, start1.below0, start1.atStart⟩
end Jvm.Pilot.@@N@@
