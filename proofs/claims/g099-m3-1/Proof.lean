import JvmDerived
import JvmDerived.Pilot.@@N@@Statement
import JvmDerived.Pilot.@@N@@Code
set_option linter.unusedVariables false
set_option linter.unusedSimpArgs false
namespace Jvm.RoadKit
open Sem ClassFile Op Lib Jvm.Stand Jvm.Free Jvm.LawKit
section Own
variable {p : Program} {l : Launch} {e : Env} {R : Room} {s : State} {m : MethodId} {args : Array Value} {below : List Frame} {meth : Method} {c : Code} {T : State} {locs : List Loc} {cells slots : Nat} {Z : State} {h h' : Heap} {a b : Addr}
/-- from the state U the method runs to its end, and what it leaves is as G says -/
def own_Go (p : Program) (e : Env) (below : List Frame) (G : Outcome → State → Prop) (U : State) : Prop := ∃ s₂ o, Steps p.tables e below U s₂ ∧ s₂.status = .running ∧ Ended s₂ below o ∧ G o s₂
def own_G (s : State) (Q : Option Value → Heap → List Loc → Prop) (C N : Nat) : Outcome → State → Prop := fun o U' => ∃ v L, o = .returned v ∧ Q v U'.heap L ∧ FrameEnd s o U' L C N
theorem own_st {G : Outcome → State → Prop} {U V : State} (hs : ∀ t, Steps p.tables e below V t → Steps p.tables e below U t) (k : own_Go p e below G V) : own_Go p e below G U := by
  obtain ⟨s₂, o, h1, h2⟩ := k
  exact ⟨s₂, o, hs _ h1, h2⟩
theorem own_retI (X : Stand p l e R s m args below meth c T locs cells slots) (hx : p.tables.exec = Jvm.exec) (hlocks : meth.locks = false) {pc : Nat} {Ls : Array Slot} {z : Int32} {rest : List Value} (hret : meth.sig.returnType = some .int) (hd : decode c.code pc = .ok (.ireturn, 1)) {Q : Option Value → Heap → List Loc → Prop} {C N : Nat}
    (hQ : Q (some (.int z)) T.heap locs) (hC : cells ≤ C) (hN : slots ≤ N) : own_Go p e below (own_G s Q C N) (T.setTop (mkF m pc Ls (.int z :: rest))) := by
  obtain ⟨fs, hr, hrun, hended, hW, hsame⟩ := X.leave (v := some (.int z)) (fun h => by rw [hret] at h; cases h)
  refine ⟨_, _, ?_, hrun, hended, _, _, rfl, hQ, ⟨_, rfl⟩, hW, hsame.mono hC hN⟩
  have hm' : T.vm.method? m = some meth := X.method'
  have hn : narrow .int (.int z) = .int z := rfl
  show Steps p.tables e below (T.setTop { method := m, pc := pc, locals := Ls, stack := _ :: rest, locked := none }) _
  jvm_step X.here [X.here.top, hx, hd, hm', hret, hn]
  first | (intro acts; rw [hr _ acts rfl rfl rfl]) | rw [hr _ _ rfl rfl rfl]
  exact Steps.refl _
theorem own_retN (X : Stand p l e R s m args below meth c T locs cells slots) (hx : p.tables.exec = Jvm.exec) (hlocks : meth.locks = false) {pc : Nat} {Ls : Array Slot} {z z' : Int32} {t : FieldType} {rest : List Value} (hret : meth.sig.returnType = some t) (ht : t = .boolean ∨ t = .byte ∨ t = .char ∨ t = .short) (hz : nar t z = z') (hd : decode c.code pc = .ok (.ireturn, 1)) {Q : Option Value → Heap → List Loc → Prop} {C N : Nat}
    (hQ : Q (some (.int z')) T.heap locs) (hC : cells ≤ C) (hN : slots ≤ N) : own_Go p e below (own_G s Q C N) (T.setTop (mkF m pc Ls (.int z :: rest))) := by
  subst hz
  obtain ⟨fs, hr, hrun, hended, hW, hsame⟩ := X.leave (v := some (.int (nar t z))) (fun h => by rw [hret] at h; cases h)
  exact ⟨_, _, retN X hx hret ht hd hr, hrun, hended, _, _, rfl, hQ, ⟨_, rfl⟩, hW, hsame.mono hC hN⟩
theorem own_retJ (X : Stand p l e R s m args below meth c T locs cells slots) (hx : p.tables.exec = Jvm.exec) (hlocks : meth.locks = false) {pc : Nat} {Ls : Array Slot} {z : Int64} (hret : meth.sig.returnType = some .long) (hd : decode c.code pc = .ok (.lreturn, 1)) {Q : Option Value → Heap → List Loc → Prop} {C N : Nat}
    (hQ : Q (some (.long z)) T.heap locs) (hC : cells ≤ C) (hN : slots ≤ N) : own_Go p e below (own_G s Q C N) (T.setTop (mkF m pc Ls [.long z])) := by
  obtain ⟨fs, hr, hrun, hended, hW, hsame⟩ := X.leave (v := some (.long z)) (fun h => by rw [hret] at h; cases h)
  exact ⟨_, _, X.lreturnOut hx hret hd hr, hrun, hended, _, _, rfl, hQ, ⟨_, rfl⟩, hW, hsame.mono hC hN⟩
theorem own_ret0 (X : Stand p l e R s m args below meth c T locs cells slots) (hx : p.tables.exec = Jvm.exec) (hlocks : meth.locks = false) {pc : Nat} {Ls : Array Slot} (hret : meth.sig.returnType = none) (hd : decode c.code pc = .ok (.return_, 1)) {Q : Option Value → Heap → List Loc → Prop} {C N : Nat}
    (hQ : Q none T.heap locs) (hC : cells ≤ C) (hN : slots ≤ N) : own_Go p e below (own_G s Q C N) (T.setTop (mkF m pc Ls [])) := by
  obtain ⟨fs, hr, hrun, hended, hW, hsame⟩ := X.leave (v := none) (fun _ => rfl)
  exact ⟨_, _, X.returnOut hx hret hd hr, hrun, hended, _, _, rfl, hQ, ⟨_, rfl⟩, hW, hsame.mono hC hN⟩
theorem own_cast {locs' : List Loc} {cells' slots' : Nat} (X : Stand p l e R s m args below meth c T locs cells slots) (e1 : locs = locs') (e2 : cells = cells') (e3 : slots = slots') : Stand p l e R s m args below meth c T locs' cells' slots' := by
  subst e1 e2 e3; exact X
theorem own_z0 {i j : Nat} (q : i = 0) : i ≤ j := q ▸ Nat.zero_le j
/-! arrays of ints (or bytes), of longs: their length and their elements by a plain function -/
def own_Ai (Z : State) (h : Heap) (a : Addr) (ty : FieldType) (n : Nat) (f : Nat → Int32) : Prop := ∃ c : Cell, Arr Z h a c ty ∧ c.slots.size = n ∧ ∀ i, i < n → c.slots[i]? = some (.int (f i))
def own_Aj (Z : State) (h : Heap) (a : Addr) (ty : FieldType) (n : Nat) (f : Nat → Int64) : Prop := ∃ c : Cell, Arr Z h a c ty ∧ c.slots.size = n ∧ ∀ i, i < n → c.slots[i]? = some (.long (f i))
def own_up (f : Nat → Int32) (k : Nat) (x : Int32) : Nat → Int32 := fun i => if i = k then x else f i
def own_upJ (f : Nat → Int64) (k : Nat) (x : Int64) : Nat → Int64 := fun i => if i = k then x else f i
theorem own_up_at (f : Nat → Int32) (k : Nat) (x : Int32) (i : Nat) : own_up f k x i = if i = k then x else f i := rfl
theorem own_upJ_at (f : Nat → Int64) (k : Nat) (x : Int64) (i : Nat) : own_upJ f k x i = if i = k then x else f i := rfl
variable {ty : FieldType} {n : Nat} {f : Nat → Int32} {fj : Nat → Int64} {ws : List Addr} {sl : Nat} {v : Value}
theorem own_Ai.lt (F : own_Ai Z h a ty n f) : a < h.size := by obtain ⟨c, A, -⟩ := F; exact A.lt
theorem own_Aj.lt (F : own_Aj Z h a ty n fj) : a < h.size := by obtain ⟨c, A, -⟩ := F; exact A.lt
theorem own_Ai.ext (F : own_Ai Z h a ty n f) (E : Ext h h') : own_Ai Z h' a ty n f := by obtain ⟨c, A, r⟩ := F; exact ⟨c, A.ext E, r⟩
theorem own_Aj.ext (F : own_Aj Z h a ty n fj) (E : Ext h h') : own_Aj Z h' a ty n fj := by obtain ⟨c, A, r⟩ := F; exact ⟨c, A.ext E, r⟩
theorem own_Ai.other (F : own_Ai Z h b ty n f) (W : Wr h h' a sl v) (q : b ≠ a) : own_Ai Z h' b ty n f := by obtain ⟨c, A, r⟩ := F; exact ⟨c, A.other W q, r⟩
theorem own_Aj.other (F : own_Aj Z h b ty n fj) (W : Wr h h' a sl v) (q : b ≠ a) : own_Aj Z h' b ty n fj := by obtain ⟨c, A, r⟩ := F; exact ⟨c, A.other W q, r⟩
theorem own_Ai.keep (F : own_Ai Z h a ty n f) (K : Keep h h' ws) (q : a ∉ ws) : own_Ai Z h' a ty n f := by obtain ⟨c, A, r⟩ := F; exact ⟨c, ⟨K.2.1 a c A.1 q, A.2⟩, r⟩
theorem own_Aj.keep (F : own_Aj Z h a ty n fj) (K : Keep h h' ws) (q : a ∉ ws) : own_Aj Z h' a ty n fj := by obtain ⟨c, A, r⟩ := F; exact ⟨c, ⟨K.2.1 a c A.1 q, A.2⟩, r⟩
theorem own_Ai.neq {a0 : Array Value} {k : Nat} {C : String} (F : own_Ai Z h b ty n f) (E : Exa Z h a C) (wi : (Cond.instantiable C k).before a0 Z = true) : a ≠ b := by obtain ⟨c, A, -⟩ := F; exact ne_arr E wi A
theorem own_Aj.neq {a0 : Array Value} {k : Nat} {C : String} (F : own_Aj Z h b ty n fj) (E : Exa Z h a C) (wi : (Cond.instantiable C k).before a0 Z = true) : a ≠ b := by obtain ⟨c, A, -⟩ := F; exact ne_arr E wi A
theorem own_nat {j : Int32} {k : Nat} (hj : j.toInt = k) : j.toNatClampNeg = k := by simp only [Int32.toNatClampNeg, hj]; rfl
theorem own_in {j : Int32} {k n : Nat} (hj : j.toInt = k) (hk : k < n) : ¬ (j < 0 ∨ n ≤ j.toNatClampNeg) := by
  rw [own_nat hj, Int32.lt_iff_toInt_lt, hj, show (0 : Int32).toInt = 0 from rfl]; omega
theorem own_len {z : Int32} (hz : z.toInt = n) : n.toInt32 = z := by
  have := Int32.toInt_lt z
  exact Int32.toInt_inj.mp (by rw [Int32.toInt_ofNat_small (by omega), hz])
theorem own_iaload (X : Stand p l e R s m args below meth c T locs cells slots) (hx : p.tables.exec = Jvm.exec) (hZ : Z.Warmed39 s.vm) (eT : T.heap = h) (A : own_Ai Z h a .int n f) {j : Int32} {k : Nat} (hj : j.toInt = k) (hk : k < n) {g : JFrame} (hg : g.method = m) {rest : List Value} (hs : g.stack = .int j :: .ref a :: rest) (hd : decode c.code g.pc = .ok (.iaload, 1)) {target : State}
    (hr : Steps p.tables e below (T.setTop { g with pc := g.pc + 1, stack := .int (f k) :: rest }) target) : Steps p.tables e below (T.setTop g) target := by
  obtain ⟨cl, A, S, H⟩ := A
  exact X.iaload hx (j := j) (v := .int (f k)) (by rw [eT]; exact A.1) (State.isArrayOf_alike hZ.alike A.2.1) A.2.2 (by rw [S]; exact own_in hj hk) (by rw [own_nat hj]; exact H k hk) hg hs hd _ hr
theorem own_baload (X : Stand p l e R s m args below meth c T locs cells slots) (hx : p.tables.exec = Jvm.exec) (hZ : Z.Warmed39 s.vm) (eT : T.heap = h) (A : own_Ai Z h a .byte n f) {j : Int32} {k : Nat} (hj : j.toInt = k) (hk : k < n) {g : JFrame} (hg : g.method = m) {rest : List Value} (hs : g.stack = .int j :: .ref a :: rest) (hd : decode c.code g.pc = .ok (.baload, 1)) {target : State}
    (hr : Steps p.tables e below (T.setTop { g with pc := g.pc + 1, stack := .int (f k) :: rest }) target) : Steps p.tables e below (T.setTop g) target := by
  obtain ⟨cl, A, S, H⟩ := A
  exact X.baloadBytes hx (j := j) (v := .int (f k)) (by rw [eT]; exact A.1) (State.isArrayOf_alike hZ.alike A.2.1) A.2.2 (by rw [S]; exact own_in hj hk) (by rw [own_nat hj]; exact H k hk) hg hs hd _ hr
theorem own_laload (X : Stand p l e R s m args below meth c T locs cells slots) (hx : p.tables.exec = Jvm.exec) (hZ : Z.Warmed39 s.vm) (eT : T.heap = h) (A : own_Aj Z h a .long n fj) {j : Int32} {k : Nat} (hj : j.toInt = k) (hk : k < n) {g : JFrame} (hg : g.method = m) {rest : List Value} (hs : g.stack = .int j :: .ref a :: rest) (hd : decode c.code g.pc = .ok (.laload, 1)) {target : State}
    (hr : Steps p.tables e below (T.setTop { g with pc := g.pc + 1, stack := .long (fj k) :: rest }) target) : Steps p.tables e below (T.setTop g) target := by
  obtain ⟨cl, A, S, H⟩ := A
  exact X.laload hx (j := j) (v := .long (fj k)) (by rw [eT]; exact A.1) (State.isArrayOf_alike hZ.alike A.2.1) A.2.2 (by rw [S]; exact own_in hj hk) (by rw [own_nat hj]; exact H k hk) hg hs hd _ hr
theorem own_alen (X : Stand p l e R s m args below meth c T locs cells slots) (hx : p.tables.exec = Jvm.exec) (hZ : Z.Warmed39 s.vm) (eT : T.heap = h) (A : own_Ai Z h a ty n f) {z : Int32} (hz : z.toInt = n) {g : JFrame} (hg : g.method = m) {rest : List Value} (hs : g.stack = .ref a :: rest) (hd : decode c.code g.pc = .ok (.arraylength, 1)) {target : State}
    (hr : Steps p.tables e below (T.setTop { g with pc := g.pc + 1, stack := .int z :: rest }) target) : Steps p.tables e below (T.setTop g) target := by
  obtain ⟨cl, A, S, H⟩ := A
  refine X.arraylength hx (by rw [eT]; exact A.1) (State.isArrayOf_alike hZ.alike A.2.1) hg hs hd _ ?_
  rw [S, own_len hz]; exact hr
theorem own_Ai.set (F : own_Ai Z h a ty n f) {j : Nat} {x : Int32} (W : Wr h h' a j (.int x)) : own_Ai Z h' a ty n (own_up f j x) := by
  obtain ⟨cl, A, S, H⟩ := F
  refine ⟨_, A.same W, by rw [sz_set]; exact S, fun i hi => ?_⟩
  rw [own_up_at]
  by_cases q : i = j
  · subst q
    rw [if_pos rfl]
    simp [Cell.setSlot, S, hi]
  · rw [if_neg q, show (cl.setSlot j (.int x)).slots[i]? = cl.slots[i]? from Array.getElem?_setIfInBounds_ne (Ne.symm q)]
    exact H i hi
theorem own_Aj.set (F : own_Aj Z h a ty n fj) {j : Nat} {x : Int64} (W : Wr h h' a j (.long x)) : own_Aj Z h' a ty n (own_upJ fj j x) := by
  obtain ⟨cl, A, S, H⟩ := F
  refine ⟨_, A.same W, by rw [sz_set]; exact S, fun i hi => ?_⟩
  rw [own_upJ_at]
  by_cases q : i = j
  · subst q
    rw [if_pos rfl]
    simp [Cell.setSlot, S, hi]
  · rw [if_neg q, show (cl.setSlot j (.long x)).slots[i]? = cl.slots[i]? from Array.getElem?_setIfInBounds_ne (Ne.symm q)]
    exact H i hi
theorem own_iastore (X : Stand p l e R s m args below meth c T locs cells slots) (hx : p.tables.exec = Jvm.exec) (hZ : Z.Warmed39 s.vm) (eT : T.heap = h) (A : own_Ai Z h a .int n f) {j x : Int32} {k : Nat} (hj : j.toInt = k) (hk : k < n) {g : JFrame} (hg : g.method = m) {rest : List Value} (hs : g.stack = .int x :: .int j :: .ref a :: rest) (hd : decode c.code g.pc = .ok (.iastore, 1)) :
    ∃ T' h', Stand p l e R s m args below meth c T' (locs ++ [⟨a, k⟩]) cells slots ∧ T'.heap = h' ∧ Wr h h' a k (.int x) ∧ own_Ai Z h' a .int n (own_up f k x) ∧ ∀ target, Steps p.tables e below (T'.setTop { g with pc := g.pc + 1, stack := rest }) target → Steps p.tables e below (T.setTop g) target := by
  obtain ⟨cl, B, S, H⟩ := id A
  obtain ⟨T', h', X', e', W, st⟩ := stI X hx hZ eT B (j := j) (x := x) (by rw [S]; exact own_in hj hk) hg hs hd
  rw [own_nat hj] at X' W
  exact ⟨T', h', X', e', W, A.set W, st⟩
theorem own_bastore (X : Stand p l e R s m args below meth c T locs cells slots) (hx : p.tables.exec = Jvm.exec) (hZ : Z.Warmed39 s.vm) (eT : T.heap = h) (A : own_Ai Z h a .byte n f) {j x : Int32} {k : Nat} (hj : j.toInt = k) (hk : k < n) {g : JFrame} (hg : g.method = m) {rest : List Value} (hs : g.stack = .int x :: .int j :: .ref a :: rest) (hd : decode c.code g.pc = .ok (.bastore, 1)) :
    ∃ T' h', Stand p l e R s m args below meth c T' (locs ++ [⟨a, k⟩]) cells slots ∧ T'.heap = h' ∧ Wr h h' a k (.int x.toInt8.toInt32) ∧ own_Ai Z h' a .byte n (own_up f k x.toInt8.toInt32) ∧ ∀ target, Steps p.tables e below (T'.setTop { g with pc := g.pc + 1, stack := rest }) target → Steps p.tables e below (T.setTop g) target := by
  obtain ⟨cl, B, S, H⟩ := id A
  obtain ⟨T', h', X', e', W, st⟩ := stB X hx hZ eT B (j := j) (x := x) (by rw [S]; exact own_in hj hk) hg hs hd
  rw [own_nat hj] at X' W
  exact ⟨T', h', X', e', W, A.set W, st⟩
theorem own_lastore (X : Stand p l e R s m args below meth c T locs cells slots) (hx : p.tables.exec = Jvm.exec) (hZ : Z.Warmed39 s.vm) (eT : T.heap = h) (A : own_Aj Z h a .long n fj) {j : Int32} {x : Int64} {k : Nat} (hj : j.toInt = k) (hk : k < n) {g : JFrame} (hg : g.method = m) {rest : List Value} (hs : g.stack = .long x :: .int j :: .ref a :: rest) (hd : decode c.code g.pc = .ok (.lastore, 1)) :
    ∃ T' h', Stand p l e R s m args below meth c T' (locs ++ [⟨a, k⟩]) cells slots ∧ T'.heap = h' ∧ Wr h h' a k (.long x) ∧ own_Aj Z h' a .long n (own_upJ fj k x) ∧ ∀ target, Steps p.tables e below (T'.setTop { g with pc := g.pc + 1, stack := rest }) target → Steps p.tables e below (T.setTop g) target := by
  obtain ⟨cl, B, S, H⟩ := id A
  obtain ⟨T', h', X', e', W, st⟩ := stJ X hx hZ eT B (j := j) (x := x) (by rw [S]; exact own_in hj hk) hg hs hd
  rw [own_nat hj] at X' W
  exact ⟨T', h', X', e', W, A.set W, st⟩
theorem own_newarr (X : Stand p l e R s m args below meth c T locs cells slots) (hx : p.tables.exec = Jvm.exec) (hZ : Z.Warmed39 s.vm) {a0 : Array Value} {aty : ArrayType} (w : (Cond.arrayClass (newarray.typeOf aty)).before a0 Z = true) (eT : T.heap = h) {g : JFrame} (hg : g.method = m) (hd : decode c.code g.pc = .ok (.newarray aty, 2)) {z : Int32} {rest : List Value} (hs : g.stack = .int z :: rest) {k : Nat}
    (hz : z.toInt = k) {cap : Nat} (hcap : k ≤ cap) (hb : cap * 8 ≤ 536870912) (hc : cells + 1 ≤ R.cells) (hl : slots + cap ≤ R.slots) :
    ∃ T' h' cl, Stand p l e R s m args below meth c T' locs (cells + 1) (slots + cap) ∧ T'.heap = h' ∧ Ext h h' ∧ (Arr Z h' h.size cl (newarray.typeOf aty) ∧ cl.slots = Array.replicate k (defaultValue (newarray.typeOf aty))) ∧
      ∀ target, Steps p.tables e below (T'.setTop { g with pc := g.pc + 2, stack := .ref h.size :: rest }) target → Steps p.tables e below (T.setTop g) target := by
  have hn : ¬ z < 0 := by rw [Int32.lt_iff_toInt_lt, hz, show (0 : Int32).toInt = 0 from rfl]; omega
  obtain ⟨T', h', cA, X', e', E, A, st⟩ := newP X hx hZ w eT hg hd hs hn (by rw [own_nat hz]; exact hcap) hb hc hl
  exact ⟨T', h', _, X', e', E, ⟨A, by simp [newA, own_nat hz]⟩, st⟩
theorem own_Ai.new {cl : Cell} {k : Nat} (A : Arr Z h a cl ty ∧ cl.slots = Array.replicate k (.int 0)) : own_Ai Z h a ty k (fun _ => 0) :=
  ⟨cl, A.1, by rw [A.2]; simp, fun i hi => by rw [A.2]; simp [hi]⟩
theorem own_Aj.new {cl : Cell} {k : Nat} (A : Arr Z h a cl ty ∧ cl.slots = Array.replicate k (.long 0)) : own_Aj Z h a ty k (fun _ => 0) :=
  ⟨cl, A.1, by rw [A.2]; simp, fun i hi => by rw [A.2]; simp [hi]⟩
theorem own_l_lt (x y : Int64) {b : Bool} (h : if_icmp.holds .lt (lcmpW x y) 0 = b) : ifCond.holds .lt (lcmpW x y) = b := (if0 _ _).trans h
end Own
end Jvm.RoadKit
namespace Jvm.Pilot.@@N@@
open Jvm Jvm.ClassFile Sem Op Lib Jvm.Free Jvm.Stand Jvm.LawKit Jvm.RoadKit Bundle Jvm.Pilot.@@N@@.Jvm.D
def own_count (v : Int64) : Int32 := (if ((v.toUInt64 >>> ((63 : Int32) &&& 0x3f).toInt64.toUInt64).toInt64) = 0 then (if ((v.toUInt64 >>> ((56 : Int32) &&& 0x3f).toInt64.toUInt64).toInt64) = 0 then (if ((v.toUInt64 >>> ((49 : Int32) &&& 0x3f).toInt64.toUInt64).toInt64) = 0 then (if ((v.toUInt64 >>> ((42 : Int32) &&& 0x3f).toInt64.toUInt64).toInt64) = 0 then (if ((v.toUInt64 >>> ((35 : Int32) &&& 0x3f).toInt64.toUInt64).toInt64) = 0 then (if ((v.toUInt64 >>> ((28 : Int32) &&& 0x3f).toInt64.toUInt64).toInt64) = 0 then (if ((v.toUInt64 >>> ((21 : Int32) &&& 0x3f).toInt64.toUInt64).toInt64) = 0 then (if ((v.toUInt64 >>> ((14 : Int32) &&& 0x3f).toInt64.toUInt64).toInt64) = 0 then (if ((v.toUInt64 >>> ((7 : Int32) &&& 0x3f).toInt64.toUInt64).toInt64) = 0 then 1 else (2 : Int32)) else (3 : Int32)) else (4 : Int32)) else (5 : Int32)) else (6 : Int32)) else (7 : Int32)) else (8 : Int32)) else (9 : Int32)) else (10 : Int32))
def own_enc (v : Int64) (i n g : Int32) : Int32 := if i < n - 1 then ((((((v.toUInt64 >>> (((7 : Int32) * i) &&& 0x3f).toInt64.toUInt64).toInt64) &&& 127) ||| 128).toInt32).toInt8.toInt32) else if i = n - 1 then (((((v.toUInt64 >>> (((7 : Int32) * i) &&& 0x3f).toInt64.toUInt64).toInt64) &&& 127).toInt32).toInt8.toInt32) else (((g.toUInt32 >>> (((3 : Int32) * i) &&& 31).toUInt32).toInt32).toInt8.toInt32)
def own_acc (ff : Nat → Int32) (A : Nat) : Nat → Int64
  | 0 => 0
  | j + 1 => own_acc ff A j ||| (((ff (A + j)) &&& 127).toInt64 <<< ((Int32.ofNat (7 * j)) &&& 0x3f).toInt64)
def own_rd (ff : Nat → Int32) (A mm : Nat) : Int64 := own_acc ff A mm ||| ((ff (A + mm)).toInt64 <<< ((Int32.ofNat (7 * mm)) &&& 0x3f).toInt64)
theorem own_acc_s (ff : Nat → Int32) (A j : Nat) : own_acc ff A (j + 1) = own_acc ff A j ||| (((ff (A + j)) &&& 127).toInt64 <<< ((Int32.ofNat (7 * j)) &&& 0x3f).toInt64) := rfl
theorem own_b8 (z : Int32) (h1 : -128 ≤ z.toInt) (h2 : z.toInt < 128) : z.toInt8.toInt32 = z := by
  have q := c_i2b z
  exact Int32.toInt_inj.mp (by omega)
theorem own_b88 (z : Int32) : (z.toInt8.toInt32).toInt8.toInt32 = z.toInt8.toInt32 := by have q := c_i2b z; exact own_b8 _ q.2.1 q.2.2
theorem own_n8 (z : Int32) : nar .byte (z.toInt8.toInt32) = z.toInt8.toInt32 := own_b88 z
theorem own_enc8 (v : Int64) (i n g : Int32) : (own_enc v i n g).toInt8.toInt32 = own_enc v i n g := by
  unfold own_enc; split
  · exact own_b88 _
  · split <;> exact own_b88 _
/-! the number without its sign -/
def own_u (v : Int64) : Nat := v.toBitVec.toNat
theorem own_u_lt (v : Int64) : own_u v < 2 ^ 64 := v.toBitVec.isLt
theorem own_u_inj {x y : Int64} (h : own_u x = own_u y) : x = y := Int64.toBitVec_inj.mp (BitVec.eq_of_toNat_eq h)
theorem own_u_or (x y : Int64) : own_u (x ||| y) = own_u x ||| own_u y := by
  show (x.toBitVec ||| y.toBitVec).toNat = _
  rw [BitVec.toNat_or]; rfl
theorem own_u_int (x : Int64) (h : 0 ≤ x.toInt) : (own_u x : Int) = x.toInt := by
  have q : x.toBitVec.toInt = x.toInt := rfl
  have l := x.toBitVec.isLt
  rw [BitVec.toInt_eq_toNat_cond] at q
  unfold own_u
  split at q <;> omega
theorem own_u_shl (x : Int64) (q : Int32) (k : Nat) (hk : q.toBitVec.toNat % 64 = k) : own_u (x <<< (q &&& 0x3f).toInt64) = own_u x * 2 ^ k % 2 ^ 64 := by
  show (x.toBitVec <<< ((q &&& 0x3f).toInt64.toBitVec.smod 64)).toNat = _
  rw [BitVec.shiftLeft_eq', (sm64 q k hk).1, smod64 k (sm64 q k hk).2, BitVec.toNat_shiftLeft, Nat.shiftLeft_eq]; rfl
theorem own_u_shr (x : Int64) (q : Int32) (k : Nat) (hk : q.toBitVec.toNat % 64 = k) : own_u ((x.toUInt64 >>> (q &&& 0x3f).toInt64.toUInt64).toInt64) = own_u x / 2 ^ k := by
  show (x.toBitVec >>> ((q &&& 0x3f).toInt64.toBitVec % 64)).toNat = x.toBitVec.toNat / 2 ^ k
  have h5 := (sm64 q k hk).2
  rw [BitVec.ushiftRight_eq', BitVec.toNat_ushiftRight, Nat.shiftRight_eq_div_pow, BitVec.toNat_umod, (sm64 q k hk).1, BitVec.toNat_ofNat]; congr 2; show k % 2 ^ 64 % 64 = k; omega
theorem own_u_and (x : Int64) : own_u (x &&& 127) = own_u x % 128 := by
  show (x.toBitVec &&& (127 : Int64).toBitVec).toNat = x.toBitVec.toNat % 128
  rw [BitVec.toNat_and, show (127 : Int64).toBitVec.toNat = 2 ^ 7 - 1 from by decide, Nat.and_two_pow_sub_one_eq_mod]
theorem own_zero (v : Int64) (q : Int32) (k : Nat) (hk : q.toBitVec.toNat % 64 = k) (h : (v.toUInt64 >>> (q &&& 0x3f).toInt64.toUInt64).toInt64 = 0) : own_u v < 2 ^ k := by
  have e := own_u_shr v q k hk
  rw [h, show own_u 0 = 0 from rfl] at e
  exact (Nat.div_eq_zero_iff_lt (Nat.two_pow_pos k)).mp e.symm
theorem own_cnt (v : Int64) : ∃ mm : Nat, mm ≤ 9 ∧ own_count v = Int32.ofNat (mm + 1) ∧ own_u v < 2 ^ (7 * (mm + 1)) := by
  have hl := own_u_lt v
  unfold own_count
  split
  · split
    · split
      · split
        · split
          · split
            · split
              · split
                · split
                  · exact ⟨0, by decide, rfl, own_zero v 7 7 (by decide) (by assumption)⟩
                  · exact ⟨1, by decide, rfl, own_zero v 14 14 (by decide) (by assumption)⟩
                · exact ⟨2, by decide, rfl, own_zero v 21 21 (by decide) (by assumption)⟩
              · exact ⟨3, by decide, rfl, own_zero v 28 28 (by decide) (by assumption)⟩
            · exact ⟨4, by decide, rfl, own_zero v 35 35 (by decide) (by assumption)⟩
          · exact ⟨5, by decide, rfl, own_zero v 42 42 (by decide) (by assumption)⟩
        · exact ⟨6, by decide, rfl, own_zero v 49 49 (by decide) (by assumption)⟩
      · exact ⟨7, by decide, rfl, own_zero v 56 56 (by decide) (by assumption)⟩
    · exact ⟨8, by decide, rfl, own_zero v 63 63 (by decide) (by assumption)⟩
  · exact ⟨9, by decide, rfl, by omega⟩
theorem own_sh7 : ∀ j : Fin 10, ((7 : Int32) * Int32.ofNat j.val).toBitVec.toNat % 64 = 7 * j.val ∧ (Int32.ofNat (7 * j.val)).toBitVec.toNat % 64 = 7 * j.val := by decide +kernel
theorem own_cmp : ∀ j mm : Fin 10, (Int32.ofNat j.val < Int32.ofNat (mm.val + 1) - 1 ↔ j.val < mm.val) ∧ (Int32.ofNat j.val = Int32.ofNat (mm.val + 1) - 1 ↔ j.val = mm.val) := by decide +kernel
/-- a byte of seven bits, with or without the mark -/
theorem own_byte (W : Int64) : (((((W &&& 127) ||| 128).toInt32).toInt8.toInt32).toInt = ((own_u W % 128 : Nat) : Int) - 128) ∧ ((((W &&& 127).toInt32).toInt8.toInt32).toInt = ((own_u W % 128 : Nat) : Int)) := by
  have e0 : (W &&& 127).toInt = ((own_u W % 128 : Nat) : Int) := by
    have h1 := c_maskL W 127 7 (by decide) (by decide)
    rw [← own_u_and, own_u_int _ (by rw [h1]; omega)]
  have hw : own_u W % 128 < 128 := Nat.mod_lt _ (by decide)
  generalize own_u W % 128 = w at *
  have e1 : (128 : Int64).toInt = 128 := by decide
  have h2 := c_orL' (W &&& 127) 128 7 (by decide) 128 (by decide) (by rw [e1]; decide) (by omega) (by omega)
  rw [e1] at h2
  have r2 := rng64 ((W &&& 127) ||| 128)
  have h3 := c_l2i ((W &&& 127) ||| 128)
  have r3 := rng32 (((W &&& 127) ||| 128).toInt32)
  have h4 := c_i2b (((W &&& 127) ||| 128).toInt32)
  have h5 := c_l2i (W &&& 127)
  have r5 := rng32 ((W &&& 127).toInt32)
  have h6 := c_i2b ((W &&& 127).toInt32)
  omega
theorem own_main (v : Int64) (g : Int32) (F : Nat → Int32) (A mm : Nat) (hm : mm ≤ 9) (hU : own_u v < 2 ^ (7 * (mm + 1))) (hF : ∀ j, j < 10 → F (A + j) = own_enc v (Int32.ofNat j) (Int32.ofNat (mm + 1)) g) :
    (∀ j, j < mm → (F (A + j)).toInt = ((own_u v / 2 ^ (7 * j) % 128 : Nat) : Int) - 128) ∧ (F (A + mm)).toInt = ((own_u v / 2 ^ (7 * mm) % 128 : Nat) : Int) := by
  constructor
  · intro j hj
    have s := (own_sh7 ⟨j, by omega⟩).1
    rw [hF j (by omega)]
    unfold own_enc
    rw [if_pos (((own_cmp ⟨j, by omega⟩ ⟨mm, by omega⟩).1).mpr hj), (own_byte _).1, own_u_shr v _ (7 * j) s]
  · have s := (own_sh7 ⟨mm, by omega⟩).1
    rw [hF mm (by omega)]
    unfold own_enc
    rw [if_neg (fun q => Nat.lt_irrefl _ (((own_cmp ⟨mm, by omega⟩ ⟨mm, by omega⟩).1).mp q)), if_pos (((own_cmp ⟨mm, by omega⟩ ⟨mm, by omega⟩).2).mpr rfl), (own_byte _).2, own_u_shr v _ (7 * mm) s]
theorem own_pow (a : Nat) : 2 ^ (7 * (a + 1)) = 2 ^ (7 * a) * 128 := by rw [Nat.mul_add, Nat.pow_add]
theorem own_join (u j : Nat) : u % 2 ^ (7 * j) ||| (u / 2 ^ (7 * j) % 128) * 2 ^ (7 * j) = u % 2 ^ (7 * (j + 1)) := by
  rw [own_pow, Nat.mod_mul, Nat.or_comm, Nat.mul_comm (u / 2 ^ (7 * j) % 128), ← Nat.two_pow_add_eq_or_of_lt (Nat.mod_lt _ (Nat.two_pow_pos _)), Nat.add_comm]
theorem own_accu (v : Int64) (F : Nat → Int32) (A mm : Nat) (hm : mm ≤ 9) (h1 : ∀ j, j < mm → (F (A + j)).toInt = ((own_u v / 2 ^ (7 * j) % 128 : Nat) : Int) - 128) : ∀ j, j ≤ mm → own_u (own_acc F A j) = own_u v % 2 ^ (7 * j) := by
  intro j
  induction j with
  | zero => intro _; rw [Nat.mul_zero, Nat.pow_zero, Nat.mod_one]; rfl
  | succ j ih =>
    intro hj
    have s := (own_sh7 ⟨j, by omega⟩).2
    have hw : own_u v / 2 ^ (7 * j) % 128 < 128 := Nat.mod_lt _ (by decide)
    have e : (F (A + j) &&& 127).toInt = ((own_u v / 2 ^ (7 * j) % 128 : Nat) : Int) := by
      rw [c_mask (F (A + j)) 127 7 (by decide) (by decide), h1 j (by omega)]
      omega
    have e2 : own_u ((F (A + j) &&& 127).toInt64) = own_u v / 2 ^ (7 * j) % 128 := by
      have q := own_u_int ((F (A + j) &&& 127).toInt64) (by rw [c_i2l, e]; omega)
      rw [c_i2l, e] at q
      omega
    rw [own_acc_s, own_u_or, ih (by omega), own_u_shl _ _ (7 * j) s, e2, Nat.mod_eq_of_lt (b := 2 ^ 64), own_join]
    have : 2 ^ (7 * j) ≤ 2 ^ 56 := Nat.pow_le_pow_right (by decide) (by omega)
    have q : (own_u v / 2 ^ (7 * j) % 128) * 2 ^ (7 * j) ≤ 127 * 2 ^ (7 * j) := Nat.mul_le_mul_right _ (by omega)
    omega
theorem own_law (v : Int64) (F : Nat → Int32) (A mm : Nat) (hm : mm ≤ 9) (hU : own_u v < 2 ^ (7 * (mm + 1))) (h1 : ∀ j, j < mm → (F (A + j)).toInt = ((own_u v / 2 ^ (7 * j) % 128 : Nat) : Int) - 128) (h2 : (F (A + mm)).toInt = ((own_u v / 2 ^ (7 * mm) % 128 : Nat) : Int)) : own_rd F A mm = v := by
  apply own_u_inj
  have s := (own_sh7 ⟨mm, by omega⟩).2
  have e2 : own_u ((F (A + mm)).toInt64) = own_u v / 2 ^ (7 * mm) % 128 := by
    have q := own_u_int ((F (A + mm)).toInt64) (by rw [c_i2l, h2]; omega)
    rw [c_i2l, h2] at q
    omega
  unfold own_rd
  rw [own_u_or, own_accu v F A mm hm h1 mm (Nat.le_refl _), own_u_shl _ _ (7 * mm) s, e2, Nat.mod_eq_of_lt (b := 2 ^ 64), own_join, Nat.mod_eq_of_lt hU]
  have q1 : own_u v / 2 ^ (7 * mm) % 128 * 2 ^ (7 * mm) ≤ own_u v / 2 ^ (7 * mm) * 2 ^ (7 * mm) := Nat.mul_le_mul_right _ (Nat.mod_le _ _)
  exact Nat.lt_of_le_of_lt (Nat.le_trans q1 (Nat.div_mul_le_self _ _)) (own_u_lt v)
theorem own_ai {a i : Int32} {A k : Nat} (h : a.toInt = (A : Int)) (h2 : A < 8) (hi : i.toInt = (k : Int)) (hk : k < 100) : (a + i).toInt = ((A + k : Nat) : Int) := by
  have q := c_iadd a i
  have r := rng32 (a + i)
  omega
theorem own_inc7 (j : Nat) : Int32.ofNat (7 * j) + 7 = Int32.ofNat (7 * (j + 1)) := by
  rw [Nat.mul_add, Int32.ofNat_add]; rfl
theorem own_inc1 {a : Int32} {A : Nat} (h : a.toInt = (A : Int)) (h2 : A < 1000) : (a + 1).toInt = ((A + 1 : Nat) : Int) := by
  have q := c_iadd a 1
  have r := rng32 (a + 1)
  have e1 : (1 : Int32).toInt = 1 := by decide
  rw [e1] at q
  omega
theorem d1_0 : decode method_2_code 0 = .ok (.iconst 1, 1) := by decide +kernel
theorem d1_1 : decode method_2_code 1 = .ok (.istore_n 2, 1) := by decide +kernel
theorem d1_2 : decode method_2_code 2 = .ok (.lload_n 0, 1) := by decide +kernel
theorem d1_3 : decode method_2_code 3 = .ok (.bipush 7, 2) := by decide +kernel
theorem d1_5 : decode method_2_code 5 = .ok (.lushr, 1) := by decide +kernel
theorem d1_6 : decode method_2_code 6 = .ok (.lconst 0, 1) := by decide +kernel
theorem d1_7 : decode method_2_code 7 = .ok (.lcmp, 1) := by decide +kernel
theorem d1_8 : decode method_2_code 8 = .ok (.ifCond .eq 5, 3) := by decide +kernel
theorem d1_11 : decode method_2_code 11 = .ok (.iconst 2, 1) := by decide +kernel
theorem d1_12 : decode method_2_code 12 = .ok (.istore_n 2, 1) := by decide +kernel
theorem d1_13 : decode method_2_code 13 = .ok (.lload_n 0, 1) := by decide +kernel
theorem d1_14 : decode method_2_code 14 = .ok (.bipush 14, 2) := by decide +kernel
theorem d1_16 : decode method_2_code 16 = .ok (.lushr, 1) := by decide +kernel
theorem d1_17 : decode method_2_code 17 = .ok (.lconst 0, 1) := by decide +kernel
theorem d1_18 : decode method_2_code 18 = .ok (.lcmp, 1) := by decide +kernel
theorem d1_19 : decode method_2_code 19 = .ok (.ifCond .eq 5, 3) := by decide +kernel
theorem d1_22 : decode method_2_code 22 = .ok (.iconst 3, 1) := by decide +kernel
theorem d1_23 : decode method_2_code 23 = .ok (.istore_n 2, 1) := by decide +kernel
theorem d1_24 : decode method_2_code 24 = .ok (.lload_n 0, 1) := by decide +kernel
theorem d1_25 : decode method_2_code 25 = .ok (.bipush 21, 2) := by decide +kernel
theorem d1_27 : decode method_2_code 27 = .ok (.lushr, 1) := by decide +kernel
theorem d1_28 : decode method_2_code 28 = .ok (.lconst 0, 1) := by decide +kernel
theorem d1_29 : decode method_2_code 29 = .ok (.lcmp, 1) := by decide +kernel
theorem d1_30 : decode method_2_code 30 = .ok (.ifCond .eq 5, 3) := by decide +kernel
theorem d1_33 : decode method_2_code 33 = .ok (.iconst 4, 1) := by decide +kernel
theorem d1_34 : decode method_2_code 34 = .ok (.istore_n 2, 1) := by decide +kernel
theorem d1_35 : decode method_2_code 35 = .ok (.lload_n 0, 1) := by decide +kernel
theorem d1_36 : decode method_2_code 36 = .ok (.bipush 28, 2) := by decide +kernel
theorem d1_38 : decode method_2_code 38 = .ok (.lushr, 1) := by decide +kernel
theorem d1_39 : decode method_2_code 39 = .ok (.lconst 0, 1) := by decide +kernel
theorem d1_40 : decode method_2_code 40 = .ok (.lcmp, 1) := by decide +kernel
theorem d1_41 : decode method_2_code 41 = .ok (.ifCond .eq 5, 3) := by decide +kernel
theorem d1_44 : decode method_2_code 44 = .ok (.iconst 5, 1) := by decide +kernel
theorem d1_45 : decode method_2_code 45 = .ok (.istore_n 2, 1) := by decide +kernel
theorem d1_46 : decode method_2_code 46 = .ok (.lload_n 0, 1) := by decide +kernel
theorem d1_47 : decode method_2_code 47 = .ok (.bipush 35, 2) := by decide +kernel
theorem d1_49 : decode method_2_code 49 = .ok (.lushr, 1) := by decide +kernel
theorem d1_50 : decode method_2_code 50 = .ok (.lconst 0, 1) := by decide +kernel
theorem d1_51 : decode method_2_code 51 = .ok (.lcmp, 1) := by decide +kernel
theorem d1_52 : decode method_2_code 52 = .ok (.ifCond .eq 6, 3) := by decide +kernel
theorem d1_55 : decode method_2_code 55 = .ok (.bipush 6, 2) := by decide +kernel
theorem d1_57 : decode method_2_code 57 = .ok (.istore_n 2, 1) := by decide +kernel
theorem d1_58 : decode method_2_code 58 = .ok (.lload_n 0, 1) := by decide +kernel
theorem d1_59 : decode method_2_code 59 = .ok (.bipush 42, 2) := by decide +kernel
theorem d1_61 : decode method_2_code 61 = .ok (.lushr, 1) := by decide +kernel
theorem d1_62 : decode method_2_code 62 = .ok (.lconst 0, 1) := by decide +kernel
theorem d1_63 : decode method_2_code 63 = .ok (.lcmp, 1) := by decide +kernel
theorem d1_64 : decode method_2_code 64 = .ok (.ifCond .eq 6, 3) := by decide +kernel
theorem d1_67 : decode method_2_code 67 = .ok (.bipush 7, 2) := by decide +kernel
theorem d1_69 : decode method_2_code 69 = .ok (.istore_n 2, 1) := by decide +kernel
theorem d1_70 : decode method_2_code 70 = .ok (.lload_n 0, 1) := by decide +kernel
theorem d1_71 : decode method_2_code 71 = .ok (.bipush 49, 2) := by decide +kernel
theorem d1_73 : decode method_2_code 73 = .ok (.lushr, 1) := by decide +kernel
theorem d1_74 : decode method_2_code 74 = .ok (.lconst 0, 1) := by decide +kernel
theorem d1_75 : decode method_2_code 75 = .ok (.lcmp, 1) := by decide +kernel
theorem d1_76 : decode method_2_code 76 = .ok (.ifCond .eq 6, 3) := by decide +kernel
theorem d1_79 : decode method_2_code 79 = .ok (.bipush 8, 2) := by decide +kernel
theorem d1_81 : decode method_2_code 81 = .ok (.istore_n 2, 1) := by decide +kernel
theorem d1_82 : decode method_2_code 82 = .ok (.lload_n 0, 1) := by decide +kernel
theorem d1_83 : decode method_2_code 83 = .ok (.bipush 56, 2) := by decide +kernel
theorem d1_85 : decode method_2_code 85 = .ok (.lushr, 1) := by decide +kernel
theorem d1_86 : decode method_2_code 86 = .ok (.lconst 0, 1) := by decide +kernel
theorem d1_87 : decode method_2_code 87 = .ok (.lcmp, 1) := by decide +kernel
theorem d1_88 : decode method_2_code 88 = .ok (.ifCond .eq 6, 3) := by decide +kernel
theorem d1_91 : decode method_2_code 91 = .ok (.bipush 9, 2) := by decide +kernel
theorem d1_93 : decode method_2_code 93 = .ok (.istore_n 2, 1) := by decide +kernel
theorem d1_94 : decode method_2_code 94 = .ok (.lload_n 0, 1) := by decide +kernel
theorem d1_95 : decode method_2_code 95 = .ok (.bipush 63, 2) := by decide +kernel
theorem d1_97 : decode method_2_code 97 = .ok (.lushr, 1) := by decide +kernel
theorem d1_98 : decode method_2_code 98 = .ok (.lconst 0, 1) := by decide +kernel
theorem d1_99 : decode method_2_code 99 = .ok (.lcmp, 1) := by decide +kernel
theorem d1_100 : decode method_2_code 100 = .ok (.ifCond .eq 6, 3) := by decide +kernel
theorem d1_103 : decode method_2_code 103 = .ok (.bipush 10, 2) := by decide +kernel
theorem d1_105 : decode method_2_code 105 = .ok (.istore_n 2, 1) := by decide +kernel
theorem d1_106 : decode method_2_code 106 = .ok (.iload_n 2, 1) := by decide +kernel
theorem d1_107 : decode method_2_code 107 = .ok (.ireturn, 1) := by decide +kernel
theorem pn_1 : plainName "com/example/vestwright/vestwright/census/VarintReadPinLaw" = true := by first | (simp [plainName, overriddenIn]; done) | decide +kernel
theorem ef_1 (m : MethodId) (x0 : Int64) : entryFrame m #[(.long x0)] 3 = mkF m 0 #[.val (.long x0), .second, .unset] [] := by first | (simp [entryFrame, mkF, argsToLocals, Value.category]; done) | rfl
def Q1 (Z : State) (vv : Int64) (h0 : Heap) (n0 : Nat) (v : Option Value) (h : Heap) (L : List Loc) : Prop := v = some (.int (own_count vv)) ∧ Fr n0 L ∧ h = h0
set_option maxRecDepth 65536 in
set_option maxHeartbeats 40000000 in
theorem rm1 (l : Launch) (Z : State) (a0 : Array Value) (hw : ∀ d ∈ tables_1, d.before a0 Z = true) (ws : List Jvm.Cond) (vv : Int64) (h0 : Heap) (n0 : Nat) (Z0 : n0 ≤ h0.size) :
    MetFree l (⟨"com/example/vestwright/vestwright/census/VarintReadPinLaw", "count", "(J)I"⟩ : MethodName) (head1 (Jvm.Cond.code (⟨"com/example/vestwright/vestwright/census/VarintReadPinLaw", "count", "(J)I"⟩ : MethodName) method_2_code 3 (some .int) :: ws) ({ frames := 0, cells := 0, slots := 0, locals := 0 } : Room)) (fun a U => a = #[(.long vv)] ∧ Z.Warmed39 U.vm ∧ U.heap = h0) (fun _ _ _ _ _ => True) (fun _ U o U' => ∃ v L, o = .returned v ∧ Q1 Z vv h0 n0 v U'.heap L ∧ FrameEnd U o U' L ({ frames := 0, cells := 0, slots := 0, locals := 0 } : Room).cells ({ frames := 0, cells := 0, slots := 0, locals := 0 } : Room).slots) := by
  refine MetFree.of_bodySF (plainFor_of_name pn_1) hisR ?_
  intro p e s m args below meth c s₁ Bd hml0 hP hK
  obtain ⟨rfl, hZ, hh⟩ := hP
  have hx := Bd.exec
  have hby := Bd.bytes
  have hlk : meth.locks = false := BodyLoose.notSynchronized Bd
  have hml : c.maxLocals = 3 := hml0
  have hown : s.vm.findClass "com/example/vestwright/vestwright/census/VarintReadPinLaw" = some m.cls := findClass_of_methodNamed Bd.named
  have hnm := (name_of_methodNamed Bd.named Bd.method).1
  have X0 : Stand p l e ({ frames := 0, cells := 0, slots := 0, locals := 0 } : Room) s m #[(.long vv)] below meth c s₁ [] 0 0 := Stand.of_body Bd
  have e0 : s₁.heap = h0 := by rw [← hh, Bd.state]; rfl
  have N0 := Fr.nil n0
  show own_Go p e below (own_G s (Q1 Z vv h0 n0) ({ frames := 0, cells := 0, slots := 0, locals := 0 } : Room).cells ({ frames := 0, cells := 0, slots := 0, locals := 0 } : Room).slots) (s₁.setTop (entryFrame m #[(.long vv)] 3))
  refine own_st (fun tgt k => castTop (ef_1 m vv) k) ?_
  show own_Go p e below _ (s₁.setTop (mkF m 0 #[.val (.long vv), .second, .unset] []))
  refine own_st (V := s₁.setTop (mkF m 8 #[.val (.long vv), .second, .val (.int (1 : Int32))] [(.int (lcmpW ((vv.toUInt64 >>> ((7 : Int32) &&& 0x3f).toInt64.toUInt64).toInt64) (0 : Int64)))])) (fun tgt k => ?_) ?_
  · show Steps p.tables e below (s₁.setTop (mkF m 0 #[.val (.long vv), .second, .unset] [])) tgt
    refine XS.iconst X0.here hx rfl (hb hby d1_0) ?_
    show Steps p.tables e below (s₁.setTop (mkF m 1 #[.val (.long vv), .second, .unset] [(.int (1 : Int32))])) tgt
    refine XS.istoreN X0.here hx rfl (hb hby d1_1) rfl (l' := #[.val (.long vv), .second, .val (.int (1 : Int32))]) rfl ?_
    show Steps p.tables e below (s₁.setTop (mkF m 2 #[.val (.long vv), .second, .val (.int (1 : Int32))] [])) tgt
    refine XS.lloadN X0.here hx rfl (hb hby d1_2) rfl ?_
    show Steps p.tables e below (s₁.setTop (mkF m 3 #[.val (.long vv), .second, .val (.int (1 : Int32))] [(.long vv)])) tgt
    refine XS.bipush X0.here hx rfl (hb hby d1_3) ?_
    show Steps p.tables e below (s₁.setTop (mkF m 5 #[.val (.long vv), .second, .val (.int (1 : Int32))] [(.int (7 : Int32)), (.long vv)])) tgt
    refine XS.lushr X0.here hx rfl (hb hby d1_5) rfl ?_
    show Steps p.tables e below (s₁.setTop (mkF m 6 #[.val (.long vv), .second, .val (.int (1 : Int32))] [(.long ((vv.toUInt64 >>> ((7 : Int32) &&& 0x3f).toInt64.toUInt64).toInt64))])) tgt
    refine XS.lconst X0.here hx rfl (hb hby d1_6) ?_
    show Steps p.tables e below (s₁.setTop (mkF m 7 #[.val (.long vv), .second, .val (.int (1 : Int32))] [(.long (0 : Int64)), (.long ((vv.toUInt64 >>> ((7 : Int32) &&& 0x3f).toInt64.toUInt64).toInt64))])) tgt
    refine XS.lcmp X0.here hx rfl (hb hby d1_7) rfl ?_
    exact k
  obtain ⟨c0, hc0⟩ : ∃ z : Int32, z = (if ((vv.toUInt64 >>> ((7 : Int32) &&& 0x3f).toInt64.toUInt64).toInt64) = (0 : Int64) then (1 : Int32) else (2 : Int32)) := ⟨_, rfl⟩
  refine own_st (V := s₁.setTop (mkF m 13 #[.val (.long vv), .second, .val (.int c0)] [])) (fun tgt k => ?_) ?_
  · skip
    by_cases hc8_2 : ((vv.toUInt64 >>> ((7 : Int32) &&& 0x3f).toInt64.toUInt64).toInt64) = (0 : Int64)
    · skip
      rw [if_pos hc8_2] at hc0
      show Steps p.tables e below (s₁.setTop (mkF m 8 #[.val (.long vv), .second, .val (.int (1 : Int32))] [(.int (lcmpW ((vv.toUInt64 >>> ((7 : Int32) &&& 0x3f).toInt64.toUInt64).toInt64) (0 : Int64)))])) tgt
      refine XS.ifYes X0.here hx rfl (pc0 := 8) (pc' := 13) rfl (hb hby d1_8) rfl ((if0 _ _).trans (teq ((lw_eq ((vv.toUInt64 >>> ((7 : Int32) &&& 0x3f).toInt64.toUInt64).toInt64) (0 : Int64)).mpr hc8_2)).1) (by decide) (by decide) ?_
      rw [hc0] at k
      exact k
    · skip
      rw [if_neg hc8_2] at hc0
      show Steps p.tables e below (s₁.setTop (mkF m 8 #[.val (.long vv), .second, .val (.int (1 : Int32))] [(.int (lcmpW ((vv.toUInt64 >>> ((7 : Int32) &&& 0x3f).toInt64.toUInt64).toInt64) (0 : Int64)))])) tgt
      refine XS.ifNo X0.here hx rfl (hb hby d1_8) rfl ((if0 _ _).trans (feq (fun q => hc8_2 ((lw_eq ((vv.toUInt64 >>> ((7 : Int32) &&& 0x3f).toInt64.toUInt64).toInt64) (0 : Int64)).mp q))).1) ?_
      show Steps p.tables e below (s₁.setTop (mkF m 11 #[.val (.long vv), .second, .val (.int (1 : Int32))] [])) tgt
      refine XS.iconst X0.here hx rfl (hb hby d1_11) ?_
      show Steps p.tables e below (s₁.setTop (mkF m 12 #[.val (.long vv), .second, .val (.int (1 : Int32))] [(.int (2 : Int32))])) tgt
      refine XS.istoreN X0.here hx rfl (hb hby d1_12) rfl (l' := #[.val (.long vv), .second, .val (.int (2 : Int32))]) rfl ?_
      rw [hc0] at k
      exact k
  refine own_st (V := s₁.setTop (mkF m 19 #[.val (.long vv), .second, .val (.int c0)] [(.int (lcmpW ((vv.toUInt64 >>> ((14 : Int32) &&& 0x3f).toInt64.toUInt64).toInt64) (0 : Int64)))])) (fun tgt k => ?_) ?_
  · show Steps p.tables e below (s₁.setTop (mkF m 13 #[.val (.long vv), .second, .val (.int c0)] [])) tgt
    refine XS.lloadN X0.here hx rfl (hb hby d1_13) rfl ?_
    show Steps p.tables e below (s₁.setTop (mkF m 14 #[.val (.long vv), .second, .val (.int c0)] [(.long vv)])) tgt
    refine XS.bipush X0.here hx rfl (hb hby d1_14) ?_
    show Steps p.tables e below (s₁.setTop (mkF m 16 #[.val (.long vv), .second, .val (.int c0)] [(.int (14 : Int32)), (.long vv)])) tgt
    refine XS.lushr X0.here hx rfl (hb hby d1_16) rfl ?_
    show Steps p.tables e below (s₁.setTop (mkF m 17 #[.val (.long vv), .second, .val (.int c0)] [(.long ((vv.toUInt64 >>> ((14 : Int32) &&& 0x3f).toInt64.toUInt64).toInt64))])) tgt
    refine XS.lconst X0.here hx rfl (hb hby d1_17) ?_
    show Steps p.tables e below (s₁.setTop (mkF m 18 #[.val (.long vv), .second, .val (.int c0)] [(.long (0 : Int64)), (.long ((vv.toUInt64 >>> ((14 : Int32) &&& 0x3f).toInt64.toUInt64).toInt64))])) tgt
    refine XS.lcmp X0.here hx rfl (hb hby d1_18) rfl ?_
    exact k
  obtain ⟨c1, hc1⟩ : ∃ z : Int32, z = (if ((vv.toUInt64 >>> ((14 : Int32) &&& 0x3f).toInt64.toUInt64).toInt64) = (0 : Int64) then c0 else (3 : Int32)) := ⟨_, rfl⟩
  refine own_st (V := s₁.setTop (mkF m 24 #[.val (.long vv), .second, .val (.int c1)] [])) (fun tgt k => ?_) ?_
  · skip
    by_cases hc19_2 : ((vv.toUInt64 >>> ((14 : Int32) &&& 0x3f).toInt64.toUInt64).toInt64) = (0 : Int64)
    · skip
      rw [if_pos hc19_2] at hc1
      show Steps p.tables e below (s₁.setTop (mkF m 19 #[.val (.long vv), .second, .val (.int c0)] [(.int (lcmpW ((vv.toUInt64 >>> ((14 : Int32) &&& 0x3f).toInt64.toUInt64).toInt64) (0 : Int64)))])) tgt
      refine XS.ifYes X0.here hx rfl (pc0 := 19) (pc' := 24) rfl (hb hby d1_19) rfl ((if0 _ _).trans (teq ((lw_eq ((vv.toUInt64 >>> ((14 : Int32) &&& 0x3f).toInt64.toUInt64).toInt64) (0 : Int64)).mpr hc19_2)).1) (by decide) (by decide) ?_
      rw [hc1] at k
      exact k
    · skip
      rw [if_neg hc19_2] at hc1
      show Steps p.tables e below (s₁.setTop (mkF m 19 #[.val (.long vv), .second, .val (.int c0)] [(.int (lcmpW ((vv.toUInt64 >>> ((14 : Int32) &&& 0x3f).toInt64.toUInt64).toInt64) (0 : Int64)))])) tgt
      refine XS.ifNo X0.here hx rfl (hb hby d1_19) rfl ((if0 _ _).trans (feq (fun q => hc19_2 ((lw_eq ((vv.toUInt64 >>> ((14 : Int32) &&& 0x3f).toInt64.toUInt64).toInt64) (0 : Int64)).mp q))).1) ?_
      show Steps p.tables e below (s₁.setTop (mkF m 22 #[.val (.long vv), .second, .val (.int c0)] [])) tgt
      refine XS.iconst X0.here hx rfl (hb hby d1_22) ?_
      show Steps p.tables e below (s₁.setTop (mkF m 23 #[.val (.long vv), .second, .val (.int c0)] [(.int (3 : Int32))])) tgt
      refine XS.istoreN X0.here hx rfl (hb hby d1_23) rfl (l' := #[.val (.long vv), .second, .val (.int (3 : Int32))]) rfl ?_
      rw [hc1] at k
      exact k
  refine own_st (V := s₁.setTop (mkF m 30 #[.val (.long vv), .second, .val (.int c1)] [(.int (lcmpW ((vv.toUInt64 >>> ((21 : Int32) &&& 0x3f).toInt64.toUInt64).toInt64) (0 : Int64)))])) (fun tgt k => ?_) ?_
  · show Steps p.tables e below (s₁.setTop (mkF m 24 #[.val (.long vv), .second, .val (.int c1)] [])) tgt
    refine XS.lloadN X0.here hx rfl (hb hby d1_24) rfl ?_
    show Steps p.tables e below (s₁.setTop (mkF m 25 #[.val (.long vv), .second, .val (.int c1)] [(.long vv)])) tgt
    refine XS.bipush X0.here hx rfl (hb hby d1_25) ?_
    show Steps p.tables e below (s₁.setTop (mkF m 27 #[.val (.long vv), .second, .val (.int c1)] [(.int (21 : Int32)), (.long vv)])) tgt
    refine XS.lushr X0.here hx rfl (hb hby d1_27) rfl ?_
    show Steps p.tables e below (s₁.setTop (mkF m 28 #[.val (.long vv), .second, .val (.int c1)] [(.long ((vv.toUInt64 >>> ((21 : Int32) &&& 0x3f).toInt64.toUInt64).toInt64))])) tgt
    refine XS.lconst X0.here hx rfl (hb hby d1_28) ?_
    show Steps p.tables e below (s₁.setTop (mkF m 29 #[.val (.long vv), .second, .val (.int c1)] [(.long (0 : Int64)), (.long ((vv.toUInt64 >>> ((21 : Int32) &&& 0x3f).toInt64.toUInt64).toInt64))])) tgt
    refine XS.lcmp X0.here hx rfl (hb hby d1_29) rfl ?_
    exact k
  obtain ⟨c2, hc2⟩ : ∃ z : Int32, z = (if ((vv.toUInt64 >>> ((21 : Int32) &&& 0x3f).toInt64.toUInt64).toInt64) = (0 : Int64) then c1 else (4 : Int32)) := ⟨_, rfl⟩
  refine own_st (V := s₁.setTop (mkF m 35 #[.val (.long vv), .second, .val (.int c2)] [])) (fun tgt k => ?_) ?_
  · skip
    by_cases hc30_2 : ((vv.toUInt64 >>> ((21 : Int32) &&& 0x3f).toInt64.toUInt64).toInt64) = (0 : Int64)
    · skip
      rw [if_pos hc30_2] at hc2
      show Steps p.tables e below (s₁.setTop (mkF m 30 #[.val (.long vv), .second, .val (.int c1)] [(.int (lcmpW ((vv.toUInt64 >>> ((21 : Int32) &&& 0x3f).toInt64.toUInt64).toInt64) (0 : Int64)))])) tgt
      refine XS.ifYes X0.here hx rfl (pc0 := 30) (pc' := 35) rfl (hb hby d1_30) rfl ((if0 _ _).trans (teq ((lw_eq ((vv.toUInt64 >>> ((21 : Int32) &&& 0x3f).toInt64.toUInt64).toInt64) (0 : Int64)).mpr hc30_2)).1) (by decide) (by decide) ?_
      rw [hc2] at k
      exact k
    · skip
      rw [if_neg hc30_2] at hc2
      show Steps p.tables e below (s₁.setTop (mkF m 30 #[.val (.long vv), .second, .val (.int c1)] [(.int (lcmpW ((vv.toUInt64 >>> ((21 : Int32) &&& 0x3f).toInt64.toUInt64).toInt64) (0 : Int64)))])) tgt
      refine XS.ifNo X0.here hx rfl (hb hby d1_30) rfl ((if0 _ _).trans (feq (fun q => hc30_2 ((lw_eq ((vv.toUInt64 >>> ((21 : Int32) &&& 0x3f).toInt64.toUInt64).toInt64) (0 : Int64)).mp q))).1) ?_
      show Steps p.tables e below (s₁.setTop (mkF m 33 #[.val (.long vv), .second, .val (.int c1)] [])) tgt
      refine XS.iconst X0.here hx rfl (hb hby d1_33) ?_
      show Steps p.tables e below (s₁.setTop (mkF m 34 #[.val (.long vv), .second, .val (.int c1)] [(.int (4 : Int32))])) tgt
      refine XS.istoreN X0.here hx rfl (hb hby d1_34) rfl (l' := #[.val (.long vv), .second, .val (.int (4 : Int32))]) rfl ?_
      rw [hc2] at k
      exact k
  refine own_st (V := s₁.setTop (mkF m 41 #[.val (.long vv), .second, .val (.int c2)] [(.int (lcmpW ((vv.toUInt64 >>> ((28 : Int32) &&& 0x3f).toInt64.toUInt64).toInt64) (0 : Int64)))])) (fun tgt k => ?_) ?_
  · show Steps p.tables e below (s₁.setTop (mkF m 35 #[.val (.long vv), .second, .val (.int c2)] [])) tgt
    refine XS.lloadN X0.here hx rfl (hb hby d1_35) rfl ?_
    show Steps p.tables e below (s₁.setTop (mkF m 36 #[.val (.long vv), .second, .val (.int c2)] [(.long vv)])) tgt
    refine XS.bipush X0.here hx rfl (hb hby d1_36) ?_
    show Steps p.tables e below (s₁.setTop (mkF m 38 #[.val (.long vv), .second, .val (.int c2)] [(.int (28 : Int32)), (.long vv)])) tgt
    refine XS.lushr X0.here hx rfl (hb hby d1_38) rfl ?_
    show Steps p.tables e below (s₁.setTop (mkF m 39 #[.val (.long vv), .second, .val (.int c2)] [(.long ((vv.toUInt64 >>> ((28 : Int32) &&& 0x3f).toInt64.toUInt64).toInt64))])) tgt
    refine XS.lconst X0.here hx rfl (hb hby d1_39) ?_
    show Steps p.tables e below (s₁.setTop (mkF m 40 #[.val (.long vv), .second, .val (.int c2)] [(.long (0 : Int64)), (.long ((vv.toUInt64 >>> ((28 : Int32) &&& 0x3f).toInt64.toUInt64).toInt64))])) tgt
    refine XS.lcmp X0.here hx rfl (hb hby d1_40) rfl ?_
    exact k
  obtain ⟨c3, hc3⟩ : ∃ z : Int32, z = (if ((vv.toUInt64 >>> ((28 : Int32) &&& 0x3f).toInt64.toUInt64).toInt64) = (0 : Int64) then c2 else (5 : Int32)) := ⟨_, rfl⟩
  refine own_st (V := s₁.setTop (mkF m 46 #[.val (.long vv), .second, .val (.int c3)] [])) (fun tgt k => ?_) ?_
  · skip
    by_cases hc41_2 : ((vv.toUInt64 >>> ((28 : Int32) &&& 0x3f).toInt64.toUInt64).toInt64) = (0 : Int64)
    · skip
      rw [if_pos hc41_2] at hc3
      show Steps p.tables e below (s₁.setTop (mkF m 41 #[.val (.long vv), .second, .val (.int c2)] [(.int (lcmpW ((vv.toUInt64 >>> ((28 : Int32) &&& 0x3f).toInt64.toUInt64).toInt64) (0 : Int64)))])) tgt
      refine XS.ifYes X0.here hx rfl (pc0 := 41) (pc' := 46) rfl (hb hby d1_41) rfl ((if0 _ _).trans (teq ((lw_eq ((vv.toUInt64 >>> ((28 : Int32) &&& 0x3f).toInt64.toUInt64).toInt64) (0 : Int64)).mpr hc41_2)).1) (by decide) (by decide) ?_
      rw [hc3] at k
      exact k
    · skip
      rw [if_neg hc41_2] at hc3
      show Steps p.tables e below (s₁.setTop (mkF m 41 #[.val (.long vv), .second, .val (.int c2)] [(.int (lcmpW ((vv.toUInt64 >>> ((28 : Int32) &&& 0x3f).toInt64.toUInt64).toInt64) (0 : Int64)))])) tgt
      refine XS.ifNo X0.here hx rfl (hb hby d1_41) rfl ((if0 _ _).trans (feq (fun q => hc41_2 ((lw_eq ((vv.toUInt64 >>> ((28 : Int32) &&& 0x3f).toInt64.toUInt64).toInt64) (0 : Int64)).mp q))).1) ?_
      show Steps p.tables e below (s₁.setTop (mkF m 44 #[.val (.long vv), .second, .val (.int c2)] [])) tgt
      refine XS.iconst X0.here hx rfl (hb hby d1_44) ?_
      show Steps p.tables e below (s₁.setTop (mkF m 45 #[.val (.long vv), .second, .val (.int c2)] [(.int (5 : Int32))])) tgt
      refine XS.istoreN X0.here hx rfl (hb hby d1_45) rfl (l' := #[.val (.long vv), .second, .val (.int (5 : Int32))]) rfl ?_
      rw [hc3] at k
      exact k
  refine own_st (V := s₁.setTop (mkF m 52 #[.val (.long vv), .second, .val (.int c3)] [(.int (lcmpW ((vv.toUInt64 >>> ((35 : Int32) &&& 0x3f).toInt64.toUInt64).toInt64) (0 : Int64)))])) (fun tgt k => ?_) ?_
  · show Steps p.tables e below (s₁.setTop (mkF m 46 #[.val (.long vv), .second, .val (.int c3)] [])) tgt
    refine XS.lloadN X0.here hx rfl (hb hby d1_46) rfl ?_
    show Steps p.tables e below (s₁.setTop (mkF m 47 #[.val (.long vv), .second, .val (.int c3)] [(.long vv)])) tgt
    refine XS.bipush X0.here hx rfl (hb hby d1_47) ?_
    show Steps p.tables e below (s₁.setTop (mkF m 49 #[.val (.long vv), .second, .val (.int c3)] [(.int (35 : Int32)), (.long vv)])) tgt
    refine XS.lushr X0.here hx rfl (hb hby d1_49) rfl ?_
    show Steps p.tables e below (s₁.setTop (mkF m 50 #[.val (.long vv), .second, .val (.int c3)] [(.long ((vv.toUInt64 >>> ((35 : Int32) &&& 0x3f).toInt64.toUInt64).toInt64))])) tgt
    refine XS.lconst X0.here hx rfl (hb hby d1_50) ?_
    show Steps p.tables e below (s₁.setTop (mkF m 51 #[.val (.long vv), .second, .val (.int c3)] [(.long (0 : Int64)), (.long ((vv.toUInt64 >>> ((35 : Int32) &&& 0x3f).toInt64.toUInt64).toInt64))])) tgt
    refine XS.lcmp X0.here hx rfl (hb hby d1_51) rfl ?_
    exact k
  obtain ⟨c4, hc4⟩ : ∃ z : Int32, z = (if ((vv.toUInt64 >>> ((35 : Int32) &&& 0x3f).toInt64.toUInt64).toInt64) = (0 : Int64) then c3 else (6 : Int32)) := ⟨_, rfl⟩
  refine own_st (V := s₁.setTop (mkF m 58 #[.val (.long vv), .second, .val (.int c4)] [])) (fun tgt k => ?_) ?_
  · skip
    by_cases hc52_2 : ((vv.toUInt64 >>> ((35 : Int32) &&& 0x3f).toInt64.toUInt64).toInt64) = (0 : Int64)
    · skip
      rw [if_pos hc52_2] at hc4
      show Steps p.tables e below (s₁.setTop (mkF m 52 #[.val (.long vv), .second, .val (.int c3)] [(.int (lcmpW ((vv.toUInt64 >>> ((35 : Int32) &&& 0x3f).toInt64.toUInt64).toInt64) (0 : Int64)))])) tgt
      refine XS.ifYes X0.here hx rfl (pc0 := 52) (pc' := 58) rfl (hb hby d1_52) rfl ((if0 _ _).trans (teq ((lw_eq ((vv.toUInt64 >>> ((35 : Int32) &&& 0x3f).toInt64.toUInt64).toInt64) (0 : Int64)).mpr hc52_2)).1) (by decide) (by decide) ?_
      rw [hc4] at k
      exact k
    · skip
      rw [if_neg hc52_2] at hc4
      show Steps p.tables e below (s₁.setTop (mkF m 52 #[.val (.long vv), .second, .val (.int c3)] [(.int (lcmpW ((vv.toUInt64 >>> ((35 : Int32) &&& 0x3f).toInt64.toUInt64).toInt64) (0 : Int64)))])) tgt
      refine XS.ifNo X0.here hx rfl (hb hby d1_52) rfl ((if0 _ _).trans (feq (fun q => hc52_2 ((lw_eq ((vv.toUInt64 >>> ((35 : Int32) &&& 0x3f).toInt64.toUInt64).toInt64) (0 : Int64)).mp q))).1) ?_
      show Steps p.tables e below (s₁.setTop (mkF m 55 #[.val (.long vv), .second, .val (.int c3)] [])) tgt
      refine XS.bipush X0.here hx rfl (hb hby d1_55) ?_
      show Steps p.tables e below (s₁.setTop (mkF m 57 #[.val (.long vv), .second, .val (.int c3)] [(.int (6 : Int32))])) tgt
      refine XS.istoreN X0.here hx rfl (hb hby d1_57) rfl (l' := #[.val (.long vv), .second, .val (.int (6 : Int32))]) rfl ?_
      rw [hc4] at k
      exact k
  refine own_st (V := s₁.setTop (mkF m 64 #[.val (.long vv), .second, .val (.int c4)] [(.int (lcmpW ((vv.toUInt64 >>> ((42 : Int32) &&& 0x3f).toInt64.toUInt64).toInt64) (0 : Int64)))])) (fun tgt k => ?_) ?_
  · show Steps p.tables e below (s₁.setTop (mkF m 58 #[.val (.long vv), .second, .val (.int c4)] [])) tgt
    refine XS.lloadN X0.here hx rfl (hb hby d1_58) rfl ?_
    show Steps p.tables e below (s₁.setTop (mkF m 59 #[.val (.long vv), .second, .val (.int c4)] [(.long vv)])) tgt
    refine XS.bipush X0.here hx rfl (hb hby d1_59) ?_
    show Steps p.tables e below (s₁.setTop (mkF m 61 #[.val (.long vv), .second, .val (.int c4)] [(.int (42 : Int32)), (.long vv)])) tgt
    refine XS.lushr X0.here hx rfl (hb hby d1_61) rfl ?_
    show Steps p.tables e below (s₁.setTop (mkF m 62 #[.val (.long vv), .second, .val (.int c4)] [(.long ((vv.toUInt64 >>> ((42 : Int32) &&& 0x3f).toInt64.toUInt64).toInt64))])) tgt
    refine XS.lconst X0.here hx rfl (hb hby d1_62) ?_
    show Steps p.tables e below (s₁.setTop (mkF m 63 #[.val (.long vv), .second, .val (.int c4)] [(.long (0 : Int64)), (.long ((vv.toUInt64 >>> ((42 : Int32) &&& 0x3f).toInt64.toUInt64).toInt64))])) tgt
    refine XS.lcmp X0.here hx rfl (hb hby d1_63) rfl ?_
    exact k
  obtain ⟨c5, hc5⟩ : ∃ z : Int32, z = (if ((vv.toUInt64 >>> ((42 : Int32) &&& 0x3f).toInt64.toUInt64).toInt64) = (0 : Int64) then c4 else (7 : Int32)) := ⟨_, rfl⟩
  refine own_st (V := s₁.setTop (mkF m 70 #[.val (.long vv), .second, .val (.int c5)] [])) (fun tgt k => ?_) ?_
  · skip
    by_cases hc64_2 : ((vv.toUInt64 >>> ((42 : Int32) &&& 0x3f).toInt64.toUInt64).toInt64) = (0 : Int64)
    · skip
      rw [if_pos hc64_2] at hc5
      show Steps p.tables e below (s₁.setTop (mkF m 64 #[.val (.long vv), .second, .val (.int c4)] [(.int (lcmpW ((vv.toUInt64 >>> ((42 : Int32) &&& 0x3f).toInt64.toUInt64).toInt64) (0 : Int64)))])) tgt
      refine XS.ifYes X0.here hx rfl (pc0 := 64) (pc' := 70) rfl (hb hby d1_64) rfl ((if0 _ _).trans (teq ((lw_eq ((vv.toUInt64 >>> ((42 : Int32) &&& 0x3f).toInt64.toUInt64).toInt64) (0 : Int64)).mpr hc64_2)).1) (by decide) (by decide) ?_
      rw [hc5] at k
      exact k
    · skip
      rw [if_neg hc64_2] at hc5
      show Steps p.tables e below (s₁.setTop (mkF m 64 #[.val (.long vv), .second, .val (.int c4)] [(.int (lcmpW ((vv.toUInt64 >>> ((42 : Int32) &&& 0x3f).toInt64.toUInt64).toInt64) (0 : Int64)))])) tgt
      refine XS.ifNo X0.here hx rfl (hb hby d1_64) rfl ((if0 _ _).trans (feq (fun q => hc64_2 ((lw_eq ((vv.toUInt64 >>> ((42 : Int32) &&& 0x3f).toInt64.toUInt64).toInt64) (0 : Int64)).mp q))).1) ?_
      show Steps p.tables e below (s₁.setTop (mkF m 67 #[.val (.long vv), .second, .val (.int c4)] [])) tgt
      refine XS.bipush X0.here hx rfl (hb hby d1_67) ?_
      show Steps p.tables e below (s₁.setTop (mkF m 69 #[.val (.long vv), .second, .val (.int c4)] [(.int (7 : Int32))])) tgt
      refine XS.istoreN X0.here hx rfl (hb hby d1_69) rfl (l' := #[.val (.long vv), .second, .val (.int (7 : Int32))]) rfl ?_
      rw [hc5] at k
      exact k
  refine own_st (V := s₁.setTop (mkF m 76 #[.val (.long vv), .second, .val (.int c5)] [(.int (lcmpW ((vv.toUInt64 >>> ((49 : Int32) &&& 0x3f).toInt64.toUInt64).toInt64) (0 : Int64)))])) (fun tgt k => ?_) ?_
  · show Steps p.tables e below (s₁.setTop (mkF m 70 #[.val (.long vv), .second, .val (.int c5)] [])) tgt
    refine XS.lloadN X0.here hx rfl (hb hby d1_70) rfl ?_
    show Steps p.tables e below (s₁.setTop (mkF m 71 #[.val (.long vv), .second, .val (.int c5)] [(.long vv)])) tgt
    refine XS.bipush X0.here hx rfl (hb hby d1_71) ?_
    show Steps p.tables e below (s₁.setTop (mkF m 73 #[.val (.long vv), .second, .val (.int c5)] [(.int (49 : Int32)), (.long vv)])) tgt
    refine XS.lushr X0.here hx rfl (hb hby d1_73) rfl ?_
    show Steps p.tables e below (s₁.setTop (mkF m 74 #[.val (.long vv), .second, .val (.int c5)] [(.long ((vv.toUInt64 >>> ((49 : Int32) &&& 0x3f).toInt64.toUInt64).toInt64))])) tgt
    refine XS.lconst X0.here hx rfl (hb hby d1_74) ?_
    show Steps p.tables e below (s₁.setTop (mkF m 75 #[.val (.long vv), .second, .val (.int c5)] [(.long (0 : Int64)), (.long ((vv.toUInt64 >>> ((49 : Int32) &&& 0x3f).toInt64.toUInt64).toInt64))])) tgt
    refine XS.lcmp X0.here hx rfl (hb hby d1_75) rfl ?_
    exact k
  obtain ⟨c6, hc6⟩ : ∃ z : Int32, z = (if ((vv.toUInt64 >>> ((49 : Int32) &&& 0x3f).toInt64.toUInt64).toInt64) = (0 : Int64) then c5 else (8 : Int32)) := ⟨_, rfl⟩
  refine own_st (V := s₁.setTop (mkF m 82 #[.val (.long vv), .second, .val (.int c6)] [])) (fun tgt k => ?_) ?_
  · skip
    by_cases hc76_2 : ((vv.toUInt64 >>> ((49 : Int32) &&& 0x3f).toInt64.toUInt64).toInt64) = (0 : Int64)
    · skip
      rw [if_pos hc76_2] at hc6
      show Steps p.tables e below (s₁.setTop (mkF m 76 #[.val (.long vv), .second, .val (.int c5)] [(.int (lcmpW ((vv.toUInt64 >>> ((49 : Int32) &&& 0x3f).toInt64.toUInt64).toInt64) (0 : Int64)))])) tgt
      refine XS.ifYes X0.here hx rfl (pc0 := 76) (pc' := 82) rfl (hb hby d1_76) rfl ((if0 _ _).trans (teq ((lw_eq ((vv.toUInt64 >>> ((49 : Int32) &&& 0x3f).toInt64.toUInt64).toInt64) (0 : Int64)).mpr hc76_2)).1) (by decide) (by decide) ?_
      rw [hc6] at k
      exact k
    · skip
      rw [if_neg hc76_2] at hc6
      show Steps p.tables e below (s₁.setTop (mkF m 76 #[.val (.long vv), .second, .val (.int c5)] [(.int (lcmpW ((vv.toUInt64 >>> ((49 : Int32) &&& 0x3f).toInt64.toUInt64).toInt64) (0 : Int64)))])) tgt
      refine XS.ifNo X0.here hx rfl (hb hby d1_76) rfl ((if0 _ _).trans (feq (fun q => hc76_2 ((lw_eq ((vv.toUInt64 >>> ((49 : Int32) &&& 0x3f).toInt64.toUInt64).toInt64) (0 : Int64)).mp q))).1) ?_
      show Steps p.tables e below (s₁.setTop (mkF m 79 #[.val (.long vv), .second, .val (.int c5)] [])) tgt
      refine XS.bipush X0.here hx rfl (hb hby d1_79) ?_
      show Steps p.tables e below (s₁.setTop (mkF m 81 #[.val (.long vv), .second, .val (.int c5)] [(.int (8 : Int32))])) tgt
      refine XS.istoreN X0.here hx rfl (hb hby d1_81) rfl (l' := #[.val (.long vv), .second, .val (.int (8 : Int32))]) rfl ?_
      rw [hc6] at k
      exact k
  refine own_st (V := s₁.setTop (mkF m 88 #[.val (.long vv), .second, .val (.int c6)] [(.int (lcmpW ((vv.toUInt64 >>> ((56 : Int32) &&& 0x3f).toInt64.toUInt64).toInt64) (0 : Int64)))])) (fun tgt k => ?_) ?_
  · show Steps p.tables e below (s₁.setTop (mkF m 82 #[.val (.long vv), .second, .val (.int c6)] [])) tgt
    refine XS.lloadN X0.here hx rfl (hb hby d1_82) rfl ?_
    show Steps p.tables e below (s₁.setTop (mkF m 83 #[.val (.long vv), .second, .val (.int c6)] [(.long vv)])) tgt
    refine XS.bipush X0.here hx rfl (hb hby d1_83) ?_
    show Steps p.tables e below (s₁.setTop (mkF m 85 #[.val (.long vv), .second, .val (.int c6)] [(.int (56 : Int32)), (.long vv)])) tgt
    refine XS.lushr X0.here hx rfl (hb hby d1_85) rfl ?_
    show Steps p.tables e below (s₁.setTop (mkF m 86 #[.val (.long vv), .second, .val (.int c6)] [(.long ((vv.toUInt64 >>> ((56 : Int32) &&& 0x3f).toInt64.toUInt64).toInt64))])) tgt
    refine XS.lconst X0.here hx rfl (hb hby d1_86) ?_
    show Steps p.tables e below (s₁.setTop (mkF m 87 #[.val (.long vv), .second, .val (.int c6)] [(.long (0 : Int64)), (.long ((vv.toUInt64 >>> ((56 : Int32) &&& 0x3f).toInt64.toUInt64).toInt64))])) tgt
    refine XS.lcmp X0.here hx rfl (hb hby d1_87) rfl ?_
    exact k
  obtain ⟨c7, hc7⟩ : ∃ z : Int32, z = (if ((vv.toUInt64 >>> ((56 : Int32) &&& 0x3f).toInt64.toUInt64).toInt64) = (0 : Int64) then c6 else (9 : Int32)) := ⟨_, rfl⟩
  refine own_st (V := s₁.setTop (mkF m 94 #[.val (.long vv), .second, .val (.int c7)] [])) (fun tgt k => ?_) ?_
  · skip
    by_cases hc88_2 : ((vv.toUInt64 >>> ((56 : Int32) &&& 0x3f).toInt64.toUInt64).toInt64) = (0 : Int64)
    · skip
      rw [if_pos hc88_2] at hc7
      show Steps p.tables e below (s₁.setTop (mkF m 88 #[.val (.long vv), .second, .val (.int c6)] [(.int (lcmpW ((vv.toUInt64 >>> ((56 : Int32) &&& 0x3f).toInt64.toUInt64).toInt64) (0 : Int64)))])) tgt
      refine XS.ifYes X0.here hx rfl (pc0 := 88) (pc' := 94) rfl (hb hby d1_88) rfl ((if0 _ _).trans (teq ((lw_eq ((vv.toUInt64 >>> ((56 : Int32) &&& 0x3f).toInt64.toUInt64).toInt64) (0 : Int64)).mpr hc88_2)).1) (by decide) (by decide) ?_
      rw [hc7] at k
      exact k
    · skip
      rw [if_neg hc88_2] at hc7
      show Steps p.tables e below (s₁.setTop (mkF m 88 #[.val (.long vv), .second, .val (.int c6)] [(.int (lcmpW ((vv.toUInt64 >>> ((56 : Int32) &&& 0x3f).toInt64.toUInt64).toInt64) (0 : Int64)))])) tgt
      refine XS.ifNo X0.here hx rfl (hb hby d1_88) rfl ((if0 _ _).trans (feq (fun q => hc88_2 ((lw_eq ((vv.toUInt64 >>> ((56 : Int32) &&& 0x3f).toInt64.toUInt64).toInt64) (0 : Int64)).mp q))).1) ?_
      show Steps p.tables e below (s₁.setTop (mkF m 91 #[.val (.long vv), .second, .val (.int c6)] [])) tgt
      refine XS.bipush X0.here hx rfl (hb hby d1_91) ?_
      show Steps p.tables e below (s₁.setTop (mkF m 93 #[.val (.long vv), .second, .val (.int c6)] [(.int (9 : Int32))])) tgt
      refine XS.istoreN X0.here hx rfl (hb hby d1_93) rfl (l' := #[.val (.long vv), .second, .val (.int (9 : Int32))]) rfl ?_
      rw [hc7] at k
      exact k
  refine own_st (V := s₁.setTop (mkF m 100 #[.val (.long vv), .second, .val (.int c7)] [(.int (lcmpW ((vv.toUInt64 >>> ((63 : Int32) &&& 0x3f).toInt64.toUInt64).toInt64) (0 : Int64)))])) (fun tgt k => ?_) ?_
  · show Steps p.tables e below (s₁.setTop (mkF m 94 #[.val (.long vv), .second, .val (.int c7)] [])) tgt
    refine XS.lloadN X0.here hx rfl (hb hby d1_94) rfl ?_
    show Steps p.tables e below (s₁.setTop (mkF m 95 #[.val (.long vv), .second, .val (.int c7)] [(.long vv)])) tgt
    refine XS.bipush X0.here hx rfl (hb hby d1_95) ?_
    show Steps p.tables e below (s₁.setTop (mkF m 97 #[.val (.long vv), .second, .val (.int c7)] [(.int (63 : Int32)), (.long vv)])) tgt
    refine XS.lushr X0.here hx rfl (hb hby d1_97) rfl ?_
    show Steps p.tables e below (s₁.setTop (mkF m 98 #[.val (.long vv), .second, .val (.int c7)] [(.long ((vv.toUInt64 >>> ((63 : Int32) &&& 0x3f).toInt64.toUInt64).toInt64))])) tgt
    refine XS.lconst X0.here hx rfl (hb hby d1_98) ?_
    show Steps p.tables e below (s₁.setTop (mkF m 99 #[.val (.long vv), .second, .val (.int c7)] [(.long (0 : Int64)), (.long ((vv.toUInt64 >>> ((63 : Int32) &&& 0x3f).toInt64.toUInt64).toInt64))])) tgt
    refine XS.lcmp X0.here hx rfl (hb hby d1_99) rfl ?_
    exact k
  obtain ⟨c8, hc8⟩ : ∃ z : Int32, z = (if ((vv.toUInt64 >>> ((63 : Int32) &&& 0x3f).toInt64.toUInt64).toInt64) = (0 : Int64) then c7 else (10 : Int32)) := ⟨_, rfl⟩
  refine own_st (V := s₁.setTop (mkF m 106 #[.val (.long vv), .second, .val (.int c8)] [])) (fun tgt k => ?_) ?_
  · skip
    by_cases hc100_2 : ((vv.toUInt64 >>> ((63 : Int32) &&& 0x3f).toInt64.toUInt64).toInt64) = (0 : Int64)
    · skip
      rw [if_pos hc100_2] at hc8
      show Steps p.tables e below (s₁.setTop (mkF m 100 #[.val (.long vv), .second, .val (.int c7)] [(.int (lcmpW ((vv.toUInt64 >>> ((63 : Int32) &&& 0x3f).toInt64.toUInt64).toInt64) (0 : Int64)))])) tgt
      refine XS.ifYes X0.here hx rfl (pc0 := 100) (pc' := 106) rfl (hb hby d1_100) rfl ((if0 _ _).trans (teq ((lw_eq ((vv.toUInt64 >>> ((63 : Int32) &&& 0x3f).toInt64.toUInt64).toInt64) (0 : Int64)).mpr hc100_2)).1) (by decide) (by decide) ?_
      rw [hc8] at k
      exact k
    · skip
      rw [if_neg hc100_2] at hc8
      show Steps p.tables e below (s₁.setTop (mkF m 100 #[.val (.long vv), .second, .val (.int c7)] [(.int (lcmpW ((vv.toUInt64 >>> ((63 : Int32) &&& 0x3f).toInt64.toUInt64).toInt64) (0 : Int64)))])) tgt
      refine XS.ifNo X0.here hx rfl (hb hby d1_100) rfl ((if0 _ _).trans (feq (fun q => hc100_2 ((lw_eq ((vv.toUInt64 >>> ((63 : Int32) &&& 0x3f).toInt64.toUInt64).toInt64) (0 : Int64)).mp q))).1) ?_
      show Steps p.tables e below (s₁.setTop (mkF m 103 #[.val (.long vv), .second, .val (.int c7)] [])) tgt
      refine XS.bipush X0.here hx rfl (hb hby d1_103) ?_
      show Steps p.tables e below (s₁.setTop (mkF m 105 #[.val (.long vv), .second, .val (.int c7)] [(.int (10 : Int32))])) tgt
      refine XS.istoreN X0.here hx rfl (hb hby d1_105) rfl (l' := #[.val (.long vv), .second, .val (.int (10 : Int32))]) rfl ?_
      rw [hc8] at k
      exact k
  refine own_st (V := s₁.setTop (mkF m 107 #[.val (.long vv), .second, .val (.int c8)] [(.int c8)])) (fun tgt k => ?_) ?_
  · show Steps p.tables e below (s₁.setTop (mkF m 106 #[.val (.long vv), .second, .val (.int c8)] [])) tgt
    refine XS.iloadN X0.here hx rfl (hb hby d1_106) rfl ?_
    exact k
  refine own_retI X0 hx hlk Bd.returns (hb hby d1_107) ?_ (by decide) (by decide)
  show Q1 Z vv h0 n0 (some (.int c8)) s₁.heap _
  rw [e0]
  refine ⟨?_, N0, rfl⟩
  exact congrArg (fun q => some (Value.int q)) (by rw [hc8, hc7, hc6, hc5, hc4, hc3, hc2, hc1, hc0]; rfl)
theorem d2_0 : decode method_3_code 0 = .ok (.iload_n 2, 1) := by decide +kernel
theorem d2_1 : decode method_3_code 1 = .ok (.iload_n 3, 1) := by decide +kernel
theorem d2_2 : decode method_3_code 2 = .ok (.iconst 1, 1) := by decide +kernel
theorem d2_3 : decode method_3_code 3 = .ok (.isub, 1) := by decide +kernel
theorem d2_4 : decode method_3_code 4 = .ok (.if_icmp .ge 20, 3) := by decide +kernel
theorem d2_7 : decode method_3_code 7 = .ok (.lload_n 0, 1) := by decide +kernel
theorem d2_8 : decode method_3_code 8 = .ok (.bipush 7, 2) := by decide +kernel
theorem d2_10 : decode method_3_code 10 = .ok (.iload_n 2, 1) := by decide +kernel
theorem d2_11 : decode method_3_code 11 = .ok (.imul, 1) := by decide +kernel
theorem d2_12 : decode method_3_code 12 = .ok (.lushr, 1) := by decide +kernel
theorem d2_13 : decode method_3_code 13 = .ok (.ldc2_w 7, 3) := by decide +kernel
theorem d2_16 : decode method_3_code 16 = .ok (.land, 1) := by decide +kernel
theorem d2_17 : decode method_3_code 17 = .ok (.ldc2_w 9, 3) := by decide +kernel
theorem d2_20 : decode method_3_code 20 = .ok (.lor, 1) := by decide +kernel
theorem d2_21 : decode method_3_code 21 = .ok (.l2i, 1) := by decide +kernel
theorem d2_22 : decode method_3_code 22 = .ok (.i2b, 1) := by decide +kernel
theorem d2_23 : decode method_3_code 23 = .ok (.ireturn, 1) := by decide +kernel
theorem d2_24 : decode method_3_code 24 = .ok (.iload_n 2, 1) := by decide +kernel
theorem d2_25 : decode method_3_code 25 = .ok (.iload_n 3, 1) := by decide +kernel
theorem d2_26 : decode method_3_code 26 = .ok (.iconst 1, 1) := by decide +kernel
theorem d2_27 : decode method_3_code 27 = .ok (.isub, 1) := by decide +kernel
theorem d2_28 : decode method_3_code 28 = .ok (.if_icmp .ne 16, 3) := by decide +kernel
theorem d2_31 : decode method_3_code 31 = .ok (.lload_n 0, 1) := by decide +kernel
theorem d2_32 : decode method_3_code 32 = .ok (.bipush 7, 2) := by decide +kernel
theorem d2_34 : decode method_3_code 34 = .ok (.iload_n 2, 1) := by decide +kernel
theorem d2_35 : decode method_3_code 35 = .ok (.imul, 1) := by decide +kernel
theorem d2_36 : decode method_3_code 36 = .ok (.lushr, 1) := by decide +kernel
theorem d2_37 : decode method_3_code 37 = .ok (.ldc2_w 7, 3) := by decide +kernel
theorem d2_40 : decode method_3_code 40 = .ok (.land, 1) := by decide +kernel
theorem d2_41 : decode method_3_code 41 = .ok (.l2i, 1) := by decide +kernel
theorem d2_42 : decode method_3_code 42 = .ok (.i2b, 1) := by decide +kernel
theorem d2_43 : decode method_3_code 43 = .ok (.ireturn, 1) := by decide +kernel
theorem d2_44 : decode method_3_code 44 = .ok (.iload 4, 2) := by decide +kernel
theorem d2_46 : decode method_3_code 46 = .ok (.iconst 3, 1) := by decide +kernel
theorem d2_47 : decode method_3_code 47 = .ok (.iload_n 2, 1) := by decide +kernel
theorem d2_48 : decode method_3_code 48 = .ok (.imul, 1) := by decide +kernel
theorem d2_49 : decode method_3_code 49 = .ok (.iushr, 1) := by decide +kernel
theorem d2_50 : decode method_3_code 50 = .ok (.i2b, 1) := by decide +kernel
theorem d2_51 : decode method_3_code 51 = .ok (.ireturn, 1) := by decide +kernel
theorem pn_2 : plainName "com/example/vestwright/vestwright/census/VarintReadPinLaw" = true := by first | (simp [plainName, overriddenIn]; done) | decide +kernel
theorem ef_2 (m : MethodId) (x0 : Int64) (x1 : Int32) (x2 : Int32) (x3 : Int32) : entryFrame m #[(.long x0), (.int x1), (.int x2), (.int x3)] 5 = mkF m 0 #[.val (.long x0), .second, .val (.int x1), .val (.int x2), .val (.int x3)] [] := by first | (simp [entryFrame, mkF, argsToLocals, Value.category]; done) | rfl
def Q2 (Z : State) (vv : Int64) (xi : Int32) (xn : Int32) (xg : Int32) (h0 : Heap) (n0 : Nat) (v : Option Value) (h : Heap) (L : List Loc) : Prop := v = some (.int (own_enc vv xi xn xg)) ∧ Fr n0 L ∧ h = h0
set_option maxRecDepth 65536 in
set_option maxHeartbeats 40000000 in
theorem rm2 (l : Launch) (Z : State) (a0 : Array Value) (hw : ∀ d ∈ tables_1, d.before a0 Z = true) (ws : List Jvm.Cond) (vv : Int64) (xi : Int32) (xn : Int32) (xg : Int32) (h0 : Heap) (n0 : Nat) (Z0 : n0 ≤ h0.size) :
    MetFree l (⟨"com/example/vestwright/vestwright/census/VarintReadPinLaw", "enc", "(JIII)B"⟩ : MethodName) (head1 (Jvm.Cond.code (⟨"com/example/vestwright/vestwright/census/VarintReadPinLaw", "enc", "(JIII)B"⟩ : MethodName) method_3_code 5 (some .byte) :: ws) ({ frames := 0, cells := 0, slots := 0, locals := 0 } : Room)) (fun a U => a = #[(.long vv), (.int xi), (.int xn), (.int xg)] ∧ Z.Warmed39 U.vm ∧ U.heap = h0) (fun _ _ _ _ _ => True) (fun _ U o U' => ∃ v L, o = .returned v ∧ Q2 Z vv xi xn xg h0 n0 v U'.heap L ∧ FrameEnd U o U' L ({ frames := 0, cells := 0, slots := 0, locals := 0 } : Room).cells ({ frames := 0, cells := 0, slots := 0, locals := 0 } : Room).slots) := by
  refine MetFree.of_bodySF (plainFor_of_name pn_2) hisR ?_
  intro p e s m args below meth c s₁ Bd hml0 hP hK
  obtain ⟨rfl, hZ, hh⟩ := hP
  have hx := Bd.exec
  have hby := Bd.bytes
  have hlk : meth.locks = false := BodyLoose.notSynchronized Bd
  have hml : c.maxLocals = 5 := hml0
  have hown : s.vm.findClass "com/example/vestwright/vestwright/census/VarintReadPinLaw" = some m.cls := findClass_of_methodNamed Bd.named
  have hnm := (name_of_methodNamed Bd.named Bd.method).1
  have X0 : Stand p l e ({ frames := 0, cells := 0, slots := 0, locals := 0 } : Room) s m #[(.long vv), (.int xi), (.int xn), (.int xg)] below meth c s₁ [] 0 0 := Stand.of_body Bd
  have e0 : s₁.heap = h0 := by rw [← hh, Bd.state]; rfl
  have N0 := Fr.nil n0
  show own_Go p e below (own_G s (Q2 Z vv xi xn xg h0 n0) ({ frames := 0, cells := 0, slots := 0, locals := 0 } : Room).cells ({ frames := 0, cells := 0, slots := 0, locals := 0 } : Room).slots) (s₁.setTop (entryFrame m #[(.long vv), (.int xi), (.int xn), (.int xg)] 5))
  refine own_st (fun tgt k => castTop (ef_2 m vv xi xn xg) k) ?_
  show own_Go p e below _ (s₁.setTop (mkF m 0 #[.val (.long vv), .second, .val (.int xi), .val (.int xn), .val (.int xg)] []))
  refine own_st (V := s₁.setTop (mkF m 4 #[.val (.long vv), .second, .val (.int xi), .val (.int xn), .val (.int xg)] [(.int (xn - (1 : Int32))), (.int xi)])) (fun tgt k => ?_) ?_
  · show Steps p.tables e below (s₁.setTop (mkF m 0 #[.val (.long vv), .second, .val (.int xi), .val (.int xn), .val (.int xg)] [])) tgt
    refine XS.iloadN X0.here hx rfl (hb hby d2_0) rfl ?_
    show Steps p.tables e below (s₁.setTop (mkF m 1 #[.val (.long vv), .second, .val (.int xi), .val (.int xn), .val (.int xg)] [(.int xi)])) tgt
    refine XS.iloadN X0.here hx rfl (hb hby d2_1) rfl ?_
    show Steps p.tables e below (s₁.setTop (mkF m 2 #[.val (.long vv), .second, .val (.int xi), .val (.int xn), .val (.int xg)] [(.int xn), (.int xi)])) tgt
    refine XS.iconst X0.here hx rfl (hb hby d2_2) ?_
    show Steps p.tables e below (s₁.setTop (mkF m 3 #[.val (.long vv), .second, .val (.int xi), .val (.int xn), .val (.int xg)] [(.int (1 : Int32)), (.int xn), (.int xi)])) tgt
    refine XS.isub X0.here hx rfl (hb hby d2_3) rfl ?_
    exact k
  by_cases hc4 : xi < (xn - (1 : Int32))
  · skip
    refine own_st (V := s₁.setTop (mkF m 23 #[.val (.long vv), .second, .val (.int xi), .val (.int xn), .val (.int xg)] [(.int ((((((vv.toUInt64 >>> (((7 : Int32) * xi) &&& 0x3f).toInt64.toUInt64).toInt64) &&& (127 : Int64)) ||| (128 : Int64)).toInt32).toInt8.toInt32))])) (fun tgt k => ?_) ?_
    · show Steps p.tables e below (s₁.setTop (mkF m 4 #[.val (.long vv), .second, .val (.int xi), .val (.int xn), .val (.int xg)] [(.int (xn - (1 : Int32))), (.int xi)])) tgt
      refine XS.icmpNo X0.here hx rfl (hb hby d2_4) rfl (tlt hc4).2.1 ?_
      show Steps p.tables e below (s₁.setTop (mkF m 7 #[.val (.long vv), .second, .val (.int xi), .val (.int xn), .val (.int xg)] [])) tgt
      refine XS.lloadN X0.here hx rfl (hb hby d2_7) rfl ?_
      show Steps p.tables e below (s₁.setTop (mkF m 8 #[.val (.long vv), .second, .val (.int xi), .val (.int xn), .val (.int xg)] [(.long vv)])) tgt
      refine XS.bipush X0.here hx rfl (hb hby d2_8) ?_
      show Steps p.tables e below (s₁.setTop (mkF m 10 #[.val (.long vv), .second, .val (.int xi), .val (.int xn), .val (.int xg)] [(.int (7 : Int32)), (.long vv)])) tgt
      refine XS.iloadN X0.here hx rfl (hb hby d2_10) rfl ?_
      show Steps p.tables e below (s₁.setTop (mkF m 11 #[.val (.long vv), .second, .val (.int xi), .val (.int xn), .val (.int xg)] [(.int xi), (.int (7 : Int32)), (.long vv)])) tgt
      refine XS.imul X0.here hx rfl (hb hby d2_11) rfl ?_
      show Steps p.tables e below (s₁.setTop (mkF m 12 #[.val (.long vv), .second, .val (.int xi), .val (.int xn), .val (.int xg)] [(.int ((7 : Int32) * xi)), (.long vv)])) tgt
      refine XS.lushr X0.here hx rfl (hb hby d2_12) rfl ?_
      show Steps p.tables e below (s₁.setTop (mkF m 13 #[.val (.long vv), .second, .val (.int xi), .val (.int xn), .val (.int xg)] [(.long ((vv.toUInt64 >>> (((7 : Int32) * xi) &&& 0x3f).toInt64.toUInt64).toInt64))])) tgt
      refine X0.ldc2Long hx hown (mvT hZ (hw _ (List.mem_of_getElem? (i := 8) rfl))) (g := (mkF m 13 #[.val (.long vv), .second, .val (.int xi), .val (.int xn), .val (.int xg)] [(.long ((vv.toUInt64 >>> (((7 : Int32) * xi) &&& 0x3f).toInt64.toUInt64).toInt64))])) rfl (hb hby d2_13) _ ?_
      show Steps p.tables e below (s₁.setTop (mkF m 16 #[.val (.long vv), .second, .val (.int xi), .val (.int xn), .val (.int xg)] [(.long (127 : Int64)), (.long ((vv.toUInt64 >>> (((7 : Int32) * xi) &&& 0x3f).toInt64.toUInt64).toInt64))])) tgt
      refine XS.land X0.here hx rfl (hb hby d2_16) rfl ?_
      show Steps p.tables e below (s₁.setTop (mkF m 17 #[.val (.long vv), .second, .val (.int xi), .val (.int xn), .val (.int xg)] [(.long (((vv.toUInt64 >>> (((7 : Int32) * xi) &&& 0x3f).toInt64.toUInt64).toInt64) &&& (127 : Int64)))])) tgt
      refine X0.ldc2Long hx hown (mvT hZ (hw _ (List.mem_of_getElem? (i := 13) rfl))) (g := (mkF m 17 #[.val (.long vv), .second, .val (.int xi), .val (.int xn), .val (.int xg)] [(.long (((vv.toUInt64 >>> (((7 : Int32) * xi) &&& 0x3f).toInt64.toUInt64).toInt64) &&& (127 : Int64)))])) rfl (hb hby d2_17) _ ?_
      show Steps p.tables e below (s₁.setTop (mkF m 20 #[.val (.long vv), .second, .val (.int xi), .val (.int xn), .val (.int xg)] [(.long (128 : Int64)), (.long (((vv.toUInt64 >>> (((7 : Int32) * xi) &&& 0x3f).toInt64.toUInt64).toInt64) &&& (127 : Int64)))])) tgt
      refine XS.lor X0.here hx rfl (hb hby d2_20) rfl ?_
      show Steps p.tables e below (s₁.setTop (mkF m 21 #[.val (.long vv), .second, .val (.int xi), .val (.int xn), .val (.int xg)] [(.long ((((vv.toUInt64 >>> (((7 : Int32) * xi) &&& 0x3f).toInt64.toUInt64).toInt64) &&& (127 : Int64)) ||| (128 : Int64)))])) tgt
      refine XS.l2i X0.here hx rfl (hb hby d2_21) rfl ?_
      show Steps p.tables e below (s₁.setTop (mkF m 22 #[.val (.long vv), .second, .val (.int xi), .val (.int xn), .val (.int xg)] [(.int (((((vv.toUInt64 >>> (((7 : Int32) * xi) &&& 0x3f).toInt64.toUInt64).toInt64) &&& (127 : Int64)) ||| (128 : Int64)).toInt32))])) tgt
      refine XS.i2b X0.here hx rfl (hb hby d2_22) rfl ?_
      exact k
    refine own_retN X0 hx hlk (t := .byte) (z' := ((((((vv.toUInt64 >>> (((7 : Int32) * xi) &&& 0x3f).toInt64.toUInt64).toInt64) &&& (127 : Int64)) ||| (128 : Int64)).toInt32).toInt8.toInt32)) Bd.returns (by simp) (own_n8 _) (hb hby d2_23) ?_ (by decide) (by decide)
    show Q2 Z vv xi xn xg h0 n0 (some (.int ((((((vv.toUInt64 >>> (((7 : Int32) * xi) &&& 0x3f).toInt64.toUInt64).toInt64) &&& (127 : Int64)) ||| (128 : Int64)).toInt32).toInt8.toInt32))) s₁.heap _
    rw [e0]
    refine ⟨?_, N0, rfl⟩
    exact congrArg (fun q => some (Value.int q)) (by unfold own_enc; rw [if_pos hc4])
  · skip
    refine own_st (V := s₁.setTop (mkF m 28 #[.val (.long vv), .second, .val (.int xi), .val (.int xn), .val (.int xg)] [(.int (xn - (1 : Int32))), (.int xi)])) (fun tgt k => ?_) ?_
    · show Steps p.tables e below (s₁.setTop (mkF m 4 #[.val (.long vv), .second, .val (.int xi), .val (.int xn), .val (.int xg)] [(.int (xn - (1 : Int32))), (.int xi)])) tgt
      refine XS.icmpYes X0.here hx rfl (pc0 := 4) (pc' := 24) rfl (hb hby d2_4) rfl (flt hc4).2.1 (by decide) (by decide) ?_
      show Steps p.tables e below (s₁.setTop (mkF m 24 #[.val (.long vv), .second, .val (.int xi), .val (.int xn), .val (.int xg)] [])) tgt
      refine XS.iloadN X0.here hx rfl (hb hby d2_24) rfl ?_
      show Steps p.tables e below (s₁.setTop (mkF m 25 #[.val (.long vv), .second, .val (.int xi), .val (.int xn), .val (.int xg)] [(.int xi)])) tgt
      refine XS.iloadN X0.here hx rfl (hb hby d2_25) rfl ?_
      show Steps p.tables e below (s₁.setTop (mkF m 26 #[.val (.long vv), .second, .val (.int xi), .val (.int xn), .val (.int xg)] [(.int xn), (.int xi)])) tgt
      refine XS.iconst X0.here hx rfl (hb hby d2_26) ?_
      show Steps p.tables e below (s₁.setTop (mkF m 27 #[.val (.long vv), .second, .val (.int xi), .val (.int xn), .val (.int xg)] [(.int (1 : Int32)), (.int xn), (.int xi)])) tgt
      refine XS.isub X0.here hx rfl (hb hby d2_27) rfl ?_
      exact k
    by_cases hc28 : xi = (xn - (1 : Int32))
    · skip
      refine own_st (V := s₁.setTop (mkF m 43 #[.val (.long vv), .second, .val (.int xi), .val (.int xn), .val (.int xg)] [(.int (((((vv.toUInt64 >>> (((7 : Int32) * xi) &&& 0x3f).toInt64.toUInt64).toInt64) &&& (127 : Int64)).toInt32).toInt8.toInt32))])) (fun tgt k => ?_) ?_
      · show Steps p.tables e below (s₁.setTop (mkF m 28 #[.val (.long vv), .second, .val (.int xi), .val (.int xn), .val (.int xg)] [(.int (xn - (1 : Int32))), (.int xi)])) tgt
        refine XS.icmpNo X0.here hx rfl (hb hby d2_28) rfl (teq hc28).2 ?_
        show Steps p.tables e below (s₁.setTop (mkF m 31 #[.val (.long vv), .second, .val (.int xi), .val (.int xn), .val (.int xg)] [])) tgt
        refine XS.lloadN X0.here hx rfl (hb hby d2_31) rfl ?_
        show Steps p.tables e below (s₁.setTop (mkF m 32 #[.val (.long vv), .second, .val (.int xi), .val (.int xn), .val (.int xg)] [(.long vv)])) tgt
        refine XS.bipush X0.here hx rfl (hb hby d2_32) ?_
        show Steps p.tables e below (s₁.setTop (mkF m 34 #[.val (.long vv), .second, .val (.int xi), .val (.int xn), .val (.int xg)] [(.int (7 : Int32)), (.long vv)])) tgt
        refine XS.iloadN X0.here hx rfl (hb hby d2_34) rfl ?_
        show Steps p.tables e below (s₁.setTop (mkF m 35 #[.val (.long vv), .second, .val (.int xi), .val (.int xn), .val (.int xg)] [(.int xi), (.int (7 : Int32)), (.long vv)])) tgt
        refine XS.imul X0.here hx rfl (hb hby d2_35) rfl ?_
        show Steps p.tables e below (s₁.setTop (mkF m 36 #[.val (.long vv), .second, .val (.int xi), .val (.int xn), .val (.int xg)] [(.int ((7 : Int32) * xi)), (.long vv)])) tgt
        refine XS.lushr X0.here hx rfl (hb hby d2_36) rfl ?_
        show Steps p.tables e below (s₁.setTop (mkF m 37 #[.val (.long vv), .second, .val (.int xi), .val (.int xn), .val (.int xg)] [(.long ((vv.toUInt64 >>> (((7 : Int32) * xi) &&& 0x3f).toInt64.toUInt64).toInt64))])) tgt
        refine X0.ldc2Long hx hown (mvT hZ (hw _ (List.mem_of_getElem? (i := 8) rfl))) (g := (mkF m 37 #[.val (.long vv), .second, .val (.int xi), .val (.int xn), .val (.int xg)] [(.long ((vv.toUInt64 >>> (((7 : Int32) * xi) &&& 0x3f).toInt64.toUInt64).toInt64))])) rfl (hb hby d2_37) _ ?_
        show Steps p.tables e below (s₁.setTop (mkF m 40 #[.val (.long vv), .second, .val (.int xi), .val (.int xn), .val (.int xg)] [(.long (127 : Int64)), (.long ((vv.toUInt64 >>> (((7 : Int32) * xi) &&& 0x3f).toInt64.toUInt64).toInt64))])) tgt
        refine XS.land X0.here hx rfl (hb hby d2_40) rfl ?_
        show Steps p.tables e below (s₁.setTop (mkF m 41 #[.val (.long vv), .second, .val (.int xi), .val (.int xn), .val (.int xg)] [(.long (((vv.toUInt64 >>> (((7 : Int32) * xi) &&& 0x3f).toInt64.toUInt64).toInt64) &&& (127 : Int64)))])) tgt
        refine XS.l2i X0.here hx rfl (hb hby d2_41) rfl ?_
        show Steps p.tables e below (s₁.setTop (mkF m 42 #[.val (.long vv), .second, .val (.int xi), .val (.int xn), .val (.int xg)] [(.int ((((vv.toUInt64 >>> (((7 : Int32) * xi) &&& 0x3f).toInt64.toUInt64).toInt64) &&& (127 : Int64)).toInt32))])) tgt
        refine XS.i2b X0.here hx rfl (hb hby d2_42) rfl ?_
        exact k
      refine own_retN X0 hx hlk (t := .byte) (z' := (((((vv.toUInt64 >>> (((7 : Int32) * xi) &&& 0x3f).toInt64.toUInt64).toInt64) &&& (127 : Int64)).toInt32).toInt8.toInt32)) Bd.returns (by simp) (own_n8 _) (hb hby d2_43) ?_ (by decide) (by decide)
      show Q2 Z vv xi xn xg h0 n0 (some (.int (((((vv.toUInt64 >>> (((7 : Int32) * xi) &&& 0x3f).toInt64.toUInt64).toInt64) &&& (127 : Int64)).toInt32).toInt8.toInt32))) s₁.heap _
      rw [e0]
      refine ⟨?_, N0, rfl⟩
      exact congrArg (fun q => some (Value.int q)) (by unfold own_enc; rw [if_neg hc4, if_pos hc28])
    · skip
      refine own_st (V := s₁.setTop (mkF m 51 #[.val (.long vv), .second, .val (.int xi), .val (.int xn), .val (.int xg)] [(.int (((xg.toUInt32 >>> (((3 : Int32) * xi) &&& 31).toUInt32).toInt32).toInt8.toInt32))])) (fun tgt k => ?_) ?_
      · show Steps p.tables e below (s₁.setTop (mkF m 28 #[.val (.long vv), .second, .val (.int xi), .val (.int xn), .val (.int xg)] [(.int (xn - (1 : Int32))), (.int xi)])) tgt
        refine XS.icmpYes X0.here hx rfl (pc0 := 28) (pc' := 44) rfl (hb hby d2_28) rfl (feq hc28).2 (by decide) (by decide) ?_
        show Steps p.tables e below (s₁.setTop (mkF m 44 #[.val (.long vv), .second, .val (.int xi), .val (.int xn), .val (.int xg)] [])) tgt
        refine XS.iload X0.here hx rfl (hb hby d2_44) rfl ?_
        show Steps p.tables e below (s₁.setTop (mkF m 46 #[.val (.long vv), .second, .val (.int xi), .val (.int xn), .val (.int xg)] [(.int xg)])) tgt
        refine XS.iconst X0.here hx rfl (hb hby d2_46) ?_
        show Steps p.tables e below (s₁.setTop (mkF m 47 #[.val (.long vv), .second, .val (.int xi), .val (.int xn), .val (.int xg)] [(.int (3 : Int32)), (.int xg)])) tgt
        refine XS.iloadN X0.here hx rfl (hb hby d2_47) rfl ?_
        show Steps p.tables e below (s₁.setTop (mkF m 48 #[.val (.long vv), .second, .val (.int xi), .val (.int xn), .val (.int xg)] [(.int xi), (.int (3 : Int32)), (.int xg)])) tgt
        refine XS.imul X0.here hx rfl (hb hby d2_48) rfl ?_
        show Steps p.tables e below (s₁.setTop (mkF m 49 #[.val (.long vv), .second, .val (.int xi), .val (.int xn), .val (.int xg)] [(.int ((3 : Int32) * xi)), (.int xg)])) tgt
        refine XS.iushr X0.here hx rfl (hb hby d2_49) rfl ?_
        show Steps p.tables e below (s₁.setTop (mkF m 50 #[.val (.long vv), .second, .val (.int xi), .val (.int xn), .val (.int xg)] [(.int ((xg.toUInt32 >>> (((3 : Int32) * xi) &&& 31).toUInt32).toInt32))])) tgt
        refine XS.i2b X0.here hx rfl (hb hby d2_50) rfl ?_
        exact k
      refine own_retN X0 hx hlk (t := .byte) (z' := (((xg.toUInt32 >>> (((3 : Int32) * xi) &&& 31).toUInt32).toInt32).toInt8.toInt32)) Bd.returns (by simp) (own_n8 _) (hb hby d2_51) ?_ (by decide) (by decide)
      show Q2 Z vv xi xn xg h0 n0 (some (.int (((xg.toUInt32 >>> (((3 : Int32) * xi) &&& 31).toUInt32).toInt32).toInt8.toInt32))) s₁.heap _
      rw [e0]
      refine ⟨?_, N0, rfl⟩
      exact congrArg (fun q => some (Value.int q)) (by unfold own_enc; rw [if_neg hc4, if_neg hc28])
theorem d3_0 : decode prog_4_method_5_code 0 = .ok (.lconst 0, 1) := by decide +kernel
theorem d3_1 : decode prog_4_method_5_code 1 = .ok (.lstore_n 2, 1) := by decide +kernel
theorem d3_2 : decode prog_4_method_5_code 2 = .ok (.iconst 0, 1) := by decide +kernel
theorem d3_3 : decode prog_4_method_5_code 3 = .ok (.istore 4, 2) := by decide +kernel
theorem d3_5 : decode prog_4_method_5_code 5 = .ok (.iload_n 1, 1) := by decide +kernel
theorem d3_6 : decode prog_4_method_5_code 6 = .ok (.istore 5, 2) := by decide +kernel
theorem d3_8 : decode prog_4_method_5_code 8 = .ok (.aload_n 0, 1) := by decide +kernel
theorem d3_9 : decode prog_4_method_5_code 9 = .ok (.iload 5, 2) := by decide +kernel
theorem d3_11 : decode prog_4_method_5_code 11 = .ok (.iinc 5 1, 3) := by decide +kernel
theorem d3_14 : decode prog_4_method_5_code 14 = .ok (.baload, 1) := by decide +kernel
theorem d3_15 : decode prog_4_method_5_code 15 = .ok (.istore 6, 2) := by decide +kernel
theorem d3_17 : decode prog_4_method_5_code 17 = .ok (.iload 6, 2) := by decide +kernel
theorem d3_19 : decode prog_4_method_5_code 19 = .ok (.ifCond .ge 30, 3) := by decide +kernel
theorem d3_22 : decode prog_4_method_5_code 22 = .ok (.lload_n 2, 1) := by decide +kernel
theorem d3_23 : decode prog_4_method_5_code 23 = .ok (.iload 6, 2) := by decide +kernel
theorem d3_25 : decode prog_4_method_5_code 25 = .ok (.bipush 127, 2) := by decide +kernel
theorem d3_27 : decode prog_4_method_5_code 27 = .ok (.iand, 1) := by decide +kernel
theorem d3_28 : decode prog_4_method_5_code 28 = .ok (.i2l, 1) := by decide +kernel
theorem d3_29 : decode prog_4_method_5_code 29 = .ok (.iload 4, 2) := by decide +kernel
theorem d3_31 : decode prog_4_method_5_code 31 = .ok (.lshl, 1) := by decide +kernel
theorem d3_32 : decode prog_4_method_5_code 32 = .ok (.lor, 1) := by decide +kernel
theorem d3_33 : decode prog_4_method_5_code 33 = .ok (.lstore_n 2, 1) := by decide +kernel
theorem d3_34 : decode prog_4_method_5_code 34 = .ok (.iinc 4 7, 3) := by decide +kernel
theorem d3_37 : decode prog_4_method_5_code 37 = .ok (.aload_n 0, 1) := by decide +kernel
theorem d3_38 : decode prog_4_method_5_code 38 = .ok (.iload 5, 2) := by decide +kernel
theorem d3_40 : decode prog_4_method_5_code 40 = .ok (.iinc 5 1, 3) := by decide +kernel
theorem d3_43 : decode prog_4_method_5_code 43 = .ok (.baload, 1) := by decide +kernel
theorem d3_44 : decode prog_4_method_5_code 44 = .ok (.istore 6, 2) := by decide +kernel
theorem d3_46 : decode prog_4_method_5_code 46 = .ok (.goto (-29), 3) := by decide +kernel
theorem d3_49 : decode prog_4_method_5_code 49 = .ok (.lload_n 2, 1) := by decide +kernel
theorem d3_50 : decode prog_4_method_5_code 50 = .ok (.iload 6, 2) := by decide +kernel
theorem d3_52 : decode prog_4_method_5_code 52 = .ok (.i2l, 1) := by decide +kernel
theorem d3_53 : decode prog_4_method_5_code 53 = .ok (.iload 4, 2) := by decide +kernel
theorem d3_55 : decode prog_4_method_5_code 55 = .ok (.lshl, 1) := by decide +kernel
theorem d3_56 : decode prog_4_method_5_code 56 = .ok (.lor, 1) := by decide +kernel
theorem d3_57 : decode prog_4_method_5_code 57 = .ok (.lreturn, 1) := by decide +kernel
theorem pn_3 : plainName "com/example/vestwright/vestwright/census/Varint" = true := by first | (simp [plainName, overriddenIn]; done) | decide +kernel
theorem ef_3 (m : MethodId) (x0 : Addr) (x1 : Int32) : entryFrame m #[(.ref x0), (.int x1)] 7 = mkF m 0 #[.val (.ref x0), .val (.int x1), .unset, .unset, .unset, .unset, .unset] [] := by first | (simp [entryFrame, mkF, argsToLocals, Value.category]; done) | rfl
def Q3 (Z : State) (ch : Addr) (xw : Int32) (nn : Nat) (ff : Nat → Int32) (A : Nat) (mm : Nat) (h0 : Heap) (n0 : Nat) (v : Option Value) (h : Heap) (L : List Loc) : Prop := v = some (.long (own_rd ff A mm)) ∧ Fr n0 L ∧ h = h0
set_option maxRecDepth 65536 in
set_option maxHeartbeats 40000000 in
theorem rm3 (l : Launch) (Z : State) (a0 : Array Value) (hw : ∀ d ∈ tables_1, d.before a0 Z = true) (ws : List Jvm.Cond) (ch : Addr) (xw : Int32) (nn : Nat) (ff : Nat → Int32) (A : Nat) (mm : Nat) (h0 : Heap) (n0 : Nat) (Z0 : n0 ≤ h0.size) (A1 : own_Ai Z h0 ch .byte nn ff) (H1 : xw.toInt = (A : Int)) (H2 : A + mm < nn) (H3 : nn < 100) (R1 : ∀ j, j < mm → (ff (A + j)).toInt < 0) (R2 : 0 ≤ (ff (A + mm)).toInt) :
    MetFree l (⟨"com/example/vestwright/vestwright/census/Varint", "read", "([BI)J"⟩ : MethodName) (head1 (Jvm.Cond.code (⟨"com/example/vestwright/vestwright/census/Varint", "read", "([BI)J"⟩ : MethodName) prog_4_method_5_code 7 (some .long) :: ws) ({ frames := 0, cells := 0, slots := 0, locals := 0 } : Room)) (fun a U => a = #[(.ref ch), (.int xw)] ∧ Z.Warmed39 U.vm ∧ U.heap = h0) (fun _ _ _ _ _ => True) (fun _ U o U' => ∃ v L, o = .returned v ∧ Q3 Z ch xw nn ff A mm h0 n0 v U'.heap L ∧ FrameEnd U o U' L ({ frames := 0, cells := 0, slots := 0, locals := 0 } : Room).cells ({ frames := 0, cells := 0, slots := 0, locals := 0 } : Room).slots) := by
  refine MetFree.of_bodySF (plainFor_of_name pn_3) hisR ?_
  intro p e s m args below meth c s₁ Bd hml0 hP hK
  obtain ⟨rfl, hZ, hh⟩ := hP
  have hx := Bd.exec
  have hby := Bd.bytes
  have hlk : meth.locks = false := BodyLoose.notSynchronized Bd
  have hml : c.maxLocals = 7 := hml0
  have hown : s.vm.findClass "com/example/vestwright/vestwright/census/Varint" = some m.cls := findClass_of_methodNamed Bd.named
  have hnm := (name_of_methodNamed Bd.named Bd.method).1
  have X0 : Stand p l e ({ frames := 0, cells := 0, slots := 0, locals := 0 } : Room) s m #[(.ref ch), (.int xw)] below meth c s₁ [] 0 0 := Stand.of_body Bd
  have e0 : s₁.heap = h0 := by rw [← hh, Bd.state]; rfl
  have N0 := Fr.nil n0
  show own_Go p e below (own_G s (Q3 Z ch xw nn ff A mm h0 n0) ({ frames := 0, cells := 0, slots := 0, locals := 0 } : Room).cells ({ frames := 0, cells := 0, slots := 0, locals := 0 } : Room).slots) (s₁.setTop (entryFrame m #[(.ref ch), (.int xw)] 7))
  refine own_st (fun tgt k => castTop (ef_3 m ch xw) k) ?_
  show own_Go p e below _ (s₁.setTop (mkF m 0 #[.val (.ref ch), .val (.int xw), .unset, .unset, .unset, .unset, .unset] []))
  refine own_st (V := s₁.setTop (mkF m 17 #[.val (.ref ch), .val (.int xw), .val (.long (0 : Int64)), .second, .val (.int (0 : Int32)), .val (.int (xw + (1 : Int32))), .val (.int (ff (A + 0)))] [])) (fun tgt k => ?_) ?_
  · show Steps p.tables e below (s₁.setTop (mkF m 0 #[.val (.ref ch), .val (.int xw), .unset, .unset, .unset, .unset, .unset] [])) tgt
    refine XS.lconst X0.here hx rfl (hb hby d3_0) ?_
    show Steps p.tables e below (s₁.setTop (mkF m 1 #[.val (.ref ch), .val (.int xw), .unset, .unset, .unset, .unset, .unset] [(.long (0 : Int64))])) tgt
    refine XS.lstoreN X0.here hx rfl (hb hby d3_1) rfl (l' := #[.val (.ref ch), .val (.int xw), .val (.long (0 : Int64)), .second, .unset, .unset, .unset]) rfl ?_
    show Steps p.tables e below (s₁.setTop (mkF m 2 #[.val (.ref ch), .val (.int xw), .val (.long (0 : Int64)), .second, .unset, .unset, .unset] [])) tgt
    refine XS.iconst X0.here hx rfl (hb hby d3_2) ?_
    show Steps p.tables e below (s₁.setTop (mkF m 3 #[.val (.ref ch), .val (.int xw), .val (.long (0 : Int64)), .second, .unset, .unset, .unset] [(.int (0 : Int32))])) tgt
    refine XS.istore X0.here hx rfl (hb hby d3_3) rfl (l' := #[.val (.ref ch), .val (.int xw), .val (.long (0 : Int64)), .second, .val (.int (0 : Int32)), .unset, .unset]) rfl ?_
    show Steps p.tables e below (s₁.setTop (mkF m 5 #[.val (.ref ch), .val (.int xw), .val (.long (0 : Int64)), .second, .val (.int (0 : Int32)), .unset, .unset] [])) tgt
    refine XS.iloadN X0.here hx rfl (hb hby d3_5) rfl ?_
    show Steps p.tables e below (s₁.setTop (mkF m 6 #[.val (.ref ch), .val (.int xw), .val (.long (0 : Int64)), .second, .val (.int (0 : Int32)), .unset, .unset] [(.int xw)])) tgt
    refine XS.istore X0.here hx rfl (hb hby d3_6) rfl (l' := #[.val (.ref ch), .val (.int xw), .val (.long (0 : Int64)), .second, .val (.int (0 : Int32)), .val (.int xw), .unset]) rfl ?_
    show Steps p.tables e below (s₁.setTop (mkF m 8 #[.val (.ref ch), .val (.int xw), .val (.long (0 : Int64)), .second, .val (.int (0 : Int32)), .val (.int xw), .unset] [])) tgt
    refine XS.aloadN X0.here hx rfl (hb hby d3_8) rfl rfl ?_
    show Steps p.tables e below (s₁.setTop (mkF m 9 #[.val (.ref ch), .val (.int xw), .val (.long (0 : Int64)), .second, .val (.int (0 : Int32)), .val (.int xw), .unset] [(.ref ch)])) tgt
    refine XS.iload X0.here hx rfl (hb hby d3_9) rfl ?_
    show Steps p.tables e below (s₁.setTop (mkF m 11 #[.val (.ref ch), .val (.int xw), .val (.long (0 : Int64)), .second, .val (.int (0 : Int32)), .val (.int xw), .unset] [(.int xw), (.ref ch)])) tgt
    refine XS.iinc X0.here hx rfl (hb hby d3_11) rfl (l' := #[.val (.ref ch), .val (.int xw), .val (.long (0 : Int64)), .second, .val (.int (0 : Int32)), .val (.int (xw + (1 : Int32))), .unset]) rfl ?_
    show Steps p.tables e below (s₁.setTop (mkF m 14 #[.val (.ref ch), .val (.int xw), .val (.long (0 : Int64)), .second, .val (.int (0 : Int32)), .val (.int (xw + (1 : Int32))), .unset] [(.int xw), (.ref ch)])) tgt
    refine own_baload X0 hx hZ e0 A1 (j := xw) (k := (A + 0)) H1 (by omega) (g := (mkF m 14 #[.val (.ref ch), .val (.int xw), .val (.long (0 : Int64)), .second, .val (.int (0 : Int32)), .val (.int (xw + (1 : Int32))), .unset] [(.int xw), (.ref ch)])) rfl rfl (hb hby d3_14) ?_
    show Steps p.tables e below (s₁.setTop (mkF m 15 #[.val (.ref ch), .val (.int xw), .val (.long (0 : Int64)), .second, .val (.int (0 : Int32)), .val (.int (xw + (1 : Int32))), .unset] [(.int (ff (A + 0)))])) tgt
    refine XS.istore X0.here hx rfl (hb hby d3_15) rfl (l' := #[.val (.ref ch), .val (.int xw), .val (.long (0 : Int64)), .second, .val (.int (0 : Int32)), .val (.int (xw + (1 : Int32))), .val (.int (ff (A + 0)))]) rfl ?_
    exact k
  have loop : ∀ (d j : Nat) (pv : Int32), j + d = mm → pv.toInt = ((A + j + 1 : Nat) : Int) → own_Go p e below (own_G s (Q3 Z ch xw nn ff A mm h0 n0) ({ frames := 0, cells := 0, slots := 0, locals := 0 } : Room).cells ({ frames := 0, cells := 0, slots := 0, locals := 0 } : Room).slots) (s₁.setTop (mkF m 17 #[.val (.ref ch), .val (.int xw), .val (.long (own_acc ff A j)), .second, .val (.int (Int32.ofNat (7 * j))), .val (.int pv), .val (.int (ff (A + j)))] [])) := by
    intro d
    induction d with
    | zero =>
      intro j pv h1 h2
      have hj : j = mm := by omega
      have q : ¬ (ff (A + j) < (0 : Int32)) := by rw [Int32.lt_iff_toInt_lt, hj, show (0 : Int32).toInt = 0 from rfl]; omega
      refine own_st (V := s₁.setTop (mkF m 57 #[.val (.ref ch), .val (.int xw), .val (.long (own_acc ff A j)), .second, .val (.int (Int32.ofNat (7 * j))), .val (.int pv), .val (.int (ff (A + j)))] [(.long ((own_acc ff A j) ||| (((ff (A + j)).toInt64) <<< ((Int32.ofNat (7 * j)) &&& 0x3f).toInt64)))])) (fun tgt k => ?_) ?_
      · show Steps p.tables e below (s₁.setTop (mkF m 17 #[.val (.ref ch), .val (.int xw), .val (.long (own_acc ff A j)), .second, .val (.int (Int32.ofNat (7 * j))), .val (.int pv), .val (.int (ff (A + j)))] [])) tgt
        refine XS.iload X0.here hx rfl (hb hby d3_17) rfl ?_
        show Steps p.tables e below (s₁.setTop (mkF m 19 #[.val (.ref ch), .val (.int xw), .val (.long (own_acc ff A j)), .second, .val (.int (Int32.ofNat (7 * j))), .val (.int pv), .val (.int (ff (A + j)))] [(.int (ff (A + j)))])) tgt
        refine XS.ifYes X0.here hx rfl (pc0 := 19) (pc' := 49) rfl (hb hby d3_19) rfl ((if0 _ _).trans (flt q).2.1) (by decide) (by decide) ?_
        show Steps p.tables e below (s₁.setTop (mkF m 49 #[.val (.ref ch), .val (.int xw), .val (.long (own_acc ff A j)), .second, .val (.int (Int32.ofNat (7 * j))), .val (.int pv), .val (.int (ff (A + j)))] [])) tgt
        refine XS.lloadN X0.here hx rfl (hb hby d3_49) rfl ?_
        show Steps p.tables e below (s₁.setTop (mkF m 50 #[.val (.ref ch), .val (.int xw), .val (.long (own_acc ff A j)), .second, .val (.int (Int32.ofNat (7 * j))), .val (.int pv), .val (.int (ff (A + j)))] [(.long (own_acc ff A j))])) tgt
        refine XS.iload X0.here hx rfl (hb hby d3_50) rfl ?_
        show Steps p.tables e below (s₁.setTop (mkF m 52 #[.val (.ref ch), .val (.int xw), .val (.long (own_acc ff A j)), .second, .val (.int (Int32.ofNat (7 * j))), .val (.int pv), .val (.int (ff (A + j)))] [(.int (ff (A + j))), (.long (own_acc ff A j))])) tgt
        refine XS.i2l X0.here hx rfl (hb hby d3_52) rfl ?_
        show Steps p.tables e below (s₁.setTop (mkF m 53 #[.val (.ref ch), .val (.int xw), .val (.long (own_acc ff A j)), .second, .val (.int (Int32.ofNat (7 * j))), .val (.int pv), .val (.int (ff (A + j)))] [(.long ((ff (A + j)).toInt64)), (.long (own_acc ff A j))])) tgt
        refine XS.iload X0.here hx rfl (hb hby d3_53) rfl ?_
        show Steps p.tables e below (s₁.setTop (mkF m 55 #[.val (.ref ch), .val (.int xw), .val (.long (own_acc ff A j)), .second, .val (.int (Int32.ofNat (7 * j))), .val (.int pv), .val (.int (ff (A + j)))] [(.int (Int32.ofNat (7 * j))), (.long ((ff (A + j)).toInt64)), (.long (own_acc ff A j))])) tgt
        refine XS.lshl X0.here hx rfl (hb hby d3_55) rfl ?_
        show Steps p.tables e below (s₁.setTop (mkF m 56 #[.val (.ref ch), .val (.int xw), .val (.long (own_acc ff A j)), .second, .val (.int (Int32.ofNat (7 * j))), .val (.int pv), .val (.int (ff (A + j)))] [(.long (((ff (A + j)).toInt64) <<< ((Int32.ofNat (7 * j)) &&& 0x3f).toInt64)), (.long (own_acc ff A j))])) tgt
        refine XS.lor X0.here hx rfl (hb hby d3_56) rfl ?_
        exact k
      refine own_retJ X0 hx hlk Bd.returns (hb hby d3_57) ?_ (by decide) (by decide)
      show Q3 Z ch xw nn ff A mm h0 n0 (some (.long ((own_acc ff A j) ||| (((ff (A + j)).toInt64) <<< ((Int32.ofNat (7 * j)) &&& 0x3f).toInt64)))) s₁.heap _
      rw [e0]
      refine ⟨?_, N0, rfl⟩
      exact congrArg (fun q => some (Value.long q)) (by rw [hj]; rfl)
    | succ d ih =>
      intro j pv h1 h2
      have q : ff (A + j) < (0 : Int32) := by rw [Int32.lt_iff_toInt_lt, show (0 : Int32).toInt = 0 from rfl]; exact R1 j (by omega)
      refine own_st (V := s₁.setTop (mkF m 17 #[.val (.ref ch), .val (.int xw), .val (.long ((own_acc ff A j) ||| ((((ff (A + j)) &&& (127 : Int32)).toInt64) <<< ((Int32.ofNat (7 * j)) &&& 0x3f).toInt64))), .second, .val (.int ((Int32.ofNat (7 * j)) + (7 : Int32))), .val (.int (pv + (1 : Int32))), .val (.int (ff (A + (j + 1))))] [])) (fun tgt k => ?_) ?_
      · show Steps p.tables e below (s₁.setTop (mkF m 17 #[.val (.ref ch), .val (.int xw), .val (.long (own_acc ff A j)), .second, .val (.int (Int32.ofNat (7 * j))), .val (.int pv), .val (.int (ff (A + j)))] [])) tgt
        refine XS.iload X0.here hx rfl (hb hby d3_17) rfl ?_
        show Steps p.tables e below (s₁.setTop (mkF m 19 #[.val (.ref ch), .val (.int xw), .val (.long (own_acc ff A j)), .second, .val (.int (Int32.ofNat (7 * j))), .val (.int pv), .val (.int (ff (A + j)))] [(.int (ff (A + j)))])) tgt
        refine XS.ifNo X0.here hx rfl (hb hby d3_19) rfl ((if0 _ _).trans (tlt q).2.1) ?_
        show Steps p.tables e below (s₁.setTop (mkF m 22 #[.val (.ref ch), .val (.int xw), .val (.long (own_acc ff A j)), .second, .val (.int (Int32.ofNat (7 * j))), .val (.int pv), .val (.int (ff (A + j)))] [])) tgt
        refine XS.lloadN X0.here hx rfl (hb hby d3_22) rfl ?_
        show Steps p.tables e below (s₁.setTop (mkF m 23 #[.val (.ref ch), .val (.int xw), .val (.long (own_acc ff A j)), .second, .val (.int (Int32.ofNat (7 * j))), .val (.int pv), .val (.int (ff (A + j)))] [(.long (own_acc ff A j))])) tgt
        refine XS.iload X0.here hx rfl (hb hby d3_23) rfl ?_
        show Steps p.tables e below (s₁.setTop (mkF m 25 #[.val (.ref ch), .val (.int xw), .val (.long (own_acc ff A j)), .second, .val (.int (Int32.ofNat (7 * j))), .val (.int pv), .val (.int (ff (A + j)))] [(.int (ff (A + j))), (.long (own_acc ff A j))])) tgt
        refine XS.bipush X0.here hx rfl (hb hby d3_25) ?_
        show Steps p.tables e below (s₁.setTop (mkF m 27 #[.val (.ref ch), .val (.int xw), .val (.long (own_acc ff A j)), .second, .val (.int (Int32.ofNat (7 * j))), .val (.int pv), .val (.int (ff (A + j)))] [(.int (127 : Int32)), (.int (ff (A + j))), (.long (own_acc ff A j))])) tgt
        refine XS.iand X0.here hx rfl (hb hby d3_27) rfl ?_
        show Steps p.tables e below (s₁.setTop (mkF m 28 #[.val (.ref ch), .val (.int xw), .val (.long (own_acc ff A j)), .second, .val (.int (Int32.ofNat (7 * j))), .val (.int pv), .val (.int (ff (A + j)))] [(.int ((ff (A + j)) &&& (127 : Int32))), (.long (own_acc ff A j))])) tgt
        refine XS.i2l X0.here hx rfl (hb hby d3_28) rfl ?_
        show Steps p.tables e below (s₁.setTop (mkF m 29 #[.val (.ref ch), .val (.int xw), .val (.long (own_acc ff A j)), .second, .val (.int (Int32.ofNat (7 * j))), .val (.int pv), .val (.int (ff (A + j)))] [(.long (((ff (A + j)) &&& (127 : Int32)).toInt64)), (.long (own_acc ff A j))])) tgt
        refine XS.iload X0.here hx rfl (hb hby d3_29) rfl ?_
        show Steps p.tables e below (s₁.setTop (mkF m 31 #[.val (.ref ch), .val (.int xw), .val (.long (own_acc ff A j)), .second, .val (.int (Int32.ofNat (7 * j))), .val (.int pv), .val (.int (ff (A + j)))] [(.int (Int32.ofNat (7 * j))), (.long (((ff (A + j)) &&& (127 : Int32)).toInt64)), (.long (own_acc ff A j))])) tgt
        refine XS.lshl X0.here hx rfl (hb hby d3_31) rfl ?_
        show Steps p.tables e below (s₁.setTop (mkF m 32 #[.val (.ref ch), .val (.int xw), .val (.long (own_acc ff A j)), .second, .val (.int (Int32.ofNat (7 * j))), .val (.int pv), .val (.int (ff (A + j)))] [(.long ((((ff (A + j)) &&& (127 : Int32)).toInt64) <<< ((Int32.ofNat (7 * j)) &&& 0x3f).toInt64)), (.long (own_acc ff A j))])) tgt
        refine XS.lor X0.here hx rfl (hb hby d3_32) rfl ?_
        show Steps p.tables e below (s₁.setTop (mkF m 33 #[.val (.ref ch), .val (.int xw), .val (.long (own_acc ff A j)), .second, .val (.int (Int32.ofNat (7 * j))), .val (.int pv), .val (.int (ff (A + j)))] [(.long ((own_acc ff A j) ||| ((((ff (A + j)) &&& (127 : Int32)).toInt64) <<< ((Int32.ofNat (7 * j)) &&& 0x3f).toInt64)))])) tgt
        refine XS.lstoreN X0.here hx rfl (hb hby d3_33) rfl (l' := #[.val (.ref ch), .val (.int xw), .val (.long ((own_acc ff A j) ||| ((((ff (A + j)) &&& (127 : Int32)).toInt64) <<< ((Int32.ofNat (7 * j)) &&& 0x3f).toInt64))), .second, .val (.int (Int32.ofNat (7 * j))), .val (.int pv), .val (.int (ff (A + j)))]) rfl ?_
        show Steps p.tables e below (s₁.setTop (mkF m 34 #[.val (.ref ch), .val (.int xw), .val (.long ((own_acc ff A j) ||| ((((ff (A + j)) &&& (127 : Int32)).toInt64) <<< ((Int32.ofNat (7 * j)) &&& 0x3f).toInt64))), .second, .val (.int (Int32.ofNat (7 * j))), .val (.int pv), .val (.int (ff (A + j)))] [])) tgt
        refine XS.iinc X0.here hx rfl (hb hby d3_34) rfl (l' := #[.val (.ref ch), .val (.int xw), .val (.long ((own_acc ff A j) ||| ((((ff (A + j)) &&& (127 : Int32)).toInt64) <<< ((Int32.ofNat (7 * j)) &&& 0x3f).toInt64))), .second, .val (.int ((Int32.ofNat (7 * j)) + (7 : Int32))), .val (.int pv), .val (.int (ff (A + j)))]) rfl ?_
        show Steps p.tables e below (s₁.setTop (mkF m 37 #[.val (.ref ch), .val (.int xw), .val (.long ((own_acc ff A j) ||| ((((ff (A + j)) &&& (127 : Int32)).toInt64) <<< ((Int32.ofNat (7 * j)) &&& 0x3f).toInt64))), .second, .val (.int ((Int32.ofNat (7 * j)) + (7 : Int32))), .val (.int pv), .val (.int (ff (A + j)))] [])) tgt
        refine XS.aloadN X0.here hx rfl (hb hby d3_37) rfl rfl ?_
        show Steps p.tables e below (s₁.setTop (mkF m 38 #[.val (.ref ch), .val (.int xw), .val (.long ((own_acc ff A j) ||| ((((ff (A + j)) &&& (127 : Int32)).toInt64) <<< ((Int32.ofNat (7 * j)) &&& 0x3f).toInt64))), .second, .val (.int ((Int32.ofNat (7 * j)) + (7 : Int32))), .val (.int pv), .val (.int (ff (A + j)))] [(.ref ch)])) tgt
        refine XS.iload X0.here hx rfl (hb hby d3_38) rfl ?_
        show Steps p.tables e below (s₁.setTop (mkF m 40 #[.val (.ref ch), .val (.int xw), .val (.long ((own_acc ff A j) ||| ((((ff (A + j)) &&& (127 : Int32)).toInt64) <<< ((Int32.ofNat (7 * j)) &&& 0x3f).toInt64))), .second, .val (.int ((Int32.ofNat (7 * j)) + (7 : Int32))), .val (.int pv), .val (.int (ff (A + j)))] [(.int pv), (.ref ch)])) tgt
        refine XS.iinc X0.here hx rfl (hb hby d3_40) rfl (l' := #[.val (.ref ch), .val (.int xw), .val (.long ((own_acc ff A j) ||| ((((ff (A + j)) &&& (127 : Int32)).toInt64) <<< ((Int32.ofNat (7 * j)) &&& 0x3f).toInt64))), .second, .val (.int ((Int32.ofNat (7 * j)) + (7 : Int32))), .val (.int (pv + (1 : Int32))), .val (.int (ff (A + j)))]) rfl ?_
        show Steps p.tables e below (s₁.setTop (mkF m 43 #[.val (.ref ch), .val (.int xw), .val (.long ((own_acc ff A j) ||| ((((ff (A + j)) &&& (127 : Int32)).toInt64) <<< ((Int32.ofNat (7 * j)) &&& 0x3f).toInt64))), .second, .val (.int ((Int32.ofNat (7 * j)) + (7 : Int32))), .val (.int (pv + (1 : Int32))), .val (.int (ff (A + j)))] [(.int pv), (.ref ch)])) tgt
        refine own_baload X0 hx hZ e0 A1 (j := pv) (k := (A + (j + 1))) h2 (by omega) (g := (mkF m 43 #[.val (.ref ch), .val (.int xw), .val (.long ((own_acc ff A j) ||| ((((ff (A + j)) &&& (127 : Int32)).toInt64) <<< ((Int32.ofNat (7 * j)) &&& 0x3f).toInt64))), .second, .val (.int ((Int32.ofNat (7 * j)) + (7 : Int32))), .val (.int (pv + (1 : Int32))), .val (.int (ff (A + j)))] [(.int pv), (.ref ch)])) rfl rfl (hb hby d3_43) ?_
        show Steps p.tables e below (s₁.setTop (mkF m 44 #[.val (.ref ch), .val (.int xw), .val (.long ((own_acc ff A j) ||| ((((ff (A + j)) &&& (127 : Int32)).toInt64) <<< ((Int32.ofNat (7 * j)) &&& 0x3f).toInt64))), .second, .val (.int ((Int32.ofNat (7 * j)) + (7 : Int32))), .val (.int (pv + (1 : Int32))), .val (.int (ff (A + j)))] [(.int (ff (A + (j + 1))))])) tgt
        refine XS.istore X0.here hx rfl (hb hby d3_44) rfl (l' := #[.val (.ref ch), .val (.int xw), .val (.long ((own_acc ff A j) ||| ((((ff (A + j)) &&& (127 : Int32)).toInt64) <<< ((Int32.ofNat (7 * j)) &&& 0x3f).toInt64))), .second, .val (.int ((Int32.ofNat (7 * j)) + (7 : Int32))), .val (.int (pv + (1 : Int32))), .val (.int (ff (A + (j + 1))))]) rfl ?_
        show Steps p.tables e below (s₁.setTop (mkF m 46 #[.val (.ref ch), .val (.int xw), .val (.long ((own_acc ff A j) ||| ((((ff (A + j)) &&& (127 : Int32)).toInt64) <<< ((Int32.ofNat (7 * j)) &&& 0x3f).toInt64))), .second, .val (.int ((Int32.ofNat (7 * j)) + (7 : Int32))), .val (.int (pv + (1 : Int32))), .val (.int (ff (A + (j + 1))))] [])) tgt
        refine XS.goto X0.here hx rfl (pc0 := 46) (pc' := 17) rfl (hb hby d3_46) (by decide) (by decide) ?_
        exact k
      rw [← own_acc_s, own_inc7]
      exact ih (j + 1) _ (by omega) (own_inc1 h2 (by omega))
  exact loop mm 0 _ (by omega) (own_inc1 H1 (by omega))
theorem pn_0 : plainName "com/example/vestwright/vestwright/census/VarintReadPinLaw" = true := by first | (simp [plainName, overriddenIn]; done) | decide +kernel
theorem pd_0_0 : parseMethodDescriptor "(J)I" = some ⟨[.long], some .int⟩ := by decide +kernel
theorem pd_0_1 : parseMethodDescriptor "(JIII)B" = some ⟨[.long, .int, .int, .int], some .byte⟩ := by decide +kernel
theorem pd_0_2 : parseMethodDescriptor "([BI)J" = some ⟨[(.array .byte), .int], some .long⟩ := by decide +kernel
theorem ef_0 (m : MethodId) (x0 : Int64) (x1 : Int32) (x2 : Int32) (x3 : Int32) (x4 : Int32) : entryFrame m #[(.long x0), (.int x1), (.int x2), (.int x3), (.int x4)] maxLocals = mkF m 0 #[.val (.long x0), .second, .val (.int x1), .val (.int x2), .val (.int x3), .val (.int x4), .unset, .unset, .unset, .unset, .unset] [] := by first | (simp [entryFrame, mkF, argsToLocals, Value.category, maxLocals]; done) | rfl
def Q0 (Z : State) (xx : Int64) (xs : Int32) (xa : Int32) (gx : Int32) (gy : Int32) (h0 : Heap) (n0 : Nat) (v : Option Value) (h : Heap) (L : List Loc) : Prop := v = some (.int (1 : Int32)) ∧ Fr n0 L
set_option maxRecDepth 65536 in
set_option maxHeartbeats 40000000 in
theorem rm0 (l : Launch) (Z : State) (a0 : Array Value) (hw : ∀ d ∈ tables_1, d.before a0 Z = true) (ws : List Jvm.Cond) (xx : Int64) (xs : Int32) (xa : Int32) (gx : Int32) (gy : Int32) (h0 : Heap) (n0 : Nat) (Z0 : n0 ≤ h0.size) :
    MetFree l x (head1 (Jvm.Cond.code x code maxLocals ret :: ws) room_1) (fun a U => a = #[(.long xx), (.int xs), (.int xa), (.int gx), (.int gy)] ∧ Z.Warmed39 U.vm ∧ U.heap = h0) (fun _ _ _ _ _ => True) (fun _ U o U' => ∃ v L, o = .returned v ∧ Q0 Z xx xs xa gx gy h0 n0 v U'.heap L ∧ FrameEnd U o U' L 16 128) := by
  refine MetFree.of_bodySF (plainFor_of_name pn_0) hisR ?_
  intro p e s m args below meth c s₁ Bd hml0 hP hK
  obtain ⟨rfl, hZ, hh⟩ := hP
  have hx := Bd.exec
  have hby := Bd.bytes
  have hlk : meth.locks = false := BodyLoose.notSynchronized Bd
  have hml : c.maxLocals = 11 := hml0
  have hown : s.vm.findClass "com/example/vestwright/vestwright/census/VarintReadPinLaw" = some m.cls := findClass_of_methodNamed Bd.named
  have hnm := (name_of_methodNamed Bd.named Bd.method).1
  have X0 : Stand p l e room_1 s m #[(.long xx), (.int xs), (.int xa), (.int gx), (.int gy)] below meth c s₁ [] 0 0 := Stand.of_body Bd
  have e0 : s₁.heap = h0 := by rw [← hh, Bd.state]; rfl
  have N0 := Fr.nil n0
  show own_Go p e below (own_G s (Q0 Z xx xs xa gx gy h0 n0) 16 128) (s₁.setTop (entryFrame m #[(.long xx), (.int xs), (.int xa), (.int gx), (.int gy)] maxLocals))
  refine own_st (fun tgt k => castTop (ef_0 m xx xs xa gx gy) k) ?_
  show own_Go p e below _ (s₁.setTop (mkF m 0 #[.val (.long xx), .second, .val (.int xs), .val (.int xa), .val (.int gx), .val (.int gy), .unset, .unset, .unset, .unset, .unset] []))
  refine own_st (V := s₁.setTop (mkF m 8 #[.val (.long xx), .second, .val (.int xs), .val (.int xa), .val (.int gx), .val (.int gy), .val (.long ((xx.toUInt64 >>> ((xs &&& (63 : Int32)) &&& 0x3f).toInt64.toUInt64).toInt64)), .second, .unset, .unset, .unset] [])) (fun tgt k => ?_) ?_
  · show Steps p.tables e below (s₁.setTop (mkF m 0 #[.val (.long xx), .second, .val (.int xs), .val (.int xa), .val (.int gx), .val (.int gy), .unset, .unset, .unset, .unset, .unset] [])) tgt
    refine XS.lloadN X0.here hx rfl (hb hby at_0) rfl ?_
    show Steps p.tables e below (s₁.setTop (mkF m 1 #[.val (.long xx), .second, .val (.int xs), .val (.int xa), .val (.int gx), .val (.int gy), .unset, .unset, .unset, .unset, .unset] [(.long xx)])) tgt
    refine XS.iloadN X0.here hx rfl (hb hby at_1) rfl ?_
    show Steps p.tables e below (s₁.setTop (mkF m 2 #[.val (.long xx), .second, .val (.int xs), .val (.int xa), .val (.int gx), .val (.int gy), .unset, .unset, .unset, .unset, .unset] [(.int xs), (.long xx)])) tgt
    refine XS.bipush X0.here hx rfl (hb hby at_2) ?_
    show Steps p.tables e below (s₁.setTop (mkF m 4 #[.val (.long xx), .second, .val (.int xs), .val (.int xa), .val (.int gx), .val (.int gy), .unset, .unset, .unset, .unset, .unset] [(.int (63 : Int32)), (.int xs), (.long xx)])) tgt
    refine XS.iand X0.here hx rfl (hb hby at_4) rfl ?_
    show Steps p.tables e below (s₁.setTop (mkF m 5 #[.val (.long xx), .second, .val (.int xs), .val (.int xa), .val (.int gx), .val (.int gy), .unset, .unset, .unset, .unset, .unset] [(.int (xs &&& (63 : Int32))), (.long xx)])) tgt
    refine XS.lushr X0.here hx rfl (hb hby at_5) rfl ?_
    show Steps p.tables e below (s₁.setTop (mkF m 6 #[.val (.long xx), .second, .val (.int xs), .val (.int xa), .val (.int gx), .val (.int gy), .unset, .unset, .unset, .unset, .unset] [(.long ((xx.toUInt64 >>> ((xs &&& (63 : Int32)) &&& 0x3f).toInt64.toUInt64).toInt64))])) tgt
    refine XS.lstore X0.here hx rfl (hb hby at_6) rfl (l' := #[.val (.long xx), .second, .val (.int xs), .val (.int xa), .val (.int gx), .val (.int gy), .val (.long ((xx.toUInt64 >>> ((xs &&& (63 : Int32)) &&& 0x3f).toInt64.toUInt64).toInt64)), .second, .unset, .unset, .unset]) rfl ?_
    exact k
  obtain ⟨vv, hvv⟩ : ∃ z : Int64, z = ((xx.toUInt64 >>> ((xs &&& (63 : Int32)) &&& 0x3f).toInt64.toUInt64).toInt64) := ⟨_, rfl⟩
  rw [← hvv]
  refine own_st (V := s₁.setTop (mkF m 14 #[.val (.long xx), .second, .val (.int xs), .val (.int xa), .val (.int gx), .val (.int gy), .val (.long vv), .second, .val (.int (xa &&& (7 : Int32))), .unset, .unset] [])) (fun tgt k => ?_) ?_
  · show Steps p.tables e below (s₁.setTop (mkF m 8 #[.val (.long xx), .second, .val (.int xs), .val (.int xa), .val (.int gx), .val (.int gy), .val (.long vv), .second, .unset, .unset, .unset] [])) tgt
    refine XS.iloadN X0.here hx rfl (hb hby at_8) rfl ?_
    show Steps p.tables e below (s₁.setTop (mkF m 9 #[.val (.long xx), .second, .val (.int xs), .val (.int xa), .val (.int gx), .val (.int gy), .val (.long vv), .second, .unset, .unset, .unset] [(.int xa)])) tgt
    refine XS.bipush X0.here hx rfl (hb hby at_9) ?_
    show Steps p.tables e below (s₁.setTop (mkF m 11 #[.val (.long xx), .second, .val (.int xs), .val (.int xa), .val (.int gx), .val (.int gy), .val (.long vv), .second, .unset, .unset, .unset] [(.int (7 : Int32)), (.int xa)])) tgt
    refine XS.iand X0.here hx rfl (hb hby at_11) rfl ?_
    show Steps p.tables e below (s₁.setTop (mkF m 12 #[.val (.long xx), .second, .val (.int xs), .val (.int xa), .val (.int gx), .val (.int gy), .val (.long vv), .second, .unset, .unset, .unset] [(.int (xa &&& (7 : Int32)))])) tgt
    refine XS.istore X0.here hx rfl (hb hby at_12) rfl (l' := #[.val (.long xx), .second, .val (.int xs), .val (.int xa), .val (.int gx), .val (.int gy), .val (.long vv), .second, .val (.int (xa &&& (7 : Int32))), .unset, .unset]) rfl ?_
    exact k
  obtain ⟨av, hav⟩ : ∃ z : Int32, z = (xa &&& (7 : Int32)) := ⟨_, rfl⟩
  rw [← hav]
  have hav0 := c_and xa 7 (by decide)
  rw [← hav, show (7 : Int32).toInt = 7 from rfl] at hav0
  obtain ⟨A, hA, hA8⟩ : ∃ A : Nat, av.toInt = (A : Int) ∧ A < 8 := ⟨av.toInt.toNat, by omega, by omega⟩
  refine own_st (V := s₁.setTop (mkF m 16 #[.val (.long xx), .second, .val (.int xs), .val (.int xa), .val (.int gx), .val (.int gy), .val (.long vv), .second, .val (.int av), .unset, .unset] [(.long vv)])) (fun tgt k => ?_) ?_
  · show Steps p.tables e below (s₁.setTop (mkF m 14 #[.val (.long xx), .second, .val (.int xs), .val (.int xa), .val (.int gx), .val (.int gy), .val (.long vv), .second, .val (.int av), .unset, .unset] [])) tgt
    refine XS.lload X0.here hx rfl (hb hby at_14) rfl ?_
    exact k
  obtain ⟨v1, _, ⟨T1, L1, k1, n1⟩, -, Xc1, ⟨Lc1, hQ1, l1, y1, z1⟩, st1⟩ := Jvm.LawKit.callS X0 hx (y := (⟨"com/example/vestwright/vestwright/census/VarintReadPinLaw", "count", "(J)I"⟩ : MethodName)) hown (mvT hZ (hw _ (List.mem_of_getElem? (i := 0) rfl))) (mvT hZ (hw _ (List.mem_of_getElem? (i := 1) rfl))) (mvT hZ (hw _ (List.mem_of_getElem? (i := 2) rfl))) (mvT hZ (hw _ (List.mem_of_getElem? (i := 3) rfl))) (by decide) (backOf (W := 0) (rm1 l Z a0 hw [] vv h0 n0 Z0 ) hZ (hw _ (List.mem_of_getElem? (i := 3) rfl)) (hw _ (List.mem_of_getElem? (i := 2) rfl)) (by decide) (by decide)) (g := (mkF m 16 #[.val (.long xx), .second, .val (.int xs), .val (.int xa), .val (.int gx), .val (.int gy), .val (.long vv), .second, .val (.int av), .unset, .unset] [(.long vv)])) rfl (by rw [hml]; rfl) (argsL := [(.long vv)]) (rest := []) (lenOf pd_0_0 rfl) rfl (by show 2 * 0 + _ ≤ _; exact Nat.le_of_eq rfl) (hb hby at_16) (fun _ _ => ⟨rfl, e0, (by decide : 0 + 0 ≤ _), (by decide : 0 + 0 ≤ _)⟩)
  dsimp only [Pt.U, Pt.locs, Pt.cells, Pt.slots] at Xc1 l1 y1 z1 st1 hQ1
  have X1 := own_cast Xc1 l1 y1 z1
  obtain ⟨ev1, N1q, K1⟩ := hQ1
  rw [ev1] at st1
  have N1 := Fr.app N0 N1q
  refine own_st st1 ?_
  show own_Go p e below _ (T1.setTop (mkF m 19 #[.val (.long xx), .second, .val (.int xs), .val (.int xa), .val (.int gx), .val (.int gy), .val (.long vv), .second, .val (.int av), .unset, .unset] [(.int (own_count vv))]))
  refine own_st (V := T1.setTop (mkF m 21 #[.val (.long xx), .second, .val (.int xs), .val (.int xa), .val (.int gx), .val (.int gy), .val (.long vv), .second, .val (.int av), .val (.int (own_count vv)), .unset] [])) (fun tgt k => ?_) ?_
  · show Steps p.tables e below (T1.setTop (mkF m 19 #[.val (.long xx), .second, .val (.int xs), .val (.int xa), .val (.int gx), .val (.int gy), .val (.long vv), .second, .val (.int av), .unset, .unset] [(.int (own_count vv))])) tgt
    refine XS.istore X1.here hx rfl (hb hby at_19) rfl (l' := #[.val (.long xx), .second, .val (.int xs), .val (.int xa), .val (.int gx), .val (.int gy), .val (.long vv), .second, .val (.int av), .val (.int (own_count vv)), .unset]) rfl ?_
    exact k
  obtain ⟨nv, hnv⟩ : ∃ z : Int32, z = (own_count vv) := ⟨_, rfl⟩
  rw [← hnv]
  refine own_st (V := T1.setTop (mkF m 23 #[.val (.long xx), .second, .val (.int xs), .val (.int xa), .val (.int gx), .val (.int gy), .val (.long vv), .second, .val (.int av), .val (.int nv), .unset] [(.int (17 : Int32))])) (fun tgt k => ?_) ?_
  · show Steps p.tables e below (T1.setTop (mkF m 21 #[.val (.long xx), .second, .val (.int xs), .val (.int xa), .val (.int gx), .val (.int gy), .val (.long vv), .second, .val (.int av), .val (.int nv), .unset] [])) tgt
    refine XS.bipush X1.here hx rfl (hb hby at_21) ?_
    exact k
  obtain ⟨T2, h2, c2, X2, e2, E2, A2, st2⟩ := own_newarr X1 hx hZ (hw _ (List.mem_of_getElem? (i := 4) rfl)) K1 (g := (mkF m 23 #[.val (.long xx), .second, .val (.int xs), .val (.int xa), .val (.int gx), .val (.int gy), .val (.long vv), .second, .val (.int av), .val (.int nv), .unset] [(.int (17 : Int32))])) rfl (hb hby at_23) rfl (k := 17) rfl (cap := 17) (by decide) (by decide) (by decide) (by decide)
  obtain ⟨ba, g2⟩ : ∃ z, z = h0.size := ⟨_, rfl⟩
  rw [← g2] at A2 st2
  have g_ba : n0 ≤ ba := Nat.le_trans Z0 (Nat.le_of_eq g2.symm)
  have A_ba_2 : own_Ai Z h2 ba .byte 17 (fun _ => 0) := own_Ai.new A2
  have Zs2 : n0 ≤ h2.size := Nat.le_trans Z0 E2.1
  refine own_st st2 ?_
  show own_Go p e below _ (T2.setTop (mkF m 25 #[.val (.long xx), .second, .val (.int xs), .val (.int xa), .val (.int gx), .val (.int gy), .val (.long vv), .second, .val (.int av), .val (.int nv), .unset] [(.ref ba)]))
  refine own_st (V := T2.setTop (mkF m 33 #[.val (.long xx), .second, .val (.int xs), .val (.int xa), .val (.int gx), .val (.int gy), .val (.long vv), .second, .val (.int av), .val (.int nv), .val (.ref ba)] [(.int (gx.toInt8.toInt32)), (.int (0 : Int32)), (.ref ba)])) (fun tgt k => ?_) ?_
  · show Steps p.tables e below (T2.setTop (mkF m 25 #[.val (.long xx), .second, .val (.int xs), .val (.int xa), .val (.int gx), .val (.int gy), .val (.long vv), .second, .val (.int av), .val (.int nv), .unset] [(.ref ba)])) tgt
    refine XS.astore X2.here hx rfl (hb hby at_25) rfl rfl (l' := #[.val (.long xx), .second, .val (.int xs), .val (.int xa), .val (.int gx), .val (.int gy), .val (.long vv), .second, .val (.int av), .val (.int nv), .val (.ref ba)]) rfl ?_
    show Steps p.tables e below (T2.setTop (mkF m 27 #[.val (.long xx), .second, .val (.int xs), .val (.int xa), .val (.int gx), .val (.int gy), .val (.long vv), .second, .val (.int av), .val (.int nv), .val (.ref ba)] [])) tgt
    refine XS.aload X2.here hx rfl (hb hby at_27) rfl rfl ?_
    show Steps p.tables e below (T2.setTop (mkF m 29 #[.val (.long xx), .second, .val (.int xs), .val (.int xa), .val (.int gx), .val (.int gy), .val (.long vv), .second, .val (.int av), .val (.int nv), .val (.ref ba)] [(.ref ba)])) tgt
    refine XS.iconst X2.here hx rfl (hb hby at_29) ?_
    show Steps p.tables e below (T2.setTop (mkF m 30 #[.val (.long xx), .second, .val (.int xs), .val (.int xa), .val (.int gx), .val (.int gy), .val (.long vv), .second, .val (.int av), .val (.int nv), .val (.ref ba)] [(.int (0 : Int32)), (.ref ba)])) tgt
    refine XS.iload X2.here hx rfl (hb hby at_30) rfl ?_
    show Steps p.tables e below (T2.setTop (mkF m 32 #[.val (.long xx), .second, .val (.int xs), .val (.int xa), .val (.int gx), .val (.int gy), .val (.long vv), .second, .val (.int av), .val (.int nv), .val (.ref ba)] [(.int gx), (.int (0 : Int32)), (.ref ba)])) tgt
    refine XS.i2b X2.here hx rfl (hb hby at_32) rfl ?_
    exact k
  obtain ⟨T3, h3, X3, e3, W3, A_ba_3, st3⟩ := own_bastore X2 hx hZ e2 A_ba_2 (j := (0 : Int32)) (k := 0) rfl (by decide) (g := (mkF m 33 #[.val (.long xx), .second, .val (.int xs), .val (.int xa), .val (.int gx), .val (.int gy), .val (.long vv), .second, .val (.int av), .val (.int nv), .val (.ref ba)] [(.int (gx.toInt8.toInt32)), (.int (0 : Int32)), (.ref ba)])) rfl rfl (hb hby at_33)
  have N3 := Fr.snoc X3 N1 g_ba
  have Zs3 : n0 ≤ h3.size := Nat.le_trans Zs2 (Keep.of_wr W3).1
  refine own_st st3 ?_
  show own_Go p e below _ (T3.setTop (mkF m 34 #[.val (.long xx), .second, .val (.int xs), .val (.int xa), .val (.int gx), .val (.int gy), .val (.long vv), .second, .val (.int av), .val (.int nv), .val (.ref ba)] []))
  refine own_st (V := T3.setTop (mkF m 42 #[.val (.long xx), .second, .val (.int xs), .val (.int xa), .val (.int gx), .val (.int gy), .val (.long vv), .second, .val (.int av), .val (.int nv), .val (.ref ba)] [(.int (((gx.toUInt32 >>> ((4 : Int32) &&& 31).toUInt32).toInt32).toInt8.toInt32)), (.int (1 : Int32)), (.ref ba)])) (fun tgt k => ?_) ?_
  · show Steps p.tables e below (T3.setTop (mkF m 34 #[.val (.long xx), .second, .val (.int xs), .val (.int xa), .val (.int gx), .val (.int gy), .val (.long vv), .second, .val (.int av), .val (.int nv), .val (.ref ba)] [])) tgt
    refine XS.aload X3.here hx rfl (hb hby at_34) rfl rfl ?_
    show Steps p.tables e below (T3.setTop (mkF m 36 #[.val (.long xx), .second, .val (.int xs), .val (.int xa), .val (.int gx), .val (.int gy), .val (.long vv), .second, .val (.int av), .val (.int nv), .val (.ref ba)] [(.ref ba)])) tgt
    refine XS.iconst X3.here hx rfl (hb hby at_36) ?_
    show Steps p.tables e below (T3.setTop (mkF m 37 #[.val (.long xx), .second, .val (.int xs), .val (.int xa), .val (.int gx), .val (.int gy), .val (.long vv), .second, .val (.int av), .val (.int nv), .val (.ref ba)] [(.int (1 : Int32)), (.ref ba)])) tgt
    refine XS.iload X3.here hx rfl (hb hby at_37) rfl ?_
    show Steps p.tables e below (T3.setTop (mkF m 39 #[.val (.long xx), .second, .val (.int xs), .val (.int xa), .val (.int gx), .val (.int gy), .val (.long vv), .second, .val (.int av), .val (.int nv), .val (.ref ba)] [(.int gx), (.int (1 : Int32)), (.ref ba)])) tgt
    refine XS.iconst X3.here hx rfl (hb hby at_39) ?_
    show Steps p.tables e below (T3.setTop (mkF m 40 #[.val (.long xx), .second, .val (.int xs), .val (.int xa), .val (.int gx), .val (.int gy), .val (.long vv), .second, .val (.int av), .val (.int nv), .val (.ref ba)] [(.int (4 : Int32)), (.int gx), (.int (1 : Int32)), (.ref ba)])) tgt
    refine XS.iushr X3.here hx rfl (hb hby at_40) rfl ?_
    show Steps p.tables e below (T3.setTop (mkF m 41 #[.val (.long xx), .second, .val (.int xs), .val (.int xa), .val (.int gx), .val (.int gy), .val (.long vv), .second, .val (.int av), .val (.int nv), .val (.ref ba)] [(.int ((gx.toUInt32 >>> ((4 : Int32) &&& 31).toUInt32).toInt32)), (.int (1 : Int32)), (.ref ba)])) tgt
    refine XS.i2b X3.here hx rfl (hb hby at_41) rfl ?_
    exact k
  obtain ⟨T4, h4, X4, e4, W4, A_ba_4, st4⟩ := own_bastore X3 hx hZ e3 A_ba_3 (j := (1 : Int32)) (k := 1) rfl (by decide) (g := (mkF m 42 #[.val (.long xx), .second, .val (.int xs), .val (.int xa), .val (.int gx), .val (.int gy), .val (.long vv), .second, .val (.int av), .val (.int nv), .val (.ref ba)] [(.int (((gx.toUInt32 >>> ((4 : Int32) &&& 31).toUInt32).toInt32).toInt8.toInt32)), (.int (1 : Int32)), (.ref ba)])) rfl rfl (hb hby at_42)
  have N4 := Fr.snoc X4 N3 g_ba
  have Zs4 : n0 ≤ h4.size := Nat.le_trans Zs3 (Keep.of_wr W4).1
  refine own_st st4 ?_
  show own_Go p e below _ (T4.setTop (mkF m 43 #[.val (.long xx), .second, .val (.int xs), .val (.int xa), .val (.int gx), .val (.int gy), .val (.long vv), .second, .val (.int av), .val (.int nv), .val (.ref ba)] []))
  refine own_st (V := T4.setTop (mkF m 52 #[.val (.long xx), .second, .val (.int xs), .val (.int xa), .val (.int gx), .val (.int gy), .val (.long vv), .second, .val (.int av), .val (.int nv), .val (.ref ba)] [(.int (((gx.toUInt32 >>> ((8 : Int32) &&& 31).toUInt32).toInt32).toInt8.toInt32)), (.int (2 : Int32)), (.ref ba)])) (fun tgt k => ?_) ?_
  · show Steps p.tables e below (T4.setTop (mkF m 43 #[.val (.long xx), .second, .val (.int xs), .val (.int xa), .val (.int gx), .val (.int gy), .val (.long vv), .second, .val (.int av), .val (.int nv), .val (.ref ba)] [])) tgt
    refine XS.aload X4.here hx rfl (hb hby at_43) rfl rfl ?_
    show Steps p.tables e below (T4.setTop (mkF m 45 #[.val (.long xx), .second, .val (.int xs), .val (.int xa), .val (.int gx), .val (.int gy), .val (.long vv), .second, .val (.int av), .val (.int nv), .val (.ref ba)] [(.ref ba)])) tgt
    refine XS.iconst X4.here hx rfl (hb hby at_45) ?_
    show Steps p.tables e below (T4.setTop (mkF m 46 #[.val (.long xx), .second, .val (.int xs), .val (.int xa), .val (.int gx), .val (.int gy), .val (.long vv), .second, .val (.int av), .val (.int nv), .val (.ref ba)] [(.int (2 : Int32)), (.ref ba)])) tgt
    refine XS.iload X4.here hx rfl (hb hby at_46) rfl ?_
    show Steps p.tables e below (T4.setTop (mkF m 48 #[.val (.long xx), .second, .val (.int xs), .val (.int xa), .val (.int gx), .val (.int gy), .val (.long vv), .second, .val (.int av), .val (.int nv), .val (.ref ba)] [(.int gx), (.int (2 : Int32)), (.ref ba)])) tgt
    refine XS.bipush X4.here hx rfl (hb hby at_48) ?_
    show Steps p.tables e below (T4.setTop (mkF m 50 #[.val (.long xx), .second, .val (.int xs), .val (.int xa), .val (.int gx), .val (.int gy), .val (.long vv), .second, .val (.int av), .val (.int nv), .val (.ref ba)] [(.int (8 : Int32)), (.int gx), (.int (2 : Int32)), (.ref ba)])) tgt
    refine XS.iushr X4.here hx rfl (hb hby at_50) rfl ?_
    show Steps p.tables e below (T4.setTop (mkF m 51 #[.val (.long xx), .second, .val (.int xs), .val (.int xa), .val (.int gx), .val (.int gy), .val (.long vv), .second, .val (.int av), .val (.int nv), .val (.ref ba)] [(.int ((gx.toUInt32 >>> ((8 : Int32) &&& 31).toUInt32).toInt32)), (.int (2 : Int32)), (.ref ba)])) tgt
    refine XS.i2b X4.here hx rfl (hb hby at_51) rfl ?_
    exact k
  obtain ⟨T5, h5, X5, e5, W5, A_ba_5, st5⟩ := own_bastore X4 hx hZ e4 A_ba_4 (j := (2 : Int32)) (k := 2) rfl (by decide) (g := (mkF m 52 #[.val (.long xx), .second, .val (.int xs), .val (.int xa), .val (.int gx), .val (.int gy), .val (.long vv), .second, .val (.int av), .val (.int nv), .val (.ref ba)] [(.int (((gx.toUInt32 >>> ((8 : Int32) &&& 31).toUInt32).toInt32).toInt8.toInt32)), (.int (2 : Int32)), (.ref ba)])) rfl rfl (hb hby at_52)
  have N5 := Fr.snoc X5 N4 g_ba
  have Zs5 : n0 ≤ h5.size := Nat.le_trans Zs4 (Keep.of_wr W5).1
  refine own_st st5 ?_
  show own_Go p e below _ (T5.setTop (mkF m 53 #[.val (.long xx), .second, .val (.int xs), .val (.int xa), .val (.int gx), .val (.int gy), .val (.long vv), .second, .val (.int av), .val (.int nv), .val (.ref ba)] []))
  refine own_st (V := T5.setTop (mkF m 62 #[.val (.long xx), .second, .val (.int xs), .val (.int xa), .val (.int gx), .val (.int gy), .val (.long vv), .second, .val (.int av), .val (.int nv), .val (.ref ba)] [(.int (((gx.toUInt32 >>> ((12 : Int32) &&& 31).toUInt32).toInt32).toInt8.toInt32)), (.int (3 : Int32)), (.ref ba)])) (fun tgt k => ?_) ?_
  · show Steps p.tables e below (T5.setTop (mkF m 53 #[.val (.long xx), .second, .val (.int xs), .val (.int xa), .val (.int gx), .val (.int gy), .val (.long vv), .second, .val (.int av), .val (.int nv), .val (.ref ba)] [])) tgt
    refine XS.aload X5.here hx rfl (hb hby at_53) rfl rfl ?_
    show Steps p.tables e below (T5.setTop (mkF m 55 #[.val (.long xx), .second, .val (.int xs), .val (.int xa), .val (.int gx), .val (.int gy), .val (.long vv), .second, .val (.int av), .val (.int nv), .val (.ref ba)] [(.ref ba)])) tgt
    refine XS.iconst X5.here hx rfl (hb hby at_55) ?_
    show Steps p.tables e below (T5.setTop (mkF m 56 #[.val (.long xx), .second, .val (.int xs), .val (.int xa), .val (.int gx), .val (.int gy), .val (.long vv), .second, .val (.int av), .val (.int nv), .val (.ref ba)] [(.int (3 : Int32)), (.ref ba)])) tgt
    refine XS.iload X5.here hx rfl (hb hby at_56) rfl ?_
    show Steps p.tables e below (T5.setTop (mkF m 58 #[.val (.long xx), .second, .val (.int xs), .val (.int xa), .val (.int gx), .val (.int gy), .val (.long vv), .second, .val (.int av), .val (.int nv), .val (.ref ba)] [(.int gx), (.int (3 : Int32)), (.ref ba)])) tgt
    refine XS.bipush X5.here hx rfl (hb hby at_58) ?_
    show Steps p.tables e below (T5.setTop (mkF m 60 #[.val (.long xx), .second, .val (.int xs), .val (.int xa), .val (.int gx), .val (.int gy), .val (.long vv), .second, .val (.int av), .val (.int nv), .val (.ref ba)] [(.int (12 : Int32)), (.int gx), (.int (3 : Int32)), (.ref ba)])) tgt
    refine XS.iushr X5.here hx rfl (hb hby at_60) rfl ?_
    show Steps p.tables e below (T5.setTop (mkF m 61 #[.val (.long xx), .second, .val (.int xs), .val (.int xa), .val (.int gx), .val (.int gy), .val (.long vv), .second, .val (.int av), .val (.int nv), .val (.ref ba)] [(.int ((gx.toUInt32 >>> ((12 : Int32) &&& 31).toUInt32).toInt32)), (.int (3 : Int32)), (.ref ba)])) tgt
    refine XS.i2b X5.here hx rfl (hb hby at_61) rfl ?_
    exact k
  obtain ⟨T6, h6, X6, e6, W6, A_ba_6, st6⟩ := own_bastore X5 hx hZ e5 A_ba_5 (j := (3 : Int32)) (k := 3) rfl (by decide) (g := (mkF m 62 #[.val (.long xx), .second, .val (.int xs), .val (.int xa), .val (.int gx), .val (.int gy), .val (.long vv), .second, .val (.int av), .val (.int nv), .val (.ref ba)] [(.int (((gx.toUInt32 >>> ((12 : Int32) &&& 31).toUInt32).toInt32).toInt8.toInt32)), (.int (3 : Int32)), (.ref ba)])) rfl rfl (hb hby at_62)
  have N6 := Fr.snoc X6 N5 g_ba
  have Zs6 : n0 ≤ h6.size := Nat.le_trans Zs5 (Keep.of_wr W6).1
  refine own_st st6 ?_
  show own_Go p e below _ (T6.setTop (mkF m 63 #[.val (.long xx), .second, .val (.int xs), .val (.int xa), .val (.int gx), .val (.int gy), .val (.long vv), .second, .val (.int av), .val (.int nv), .val (.ref ba)] []))
  refine own_st (V := T6.setTop (mkF m 72 #[.val (.long xx), .second, .val (.int xs), .val (.int xa), .val (.int gx), .val (.int gy), .val (.long vv), .second, .val (.int av), .val (.int nv), .val (.ref ba)] [(.int (((gx.toUInt32 >>> ((16 : Int32) &&& 31).toUInt32).toInt32).toInt8.toInt32)), (.int (4 : Int32)), (.ref ba)])) (fun tgt k => ?_) ?_
  · show Steps p.tables e below (T6.setTop (mkF m 63 #[.val (.long xx), .second, .val (.int xs), .val (.int xa), .val (.int gx), .val (.int gy), .val (.long vv), .second, .val (.int av), .val (.int nv), .val (.ref ba)] [])) tgt
    refine XS.aload X6.here hx rfl (hb hby at_63) rfl rfl ?_
    show Steps p.tables e below (T6.setTop (mkF m 65 #[.val (.long xx), .second, .val (.int xs), .val (.int xa), .val (.int gx), .val (.int gy), .val (.long vv), .second, .val (.int av), .val (.int nv), .val (.ref ba)] [(.ref ba)])) tgt
    refine XS.iconst X6.here hx rfl (hb hby at_65) ?_
    show Steps p.tables e below (T6.setTop (mkF m 66 #[.val (.long xx), .second, .val (.int xs), .val (.int xa), .val (.int gx), .val (.int gy), .val (.long vv), .second, .val (.int av), .val (.int nv), .val (.ref ba)] [(.int (4 : Int32)), (.ref ba)])) tgt
    refine XS.iload X6.here hx rfl (hb hby at_66) rfl ?_
    show Steps p.tables e below (T6.setTop (mkF m 68 #[.val (.long xx), .second, .val (.int xs), .val (.int xa), .val (.int gx), .val (.int gy), .val (.long vv), .second, .val (.int av), .val (.int nv), .val (.ref ba)] [(.int gx), (.int (4 : Int32)), (.ref ba)])) tgt
    refine XS.bipush X6.here hx rfl (hb hby at_68) ?_
    show Steps p.tables e below (T6.setTop (mkF m 70 #[.val (.long xx), .second, .val (.int xs), .val (.int xa), .val (.int gx), .val (.int gy), .val (.long vv), .second, .val (.int av), .val (.int nv), .val (.ref ba)] [(.int (16 : Int32)), (.int gx), (.int (4 : Int32)), (.ref ba)])) tgt
    refine XS.iushr X6.here hx rfl (hb hby at_70) rfl ?_
    show Steps p.tables e below (T6.setTop (mkF m 71 #[.val (.long xx), .second, .val (.int xs), .val (.int xa), .val (.int gx), .val (.int gy), .val (.long vv), .second, .val (.int av), .val (.int nv), .val (.ref ba)] [(.int ((gx.toUInt32 >>> ((16 : Int32) &&& 31).toUInt32).toInt32)), (.int (4 : Int32)), (.ref ba)])) tgt
    refine XS.i2b X6.here hx rfl (hb hby at_71) rfl ?_
    exact k
  obtain ⟨T7, h7, X7, e7, W7, A_ba_7, st7⟩ := own_bastore X6 hx hZ e6 A_ba_6 (j := (4 : Int32)) (k := 4) rfl (by decide) (g := (mkF m 72 #[.val (.long xx), .second, .val (.int xs), .val (.int xa), .val (.int gx), .val (.int gy), .val (.long vv), .second, .val (.int av), .val (.int nv), .val (.ref ba)] [(.int (((gx.toUInt32 >>> ((16 : Int32) &&& 31).toUInt32).toInt32).toInt8.toInt32)), (.int (4 : Int32)), (.ref ba)])) rfl rfl (hb hby at_72)
  have N7 := Fr.snoc X7 N6 g_ba
  have Zs7 : n0 ≤ h7.size := Nat.le_trans Zs6 (Keep.of_wr W7).1
  refine own_st st7 ?_
  show own_Go p e below _ (T7.setTop (mkF m 73 #[.val (.long xx), .second, .val (.int xs), .val (.int xa), .val (.int gx), .val (.int gy), .val (.long vv), .second, .val (.int av), .val (.int nv), .val (.ref ba)] []))
  refine own_st (V := T7.setTop (mkF m 82 #[.val (.long xx), .second, .val (.int xs), .val (.int xa), .val (.int gx), .val (.int gy), .val (.long vv), .second, .val (.int av), .val (.int nv), .val (.ref ba)] [(.int (((gx.toUInt32 >>> ((20 : Int32) &&& 31).toUInt32).toInt32).toInt8.toInt32)), (.int (5 : Int32)), (.ref ba)])) (fun tgt k => ?_) ?_
  · show Steps p.tables e below (T7.setTop (mkF m 73 #[.val (.long xx), .second, .val (.int xs), .val (.int xa), .val (.int gx), .val (.int gy), .val (.long vv), .second, .val (.int av), .val (.int nv), .val (.ref ba)] [])) tgt
    refine XS.aload X7.here hx rfl (hb hby at_73) rfl rfl ?_
    show Steps p.tables e below (T7.setTop (mkF m 75 #[.val (.long xx), .second, .val (.int xs), .val (.int xa), .val (.int gx), .val (.int gy), .val (.long vv), .second, .val (.int av), .val (.int nv), .val (.ref ba)] [(.ref ba)])) tgt
    refine XS.iconst X7.here hx rfl (hb hby at_75) ?_
    show Steps p.tables e below (T7.setTop (mkF m 76 #[.val (.long xx), .second, .val (.int xs), .val (.int xa), .val (.int gx), .val (.int gy), .val (.long vv), .second, .val (.int av), .val (.int nv), .val (.ref ba)] [(.int (5 : Int32)), (.ref ba)])) tgt
    refine XS.iload X7.here hx rfl (hb hby at_76) rfl ?_
    show Steps p.tables e below (T7.setTop (mkF m 78 #[.val (.long xx), .second, .val (.int xs), .val (.int xa), .val (.int gx), .val (.int gy), .val (.long vv), .second, .val (.int av), .val (.int nv), .val (.ref ba)] [(.int gx), (.int (5 : Int32)), (.ref ba)])) tgt
    refine XS.bipush X7.here hx rfl (hb hby at_78) ?_
    show Steps p.tables e below (T7.setTop (mkF m 80 #[.val (.long xx), .second, .val (.int xs), .val (.int xa), .val (.int gx), .val (.int gy), .val (.long vv), .second, .val (.int av), .val (.int nv), .val (.ref ba)] [(.int (20 : Int32)), (.int gx), (.int (5 : Int32)), (.ref ba)])) tgt
    refine XS.iushr X7.here hx rfl (hb hby at_80) rfl ?_
    show Steps p.tables e below (T7.setTop (mkF m 81 #[.val (.long xx), .second, .val (.int xs), .val (.int xa), .val (.int gx), .val (.int gy), .val (.long vv), .second, .val (.int av), .val (.int nv), .val (.ref ba)] [(.int ((gx.toUInt32 >>> ((20 : Int32) &&& 31).toUInt32).toInt32)), (.int (5 : Int32)), (.ref ba)])) tgt
    refine XS.i2b X7.here hx rfl (hb hby at_81) rfl ?_
    exact k
  obtain ⟨T8, h8, X8, e8, W8, A_ba_8, st8⟩ := own_bastore X7 hx hZ e7 A_ba_7 (j := (5 : Int32)) (k := 5) rfl (by decide) (g := (mkF m 82 #[.val (.long xx), .second, .val (.int xs), .val (.int xa), .val (.int gx), .val (.int gy), .val (.long vv), .second, .val (.int av), .val (.int nv), .val (.ref ba)] [(.int (((gx.toUInt32 >>> ((20 : Int32) &&& 31).toUInt32).toInt32).toInt8.toInt32)), (.int (5 : Int32)), (.ref ba)])) rfl rfl (hb hby at_82)
  have N8 := Fr.snoc X8 N7 g_ba
  have Zs8 : n0 ≤ h8.size := Nat.le_trans Zs7 (Keep.of_wr W8).1
  refine own_st st8 ?_
  show own_Go p e below _ (T8.setTop (mkF m 83 #[.val (.long xx), .second, .val (.int xs), .val (.int xa), .val (.int gx), .val (.int gy), .val (.long vv), .second, .val (.int av), .val (.int nv), .val (.ref ba)] []))
  refine own_st (V := T8.setTop (mkF m 93 #[.val (.long xx), .second, .val (.int xs), .val (.int xa), .val (.int gx), .val (.int gy), .val (.long vv), .second, .val (.int av), .val (.int nv), .val (.ref ba)] [(.int (((gx.toUInt32 >>> ((24 : Int32) &&& 31).toUInt32).toInt32).toInt8.toInt32)), (.int (6 : Int32)), (.ref ba)])) (fun tgt k => ?_) ?_
  · show Steps p.tables e below (T8.setTop (mkF m 83 #[.val (.long xx), .second, .val (.int xs), .val (.int xa), .val (.int gx), .val (.int gy), .val (.long vv), .second, .val (.int av), .val (.int nv), .val (.ref ba)] [])) tgt
    refine XS.aload X8.here hx rfl (hb hby at_83) rfl rfl ?_
    show Steps p.tables e below (T8.setTop (mkF m 85 #[.val (.long xx), .second, .val (.int xs), .val (.int xa), .val (.int gx), .val (.int gy), .val (.long vv), .second, .val (.int av), .val (.int nv), .val (.ref ba)] [(.ref ba)])) tgt
    refine XS.bipush X8.here hx rfl (hb hby at_85) ?_
    show Steps p.tables e below (T8.setTop (mkF m 87 #[.val (.long xx), .second, .val (.int xs), .val (.int xa), .val (.int gx), .val (.int gy), .val (.long vv), .second, .val (.int av), .val (.int nv), .val (.ref ba)] [(.int (6 : Int32)), (.ref ba)])) tgt
    refine XS.iload X8.here hx rfl (hb hby at_87) rfl ?_
    show Steps p.tables e below (T8.setTop (mkF m 89 #[.val (.long xx), .second, .val (.int xs), .val (.int xa), .val (.int gx), .val (.int gy), .val (.long vv), .second, .val (.int av), .val (.int nv), .val (.ref ba)] [(.int gx), (.int (6 : Int32)), (.ref ba)])) tgt
    refine XS.bipush X8.here hx rfl (hb hby at_89) ?_
    show Steps p.tables e below (T8.setTop (mkF m 91 #[.val (.long xx), .second, .val (.int xs), .val (.int xa), .val (.int gx), .val (.int gy), .val (.long vv), .second, .val (.int av), .val (.int nv), .val (.ref ba)] [(.int (24 : Int32)), (.int gx), (.int (6 : Int32)), (.ref ba)])) tgt
    refine XS.iushr X8.here hx rfl (hb hby at_91) rfl ?_
    show Steps p.tables e below (T8.setTop (mkF m 92 #[.val (.long xx), .second, .val (.int xs), .val (.int xa), .val (.int gx), .val (.int gy), .val (.long vv), .second, .val (.int av), .val (.int nv), .val (.ref ba)] [(.int ((gx.toUInt32 >>> ((24 : Int32) &&& 31).toUInt32).toInt32)), (.int (6 : Int32)), (.ref ba)])) tgt
    refine XS.i2b X8.here hx rfl (hb hby at_92) rfl ?_
    exact k
  obtain ⟨T9, h9, X9, e9, W9, A_ba_9, st9⟩ := own_bastore X8 hx hZ e8 A_ba_8 (j := (6 : Int32)) (k := 6) rfl (by decide) (g := (mkF m 93 #[.val (.long xx), .second, .val (.int xs), .val (.int xa), .val (.int gx), .val (.int gy), .val (.long vv), .second, .val (.int av), .val (.int nv), .val (.ref ba)] [(.int (((gx.toUInt32 >>> ((24 : Int32) &&& 31).toUInt32).toInt32).toInt8.toInt32)), (.int (6 : Int32)), (.ref ba)])) rfl rfl (hb hby at_93)
  have N9 := Fr.snoc X9 N8 g_ba
  have Zs9 : n0 ≤ h9.size := Nat.le_trans Zs8 (Keep.of_wr W9).1
  refine own_st st9 ?_
  show own_Go p e below _ (T9.setTop (mkF m 94 #[.val (.long xx), .second, .val (.int xs), .val (.int xa), .val (.int gx), .val (.int gy), .val (.long vv), .second, .val (.int av), .val (.int nv), .val (.ref ba)] []))
  obtain ⟨gf, hgf⟩ : ∃ f : Nat → Int32, f = (own_up (own_up (own_up (own_up (own_up (own_up (own_up (fun _ => 0) 0 (gx.toInt8.toInt32).toInt8.toInt32) 1 (((gx.toUInt32 >>> ((4 : Int32) &&& 31).toUInt32).toInt32).toInt8.toInt32).toInt8.toInt32) 2 (((gx.toUInt32 >>> ((8 : Int32) &&& 31).toUInt32).toInt32).toInt8.toInt32).toInt8.toInt32) 3 (((gx.toUInt32 >>> ((12 : Int32) &&& 31).toUInt32).toInt32).toInt8.toInt32).toInt8.toInt32) 4 (((gx.toUInt32 >>> ((16 : Int32) &&& 31).toUInt32).toInt32).toInt8.toInt32).toInt8.toInt32) 5 (((gx.toUInt32 >>> ((20 : Int32) &&& 31).toUInt32).toInt32).toInt8.toInt32).toInt8.toInt32) 6 (((gx.toUInt32 >>> ((24 : Int32) &&& 31).toUInt32).toInt32).toInt8.toInt32).toInt8.toInt32) := ⟨_, rfl⟩
  have Ag_ba_10 := A_ba_9
  rw [← hgf] at Ag_ba_10
  refine own_st (V := T9.setTop (mkF m 105 #[.val (.long xx), .second, .val (.int xs), .val (.int xa), .val (.int gx), .val (.int gy), .val (.long vv), .second, .val (.int av), .val (.int nv), .val (.ref ba)] [(.int gy), (.int nv), (.int (0 : Int32)), (.long vv), (.int av), (.ref ba)])) (fun tgt k => ?_) ?_
  · show Steps p.tables e below (T9.setTop (mkF m 94 #[.val (.long xx), .second, .val (.int xs), .val (.int xa), .val (.int gx), .val (.int gy), .val (.long vv), .second, .val (.int av), .val (.int nv), .val (.ref ba)] [])) tgt
    refine XS.aload X9.here hx rfl (hb hby at_94) rfl rfl ?_
    show Steps p.tables e below (T9.setTop (mkF m 96 #[.val (.long xx), .second, .val (.int xs), .val (.int xa), .val (.int gx), .val (.int gy), .val (.long vv), .second, .val (.int av), .val (.int nv), .val (.ref ba)] [(.ref ba)])) tgt
    refine XS.iload X9.here hx rfl (hb hby at_96) rfl ?_
    show Steps p.tables e below (T9.setTop (mkF m 98 #[.val (.long xx), .second, .val (.int xs), .val (.int xa), .val (.int gx), .val (.int gy), .val (.long vv), .second, .val (.int av), .val (.int nv), .val (.ref ba)] [(.int av), (.ref ba)])) tgt
    refine XS.lload X9.here hx rfl (hb hby at_98) rfl ?_
    show Steps p.tables e below (T9.setTop (mkF m 100 #[.val (.long xx), .second, .val (.int xs), .val (.int xa), .val (.int gx), .val (.int gy), .val (.long vv), .second, .val (.int av), .val (.int nv), .val (.ref ba)] [(.long vv), (.int av), (.ref ba)])) tgt
    refine XS.iconst X9.here hx rfl (hb hby at_100) ?_
    show Steps p.tables e below (T9.setTop (mkF m 101 #[.val (.long xx), .second, .val (.int xs), .val (.int xa), .val (.int gx), .val (.int gy), .val (.long vv), .second, .val (.int av), .val (.int nv), .val (.ref ba)] [(.int (0 : Int32)), (.long vv), (.int av), (.ref ba)])) tgt
    refine XS.iload X9.here hx rfl (hb hby at_101) rfl ?_
    show Steps p.tables e below (T9.setTop (mkF m 103 #[.val (.long xx), .second, .val (.int xs), .val (.int xa), .val (.int gx), .val (.int gy), .val (.long vv), .second, .val (.int av), .val (.int nv), .val (.ref ba)] [(.int nv), (.int (0 : Int32)), (.long vv), (.int av), (.ref ba)])) tgt
    refine XS.iload X9.here hx rfl (hb hby at_103) rfl ?_
    exact k
  obtain ⟨v11, _, ⟨T11, L11, k11, n11⟩, -, Xc11, ⟨Lc11, hQ11, l11, y11, z11⟩, st11⟩ := Jvm.LawKit.callS X9 hx (y := (⟨"com/example/vestwright/vestwright/census/VarintReadPinLaw", "enc", "(JIII)B"⟩ : MethodName)) hown (mvT hZ (hw _ (List.mem_of_getElem? (i := 5) rfl))) (mvT hZ (hw _ (List.mem_of_getElem? (i := 6) rfl))) (mvT hZ (hw _ (List.mem_of_getElem? (i := 2) rfl))) (mvT hZ (hw _ (List.mem_of_getElem? (i := 7) rfl))) (by decide) (backOf (W := 2) (rm2 l Z a0 hw [] vv (0 : Int32) nv gy h9 n0 Zs9 ) hZ (hw _ (List.mem_of_getElem? (i := 7) rfl)) (hw _ (List.mem_of_getElem? (i := 2) rfl)) (by decide) (by decide)) (g := (mkF m 105 #[.val (.long xx), .second, .val (.int xs), .val (.int xa), .val (.int gx), .val (.int gy), .val (.long vv), .second, .val (.int av), .val (.int nv), .val (.ref ba)] [(.int gy), (.int nv), (.int (0 : Int32)), (.long vv), (.int av), (.ref ba)])) rfl (by rw [hml]; rfl) (argsL := [(.long vv), (.int (0 : Int32)), (.int nv), (.int gy)]) (rest := [(.int av), (.ref ba)]) (lenOf pd_0_1 rfl) rfl (by show 2 * 0 + _ ≤ _; exact Nat.le_of_eq rfl) (hb hby at_105) (fun _ _ => ⟨rfl, e9, (by decide : 1 + 0 ≤ _), (by decide : 17 + 0 ≤ _)⟩)
  dsimp only [Pt.U, Pt.locs, Pt.cells, Pt.slots] at Xc11 l11 y11 z11 st11 hQ11
  have X11 := own_cast Xc11 l11 y11 z11
  obtain ⟨ev11, N11q, K11⟩ := hQ11
  rw [ev11] at st11
  have N11 := Fr.app N9 N11q
  refine own_st st11 ?_
  show own_Go p e below _ (T11.setTop (mkF m 108 #[.val (.long xx), .second, .val (.int xs), .val (.int xa), .val (.int gx), .val (.int gy), .val (.long vv), .second, .val (.int av), .val (.int nv), .val (.ref ba)] [(.int (own_enc vv (0 : Int32) nv gy)), (.int av), (.ref ba)]))
  obtain ⟨T12, h12, X12, e12, W12, A_ba_12, st12⟩ := own_bastore X11 hx hZ K11 Ag_ba_10 (j := av) (k := (A + 0)) hA (by omega) (g := (mkF m 108 #[.val (.long xx), .second, .val (.int xs), .val (.int xa), .val (.int gx), .val (.int gy), .val (.long vv), .second, .val (.int av), .val (.int nv), .val (.ref ba)] [(.int (own_enc vv (0 : Int32) nv gy)), (.int av), (.ref ba)])) rfl rfl (hb hby at_108)
  have N12 := Fr.snoc X12 N11 g_ba
  have Zs12 : n0 ≤ h12.size := Nat.le_trans Zs9 (Keep.of_wr W12).1
  refine own_st st12 ?_
  show own_Go p e below _ (T12.setTop (mkF m 109 #[.val (.long xx), .second, .val (.int xs), .val (.int xa), .val (.int gx), .val (.int gy), .val (.long vv), .second, .val (.int av), .val (.int nv), .val (.ref ba)] []))
  have Af_ba_13 := A_ba_12
  rw [show (own_up gf (A + 0) (own_enc vv (0 : Int32) nv gy).toInt8.toInt32) = (own_up gf (A + 0) (own_enc vv (0 : Int32) nv gy)) from by rw [own_enc8]] at Af_ba_13
  refine own_st (V := T12.setTop (mkF m 122 #[.val (.long xx), .second, .val (.int xs), .val (.int xa), .val (.int gx), .val (.int gy), .val (.long vv), .second, .val (.int av), .val (.int nv), .val (.ref ba)] [(.int gy), (.int nv), (.int (1 : Int32)), (.long vv), (.int (av + (1 : Int32))), (.ref ba)])) (fun tgt k => ?_) ?_
  · show Steps p.tables e below (T12.setTop (mkF m 109 #[.val (.long xx), .second, .val (.int xs), .val (.int xa), .val (.int gx), .val (.int gy), .val (.long vv), .second, .val (.int av), .val (.int nv), .val (.ref ba)] [])) tgt
    refine XS.aload X12.here hx rfl (hb hby at_109) rfl rfl ?_
    show Steps p.tables e below (T12.setTop (mkF m 111 #[.val (.long xx), .second, .val (.int xs), .val (.int xa), .val (.int gx), .val (.int gy), .val (.long vv), .second, .val (.int av), .val (.int nv), .val (.ref ba)] [(.ref ba)])) tgt
    refine XS.iload X12.here hx rfl (hb hby at_111) rfl ?_
    show Steps p.tables e below (T12.setTop (mkF m 113 #[.val (.long xx), .second, .val (.int xs), .val (.int xa), .val (.int gx), .val (.int gy), .val (.long vv), .second, .val (.int av), .val (.int nv), .val (.ref ba)] [(.int av), (.ref ba)])) tgt
    refine XS.iconst X12.here hx rfl (hb hby at_113) ?_
    show Steps p.tables e below (T12.setTop (mkF m 114 #[.val (.long xx), .second, .val (.int xs), .val (.int xa), .val (.int gx), .val (.int gy), .val (.long vv), .second, .val (.int av), .val (.int nv), .val (.ref ba)] [(.int (1 : Int32)), (.int av), (.ref ba)])) tgt
    refine XS.iadd X12.here hx rfl (hb hby at_114) rfl ?_
    show Steps p.tables e below (T12.setTop (mkF m 115 #[.val (.long xx), .second, .val (.int xs), .val (.int xa), .val (.int gx), .val (.int gy), .val (.long vv), .second, .val (.int av), .val (.int nv), .val (.ref ba)] [(.int (av + (1 : Int32))), (.ref ba)])) tgt
    refine XS.lload X12.here hx rfl (hb hby at_115) rfl ?_
    show Steps p.tables e below (T12.setTop (mkF m 117 #[.val (.long xx), .second, .val (.int xs), .val (.int xa), .val (.int gx), .val (.int gy), .val (.long vv), .second, .val (.int av), .val (.int nv), .val (.ref ba)] [(.long vv), (.int (av + (1 : Int32))), (.ref ba)])) tgt
    refine XS.iconst X12.here hx rfl (hb hby at_117) ?_
    show Steps p.tables e below (T12.setTop (mkF m 118 #[.val (.long xx), .second, .val (.int xs), .val (.int xa), .val (.int gx), .val (.int gy), .val (.long vv), .second, .val (.int av), .val (.int nv), .val (.ref ba)] [(.int (1 : Int32)), (.long vv), (.int (av + (1 : Int32))), (.ref ba)])) tgt
    refine XS.iload X12.here hx rfl (hb hby at_118) rfl ?_
    show Steps p.tables e below (T12.setTop (mkF m 120 #[.val (.long xx), .second, .val (.int xs), .val (.int xa), .val (.int gx), .val (.int gy), .val (.long vv), .second, .val (.int av), .val (.int nv), .val (.ref ba)] [(.int nv), (.int (1 : Int32)), (.long vv), (.int (av + (1 : Int32))), (.ref ba)])) tgt
    refine XS.iload X12.here hx rfl (hb hby at_120) rfl ?_
    exact k
  obtain ⟨v14, _, ⟨T14, L14, k14, n14⟩, -, Xc14, ⟨Lc14, hQ14, l14, y14, z14⟩, st14⟩ := Jvm.LawKit.callS X12 hx (y := (⟨"com/example/vestwright/vestwright/census/VarintReadPinLaw", "enc", "(JIII)B"⟩ : MethodName)) hown (mvT hZ (hw _ (List.mem_of_getElem? (i := 5) rfl))) (mvT hZ (hw _ (List.mem_of_getElem? (i := 6) rfl))) (mvT hZ (hw _ (List.mem_of_getElem? (i := 2) rfl))) (mvT hZ (hw _ (List.mem_of_getElem? (i := 7) rfl))) (by decide) (backOf (W := 2) (rm2 l Z a0 hw [] vv (1 : Int32) nv gy h12 n0 Zs12 ) hZ (hw _ (List.mem_of_getElem? (i := 7) rfl)) (hw _ (List.mem_of_getElem? (i := 2) rfl)) (by decide) (by decide)) (g := (mkF m 122 #[.val (.long xx), .second, .val (.int xs), .val (.int xa), .val (.int gx), .val (.int gy), .val (.long vv), .second, .val (.int av), .val (.int nv), .val (.ref ba)] [(.int gy), (.int nv), (.int (1 : Int32)), (.long vv), (.int (av + (1 : Int32))), (.ref ba)])) rfl (by rw [hml]; rfl) (argsL := [(.long vv), (.int (1 : Int32)), (.int nv), (.int gy)]) (rest := [(.int (av + (1 : Int32))), (.ref ba)]) (lenOf pd_0_1 rfl) rfl (by show 2 * 0 + _ ≤ _; exact Nat.le_of_eq rfl) (hb hby at_122) (fun _ _ => ⟨rfl, e12, (by decide : 1 + 0 ≤ _), (by decide : 17 + 0 ≤ _)⟩)
  dsimp only [Pt.U, Pt.locs, Pt.cells, Pt.slots] at Xc14 l14 y14 z14 st14 hQ14
  have X14 := own_cast Xc14 l14 y14 z14
  obtain ⟨ev14, N14q, K14⟩ := hQ14
  rw [ev14] at st14
  have N14 := Fr.app N12 N14q
  refine own_st st14 ?_
  show own_Go p e below _ (T14.setTop (mkF m 125 #[.val (.long xx), .second, .val (.int xs), .val (.int xa), .val (.int gx), .val (.int gy), .val (.long vv), .second, .val (.int av), .val (.int nv), .val (.ref ba)] [(.int (own_enc vv (1 : Int32) nv gy)), (.int (av + (1 : Int32))), (.ref ba)]))
  obtain ⟨T15, h15, X15, e15, W15, A_ba_15, st15⟩ := own_bastore X14 hx hZ K14 Af_ba_13 (j := (av + (1 : Int32))) (k := (A + 1)) (own_ai hA hA8 (by decide) (by decide)) (by omega) (g := (mkF m 125 #[.val (.long xx), .second, .val (.int xs), .val (.int xa), .val (.int gx), .val (.int gy), .val (.long vv), .second, .val (.int av), .val (.int nv), .val (.ref ba)] [(.int (own_enc vv (1 : Int32) nv gy)), (.int (av + (1 : Int32))), (.ref ba)])) rfl rfl (hb hby at_125)
  have N15 := Fr.snoc X15 N14 g_ba
  have Zs15 : n0 ≤ h15.size := Nat.le_trans Zs12 (Keep.of_wr W15).1
  refine own_st st15 ?_
  show own_Go p e below _ (T15.setTop (mkF m 126 #[.val (.long xx), .second, .val (.int xs), .val (.int xa), .val (.int gx), .val (.int gy), .val (.long vv), .second, .val (.int av), .val (.int nv), .val (.ref ba)] []))
  have Af_ba_16 := A_ba_15
  rw [show (own_up (own_up gf (A + 0) (own_enc vv (0 : Int32) nv gy)) (A + 1) (own_enc vv (1 : Int32) nv gy).toInt8.toInt32) = (own_up (own_up gf (A + 0) (own_enc vv (0 : Int32) nv gy)) (A + 1) (own_enc vv (1 : Int32) nv gy)) from by rw [own_enc8]] at Af_ba_16
  refine own_st (V := T15.setTop (mkF m 139 #[.val (.long xx), .second, .val (.int xs), .val (.int xa), .val (.int gx), .val (.int gy), .val (.long vv), .second, .val (.int av), .val (.int nv), .val (.ref ba)] [(.int gy), (.int nv), (.int (2 : Int32)), (.long vv), (.int (av + (2 : Int32))), (.ref ba)])) (fun tgt k => ?_) ?_
  · show Steps p.tables e below (T15.setTop (mkF m 126 #[.val (.long xx), .second, .val (.int xs), .val (.int xa), .val (.int gx), .val (.int gy), .val (.long vv), .second, .val (.int av), .val (.int nv), .val (.ref ba)] [])) tgt
    refine XS.aload X15.here hx rfl (hb hby at_126) rfl rfl ?_
    show Steps p.tables e below (T15.setTop (mkF m 128 #[.val (.long xx), .second, .val (.int xs), .val (.int xa), .val (.int gx), .val (.int gy), .val (.long vv), .second, .val (.int av), .val (.int nv), .val (.ref ba)] [(.ref ba)])) tgt
    refine XS.iload X15.here hx rfl (hb hby at_128) rfl ?_
    show Steps p.tables e below (T15.setTop (mkF m 130 #[.val (.long xx), .second, .val (.int xs), .val (.int xa), .val (.int gx), .val (.int gy), .val (.long vv), .second, .val (.int av), .val (.int nv), .val (.ref ba)] [(.int av), (.ref ba)])) tgt
    refine XS.iconst X15.here hx rfl (hb hby at_130) ?_
    show Steps p.tables e below (T15.setTop (mkF m 131 #[.val (.long xx), .second, .val (.int xs), .val (.int xa), .val (.int gx), .val (.int gy), .val (.long vv), .second, .val (.int av), .val (.int nv), .val (.ref ba)] [(.int (2 : Int32)), (.int av), (.ref ba)])) tgt
    refine XS.iadd X15.here hx rfl (hb hby at_131) rfl ?_
    show Steps p.tables e below (T15.setTop (mkF m 132 #[.val (.long xx), .second, .val (.int xs), .val (.int xa), .val (.int gx), .val (.int gy), .val (.long vv), .second, .val (.int av), .val (.int nv), .val (.ref ba)] [(.int (av + (2 : Int32))), (.ref ba)])) tgt
    refine XS.lload X15.here hx rfl (hb hby at_132) rfl ?_
    show Steps p.tables e below (T15.setTop (mkF m 134 #[.val (.long xx), .second, .val (.int xs), .val (.int xa), .val (.int gx), .val (.int gy), .val (.long vv), .second, .val (.int av), .val (.int nv), .val (.ref ba)] [(.long vv), (.int (av + (2 : Int32))), (.ref ba)])) tgt
    refine XS.iconst X15.here hx rfl (hb hby at_134) ?_
    show Steps p.tables e below (T15.setTop (mkF m 135 #[.val (.long xx), .second, .val (.int xs), .val (.int xa), .val (.int gx), .val (.int gy), .val (.long vv), .second, .val (.int av), .val (.int nv), .val (.ref ba)] [(.int (2 : Int32)), (.long vv), (.int (av + (2 : Int32))), (.ref ba)])) tgt
    refine XS.iload X15.here hx rfl (hb hby at_135) rfl ?_
    show Steps p.tables e below (T15.setTop (mkF m 137 #[.val (.long xx), .second, .val (.int xs), .val (.int xa), .val (.int gx), .val (.int gy), .val (.long vv), .second, .val (.int av), .val (.int nv), .val (.ref ba)] [(.int nv), (.int (2 : Int32)), (.long vv), (.int (av + (2 : Int32))), (.ref ba)])) tgt
    refine XS.iload X15.here hx rfl (hb hby at_137) rfl ?_
    exact k
  obtain ⟨v17, _, ⟨T17, L17, k17, n17⟩, -, Xc17, ⟨Lc17, hQ17, l17, y17, z17⟩, st17⟩ := Jvm.LawKit.callS X15 hx (y := (⟨"com/example/vestwright/vestwright/census/VarintReadPinLaw", "enc", "(JIII)B"⟩ : MethodName)) hown (mvT hZ (hw _ (List.mem_of_getElem? (i := 5) rfl))) (mvT hZ (hw _ (List.mem_of_getElem? (i := 6) rfl))) (mvT hZ (hw _ (List.mem_of_getElem? (i := 2) rfl))) (mvT hZ (hw _ (List.mem_of_getElem? (i := 7) rfl))) (by decide) (backOf (W := 2) (rm2 l Z a0 hw [] vv (2 : Int32) nv gy h15 n0 Zs15 ) hZ (hw _ (List.mem_of_getElem? (i := 7) rfl)) (hw _ (List.mem_of_getElem? (i := 2) rfl)) (by decide) (by decide)) (g := (mkF m 139 #[.val (.long xx), .second, .val (.int xs), .val (.int xa), .val (.int gx), .val (.int gy), .val (.long vv), .second, .val (.int av), .val (.int nv), .val (.ref ba)] [(.int gy), (.int nv), (.int (2 : Int32)), (.long vv), (.int (av + (2 : Int32))), (.ref ba)])) rfl (by rw [hml]; rfl) (argsL := [(.long vv), (.int (2 : Int32)), (.int nv), (.int gy)]) (rest := [(.int (av + (2 : Int32))), (.ref ba)]) (lenOf pd_0_1 rfl) rfl (by show 2 * 0 + _ ≤ _; exact Nat.le_of_eq rfl) (hb hby at_139) (fun _ _ => ⟨rfl, e15, (by decide : 1 + 0 ≤ _), (by decide : 17 + 0 ≤ _)⟩)
  dsimp only [Pt.U, Pt.locs, Pt.cells, Pt.slots] at Xc17 l17 y17 z17 st17 hQ17
  have X17 := own_cast Xc17 l17 y17 z17
  obtain ⟨ev17, N17q, K17⟩ := hQ17
  rw [ev17] at st17
  have N17 := Fr.app N15 N17q
  refine own_st st17 ?_
  show own_Go p e below _ (T17.setTop (mkF m 142 #[.val (.long xx), .second, .val (.int xs), .val (.int xa), .val (.int gx), .val (.int gy), .val (.long vv), .second, .val (.int av), .val (.int nv), .val (.ref ba)] [(.int (own_enc vv (2 : Int32) nv gy)), (.int (av + (2 : Int32))), (.ref ba)]))
  obtain ⟨T18, h18, X18, e18, W18, A_ba_18, st18⟩ := own_bastore X17 hx hZ K17 Af_ba_16 (j := (av + (2 : Int32))) (k := (A + 2)) (own_ai hA hA8 (by decide) (by decide)) (by omega) (g := (mkF m 142 #[.val (.long xx), .second, .val (.int xs), .val (.int xa), .val (.int gx), .val (.int gy), .val (.long vv), .second, .val (.int av), .val (.int nv), .val (.ref ba)] [(.int (own_enc vv (2 : Int32) nv gy)), (.int (av + (2 : Int32))), (.ref ba)])) rfl rfl (hb hby at_142)
  have N18 := Fr.snoc X18 N17 g_ba
  have Zs18 : n0 ≤ h18.size := Nat.le_trans Zs15 (Keep.of_wr W18).1
  refine own_st st18 ?_
  show own_Go p e below _ (T18.setTop (mkF m 143 #[.val (.long xx), .second, .val (.int xs), .val (.int xa), .val (.int gx), .val (.int gy), .val (.long vv), .second, .val (.int av), .val (.int nv), .val (.ref ba)] []))
  have Af_ba_19 := A_ba_18
  rw [show (own_up (own_up (own_up gf (A + 0) (own_enc vv (0 : Int32) nv gy)) (A + 1) (own_enc vv (1 : Int32) nv gy)) (A + 2) (own_enc vv (2 : Int32) nv gy).toInt8.toInt32) = (own_up (own_up (own_up gf (A + 0) (own_enc vv (0 : Int32) nv gy)) (A + 1) (own_enc vv (1 : Int32) nv gy)) (A + 2) (own_enc vv (2 : Int32) nv gy)) from by rw [own_enc8]] at Af_ba_19
  refine own_st (V := T18.setTop (mkF m 156 #[.val (.long xx), .second, .val (.int xs), .val (.int xa), .val (.int gx), .val (.int gy), .val (.long vv), .second, .val (.int av), .val (.int nv), .val (.ref ba)] [(.int gy), (.int nv), (.int (3 : Int32)), (.long vv), (.int (av + (3 : Int32))), (.ref ba)])) (fun tgt k => ?_) ?_
  · show Steps p.tables e below (T18.setTop (mkF m 143 #[.val (.long xx), .second, .val (.int xs), .val (.int xa), .val (.int gx), .val (.int gy), .val (.long vv), .second, .val (.int av), .val (.int nv), .val (.ref ba)] [])) tgt
    refine XS.aload X18.here hx rfl (hb hby at_143) rfl rfl ?_
    show Steps p.tables e below (T18.setTop (mkF m 145 #[.val (.long xx), .second, .val (.int xs), .val (.int xa), .val (.int gx), .val (.int gy), .val (.long vv), .second, .val (.int av), .val (.int nv), .val (.ref ba)] [(.ref ba)])) tgt
    refine XS.iload X18.here hx rfl (hb hby at_145) rfl ?_
    show Steps p.tables e below (T18.setTop (mkF m 147 #[.val (.long xx), .second, .val (.int xs), .val (.int xa), .val (.int gx), .val (.int gy), .val (.long vv), .second, .val (.int av), .val (.int nv), .val (.ref ba)] [(.int av), (.ref ba)])) tgt
    refine XS.iconst X18.here hx rfl (hb hby at_147) ?_
    show Steps p.tables e below (T18.setTop (mkF m 148 #[.val (.long xx), .second, .val (.int xs), .val (.int xa), .val (.int gx), .val (.int gy), .val (.long vv), .second, .val (.int av), .val (.int nv), .val (.ref ba)] [(.int (3 : Int32)), (.int av), (.ref ba)])) tgt
    refine XS.iadd X18.here hx rfl (hb hby at_148) rfl ?_
    show Steps p.tables e below (T18.setTop (mkF m 149 #[.val (.long xx), .second, .val (.int xs), .val (.int xa), .val (.int gx), .val (.int gy), .val (.long vv), .second, .val (.int av), .val (.int nv), .val (.ref ba)] [(.int (av + (3 : Int32))), (.ref ba)])) tgt
    refine XS.lload X18.here hx rfl (hb hby at_149) rfl ?_
    show Steps p.tables e below (T18.setTop (mkF m 151 #[.val (.long xx), .second, .val (.int xs), .val (.int xa), .val (.int gx), .val (.int gy), .val (.long vv), .second, .val (.int av), .val (.int nv), .val (.ref ba)] [(.long vv), (.int (av + (3 : Int32))), (.ref ba)])) tgt
    refine XS.iconst X18.here hx rfl (hb hby at_151) ?_
    show Steps p.tables e below (T18.setTop (mkF m 152 #[.val (.long xx), .second, .val (.int xs), .val (.int xa), .val (.int gx), .val (.int gy), .val (.long vv), .second, .val (.int av), .val (.int nv), .val (.ref ba)] [(.int (3 : Int32)), (.long vv), (.int (av + (3 : Int32))), (.ref ba)])) tgt
    refine XS.iload X18.here hx rfl (hb hby at_152) rfl ?_
    show Steps p.tables e below (T18.setTop (mkF m 154 #[.val (.long xx), .second, .val (.int xs), .val (.int xa), .val (.int gx), .val (.int gy), .val (.long vv), .second, .val (.int av), .val (.int nv), .val (.ref ba)] [(.int nv), (.int (3 : Int32)), (.long vv), (.int (av + (3 : Int32))), (.ref ba)])) tgt
    refine XS.iload X18.here hx rfl (hb hby at_154) rfl ?_
    exact k
  obtain ⟨v20, _, ⟨T20, L20, k20, n20⟩, -, Xc20, ⟨Lc20, hQ20, l20, y20, z20⟩, st20⟩ := Jvm.LawKit.callS X18 hx (y := (⟨"com/example/vestwright/vestwright/census/VarintReadPinLaw", "enc", "(JIII)B"⟩ : MethodName)) hown (mvT hZ (hw _ (List.mem_of_getElem? (i := 5) rfl))) (mvT hZ (hw _ (List.mem_of_getElem? (i := 6) rfl))) (mvT hZ (hw _ (List.mem_of_getElem? (i := 2) rfl))) (mvT hZ (hw _ (List.mem_of_getElem? (i := 7) rfl))) (by decide) (backOf (W := 2) (rm2 l Z a0 hw [] vv (3 : Int32) nv gy h18 n0 Zs18 ) hZ (hw _ (List.mem_of_getElem? (i := 7) rfl)) (hw _ (List.mem_of_getElem? (i := 2) rfl)) (by decide) (by decide)) (g := (mkF m 156 #[.val (.long xx), .second, .val (.int xs), .val (.int xa), .val (.int gx), .val (.int gy), .val (.long vv), .second, .val (.int av), .val (.int nv), .val (.ref ba)] [(.int gy), (.int nv), (.int (3 : Int32)), (.long vv), (.int (av + (3 : Int32))), (.ref ba)])) rfl (by rw [hml]; rfl) (argsL := [(.long vv), (.int (3 : Int32)), (.int nv), (.int gy)]) (rest := [(.int (av + (3 : Int32))), (.ref ba)]) (lenOf pd_0_1 rfl) rfl (by show 2 * 0 + _ ≤ _; exact Nat.le_of_eq rfl) (hb hby at_156) (fun _ _ => ⟨rfl, e18, (by decide : 1 + 0 ≤ _), (by decide : 17 + 0 ≤ _)⟩)
  dsimp only [Pt.U, Pt.locs, Pt.cells, Pt.slots] at Xc20 l20 y20 z20 st20 hQ20
  have X20 := own_cast Xc20 l20 y20 z20
  obtain ⟨ev20, N20q, K20⟩ := hQ20
  rw [ev20] at st20
  have N20 := Fr.app N18 N20q
  refine own_st st20 ?_
  show own_Go p e below _ (T20.setTop (mkF m 159 #[.val (.long xx), .second, .val (.int xs), .val (.int xa), .val (.int gx), .val (.int gy), .val (.long vv), .second, .val (.int av), .val (.int nv), .val (.ref ba)] [(.int (own_enc vv (3 : Int32) nv gy)), (.int (av + (3 : Int32))), (.ref ba)]))
  obtain ⟨T21, h21, X21, e21, W21, A_ba_21, st21⟩ := own_bastore X20 hx hZ K20 Af_ba_19 (j := (av + (3 : Int32))) (k := (A + 3)) (own_ai hA hA8 (by decide) (by decide)) (by omega) (g := (mkF m 159 #[.val (.long xx), .second, .val (.int xs), .val (.int xa), .val (.int gx), .val (.int gy), .val (.long vv), .second, .val (.int av), .val (.int nv), .val (.ref ba)] [(.int (own_enc vv (3 : Int32) nv gy)), (.int (av + (3 : Int32))), (.ref ba)])) rfl rfl (hb hby at_159)
  have N21 := Fr.snoc X21 N20 g_ba
  have Zs21 : n0 ≤ h21.size := Nat.le_trans Zs18 (Keep.of_wr W21).1
  refine own_st st21 ?_
  show own_Go p e below _ (T21.setTop (mkF m 160 #[.val (.long xx), .second, .val (.int xs), .val (.int xa), .val (.int gx), .val (.int gy), .val (.long vv), .second, .val (.int av), .val (.int nv), .val (.ref ba)] []))
  have Af_ba_22 := A_ba_21
  rw [show (own_up (own_up (own_up (own_up gf (A + 0) (own_enc vv (0 : Int32) nv gy)) (A + 1) (own_enc vv (1 : Int32) nv gy)) (A + 2) (own_enc vv (2 : Int32) nv gy)) (A + 3) (own_enc vv (3 : Int32) nv gy).toInt8.toInt32) = (own_up (own_up (own_up (own_up gf (A + 0) (own_enc vv (0 : Int32) nv gy)) (A + 1) (own_enc vv (1 : Int32) nv gy)) (A + 2) (own_enc vv (2 : Int32) nv gy)) (A + 3) (own_enc vv (3 : Int32) nv gy)) from by rw [own_enc8]] at Af_ba_22
  refine own_st (V := T21.setTop (mkF m 173 #[.val (.long xx), .second, .val (.int xs), .val (.int xa), .val (.int gx), .val (.int gy), .val (.long vv), .second, .val (.int av), .val (.int nv), .val (.ref ba)] [(.int gy), (.int nv), (.int (4 : Int32)), (.long vv), (.int (av + (4 : Int32))), (.ref ba)])) (fun tgt k => ?_) ?_
  · show Steps p.tables e below (T21.setTop (mkF m 160 #[.val (.long xx), .second, .val (.int xs), .val (.int xa), .val (.int gx), .val (.int gy), .val (.long vv), .second, .val (.int av), .val (.int nv), .val (.ref ba)] [])) tgt
    refine XS.aload X21.here hx rfl (hb hby at_160) rfl rfl ?_
    show Steps p.tables e below (T21.setTop (mkF m 162 #[.val (.long xx), .second, .val (.int xs), .val (.int xa), .val (.int gx), .val (.int gy), .val (.long vv), .second, .val (.int av), .val (.int nv), .val (.ref ba)] [(.ref ba)])) tgt
    refine XS.iload X21.here hx rfl (hb hby at_162) rfl ?_
    show Steps p.tables e below (T21.setTop (mkF m 164 #[.val (.long xx), .second, .val (.int xs), .val (.int xa), .val (.int gx), .val (.int gy), .val (.long vv), .second, .val (.int av), .val (.int nv), .val (.ref ba)] [(.int av), (.ref ba)])) tgt
    refine XS.iconst X21.here hx rfl (hb hby at_164) ?_
    show Steps p.tables e below (T21.setTop (mkF m 165 #[.val (.long xx), .second, .val (.int xs), .val (.int xa), .val (.int gx), .val (.int gy), .val (.long vv), .second, .val (.int av), .val (.int nv), .val (.ref ba)] [(.int (4 : Int32)), (.int av), (.ref ba)])) tgt
    refine XS.iadd X21.here hx rfl (hb hby at_165) rfl ?_
    show Steps p.tables e below (T21.setTop (mkF m 166 #[.val (.long xx), .second, .val (.int xs), .val (.int xa), .val (.int gx), .val (.int gy), .val (.long vv), .second, .val (.int av), .val (.int nv), .val (.ref ba)] [(.int (av + (4 : Int32))), (.ref ba)])) tgt
    refine XS.lload X21.here hx rfl (hb hby at_166) rfl ?_
    show Steps p.tables e below (T21.setTop (mkF m 168 #[.val (.long xx), .second, .val (.int xs), .val (.int xa), .val (.int gx), .val (.int gy), .val (.long vv), .second, .val (.int av), .val (.int nv), .val (.ref ba)] [(.long vv), (.int (av + (4 : Int32))), (.ref ba)])) tgt
    refine XS.iconst X21.here hx rfl (hb hby at_168) ?_
    show Steps p.tables e below (T21.setTop (mkF m 169 #[.val (.long xx), .second, .val (.int xs), .val (.int xa), .val (.int gx), .val (.int gy), .val (.long vv), .second, .val (.int av), .val (.int nv), .val (.ref ba)] [(.int (4 : Int32)), (.long vv), (.int (av + (4 : Int32))), (.ref ba)])) tgt
    refine XS.iload X21.here hx rfl (hb hby at_169) rfl ?_
    show Steps p.tables e below (T21.setTop (mkF m 171 #[.val (.long xx), .second, .val (.int xs), .val (.int xa), .val (.int gx), .val (.int gy), .val (.long vv), .second, .val (.int av), .val (.int nv), .val (.ref ba)] [(.int nv), (.int (4 : Int32)), (.long vv), (.int (av + (4 : Int32))), (.ref ba)])) tgt
    refine XS.iload X21.here hx rfl (hb hby at_171) rfl ?_
    exact k
  obtain ⟨v23, _, ⟨T23, L23, k23, n23⟩, -, Xc23, ⟨Lc23, hQ23, l23, y23, z23⟩, st23⟩ := Jvm.LawKit.callS X21 hx (y := (⟨"com/example/vestwright/vestwright/census/VarintReadPinLaw", "enc", "(JIII)B"⟩ : MethodName)) hown (mvT hZ (hw _ (List.mem_of_getElem? (i := 5) rfl))) (mvT hZ (hw _ (List.mem_of_getElem? (i := 6) rfl))) (mvT hZ (hw _ (List.mem_of_getElem? (i := 2) rfl))) (mvT hZ (hw _ (List.mem_of_getElem? (i := 7) rfl))) (by decide) (backOf (W := 2) (rm2 l Z a0 hw [] vv (4 : Int32) nv gy h21 n0 Zs21 ) hZ (hw _ (List.mem_of_getElem? (i := 7) rfl)) (hw _ (List.mem_of_getElem? (i := 2) rfl)) (by decide) (by decide)) (g := (mkF m 173 #[.val (.long xx), .second, .val (.int xs), .val (.int xa), .val (.int gx), .val (.int gy), .val (.long vv), .second, .val (.int av), .val (.int nv), .val (.ref ba)] [(.int gy), (.int nv), (.int (4 : Int32)), (.long vv), (.int (av + (4 : Int32))), (.ref ba)])) rfl (by rw [hml]; rfl) (argsL := [(.long vv), (.int (4 : Int32)), (.int nv), (.int gy)]) (rest := [(.int (av + (4 : Int32))), (.ref ba)]) (lenOf pd_0_1 rfl) rfl (by show 2 * 0 + _ ≤ _; exact Nat.le_of_eq rfl) (hb hby at_173) (fun _ _ => ⟨rfl, e21, (by decide : 1 + 0 ≤ _), (by decide : 17 + 0 ≤ _)⟩)
  dsimp only [Pt.U, Pt.locs, Pt.cells, Pt.slots] at Xc23 l23 y23 z23 st23 hQ23
  have X23 := own_cast Xc23 l23 y23 z23
  obtain ⟨ev23, N23q, K23⟩ := hQ23
  rw [ev23] at st23
  have N23 := Fr.app N21 N23q
  refine own_st st23 ?_
  show own_Go p e below _ (T23.setTop (mkF m 176 #[.val (.long xx), .second, .val (.int xs), .val (.int xa), .val (.int gx), .val (.int gy), .val (.long vv), .second, .val (.int av), .val (.int nv), .val (.ref ba)] [(.int (own_enc vv (4 : Int32) nv gy)), (.int (av + (4 : Int32))), (.ref ba)]))
  obtain ⟨T24, h24, X24, e24, W24, A_ba_24, st24⟩ := own_bastore X23 hx hZ K23 Af_ba_22 (j := (av + (4 : Int32))) (k := (A + 4)) (own_ai hA hA8 (by decide) (by decide)) (by omega) (g := (mkF m 176 #[.val (.long xx), .second, .val (.int xs), .val (.int xa), .val (.int gx), .val (.int gy), .val (.long vv), .second, .val (.int av), .val (.int nv), .val (.ref ba)] [(.int (own_enc vv (4 : Int32) nv gy)), (.int (av + (4 : Int32))), (.ref ba)])) rfl rfl (hb hby at_176)
  have N24 := Fr.snoc X24 N23 g_ba
  have Zs24 : n0 ≤ h24.size := Nat.le_trans Zs21 (Keep.of_wr W24).1
  refine own_st st24 ?_
  show own_Go p e below _ (T24.setTop (mkF m 177 #[.val (.long xx), .second, .val (.int xs), .val (.int xa), .val (.int gx), .val (.int gy), .val (.long vv), .second, .val (.int av), .val (.int nv), .val (.ref ba)] []))
  have Af_ba_25 := A_ba_24
  rw [show (own_up (own_up (own_up (own_up (own_up gf (A + 0) (own_enc vv (0 : Int32) nv gy)) (A + 1) (own_enc vv (1 : Int32) nv gy)) (A + 2) (own_enc vv (2 : Int32) nv gy)) (A + 3) (own_enc vv (3 : Int32) nv gy)) (A + 4) (own_enc vv (4 : Int32) nv gy).toInt8.toInt32) = (own_up (own_up (own_up (own_up (own_up gf (A + 0) (own_enc vv (0 : Int32) nv gy)) (A + 1) (own_enc vv (1 : Int32) nv gy)) (A + 2) (own_enc vv (2 : Int32) nv gy)) (A + 3) (own_enc vv (3 : Int32) nv gy)) (A + 4) (own_enc vv (4 : Int32) nv gy)) from by rw [own_enc8]] at Af_ba_25
  refine own_st (V := T24.setTop (mkF m 190 #[.val (.long xx), .second, .val (.int xs), .val (.int xa), .val (.int gx), .val (.int gy), .val (.long vv), .second, .val (.int av), .val (.int nv), .val (.ref ba)] [(.int gy), (.int nv), (.int (5 : Int32)), (.long vv), (.int (av + (5 : Int32))), (.ref ba)])) (fun tgt k => ?_) ?_
  · show Steps p.tables e below (T24.setTop (mkF m 177 #[.val (.long xx), .second, .val (.int xs), .val (.int xa), .val (.int gx), .val (.int gy), .val (.long vv), .second, .val (.int av), .val (.int nv), .val (.ref ba)] [])) tgt
    refine XS.aload X24.here hx rfl (hb hby at_177) rfl rfl ?_
    show Steps p.tables e below (T24.setTop (mkF m 179 #[.val (.long xx), .second, .val (.int xs), .val (.int xa), .val (.int gx), .val (.int gy), .val (.long vv), .second, .val (.int av), .val (.int nv), .val (.ref ba)] [(.ref ba)])) tgt
    refine XS.iload X24.here hx rfl (hb hby at_179) rfl ?_
    show Steps p.tables e below (T24.setTop (mkF m 181 #[.val (.long xx), .second, .val (.int xs), .val (.int xa), .val (.int gx), .val (.int gy), .val (.long vv), .second, .val (.int av), .val (.int nv), .val (.ref ba)] [(.int av), (.ref ba)])) tgt
    refine XS.iconst X24.here hx rfl (hb hby at_181) ?_
    show Steps p.tables e below (T24.setTop (mkF m 182 #[.val (.long xx), .second, .val (.int xs), .val (.int xa), .val (.int gx), .val (.int gy), .val (.long vv), .second, .val (.int av), .val (.int nv), .val (.ref ba)] [(.int (5 : Int32)), (.int av), (.ref ba)])) tgt
    refine XS.iadd X24.here hx rfl (hb hby at_182) rfl ?_
    show Steps p.tables e below (T24.setTop (mkF m 183 #[.val (.long xx), .second, .val (.int xs), .val (.int xa), .val (.int gx), .val (.int gy), .val (.long vv), .second, .val (.int av), .val (.int nv), .val (.ref ba)] [(.int (av + (5 : Int32))), (.ref ba)])) tgt
    refine XS.lload X24.here hx rfl (hb hby at_183) rfl ?_
    show Steps p.tables e below (T24.setTop (mkF m 185 #[.val (.long xx), .second, .val (.int xs), .val (.int xa), .val (.int gx), .val (.int gy), .val (.long vv), .second, .val (.int av), .val (.int nv), .val (.ref ba)] [(.long vv), (.int (av + (5 : Int32))), (.ref ba)])) tgt
    refine XS.iconst X24.here hx rfl (hb hby at_185) ?_
    show Steps p.tables e below (T24.setTop (mkF m 186 #[.val (.long xx), .second, .val (.int xs), .val (.int xa), .val (.int gx), .val (.int gy), .val (.long vv), .second, .val (.int av), .val (.int nv), .val (.ref ba)] [(.int (5 : Int32)), (.long vv), (.int (av + (5 : Int32))), (.ref ba)])) tgt
    refine XS.iload X24.here hx rfl (hb hby at_186) rfl ?_
    show Steps p.tables e below (T24.setTop (mkF m 188 #[.val (.long xx), .second, .val (.int xs), .val (.int xa), .val (.int gx), .val (.int gy), .val (.long vv), .second, .val (.int av), .val (.int nv), .val (.ref ba)] [(.int nv), (.int (5 : Int32)), (.long vv), (.int (av + (5 : Int32))), (.ref ba)])) tgt
    refine XS.iload X24.here hx rfl (hb hby at_188) rfl ?_
    exact k
  obtain ⟨v26, _, ⟨T26, L26, k26, n26⟩, -, Xc26, ⟨Lc26, hQ26, l26, y26, z26⟩, st26⟩ := Jvm.LawKit.callS X24 hx (y := (⟨"com/example/vestwright/vestwright/census/VarintReadPinLaw", "enc", "(JIII)B"⟩ : MethodName)) hown (mvT hZ (hw _ (List.mem_of_getElem? (i := 5) rfl))) (mvT hZ (hw _ (List.mem_of_getElem? (i := 6) rfl))) (mvT hZ (hw _ (List.mem_of_getElem? (i := 2) rfl))) (mvT hZ (hw _ (List.mem_of_getElem? (i := 7) rfl))) (by decide) (backOf (W := 2) (rm2 l Z a0 hw [] vv (5 : Int32) nv gy h24 n0 Zs24 ) hZ (hw _ (List.mem_of_getElem? (i := 7) rfl)) (hw _ (List.mem_of_getElem? (i := 2) rfl)) (by decide) (by decide)) (g := (mkF m 190 #[.val (.long xx), .second, .val (.int xs), .val (.int xa), .val (.int gx), .val (.int gy), .val (.long vv), .second, .val (.int av), .val (.int nv), .val (.ref ba)] [(.int gy), (.int nv), (.int (5 : Int32)), (.long vv), (.int (av + (5 : Int32))), (.ref ba)])) rfl (by rw [hml]; rfl) (argsL := [(.long vv), (.int (5 : Int32)), (.int nv), (.int gy)]) (rest := [(.int (av + (5 : Int32))), (.ref ba)]) (lenOf pd_0_1 rfl) rfl (by show 2 * 0 + _ ≤ _; exact Nat.le_of_eq rfl) (hb hby at_190) (fun _ _ => ⟨rfl, e24, (by decide : 1 + 0 ≤ _), (by decide : 17 + 0 ≤ _)⟩)
  dsimp only [Pt.U, Pt.locs, Pt.cells, Pt.slots] at Xc26 l26 y26 z26 st26 hQ26
  have X26 := own_cast Xc26 l26 y26 z26
  obtain ⟨ev26, N26q, K26⟩ := hQ26
  rw [ev26] at st26
  have N26 := Fr.app N24 N26q
  refine own_st st26 ?_
  show own_Go p e below _ (T26.setTop (mkF m 193 #[.val (.long xx), .second, .val (.int xs), .val (.int xa), .val (.int gx), .val (.int gy), .val (.long vv), .second, .val (.int av), .val (.int nv), .val (.ref ba)] [(.int (own_enc vv (5 : Int32) nv gy)), (.int (av + (5 : Int32))), (.ref ba)]))
  obtain ⟨T27, h27, X27, e27, W27, A_ba_27, st27⟩ := own_bastore X26 hx hZ K26 Af_ba_25 (j := (av + (5 : Int32))) (k := (A + 5)) (own_ai hA hA8 (by decide) (by decide)) (by omega) (g := (mkF m 193 #[.val (.long xx), .second, .val (.int xs), .val (.int xa), .val (.int gx), .val (.int gy), .val (.long vv), .second, .val (.int av), .val (.int nv), .val (.ref ba)] [(.int (own_enc vv (5 : Int32) nv gy)), (.int (av + (5 : Int32))), (.ref ba)])) rfl rfl (hb hby at_193)
  have N27 := Fr.snoc X27 N26 g_ba
  have Zs27 : n0 ≤ h27.size := Nat.le_trans Zs24 (Keep.of_wr W27).1
  refine own_st st27 ?_
  show own_Go p e below _ (T27.setTop (mkF m 194 #[.val (.long xx), .second, .val (.int xs), .val (.int xa), .val (.int gx), .val (.int gy), .val (.long vv), .second, .val (.int av), .val (.int nv), .val (.ref ba)] []))
  have Af_ba_28 := A_ba_27
  rw [show (own_up (own_up (own_up (own_up (own_up (own_up gf (A + 0) (own_enc vv (0 : Int32) nv gy)) (A + 1) (own_enc vv (1 : Int32) nv gy)) (A + 2) (own_enc vv (2 : Int32) nv gy)) (A + 3) (own_enc vv (3 : Int32) nv gy)) (A + 4) (own_enc vv (4 : Int32) nv gy)) (A + 5) (own_enc vv (5 : Int32) nv gy).toInt8.toInt32) = (own_up (own_up (own_up (own_up (own_up (own_up gf (A + 0) (own_enc vv (0 : Int32) nv gy)) (A + 1) (own_enc vv (1 : Int32) nv gy)) (A + 2) (own_enc vv (2 : Int32) nv gy)) (A + 3) (own_enc vv (3 : Int32) nv gy)) (A + 4) (own_enc vv (4 : Int32) nv gy)) (A + 5) (own_enc vv (5 : Int32) nv gy)) from by rw [own_enc8]] at Af_ba_28
  refine own_st (V := T27.setTop (mkF m 209 #[.val (.long xx), .second, .val (.int xs), .val (.int xa), .val (.int gx), .val (.int gy), .val (.long vv), .second, .val (.int av), .val (.int nv), .val (.ref ba)] [(.int gy), (.int nv), (.int (6 : Int32)), (.long vv), (.int (av + (6 : Int32))), (.ref ba)])) (fun tgt k => ?_) ?_
  · show Steps p.tables e below (T27.setTop (mkF m 194 #[.val (.long xx), .second, .val (.int xs), .val (.int xa), .val (.int gx), .val (.int gy), .val (.long vv), .second, .val (.int av), .val (.int nv), .val (.ref ba)] [])) tgt
    refine XS.aload X27.here hx rfl (hb hby at_194) rfl rfl ?_
    show Steps p.tables e below (T27.setTop (mkF m 196 #[.val (.long xx), .second, .val (.int xs), .val (.int xa), .val (.int gx), .val (.int gy), .val (.long vv), .second, .val (.int av), .val (.int nv), .val (.ref ba)] [(.ref ba)])) tgt
    refine XS.iload X27.here hx rfl (hb hby at_196) rfl ?_
    show Steps p.tables e below (T27.setTop (mkF m 198 #[.val (.long xx), .second, .val (.int xs), .val (.int xa), .val (.int gx), .val (.int gy), .val (.long vv), .second, .val (.int av), .val (.int nv), .val (.ref ba)] [(.int av), (.ref ba)])) tgt
    refine XS.bipush X27.here hx rfl (hb hby at_198) ?_
    show Steps p.tables e below (T27.setTop (mkF m 200 #[.val (.long xx), .second, .val (.int xs), .val (.int xa), .val (.int gx), .val (.int gy), .val (.long vv), .second, .val (.int av), .val (.int nv), .val (.ref ba)] [(.int (6 : Int32)), (.int av), (.ref ba)])) tgt
    refine XS.iadd X27.here hx rfl (hb hby at_200) rfl ?_
    show Steps p.tables e below (T27.setTop (mkF m 201 #[.val (.long xx), .second, .val (.int xs), .val (.int xa), .val (.int gx), .val (.int gy), .val (.long vv), .second, .val (.int av), .val (.int nv), .val (.ref ba)] [(.int (av + (6 : Int32))), (.ref ba)])) tgt
    refine XS.lload X27.here hx rfl (hb hby at_201) rfl ?_
    show Steps p.tables e below (T27.setTop (mkF m 203 #[.val (.long xx), .second, .val (.int xs), .val (.int xa), .val (.int gx), .val (.int gy), .val (.long vv), .second, .val (.int av), .val (.int nv), .val (.ref ba)] [(.long vv), (.int (av + (6 : Int32))), (.ref ba)])) tgt
    refine XS.bipush X27.here hx rfl (hb hby at_203) ?_
    show Steps p.tables e below (T27.setTop (mkF m 205 #[.val (.long xx), .second, .val (.int xs), .val (.int xa), .val (.int gx), .val (.int gy), .val (.long vv), .second, .val (.int av), .val (.int nv), .val (.ref ba)] [(.int (6 : Int32)), (.long vv), (.int (av + (6 : Int32))), (.ref ba)])) tgt
    refine XS.iload X27.here hx rfl (hb hby at_205) rfl ?_
    show Steps p.tables e below (T27.setTop (mkF m 207 #[.val (.long xx), .second, .val (.int xs), .val (.int xa), .val (.int gx), .val (.int gy), .val (.long vv), .second, .val (.int av), .val (.int nv), .val (.ref ba)] [(.int nv), (.int (6 : Int32)), (.long vv), (.int (av + (6 : Int32))), (.ref ba)])) tgt
    refine XS.iload X27.here hx rfl (hb hby at_207) rfl ?_
    exact k
  obtain ⟨v29, _, ⟨T29, L29, k29, n29⟩, -, Xc29, ⟨Lc29, hQ29, l29, y29, z29⟩, st29⟩ := Jvm.LawKit.callS X27 hx (y := (⟨"com/example/vestwright/vestwright/census/VarintReadPinLaw", "enc", "(JIII)B"⟩ : MethodName)) hown (mvT hZ (hw _ (List.mem_of_getElem? (i := 5) rfl))) (mvT hZ (hw _ (List.mem_of_getElem? (i := 6) rfl))) (mvT hZ (hw _ (List.mem_of_getElem? (i := 2) rfl))) (mvT hZ (hw _ (List.mem_of_getElem? (i := 7) rfl))) (by decide) (backOf (W := 2) (rm2 l Z a0 hw [] vv (6 : Int32) nv gy h27 n0 Zs27 ) hZ (hw _ (List.mem_of_getElem? (i := 7) rfl)) (hw _ (List.mem_of_getElem? (i := 2) rfl)) (by decide) (by decide)) (g := (mkF m 209 #[.val (.long xx), .second, .val (.int xs), .val (.int xa), .val (.int gx), .val (.int gy), .val (.long vv), .second, .val (.int av), .val (.int nv), .val (.ref ba)] [(.int gy), (.int nv), (.int (6 : Int32)), (.long vv), (.int (av + (6 : Int32))), (.ref ba)])) rfl (by rw [hml]; rfl) (argsL := [(.long vv), (.int (6 : Int32)), (.int nv), (.int gy)]) (rest := [(.int (av + (6 : Int32))), (.ref ba)]) (lenOf pd_0_1 rfl) rfl (by show 2 * 0 + _ ≤ _; exact Nat.le_of_eq rfl) (hb hby at_209) (fun _ _ => ⟨rfl, e27, (by decide : 1 + 0 ≤ _), (by decide : 17 + 0 ≤ _)⟩)
  dsimp only [Pt.U, Pt.locs, Pt.cells, Pt.slots] at Xc29 l29 y29 z29 st29 hQ29
  have X29 := own_cast Xc29 l29 y29 z29
  obtain ⟨ev29, N29q, K29⟩ := hQ29
  rw [ev29] at st29
  have N29 := Fr.app N27 N29q
  refine own_st st29 ?_
  show own_Go p e below _ (T29.setTop (mkF m 212 #[.val (.long xx), .second, .val (.int xs), .val (.int xa), .val (.int gx), .val (.int gy), .val (.long vv), .second, .val (.int av), .val (.int nv), .val (.ref ba)] [(.int (own_enc vv (6 : Int32) nv gy)), (.int (av + (6 : Int32))), (.ref ba)]))
  obtain ⟨T30, h30, X30, e30, W30, A_ba_30, st30⟩ := own_bastore X29 hx hZ K29 Af_ba_28 (j := (av + (6 : Int32))) (k := (A + 6)) (own_ai hA hA8 (by decide) (by decide)) (by omega) (g := (mkF m 212 #[.val (.long xx), .second, .val (.int xs), .val (.int xa), .val (.int gx), .val (.int gy), .val (.long vv), .second, .val (.int av), .val (.int nv), .val (.ref ba)] [(.int (own_enc vv (6 : Int32) nv gy)), (.int (av + (6 : Int32))), (.ref ba)])) rfl rfl (hb hby at_212)
  have N30 := Fr.snoc X30 N29 g_ba
  have Zs30 : n0 ≤ h30.size := Nat.le_trans Zs27 (Keep.of_wr W30).1
  refine own_st st30 ?_
  show own_Go p e below _ (T30.setTop (mkF m 213 #[.val (.long xx), .second, .val (.int xs), .val (.int xa), .val (.int gx), .val (.int gy), .val (.long vv), .second, .val (.int av), .val (.int nv), .val (.ref ba)] []))
  have Af_ba_31 := A_ba_30
  rw [show (own_up (own_up (own_up (own_up (own_up (own_up (own_up gf (A + 0) (own_enc vv (0 : Int32) nv gy)) (A + 1) (own_enc vv (1 : Int32) nv gy)) (A + 2) (own_enc vv (2 : Int32) nv gy)) (A + 3) (own_enc vv (3 : Int32) nv gy)) (A + 4) (own_enc vv (4 : Int32) nv gy)) (A + 5) (own_enc vv (5 : Int32) nv gy)) (A + 6) (own_enc vv (6 : Int32) nv gy).toInt8.toInt32) = (own_up (own_up (own_up (own_up (own_up (own_up (own_up gf (A + 0) (own_enc vv (0 : Int32) nv gy)) (A + 1) (own_enc vv (1 : Int32) nv gy)) (A + 2) (own_enc vv (2 : Int32) nv gy)) (A + 3) (own_enc vv (3 : Int32) nv gy)) (A + 4) (own_enc vv (4 : Int32) nv gy)) (A + 5) (own_enc vv (5 : Int32) nv gy)) (A + 6) (own_enc vv (6 : Int32) nv gy)) from by rw [own_enc8]] at Af_ba_31
  refine own_st (V := T30.setTop (mkF m 228 #[.val (.long xx), .second, .val (.int xs), .val (.int xa), .val (.int gx), .val (.int gy), .val (.long vv), .second, .val (.int av), .val (.int nv), .val (.ref ba)] [(.int gy), (.int nv), (.int (7 : Int32)), (.long vv), (.int (av + (7 : Int32))), (.ref ba)])) (fun tgt k => ?_) ?_
  · show Steps p.tables e below (T30.setTop (mkF m 213 #[.val (.long xx), .second, .val (.int xs), .val (.int xa), .val (.int gx), .val (.int gy), .val (.long vv), .second, .val (.int av), .val (.int nv), .val (.ref ba)] [])) tgt
    refine XS.aload X30.here hx rfl (hb hby at_213) rfl rfl ?_
    show Steps p.tables e below (T30.setTop (mkF m 215 #[.val (.long xx), .second, .val (.int xs), .val (.int xa), .val (.int gx), .val (.int gy), .val (.long vv), .second, .val (.int av), .val (.int nv), .val (.ref ba)] [(.ref ba)])) tgt
    refine XS.iload X30.here hx rfl (hb hby at_215) rfl ?_
    show Steps p.tables e below (T30.setTop (mkF m 217 #[.val (.long xx), .second, .val (.int xs), .val (.int xa), .val (.int gx), .val (.int gy), .val (.long vv), .second, .val (.int av), .val (.int nv), .val (.ref ba)] [(.int av), (.ref ba)])) tgt
    refine XS.bipush X30.here hx rfl (hb hby at_217) ?_
    show Steps p.tables e below (T30.setTop (mkF m 219 #[.val (.long xx), .second, .val (.int xs), .val (.int xa), .val (.int gx), .val (.int gy), .val (.long vv), .second, .val (.int av), .val (.int nv), .val (.ref ba)] [(.int (7 : Int32)), (.int av), (.ref ba)])) tgt
    refine XS.iadd X30.here hx rfl (hb hby at_219) rfl ?_
    show Steps p.tables e below (T30.setTop (mkF m 220 #[.val (.long xx), .second, .val (.int xs), .val (.int xa), .val (.int gx), .val (.int gy), .val (.long vv), .second, .val (.int av), .val (.int nv), .val (.ref ba)] [(.int (av + (7 : Int32))), (.ref ba)])) tgt
    refine XS.lload X30.here hx rfl (hb hby at_220) rfl ?_
    show Steps p.tables e below (T30.setTop (mkF m 222 #[.val (.long xx), .second, .val (.int xs), .val (.int xa), .val (.int gx), .val (.int gy), .val (.long vv), .second, .val (.int av), .val (.int nv), .val (.ref ba)] [(.long vv), (.int (av + (7 : Int32))), (.ref ba)])) tgt
    refine XS.bipush X30.here hx rfl (hb hby at_222) ?_
    show Steps p.tables e below (T30.setTop (mkF m 224 #[.val (.long xx), .second, .val (.int xs), .val (.int xa), .val (.int gx), .val (.int gy), .val (.long vv), .second, .val (.int av), .val (.int nv), .val (.ref ba)] [(.int (7 : Int32)), (.long vv), (.int (av + (7 : Int32))), (.ref ba)])) tgt
    refine XS.iload X30.here hx rfl (hb hby at_224) rfl ?_
    show Steps p.tables e below (T30.setTop (mkF m 226 #[.val (.long xx), .second, .val (.int xs), .val (.int xa), .val (.int gx), .val (.int gy), .val (.long vv), .second, .val (.int av), .val (.int nv), .val (.ref ba)] [(.int nv), (.int (7 : Int32)), (.long vv), (.int (av + (7 : Int32))), (.ref ba)])) tgt
    refine XS.iload X30.here hx rfl (hb hby at_226) rfl ?_
    exact k
  obtain ⟨v32, _, ⟨T32, L32, k32, n32⟩, -, Xc32, ⟨Lc32, hQ32, l32, y32, z32⟩, st32⟩ := Jvm.LawKit.callS X30 hx (y := (⟨"com/example/vestwright/vestwright/census/VarintReadPinLaw", "enc", "(JIII)B"⟩ : MethodName)) hown (mvT hZ (hw _ (List.mem_of_getElem? (i := 5) rfl))) (mvT hZ (hw _ (List.mem_of_getElem? (i := 6) rfl))) (mvT hZ (hw _ (List.mem_of_getElem? (i := 2) rfl))) (mvT hZ (hw _ (List.mem_of_getElem? (i := 7) rfl))) (by decide) (backOf (W := 2) (rm2 l Z a0 hw [] vv (7 : Int32) nv gy h30 n0 Zs30 ) hZ (hw _ (List.mem_of_getElem? (i := 7) rfl)) (hw _ (List.mem_of_getElem? (i := 2) rfl)) (by decide) (by decide)) (g := (mkF m 228 #[.val (.long xx), .second, .val (.int xs), .val (.int xa), .val (.int gx), .val (.int gy), .val (.long vv), .second, .val (.int av), .val (.int nv), .val (.ref ba)] [(.int gy), (.int nv), (.int (7 : Int32)), (.long vv), (.int (av + (7 : Int32))), (.ref ba)])) rfl (by rw [hml]; rfl) (argsL := [(.long vv), (.int (7 : Int32)), (.int nv), (.int gy)]) (rest := [(.int (av + (7 : Int32))), (.ref ba)]) (lenOf pd_0_1 rfl) rfl (by show 2 * 0 + _ ≤ _; exact Nat.le_of_eq rfl) (hb hby at_228) (fun _ _ => ⟨rfl, e30, (by decide : 1 + 0 ≤ _), (by decide : 17 + 0 ≤ _)⟩)
  dsimp only [Pt.U, Pt.locs, Pt.cells, Pt.slots] at Xc32 l32 y32 z32 st32 hQ32
  have X32 := own_cast Xc32 l32 y32 z32
  obtain ⟨ev32, N32q, K32⟩ := hQ32
  rw [ev32] at st32
  have N32 := Fr.app N30 N32q
  refine own_st st32 ?_
  show own_Go p e below _ (T32.setTop (mkF m 231 #[.val (.long xx), .second, .val (.int xs), .val (.int xa), .val (.int gx), .val (.int gy), .val (.long vv), .second, .val (.int av), .val (.int nv), .val (.ref ba)] [(.int (own_enc vv (7 : Int32) nv gy)), (.int (av + (7 : Int32))), (.ref ba)]))
  obtain ⟨T33, h33, X33, e33, W33, A_ba_33, st33⟩ := own_bastore X32 hx hZ K32 Af_ba_31 (j := (av + (7 : Int32))) (k := (A + 7)) (own_ai hA hA8 (by decide) (by decide)) (by omega) (g := (mkF m 231 #[.val (.long xx), .second, .val (.int xs), .val (.int xa), .val (.int gx), .val (.int gy), .val (.long vv), .second, .val (.int av), .val (.int nv), .val (.ref ba)] [(.int (own_enc vv (7 : Int32) nv gy)), (.int (av + (7 : Int32))), (.ref ba)])) rfl rfl (hb hby at_231)
  have N33 := Fr.snoc X33 N32 g_ba
  have Zs33 : n0 ≤ h33.size := Nat.le_trans Zs30 (Keep.of_wr W33).1
  refine own_st st33 ?_
  show own_Go p e below _ (T33.setTop (mkF m 232 #[.val (.long xx), .second, .val (.int xs), .val (.int xa), .val (.int gx), .val (.int gy), .val (.long vv), .second, .val (.int av), .val (.int nv), .val (.ref ba)] []))
  have Af_ba_34 := A_ba_33
  rw [show (own_up (own_up (own_up (own_up (own_up (own_up (own_up (own_up gf (A + 0) (own_enc vv (0 : Int32) nv gy)) (A + 1) (own_enc vv (1 : Int32) nv gy)) (A + 2) (own_enc vv (2 : Int32) nv gy)) (A + 3) (own_enc vv (3 : Int32) nv gy)) (A + 4) (own_enc vv (4 : Int32) nv gy)) (A + 5) (own_enc vv (5 : Int32) nv gy)) (A + 6) (own_enc vv (6 : Int32) nv gy)) (A + 7) (own_enc vv (7 : Int32) nv gy).toInt8.toInt32) = (own_up (own_up (own_up (own_up (own_up (own_up (own_up (own_up gf (A + 0) (own_enc vv (0 : Int32) nv gy)) (A + 1) (own_enc vv (1 : Int32) nv gy)) (A + 2) (own_enc vv (2 : Int32) nv gy)) (A + 3) (own_enc vv (3 : Int32) nv gy)) (A + 4) (own_enc vv (4 : Int32) nv gy)) (A + 5) (own_enc vv (5 : Int32) nv gy)) (A + 6) (own_enc vv (6 : Int32) nv gy)) (A + 7) (own_enc vv (7 : Int32) nv gy)) from by rw [own_enc8]] at Af_ba_34
  refine own_st (V := T33.setTop (mkF m 247 #[.val (.long xx), .second, .val (.int xs), .val (.int xa), .val (.int gx), .val (.int gy), .val (.long vv), .second, .val (.int av), .val (.int nv), .val (.ref ba)] [(.int gy), (.int nv), (.int (8 : Int32)), (.long vv), (.int (av + (8 : Int32))), (.ref ba)])) (fun tgt k => ?_) ?_
  · show Steps p.tables e below (T33.setTop (mkF m 232 #[.val (.long xx), .second, .val (.int xs), .val (.int xa), .val (.int gx), .val (.int gy), .val (.long vv), .second, .val (.int av), .val (.int nv), .val (.ref ba)] [])) tgt
    refine XS.aload X33.here hx rfl (hb hby at_232) rfl rfl ?_
    show Steps p.tables e below (T33.setTop (mkF m 234 #[.val (.long xx), .second, .val (.int xs), .val (.int xa), .val (.int gx), .val (.int gy), .val (.long vv), .second, .val (.int av), .val (.int nv), .val (.ref ba)] [(.ref ba)])) tgt
    refine XS.iload X33.here hx rfl (hb hby at_234) rfl ?_
    show Steps p.tables e below (T33.setTop (mkF m 236 #[.val (.long xx), .second, .val (.int xs), .val (.int xa), .val (.int gx), .val (.int gy), .val (.long vv), .second, .val (.int av), .val (.int nv), .val (.ref ba)] [(.int av), (.ref ba)])) tgt
    refine XS.bipush X33.here hx rfl (hb hby at_236) ?_
    show Steps p.tables e below (T33.setTop (mkF m 238 #[.val (.long xx), .second, .val (.int xs), .val (.int xa), .val (.int gx), .val (.int gy), .val (.long vv), .second, .val (.int av), .val (.int nv), .val (.ref ba)] [(.int (8 : Int32)), (.int av), (.ref ba)])) tgt
    refine XS.iadd X33.here hx rfl (hb hby at_238) rfl ?_
    show Steps p.tables e below (T33.setTop (mkF m 239 #[.val (.long xx), .second, .val (.int xs), .val (.int xa), .val (.int gx), .val (.int gy), .val (.long vv), .second, .val (.int av), .val (.int nv), .val (.ref ba)] [(.int (av + (8 : Int32))), (.ref ba)])) tgt
    refine XS.lload X33.here hx rfl (hb hby at_239) rfl ?_
    show Steps p.tables e below (T33.setTop (mkF m 241 #[.val (.long xx), .second, .val (.int xs), .val (.int xa), .val (.int gx), .val (.int gy), .val (.long vv), .second, .val (.int av), .val (.int nv), .val (.ref ba)] [(.long vv), (.int (av + (8 : Int32))), (.ref ba)])) tgt
    refine XS.bipush X33.here hx rfl (hb hby at_241) ?_
    show Steps p.tables e below (T33.setTop (mkF m 243 #[.val (.long xx), .second, .val (.int xs), .val (.int xa), .val (.int gx), .val (.int gy), .val (.long vv), .second, .val (.int av), .val (.int nv), .val (.ref ba)] [(.int (8 : Int32)), (.long vv), (.int (av + (8 : Int32))), (.ref ba)])) tgt
    refine XS.iload X33.here hx rfl (hb hby at_243) rfl ?_
    show Steps p.tables e below (T33.setTop (mkF m 245 #[.val (.long xx), .second, .val (.int xs), .val (.int xa), .val (.int gx), .val (.int gy), .val (.long vv), .second, .val (.int av), .val (.int nv), .val (.ref ba)] [(.int nv), (.int (8 : Int32)), (.long vv), (.int (av + (8 : Int32))), (.ref ba)])) tgt
    refine XS.iload X33.here hx rfl (hb hby at_245) rfl ?_
    exact k
  obtain ⟨v35, _, ⟨T35, L35, k35, n35⟩, -, Xc35, ⟨Lc35, hQ35, l35, y35, z35⟩, st35⟩ := Jvm.LawKit.callS X33 hx (y := (⟨"com/example/vestwright/vestwright/census/VarintReadPinLaw", "enc", "(JIII)B"⟩ : MethodName)) hown (mvT hZ (hw _ (List.mem_of_getElem? (i := 5) rfl))) (mvT hZ (hw _ (List.mem_of_getElem? (i := 6) rfl))) (mvT hZ (hw _ (List.mem_of_getElem? (i := 2) rfl))) (mvT hZ (hw _ (List.mem_of_getElem? (i := 7) rfl))) (by decide) (backOf (W := 2) (rm2 l Z a0 hw [] vv (8 : Int32) nv gy h33 n0 Zs33 ) hZ (hw _ (List.mem_of_getElem? (i := 7) rfl)) (hw _ (List.mem_of_getElem? (i := 2) rfl)) (by decide) (by decide)) (g := (mkF m 247 #[.val (.long xx), .second, .val (.int xs), .val (.int xa), .val (.int gx), .val (.int gy), .val (.long vv), .second, .val (.int av), .val (.int nv), .val (.ref ba)] [(.int gy), (.int nv), (.int (8 : Int32)), (.long vv), (.int (av + (8 : Int32))), (.ref ba)])) rfl (by rw [hml]; rfl) (argsL := [(.long vv), (.int (8 : Int32)), (.int nv), (.int gy)]) (rest := [(.int (av + (8 : Int32))), (.ref ba)]) (lenOf pd_0_1 rfl) rfl (by show 2 * 0 + _ ≤ _; exact Nat.le_of_eq rfl) (hb hby at_247) (fun _ _ => ⟨rfl, e33, (by decide : 1 + 0 ≤ _), (by decide : 17 + 0 ≤ _)⟩)
  dsimp only [Pt.U, Pt.locs, Pt.cells, Pt.slots] at Xc35 l35 y35 z35 st35 hQ35
  have X35 := own_cast Xc35 l35 y35 z35
  obtain ⟨ev35, N35q, K35⟩ := hQ35
  rw [ev35] at st35
  have N35 := Fr.app N33 N35q
  refine own_st st35 ?_
  show own_Go p e below _ (T35.setTop (mkF m 250 #[.val (.long xx), .second, .val (.int xs), .val (.int xa), .val (.int gx), .val (.int gy), .val (.long vv), .second, .val (.int av), .val (.int nv), .val (.ref ba)] [(.int (own_enc vv (8 : Int32) nv gy)), (.int (av + (8 : Int32))), (.ref ba)]))
  obtain ⟨T36, h36, X36, e36, W36, A_ba_36, st36⟩ := own_bastore X35 hx hZ K35 Af_ba_34 (j := (av + (8 : Int32))) (k := (A + 8)) (own_ai hA hA8 (by decide) (by decide)) (by omega) (g := (mkF m 250 #[.val (.long xx), .second, .val (.int xs), .val (.int xa), .val (.int gx), .val (.int gy), .val (.long vv), .second, .val (.int av), .val (.int nv), .val (.ref ba)] [(.int (own_enc vv (8 : Int32) nv gy)), (.int (av + (8 : Int32))), (.ref ba)])) rfl rfl (hb hby at_250)
  have N36 := Fr.snoc X36 N35 g_ba
  have Zs36 : n0 ≤ h36.size := Nat.le_trans Zs33 (Keep.of_wr W36).1
  refine own_st st36 ?_
  show own_Go p e below _ (T36.setTop (mkF m 251 #[.val (.long xx), .second, .val (.int xs), .val (.int xa), .val (.int gx), .val (.int gy), .val (.long vv), .second, .val (.int av), .val (.int nv), .val (.ref ba)] []))
  have Af_ba_37 := A_ba_36
  rw [show (own_up (own_up (own_up (own_up (own_up (own_up (own_up (own_up (own_up gf (A + 0) (own_enc vv (0 : Int32) nv gy)) (A + 1) (own_enc vv (1 : Int32) nv gy)) (A + 2) (own_enc vv (2 : Int32) nv gy)) (A + 3) (own_enc vv (3 : Int32) nv gy)) (A + 4) (own_enc vv (4 : Int32) nv gy)) (A + 5) (own_enc vv (5 : Int32) nv gy)) (A + 6) (own_enc vv (6 : Int32) nv gy)) (A + 7) (own_enc vv (7 : Int32) nv gy)) (A + 8) (own_enc vv (8 : Int32) nv gy).toInt8.toInt32) = (own_up (own_up (own_up (own_up (own_up (own_up (own_up (own_up (own_up gf (A + 0) (own_enc vv (0 : Int32) nv gy)) (A + 1) (own_enc vv (1 : Int32) nv gy)) (A + 2) (own_enc vv (2 : Int32) nv gy)) (A + 3) (own_enc vv (3 : Int32) nv gy)) (A + 4) (own_enc vv (4 : Int32) nv gy)) (A + 5) (own_enc vv (5 : Int32) nv gy)) (A + 6) (own_enc vv (6 : Int32) nv gy)) (A + 7) (own_enc vv (7 : Int32) nv gy)) (A + 8) (own_enc vv (8 : Int32) nv gy)) from by rw [own_enc8]] at Af_ba_37
  refine own_st (V := T36.setTop (mkF m 266 #[.val (.long xx), .second, .val (.int xs), .val (.int xa), .val (.int gx), .val (.int gy), .val (.long vv), .second, .val (.int av), .val (.int nv), .val (.ref ba)] [(.int gy), (.int nv), (.int (9 : Int32)), (.long vv), (.int (av + (9 : Int32))), (.ref ba)])) (fun tgt k => ?_) ?_
  · show Steps p.tables e below (T36.setTop (mkF m 251 #[.val (.long xx), .second, .val (.int xs), .val (.int xa), .val (.int gx), .val (.int gy), .val (.long vv), .second, .val (.int av), .val (.int nv), .val (.ref ba)] [])) tgt
    refine XS.aload X36.here hx rfl (hb hby at_251) rfl rfl ?_
    show Steps p.tables e below (T36.setTop (mkF m 253 #[.val (.long xx), .second, .val (.int xs), .val (.int xa), .val (.int gx), .val (.int gy), .val (.long vv), .second, .val (.int av), .val (.int nv), .val (.ref ba)] [(.ref ba)])) tgt
    refine XS.iload X36.here hx rfl (hb hby at_253) rfl ?_
    show Steps p.tables e below (T36.setTop (mkF m 255 #[.val (.long xx), .second, .val (.int xs), .val (.int xa), .val (.int gx), .val (.int gy), .val (.long vv), .second, .val (.int av), .val (.int nv), .val (.ref ba)] [(.int av), (.ref ba)])) tgt
    refine XS.bipush X36.here hx rfl (hb hby at_255) ?_
    show Steps p.tables e below (T36.setTop (mkF m 257 #[.val (.long xx), .second, .val (.int xs), .val (.int xa), .val (.int gx), .val (.int gy), .val (.long vv), .second, .val (.int av), .val (.int nv), .val (.ref ba)] [(.int (9 : Int32)), (.int av), (.ref ba)])) tgt
    refine XS.iadd X36.here hx rfl (hb hby at_257) rfl ?_
    show Steps p.tables e below (T36.setTop (mkF m 258 #[.val (.long xx), .second, .val (.int xs), .val (.int xa), .val (.int gx), .val (.int gy), .val (.long vv), .second, .val (.int av), .val (.int nv), .val (.ref ba)] [(.int (av + (9 : Int32))), (.ref ba)])) tgt
    refine XS.lload X36.here hx rfl (hb hby at_258) rfl ?_
    show Steps p.tables e below (T36.setTop (mkF m 260 #[.val (.long xx), .second, .val (.int xs), .val (.int xa), .val (.int gx), .val (.int gy), .val (.long vv), .second, .val (.int av), .val (.int nv), .val (.ref ba)] [(.long vv), (.int (av + (9 : Int32))), (.ref ba)])) tgt
    refine XS.bipush X36.here hx rfl (hb hby at_260) ?_
    show Steps p.tables e below (T36.setTop (mkF m 262 #[.val (.long xx), .second, .val (.int xs), .val (.int xa), .val (.int gx), .val (.int gy), .val (.long vv), .second, .val (.int av), .val (.int nv), .val (.ref ba)] [(.int (9 : Int32)), (.long vv), (.int (av + (9 : Int32))), (.ref ba)])) tgt
    refine XS.iload X36.here hx rfl (hb hby at_262) rfl ?_
    show Steps p.tables e below (T36.setTop (mkF m 264 #[.val (.long xx), .second, .val (.int xs), .val (.int xa), .val (.int gx), .val (.int gy), .val (.long vv), .second, .val (.int av), .val (.int nv), .val (.ref ba)] [(.int nv), (.int (9 : Int32)), (.long vv), (.int (av + (9 : Int32))), (.ref ba)])) tgt
    refine XS.iload X36.here hx rfl (hb hby at_264) rfl ?_
    exact k
  obtain ⟨v38, _, ⟨T38, L38, k38, n38⟩, -, Xc38, ⟨Lc38, hQ38, l38, y38, z38⟩, st38⟩ := Jvm.LawKit.callS X36 hx (y := (⟨"com/example/vestwright/vestwright/census/VarintReadPinLaw", "enc", "(JIII)B"⟩ : MethodName)) hown (mvT hZ (hw _ (List.mem_of_getElem? (i := 5) rfl))) (mvT hZ (hw _ (List.mem_of_getElem? (i := 6) rfl))) (mvT hZ (hw _ (List.mem_of_getElem? (i := 2) rfl))) (mvT hZ (hw _ (List.mem_of_getElem? (i := 7) rfl))) (by decide) (backOf (W := 2) (rm2 l Z a0 hw [] vv (9 : Int32) nv gy h36 n0 Zs36 ) hZ (hw _ (List.mem_of_getElem? (i := 7) rfl)) (hw _ (List.mem_of_getElem? (i := 2) rfl)) (by decide) (by decide)) (g := (mkF m 266 #[.val (.long xx), .second, .val (.int xs), .val (.int xa), .val (.int gx), .val (.int gy), .val (.long vv), .second, .val (.int av), .val (.int nv), .val (.ref ba)] [(.int gy), (.int nv), (.int (9 : Int32)), (.long vv), (.int (av + (9 : Int32))), (.ref ba)])) rfl (by rw [hml]; rfl) (argsL := [(.long vv), (.int (9 : Int32)), (.int nv), (.int gy)]) (rest := [(.int (av + (9 : Int32))), (.ref ba)]) (lenOf pd_0_1 rfl) rfl (by show 2 * 0 + _ ≤ _; exact Nat.le_of_eq rfl) (hb hby at_266) (fun _ _ => ⟨rfl, e36, (by decide : 1 + 0 ≤ _), (by decide : 17 + 0 ≤ _)⟩)
  dsimp only [Pt.U, Pt.locs, Pt.cells, Pt.slots] at Xc38 l38 y38 z38 st38 hQ38
  have X38 := own_cast Xc38 l38 y38 z38
  obtain ⟨ev38, N38q, K38⟩ := hQ38
  rw [ev38] at st38
  have N38 := Fr.app N36 N38q
  refine own_st st38 ?_
  show own_Go p e below _ (T38.setTop (mkF m 269 #[.val (.long xx), .second, .val (.int xs), .val (.int xa), .val (.int gx), .val (.int gy), .val (.long vv), .second, .val (.int av), .val (.int nv), .val (.ref ba)] [(.int (own_enc vv (9 : Int32) nv gy)), (.int (av + (9 : Int32))), (.ref ba)]))
  obtain ⟨T39, h39, X39, e39, W39, A_ba_39, st39⟩ := own_bastore X38 hx hZ K38 Af_ba_37 (j := (av + (9 : Int32))) (k := (A + 9)) (own_ai hA hA8 (by decide) (by decide)) (by omega) (g := (mkF m 269 #[.val (.long xx), .second, .val (.int xs), .val (.int xa), .val (.int gx), .val (.int gy), .val (.long vv), .second, .val (.int av), .val (.int nv), .val (.ref ba)] [(.int (own_enc vv (9 : Int32) nv gy)), (.int (av + (9 : Int32))), (.ref ba)])) rfl rfl (hb hby at_269)
  have N39 := Fr.snoc X39 N38 g_ba
  have Zs39 : n0 ≤ h39.size := Nat.le_trans Zs36 (Keep.of_wr W39).1
  refine own_st st39 ?_
  show own_Go p e below _ (T39.setTop (mkF m 270 #[.val (.long xx), .second, .val (.int xs), .val (.int xa), .val (.int gx), .val (.int gy), .val (.long vv), .second, .val (.int av), .val (.int nv), .val (.ref ba)] []))
  have Af_ba_40 := A_ba_39
  rw [show (own_up (own_up (own_up (own_up (own_up (own_up (own_up (own_up (own_up (own_up gf (A + 0) (own_enc vv (0 : Int32) nv gy)) (A + 1) (own_enc vv (1 : Int32) nv gy)) (A + 2) (own_enc vv (2 : Int32) nv gy)) (A + 3) (own_enc vv (3 : Int32) nv gy)) (A + 4) (own_enc vv (4 : Int32) nv gy)) (A + 5) (own_enc vv (5 : Int32) nv gy)) (A + 6) (own_enc vv (6 : Int32) nv gy)) (A + 7) (own_enc vv (7 : Int32) nv gy)) (A + 8) (own_enc vv (8 : Int32) nv gy)) (A + 9) (own_enc vv (9 : Int32) nv gy).toInt8.toInt32) = (own_up (own_up (own_up (own_up (own_up (own_up (own_up (own_up (own_up (own_up gf (A + 0) (own_enc vv (0 : Int32) nv gy)) (A + 1) (own_enc vv (1 : Int32) nv gy)) (A + 2) (own_enc vv (2 : Int32) nv gy)) (A + 3) (own_enc vv (3 : Int32) nv gy)) (A + 4) (own_enc vv (4 : Int32) nv gy)) (A + 5) (own_enc vv (5 : Int32) nv gy)) (A + 6) (own_enc vv (6 : Int32) nv gy)) (A + 7) (own_enc vv (7 : Int32) nv gy)) (A + 8) (own_enc vv (8 : Int32) nv gy)) (A + 9) (own_enc vv (9 : Int32) nv gy)) from by rw [own_enc8]] at Af_ba_40
  refine own_st (V := T39.setTop (mkF m 274 #[.val (.long xx), .second, .val (.int xs), .val (.int xa), .val (.int gx), .val (.int gy), .val (.long vv), .second, .val (.int av), .val (.int nv), .val (.ref ba)] [(.int av), (.ref ba)])) (fun tgt k => ?_) ?_
  · show Steps p.tables e below (T39.setTop (mkF m 270 #[.val (.long xx), .second, .val (.int xs), .val (.int xa), .val (.int gx), .val (.int gy), .val (.long vv), .second, .val (.int av), .val (.int nv), .val (.ref ba)] [])) tgt
    refine XS.aload X39.here hx rfl (hb hby at_270) rfl rfl ?_
    show Steps p.tables e below (T39.setTop (mkF m 272 #[.val (.long xx), .second, .val (.int xs), .val (.int xa), .val (.int gx), .val (.int gy), .val (.long vv), .second, .val (.int av), .val (.int nv), .val (.ref ba)] [(.ref ba)])) tgt
    refine XS.iload X39.here hx rfl (hb hby at_272) rfl ?_
    exact k
  obtain ⟨ef, hef⟩ : ∃ f : Nat → Int32, f = (own_up (own_up (own_up (own_up (own_up (own_up (own_up (own_up (own_up (own_up gf (A + 0) (own_enc vv (0 : Int32) nv gy)) (A + 1) (own_enc vv (1 : Int32) nv gy)) (A + 2) (own_enc vv (2 : Int32) nv gy)) (A + 3) (own_enc vv (3 : Int32) nv gy)) (A + 4) (own_enc vv (4 : Int32) nv gy)) (A + 5) (own_enc vv (5 : Int32) nv gy)) (A + 6) (own_enc vv (6 : Int32) nv gy)) (A + 7) (own_enc vv (7 : Int32) nv gy)) (A + 8) (own_enc vv (8 : Int32) nv gy)) (A + 9) (own_enc vv (9 : Int32) nv gy)) := ⟨_, rfl⟩
  have Ag_ba_41 := Af_ba_40
  rw [← hef] at Ag_ba_41
  obtain ⟨mm, hm9, hmn, hmU⟩ := own_cnt vv
  rw [← hnv] at hmn
  have hF : ∀ j, j < 10 → ef (A + j) = own_enc vv (Int32.ofNat j) (Int32.ofNat (mm + 1)) gy := by
    intro j hj
    rw [← hmn, hef]
    have hc : j = 0 ∨ j = 1 ∨ j = 2 ∨ j = 3 ∨ j = 4 ∨ j = 5 ∨ j = 6 ∨ j = 7 ∨ j = 8 ∨ j = 9 := by omega
    rcases hc with h | h | h | h | h | h | h | h | h | h <;> subst h <;> simp [own_up] <;> rfl
  obtain ⟨w1, w2⟩ := own_main vv gy ef A mm hm9 hmU hF
  obtain ⟨v42, _, ⟨T42, L42, k42, n42⟩, -, Xc42, ⟨Lc42, hQ42, l42, y42, z42⟩, st42⟩ := Jvm.LawKit.callS X39 hx (y := (⟨"com/example/vestwright/vestwright/census/Varint", "read", "([BI)J"⟩ : MethodName)) hown (mvT hZ (hw _ (List.mem_of_getElem? (i := 9) rfl))) (mvT hZ (hw _ (List.mem_of_getElem? (i := 10) rfl))) (mvT hZ (hw _ (List.mem_of_getElem? (i := 11) rfl))) (mvT hZ (hw _ (List.mem_of_getElem? (i := 12) rfl))) (by decide) (backOf (W := 0) (rm3 l Z a0 hw [] ba av 17 ef A mm h39 n0 Zs39 Ag_ba_41 hA (by omega) (by decide) (fun j hj => by rw [w1 j hj]; have := Nat.mod_lt (own_u vv / 2 ^ (7 * j)) (show 0 < 128 by decide); omega) (by rw [w2]; omega)) hZ (hw _ (List.mem_of_getElem? (i := 12) rfl)) (hw _ (List.mem_of_getElem? (i := 11) rfl)) (by decide) (by decide)) (g := (mkF m 274 #[.val (.long xx), .second, .val (.int xs), .val (.int xa), .val (.int gx), .val (.int gy), .val (.long vv), .second, .val (.int av), .val (.int nv), .val (.ref ba)] [(.int av), (.ref ba)])) rfl (by rw [hml]; rfl) (argsL := [(.ref ba), (.int av)]) (rest := []) (lenOf pd_0_2 rfl) rfl (by show 2 * 0 + _ ≤ _; exact Nat.le_of_eq rfl) (hb hby at_274) (fun _ _ => ⟨rfl, e39, (by decide : 1 + 0 ≤ _), (by decide : 17 + 0 ≤ _)⟩)
  dsimp only [Pt.U, Pt.locs, Pt.cells, Pt.slots] at Xc42 l42 y42 z42 st42 hQ42
  have X42 := own_cast Xc42 l42 y42 z42
  obtain ⟨ev42, N42q, K42⟩ := hQ42
  rw [ev42] at st42
  have N42 := Fr.app N39 N42q
  refine own_st st42 ?_
  show own_Go p e below _ (T42.setTop (mkF m 277 #[.val (.long xx), .second, .val (.int xs), .val (.int xa), .val (.int gx), .val (.int gy), .val (.long vv), .second, .val (.int av), .val (.int nv), .val (.ref ba)] [(.long (own_rd ef A mm))]))
  refine own_st (V := T42.setTop (mkF m 288 #[.val (.long xx), .second, .val (.int xs), .val (.int xa), .val (.int gx), .val (.int gy), .val (.long vv), .second, .val (.int av), .val (.int nv), .val (.ref ba)] [(.int (1 : Int32))])) (fun tgt k => ?_) ?_
  · show Steps p.tables e below (T42.setTop (mkF m 277 #[.val (.long xx), .second, .val (.int xs), .val (.int xa), .val (.int gx), .val (.int gy), .val (.long vv), .second, .val (.int av), .val (.int nv), .val (.ref ba)] [(.long (own_rd ef A mm))])) tgt
    refine XS.lload X42.here hx rfl (hb hby at_277) rfl ?_
    show Steps p.tables e below (T42.setTop (mkF m 279 #[.val (.long xx), .second, .val (.int xs), .val (.int xa), .val (.int gx), .val (.int gy), .val (.long vv), .second, .val (.int av), .val (.int nv), .val (.ref ba)] [(.long vv), (.long (own_rd ef A mm))])) tgt
    refine XS.lcmp X42.here hx rfl (hb hby at_279) rfl ?_
    show Steps p.tables e below (T42.setTop (mkF m 280 #[.val (.long xx), .second, .val (.int xs), .val (.int xa), .val (.int gx), .val (.int gy), .val (.long vv), .second, .val (.int av), .val (.int nv), .val (.ref ba)] [(.int (lcmpW (own_rd ef A mm) vv))])) tgt
    refine XS.ifNo X42.here hx rfl (hb hby at_280) rfl ((if0 _ _).trans (teq ((lw_eq (own_rd ef A mm) vv).mpr (own_law vv ef A mm hm9 hmU w1 w2))).2) ?_
    show Steps p.tables e below (T42.setTop (mkF m 283 #[.val (.long xx), .second, .val (.int xs), .val (.int xa), .val (.int gx), .val (.int gy), .val (.long vv), .second, .val (.int av), .val (.int nv), .val (.ref ba)] [])) tgt
    refine XS.iconst X42.here hx rfl (hb hby at_283) ?_
    show Steps p.tables e below (T42.setTop (mkF m 284 #[.val (.long xx), .second, .val (.int xs), .val (.int xa), .val (.int gx), .val (.int gy), .val (.long vv), .second, .val (.int av), .val (.int nv), .val (.ref ba)] [(.int (1 : Int32))])) tgt
    refine XS.goto X42.here hx rfl (pc0 := 284) (pc' := 288) rfl (hb hby at_284) (by decide) (by decide) ?_
    exact k
  refine own_retN X42 hx hlk (t := .boolean) (z' := (1 : Int32)) Bd.returns (by simp) rfl (hb hby at_288) ?_ (by decide) (by decide)
  show Q0 Z xx xs xa gx gy h0 n0 (some (.int (1 : Int32))) T42.heap _
  rw [K42]
  exact ⟨rfl, N42⟩
set_option maxRecDepth 65536 in
set_option maxHeartbeats 40000000 in
theorem comes_1 {Post : Tables → Env → Array Value → State → Outcome → State → Prop} (hpost : ∀ tb e args s v u, (limb_1_1.after args s (.returned v) u = true ∧ limb_1_2.after args s (.returned v) u = true ∧ True) → FrameEnd s (.returned v) u (Jvm.fieldLocs frame_1_writes args s ++ Jvm.arrayLocs frame_1_arrays args s ++ Jvm.staticLocs frame_1_statics s) 16 128 → Post tb e args s (.returned v) u) :
    ArmFor flags0 classFile x code maxLocals ret World_1 tables_1 room_1 Calls_1 rest_1 Pre_1 Post := by
  intro l hfl _ _ p e ha hc hk s m args below hf hA hF happ hP
  obtain ⟨hcalls, hrest, hpre⟩ := hP
  obtain ⟨-, -, -, hnamed, -, -, -, hat⟩ := (Spec.applies_iff hf).mp happ
  obtain ⟨hg, hn⟩ := and_e (Cond.before_iff.mp (show (Jvm.Cond.and given_1 narrow_1).before args s = true from hpre))
  obtain ⟨hcount, g0⟩ := and_e hg
  obtain ⟨a0, g1⟩ := and_e g0
  obtain ⟨a1, g2⟩ := and_e g1
  obtain ⟨a2, g3⟩ := and_e g2
  obtain ⟨a3, g4⟩ := and_e g3
  have a4 := g4
  obtain ⟨w0, w1, w2, w3, w4, rfl⟩ : ∃ w0 w1 w2 w3 w4 : Value, args = #[w0, w1, w2, w3, w4] := by
    have hs : args.size = 5 := by simpa [Cond.value, given_1] using hcount
    obtain ⟨L⟩ := args
    match L, hs with
    | [w0, w1, w2, w3, w4], _ => exact ⟨w0, w1, w2, w3, w4, rfl⟩
  have hw := fun d (hd : d ∈ tables_1) => atoms_spec (ws := Jvm.Cond.code x code maxLocals ret :: tables_1) hat d (List.mem_cons_of_mem _ hd)
  obtain ⟨i0, ei0⟩ := isL_v a0
  obtain rfl : w0 = (.long i0) := Option.some.inj ei0
  obtain ⟨i1, ei1⟩ := is_v a1
  obtain rfl : w1 = (.int i1) := Option.some.inj ei1
  obtain ⟨i2, ei2⟩ := is_v a2
  obtain rfl : w2 = (.int i2) := Option.some.inj ei2
  obtain ⟨i3, ei3⟩ := is_v a3
  obtain rfl : w3 = (.int i3) := Option.some.inj ei3
  obtain ⟨i4, ei4⟩ := is_v a4
  obtain rfl : w4 = (.int i4) := Option.some.inj ei4
  obtain ⟨n, o, h1, h2, h3, _, L, rfl, ⟨rfl, N⟩, hq⟩ := rm0 l s _ hw tables_1 i0 i1 i2 i3 i4 s.heap s.heap.size (Nat.le_refl _) p e ha hc hk s m _ below hf ((Spec.applies_iff_loose hf).mp happ).1 ⟨rfl, State.Warmed39.refl s, rfl⟩ trivial
  refine ⟨n, _, h1, h2, h3, hpost _ _ _ _ _ _ ⟨Cond.after_iff.mpr rfl, Cond.after_iff.mpr (eq_i res_at (Term.int_eval (1)) rfl), trivial⟩ ⟨hq.1, hq.2.1, (hq.2.2.sift fun y hy => Or.inr (N y hy)).mono (by decide) (by decide)⟩⟩
theorem main_1_1 : Claimed_1_1 := comes_1 fun _ _ _ _ _ _ h hF => ⟨h.1, hF⟩
theorem main_1_2 : Claimed_1_2 := comes_1 fun _ _ _ _ _ _ h hF => ⟨h.2.1, hF⟩
end Jvm.Pilot.@@N@@
namespace Jvm.Pilot.@@N@@
open Jvm Jvm.ClassFile Sem Op Lib Jvm.Free Jvm.Stand Jvm.Pilot.@@N@@.Jvm.D
/-! MADE BY PROGRAM (witnessworld.py) out of the Statement's table words and the real class files: 9 classes; the members and pool entries that the words name. The judged class is class 1, her method 3. -/
namespace start1
open Jvm.ClassFile
def u (s : String) : CpInfo := .utf8 (stringToUtf16 s)
/-- a pool by its gaps: so many unusable entries, then the entry; so many at the end -/
def gap : Nat → List CpInfo → List CpInfo
  | 0, r => r
  | n + 1, r => .unusable :: gap n r
def poolList (es : List (Nat × CpInfo)) (last : Nat) : List CpInfo := es.foldr (fun e r => gap e.1 (e.2 :: r)) (gap last [])
def pool (es : List (Nat × CpInfo)) (last : Nat) : Array CpInfo := ⟨poolList es last⟩
def fileOf (pool : Array CpInfo) (this : Nat) (attrs : Array Attribute := #[]) (ms : Array MethodInfo := #[]) (fl : Nat := 33) (sup : Nat := 0) (ifs : Array Nat := #[]) (fds : Array FieldInfo := #[]) : ClassFile where
  minorVersion := 0
  majorVersion := 65
  constantPool := pool
  accessFlags := fl
  thisClass := this
  superClass := sup
  interfaces := ifs
  fields := fds
  methods := ms
  attributes := attrs
def plain (name : String) (sup : Option ClassId) : Class where
  name := name
  kind := .ordinary
  loader := none
  accessFlags := 33
  super := sup
  interfaces := #[]
  cf := none
  fields := #[]
  methods := #[]
  instanceTypes := #[]
  staticTypes := #[]
  resolved := #[]
  callSites := []
  init := .initialized
  statics := none
  mirror := none

def pool0 : Array CpInfo := pool [(5, u "<init>"), (0, u "()V"), (1, .class_ 10), (1, u "java/lang/Object")] 113

def k0m0 : Method := { name := "<init>", desc := "()V", sig := { parameters := [], returnType := none }, accessFlags := 1, code := none }
/-- java/lang/Object -/
def k0 : Class := { plain "java/lang/Object" none with
  accessFlags := 33
  interfaces := #[]
  cf := some (fileOf pool0 8 #[] #[{ accessFlags := 1, nameIndex := 5, descriptorIndex := 6, attributes := #[] }] 33 0 #[] #[])
  fields := #[]
  methods := #[k0m0]
  instanceTypes := #[]
  staticTypes := #[]
  resolved := Array.replicate 124 none
  statics := none }

def pool1 : Array CpInfo := pool [(2, .class_ 4), (1, u "java/lang/Object"), (0, u "<init>"), (0, u "()V"), (0, .long 127), (1, .long 128), (1, .methodref 12 13), (0, .class_ 14), (0, .nameAndType 15 16), (0, u "com/example/vestwright/vestwright/census/VarintReadPinLaw"), (0, u "count"), (0, u "(J)I"), (0, .methodref 12 18), (0, .nameAndType 19 20), (0, u "enc"), (0, u "(JIII)B"), (0, .methodref 22 23), (0, .class_ 24), (0, .nameAndType 25 26), (0, u "com/example/vestwright/vestwright/census/Varint"), (0, u "read"), (0, u "([BI)J"), (3, u "law"), (0, u "(JIIII)Z")] 4

def k1m0 : Method := { name := "<init>", desc := "()V", sig := { parameters := [], returnType := none }, accessFlags := 2, code := none }
def k1c1 : Code := { maxStack := 4, maxLocals := 3, code := method_2_code, exceptionTable := #[], attributes := #[] }
def k1m1 : Method := { name := "count", desc := "(J)I", sig := { parameters := [.long], returnType := some .int }, accessFlags := 10, code := some k1c1 }
def k1c2 : Code := { maxStack := 4, maxLocals := 5, code := method_3_code, exceptionTable := #[], attributes := #[] }
def k1m2 : Method := { name := "enc", desc := "(JIII)B", sig := { parameters := [.long, .int, .int, .int], returnType := some .byte }, accessFlags := 10, code := some k1c2 }
def k1c3 : Code := { maxStack := 7, maxLocals := 11, code := code, exceptionTable := #[], attributes := #[] }
def k1m3 : Method := { name := "law", desc := "(JIIII)Z", sig := { parameters := [.long, .int, .int, .int, .int], returnType := some .boolean }, accessFlags := 9, code := some k1c3 }
/-- com/example/vestwright/vestwright/census/VarintReadPinLaw -/
def k1 : Class := { plain "com/example/vestwright/vestwright/census/VarintReadPinLaw" (some 0) with
  accessFlags := 49
  interfaces := #[]
  cf := some (fileOf pool1 12 #[] #[{ accessFlags := 2, nameIndex := 5, descriptorIndex := 6, attributes := #[] }, { accessFlags := 10, nameIndex := 15, descriptorIndex := 16, attributes := #[] }, { accessFlags := 10, nameIndex := 19, descriptorIndex := 20, attributes := #[] }, { accessFlags := 9, nameIndex := 30, descriptorIndex := 31, attributes := #[] }] 49 2 #[] #[])
  fields := #[]
  methods := #[k1m0, k1m1, k1m2, k1m3]
  instanceTypes := #[]
  staticTypes := #[]
  resolved := Array.replicate 36 none
  statics := none }

def pool2 : Array CpInfo := pool [(2, .class_ 4), (1, u "java/lang/Object"), (0, u "<init>"), (0, u "()V"), (7, .class_ 16), (1, u "com/example/vestwright/vestwright/census/Varint"), (6, u "MOST"), (0, u "I"), (7, u "read"), (0, u "([BI)J")] 4

def k2m0 : Method := { name := "<init>", desc := "()V", sig := { parameters := [], returnType := none }, accessFlags := 2, code := none }
def k2c1 : Code := { maxStack := 5, maxLocals := 7, code := prog_4_method_5_code, exceptionTable := #[], attributes := #[] }
def k2m1 : Method := { name := "read", desc := "([BI)J", sig := { parameters := [(.array .byte), .int], returnType := some .long }, accessFlags := 8, code := some k2c1 }
/-- com/example/vestwright/vestwright/census/Varint -/
def k2 : Class := { plain "com/example/vestwright/vestwright/census/Varint" (some 0) with
  accessFlags := 32
  interfaces := #[]
  cf := some (fileOf pool2 14 #[] #[{ accessFlags := 2, nameIndex := 5, descriptorIndex := 6, attributes := #[] }, { accessFlags := 8, nameIndex := 32, descriptorIndex := 33, attributes := #[] }] 32 2 #[] #[{ accessFlags := 24, nameIndex := 23, descriptorIndex := 24, attributes := #[] }])
  fields := #[{ name := "MOST", type := .int, accessFlags := 24, slot := 0, constantValue := 0 }]
  methods := #[k2m0, k2m1]
  instanceTypes := #[]
  staticTypes := #[.int]
  resolved := Array.replicate 38 none
  statics := none }

def pool3 : Array CpInfo := pool [(1, u "java/lang/Cloneable"), (0, .class_ 1), (0, u "java/lang/Object"), (0, .class_ 3)] 3

/-- java/lang/Cloneable -/
def k3 : Class := { plain "java/lang/Cloneable" (some 0) with
  accessFlags := 1537
  interfaces := #[]
  cf := some (fileOf pool3 2 #[] #[] 1537 4 #[] #[])
  fields := #[]
  methods := #[]
  instanceTypes := #[]
  staticTypes := #[]
  resolved := Array.replicate 8 none
  statics := none }

def pool4 : Array CpInfo := pool [(1, u "java/io/Serializable"), (0, .class_ 1), (0, u "java/lang/Object"), (0, .class_ 3)] 3

/-- java/io/Serializable -/
def k4 : Class := { plain "java/io/Serializable" (some 0) with
  accessFlags := 1537
  interfaces := #[]
  cf := some (fileOf pool4 2 #[] #[] 1537 4 #[] #[])
  fields := #[]
  methods := #[]
  instanceTypes := #[]
  staticTypes := #[]
  resolved := Array.replicate 8 none
  statics := none }

/-- the primitive byte -/
def k5 : Class := { plain "byte" none with kind := .primitive 'B', accessFlags := 0x411 }
/-- [B -/
def k6 : Class := { plain "[B" (some 0) with kind := .array 5 .byte, interfaces := #[3, 4], accessFlags := 1041 }

/-- the primitive int -/
def k7 : Class := { plain "int" none with kind := .primitive 'I', accessFlags := 0x411 }
/-- [I -/
def k8 : Class := { plain "[I" (some 0) with kind := .array 7 .int, interfaces := #[3, 4], accessFlags := 1041 }

def heap : Heap := #[]
def classes : Array Class := #[k0, k1, k2, k3, k4, k5, k6, k7, k8]
def interned : List (Array UInt16 × Addr) := []
def slotsUsed : Nat := 0
def theMethod : MethodId := ⟨1, 3⟩
def args0 : Array Value := #[.long 5, .int 3, .int 3, .int 1, .int 2]
def aboutOver (below : List Frame) : State where
  vm := { classes := classes, interned := interned.toArray }
  heap := heap
  slotsUsed := slotsUsed
  threads := #[{ frames := .invoking theMethod args0 :: below }]
def below0 : List Frame := [.native { method := ⟨0, 0⟩, args := #[] }]
def about1 : State := aboutOver below0
def p0 : Program := .bare "" "" ""
def e0 : Env := launch0.env 0 0 0
theorem w_frames : about1.frames = Frame.invoking theMethod args0 :: below0 := rfl
set_option maxRecDepth 65536 in
theorem w_args : argsFit about1.vm theMethod args0 = true := by decide +kernel
set_option maxRecDepth 65536 in
theorem w_heap : heapFits about1 = true := by decide +kernel
set_option maxRecDepth 65536 in
theorem w_runnable : about1.curStatus? = some .runnable := by decide +kernel
set_option maxRecDepth 65536 in
theorem w_alone : about1.alone = true := by decide +kernel
set_option maxRecDepth 65536 in
theorem w_named : about1.methodNamed? x = some theMethod := by decide +kernel
set_option maxRecDepth 65536 in
theorem w_hears : about1.hears theMethod below0 = true := by decide +kernel
set_option maxRecDepth 65536 in
theorem w_ripe : about1.ripe theMethod args0 below0 = true := by decide +kernel
theorem w_running : about1.status = .running := rfl
set_option maxRecDepth 65536 in
theorem w_room : about1.hasRoom e0.platform room_1 = true :=
  launch0.hasRoom_least _ room_1 (by decide +kernel) (by decide +kernel) (by decide +kernel) (by decide +kernel) (by decide +kernel) (by decide +kernel)
theorem allAtoms_all (ts : List Jvm.Cond) (a : Array Jvm.Value) (st : Jvm.State) : (allAtoms ts).before a st = ts.all (fun c => c.before a st) := by
  induction ts with
  | nil => rfl
  | cons c t ih =>
    show (Jvm.Cond.and c (allAtoms t)).before a st = _
    rw [Jvm.Cond.before_and, ih, List.all_cons]
def words1 : List Jvm.Cond := Jvm.Cond.code x code maxLocals ret :: tables_1
/-- a 'code' word, met by the world's own term for the bytes: nothing is compared byte by byte -/
theorem code_word {y : MethodName} {bytes : ByteArray} {mx : Nat} {rt : Option FieldType} {a : Array Value} {s : State} {m : MethodId} {meth : Method} {c : Code} (h1 : s.methodNamed? y = some m) (h2 : s.vm.method? m = some meth) (h3 : meth.code = some c) (h4 : c.code = bytes)
    (h5 : (c.maxLocals == mx && c.exceptionTable.isEmpty && decide (c.maxStack ≤ mostOperands) && decide (meth.sig.returnType = rt) && !meth.locks && decide (parseMethodDescriptor y.desc = some meth.sig)) = true) : (Jvm.Cond.code y bytes mx rt).before a s = true := by
  simp only [Bool.and_eq_true, beq_iff_eq, Bool.not_eq_true', decide_eq_true_eq] at h5
  obtain ⟨⟨⟨⟨⟨g1, g2⟩, g3⟩, g4⟩, g5⟩, g6⟩ := h5
  simp [Cond.before, Cond.holds, Cond.value, h1, h2, h3, h4, g1, g2, g3, g4, g5, g6]
def isCode : Jvm.Cond → Bool
  | .code _ _ _ _ => true
  | _ => false
theorem all_split {L : List Jvm.Cond} {P : Jvm.Cond → Bool} (h1 : L.all (fun c => isCode c || P c) = true) (h2 : ∀ c ∈ L.filter isCode, P c = true) : L.all P = true := by
  refine List.all_eq_true.mpr fun c hc => ?_
  have h := List.all_eq_true.mp h1 c hc
  rcases Bool.eq_false_or_eq_true (isCode c) with hi | hi
  · exact h2 c (List.mem_filter.mpr ⟨hc, hi⟩)
  · simpa [hi] using h
set_option maxRecDepth 65536 in
theorem w_c0 : (Jvm.Cond.code x code maxLocals ret).before args0 about1 = true := code_word (m := ⟨1, 3⟩) (meth := k1m3) (c := k1c3) (by decide +kernel) rfl rfl rfl (by decide +kernel)
set_option maxRecDepth 65536 in
theorem w_c1 : (Jvm.Cond.code ({ cls := "com/example/vestwright/vestwright/census/VarintReadPinLaw", name := "count", desc := "(J)I" } : Jvm.MethodName) method_2_code (3 : Nat) (Option.some Jvm.ClassFile.FieldType.int)).before args0 about1 = true := code_word (m := ⟨1, 1⟩) (meth := k1m1) (c := k1c1) (by decide +kernel) rfl rfl rfl (by decide +kernel)
set_option maxRecDepth 65536 in
theorem w_c2 : (Jvm.Cond.code ({ cls := "com/example/vestwright/vestwright/census/VarintReadPinLaw", name := "enc", desc := "(JIII)B" } : Jvm.MethodName) method_3_code (5 : Nat) (Option.some Jvm.ClassFile.FieldType.byte)).before args0 about1 = true := code_word (m := ⟨1, 2⟩) (meth := k1m2) (c := k1c2) (by decide +kernel) rfl rfl rfl (by decide +kernel)
set_option maxRecDepth 65536 in
theorem w_c3 : (Jvm.Cond.code ({ cls := "com/example/vestwright/vestwright/census/Varint", name := "read", desc := "([BI)J" } : Jvm.MethodName) prog_4_method_5_code (7 : Nat) (Option.some Jvm.ClassFile.FieldType.long)).before args0 about1 = true := code_word (m := ⟨2, 1⟩) (meth := k2m1) (c := k2c1) (by decide +kernel) rfl rfl rfl (by decide +kernel)
def codes1 : List Jvm.Cond := [Jvm.Cond.code x code maxLocals ret, Jvm.Cond.code ({ cls := "com/example/vestwright/vestwright/census/VarintReadPinLaw", name := "count", desc := "(J)I" } : Jvm.MethodName) method_2_code (3 : Nat) (Option.some Jvm.ClassFile.FieldType.int), Jvm.Cond.code ({ cls := "com/example/vestwright/vestwright/census/VarintReadPinLaw", name := "enc", desc := "(JIII)B" } : Jvm.MethodName) method_3_code (5 : Nat) (Option.some Jvm.ClassFile.FieldType.byte), Jvm.Cond.code ({ cls := "com/example/vestwright/vestwright/census/Varint", name := "read", desc := "([BI)J" } : Jvm.MethodName) prog_4_method_5_code (7 : Nat) (Option.some Jvm.ClassFile.FieldType.long)]
set_option maxRecDepth 65536 in
theorem codes_eq : words1.filter isCode = codes1 := rfl
theorem w_codes : ∀ c ∈ words1.filter isCode, c.before args0 about1 = true := by
  rw [codes_eq]
  intro c hc
  simp only [codes1, List.mem_cons, List.not_mem_nil, or_false] at hc
  rcases hc with rfl | rfl | rfl | rfl
  · exact w_c0
  · exact w_c1
  · exact w_c2
  · exact w_c3
set_option maxRecDepth 65536 in
theorem w_t1 : words1.all (fun c => isCode c || c.before args0 about1) = true := by decide +kernel
theorem w_tables : (allAtoms (Jvm.Cond.code x code maxLocals ret :: tables_1)).before args0 about1 = true := by
  rw [allAtoms_all]
  show words1.all (fun c => c.before args0 about1) = true
  refine all_split ?_ w_codes
  rw [w_t1]
set_option maxRecDepth 65536 in
theorem w_case : (Jvm.Cond.and given_1 narrow_1).before args0 about1 = true := by decide +kernel
theorem w_applies : (headSpec (Jvm.Cond.code x code maxLocals ret :: tables_1) room_1).applies x e0.platform about1 = true :=
  (Spec.applies_iff w_frames).mpr ⟨w_running, w_runnable, w_alone, w_named, w_hears, w_ripe, w_room, w_tables⟩
theorem atStart : AtStart classFile x code maxLocals ret World_1 tables_1 room_1 Calls_1 rest_1 Pre_1 launch0 p0 e0 about1 theMethod args0 below0 :=
  ⟨lists_1, trivial, launch0.admits_env _ _ _, launch0.least_env, fairChoices_fair.cas, fairChoices_fair.clock, w_frames, w_args, w_heap, w_applies, trivial, trivial, w_case⟩
end start1
theorem witness_1 : WitnessClaimed_1 := ⟨start1.p0, start1.e0, start1.about1, start1.theMethod, start1.args0, start1.below0, start1.atStart⟩
end Jvm.Pilot.@@N@@
