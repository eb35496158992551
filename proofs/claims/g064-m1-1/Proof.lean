import JvmDerived
import JvmDerived.Pilot.@@N@@Statement
import JvmDerived.Pilot.@@N@@Code
set_option linter.unusedVariables false
set_option linter.unusedSimpArgs false
namespace Jvm.RoadKit
open Sem ClassFile Op Lib Jvm.Stand Jvm.Free Jvm.LawKit
section Own
variable {p : Program} {l : Launch} {e : Env} {R : Room} {s : State} {m : MethodId} {args : Array Value} {below : List Frame} {meth : Method} {c : Code} {T : State} {locs : List Loc} {cells slots : Nat} {Z : State} {h h' : Heap} {a b : Addr}
/-- from the state U the method runs to its end, and what it leaves is as G says -/
def own_Go (p : Program) (e : Env) (below : List Frame) (G : Outcome → State → Prop) (U : State) : Prop := ∃ s₂ o, Steps p.tables e below U s₂ ∧ s₂.status = .running ∧ Ended s₂ below o ∧ G o s₂
def own_G (s : State) (Q : Option Value → Heap → List Loc → Prop) (C N : Nat) : Outcome → State → Prop := fun o U' => ∃ v L, o = .returned v ∧ Q v U'.heap L ∧ FrameEnd s o U' L C N
theorem own_st {G : Outcome → State → Prop} {U V : State} (hs : ∀ t, Steps p.tables e below V t → Steps p.tables e below U t) (k : own_Go p e below G V) : own_Go p e below G U := by
  obtain ⟨s₂, o, h1, h2⟩ := k
  exact ⟨s₂, o, hs _ h1, h2⟩
theorem own_retI (X : Stand p l e R s m args below meth c T locs cells slots) (hx : p.tables.exec = Jvm.exec) (hlocks : meth.locks = false) {pc : Nat} {Ls : Array Slot} {z : Int32} {rest : List Value} (hret : meth.sig.returnType = some .int) (hd : decode c.code pc = .ok (.ireturn, 1)) {Q : Option Value → Heap → List Loc → Prop} {C N : Nat}
    (hQ : Q (some (.int z)) T.heap locs) (hC : cells ≤ C) (hN : slots ≤ N) : own_Go p e below (own_G s Q C N) (T.setTop (mkF m pc Ls (.int z :: rest))) := by
  obtain ⟨fs, hr, hrun, hended, hW, hsame⟩ := X.leave (v := some (.int z)) (fun h => by rw [hret] at h; cases h)
  refine ⟨_, _, ?_, hrun, hended, _, _, rfl, hQ, ⟨_, rfl⟩, hW, hsame.mono hC hN⟩
  have hm' : T.vm.method? m = some meth := X.method'
  have hn : narrow .int (.int z) = .int z := rfl
  show Steps p.tables e below (T.setTop { method := m, pc := pc, locals := Ls, stack := _ :: rest, locked := none }) _
  jvm_step X.here [X.here.top, hx, hd, hm', hret, hn]
  first | (intro acts; rw [hr _ acts rfl rfl rfl]) | rw [hr _ _ rfl rfl rfl]
  exact Steps.refl _
theorem own_retN (X : Stand p l e R s m args below meth c T locs cells slots) (hx : p.tables.exec = Jvm.exec) (hlocks : meth.locks = false) {pc : Nat} {Ls : Array Slot} {z z' : Int32} {t : FieldType} {rest : List Value} (hret : meth.sig.returnType = some t) (ht : t = .boolean ∨ t = .byte ∨ t = .char ∨ t = .short) (hz : nar t z = z') (hd : decode c.code pc = .ok (.ireturn, 1)) {Q : Option Value → Heap → List Loc → Prop} {C N : Nat}
    (hQ : Q (some (.int z')) T.heap locs) (hC : cells ≤ C) (hN : slots ≤ N) : own_Go p e below (own_G s Q C N) (T.setTop (mkF m pc Ls (.int z :: rest))) := by
  subst hz
  obtain ⟨fs, hr, hrun, hended, hW, hsame⟩ := X.leave (v := some (.int (nar t z))) (fun h => by rw [hret] at h; cases h)
  exact ⟨_, _, retN X hx hret ht hd hr, hrun, hended, _, _, rfl, hQ, ⟨_, rfl⟩, hW, hsame.mono hC hN⟩
theorem own_retJ (X : Stand p l e R s m args below meth c T locs cells slots) (hx : p.tables.exec = Jvm.exec) (hlocks : meth.locks = false) {pc : Nat} {Ls : Array Slot} {z : Int64} (hret : meth.sig.returnType = some .long) (hd : decode c.code pc = .ok (.lreturn, 1)) {Q : Option Value → Heap → List Loc → Prop} {C N : Nat}
    (hQ : Q (some (.long z)) T.heap locs) (hC : cells ≤ C) (hN : slots ≤ N) : own_Go p e below (own_G s Q C N) (T.setTop (mkF m pc Ls [.long z])) := by
  obtain ⟨fs, hr, hrun, hended, hW, hsame⟩ := X.leave (v := some (.long z)) (fun h => by rw [hret] at h; cases h)
  exact ⟨_, _, X.lreturnOut hx hret hd hr, hrun, hended, _, _, rfl, hQ, ⟨_, rfl⟩, hW, hsame.mono hC hN⟩
theorem own_ret0 (X : Stand p l e R s m args below meth c T locs cells slots) (hx : p.tables.exec = Jvm.exec) (hlocks : meth.locks = false) {pc : Nat} {Ls : Array Slot} (hret : meth.sig.returnType = none) (hd : decode c.code pc = .ok (.return_, 1)) {Q : Option Value → Heap → List Loc → Prop} {C N : Nat}
    (hQ : Q none T.heap locs) (hC : cells ≤ C) (hN : slots ≤ N) : own_Go p e below (own_G s Q C N) (T.setTop (mkF m pc Ls [])) := by
  obtain ⟨fs, hr, hrun, hended, hW, hsame⟩ := X.leave (v := none) (fun _ => rfl)
  exact ⟨_, _, X.returnOut hx hret hd hr, hrun, hended, _, _, rfl, hQ, ⟨_, rfl⟩, hW, hsame.mono hC hN⟩
theorem own_z0 {i j : Nat} (q : i = 0) : i ≤ j := q ▸ Nat.zero_le j
/-! arrays of ints (or bytes), of longs: their length and their elements by a plain function -/
def own_Ai (Z : State) (h : Heap) (a : Addr) (ty : FieldType) (n : Nat) (f : Nat → Int32) : Prop := ∃ c : Cell, Arr Z h a c ty ∧ c.slots.size = n ∧ ∀ i, i < n → c.slots[i]? = some (.int (f i))
def own_Aj (Z : State) (h : Heap) (a : Addr) (ty : FieldType) (n : Nat) (f : Nat → Int64) : Prop := ∃ c : Cell, Arr Z h a c ty ∧ c.slots.size = n ∧ ∀ i, i < n → c.slots[i]? = some (.long (f i))
def own_up (f : Nat → Int32) (k : Nat) (x : Int32) : Nat → Int32 := fun i => if i = k then x else f i
def own_upJ (f : Nat → Int64) (k : Nat) (x : Int64) : Nat → Int64 := fun i => if i = k then x else f i
theorem own_up_at (f : Nat → Int32) (k : Nat) (x : Int32) (i : Nat) : own_up f k x i = if i = k then x else f i := rfl
theorem own_upJ_at (f : Nat → Int64) (k : Nat) (x : Int64) (i : Nat) : own_upJ f k x i = if i = k then x else f i := rfl
variable {ty : FieldType} {n : Nat} {f : Nat → Int32} {fj : Nat → Int64} {ws : List Addr} {sl : Nat} {v : Value}
theorem own_Ai.lt (F : own_Ai Z h a ty n f) : a < h.size := by obtain ⟨c, A, -⟩ := F; exact A.lt
theorem own_Aj.lt (F : own_Aj Z h a ty n fj) : a < h.size := by obtain ⟨c, A, -⟩ := F; exact A.lt
theorem own_Ai.ext (F : own_Ai Z h a ty n f) (E : Ext h h') : own_Ai Z h' a ty n f := by obtain ⟨c, A, r⟩ := F; exact ⟨c, A.ext E, r⟩
theorem own_Aj.ext (F : own_Aj Z h a ty n fj) (E : Ext h h') : own_Aj Z h' a ty n fj := by obtain ⟨c, A, r⟩ := F; exact ⟨c, A.ext E, r⟩
theorem own_Ai.other (F : own_Ai Z h b ty n f) (W : Wr h h' a sl v) (q : b ≠ a) : own_Ai Z h' b ty n f := by obtain ⟨c, A, r⟩ := F; exact ⟨c, A.other W q, r⟩
theorem own_Aj.other (F : own_Aj Z h b ty n fj) (W : Wr h h' a sl v) (q : b ≠ a) : own_Aj Z h' b ty n fj := by obtain ⟨c, A, r⟩ := F; exact ⟨c, A.other W q, r⟩
theorem own_Ai.keep (F : own_Ai Z h a ty n f) (K : Keep h h' ws) (q : a ∉ ws) : own_Ai Z h' a ty n f := by obtain ⟨c, A, r⟩ := F; exact ⟨c, ⟨K.2.1 a c A.1 q, A.2⟩, r⟩
theorem own_Aj.keep (F : own_Aj Z h a ty n fj) (K : Keep h h' ws) (q : a ∉ ws) : own_Aj Z h' a ty n fj := by obtain ⟨c, A, r⟩ := F; exact ⟨c, ⟨K.2.1 a c A.1 q, A.2⟩, r⟩
theorem own_Ai.neq {a0 : Array Value} {k : Nat} {C : String} (F : own_Ai Z h b ty n f) (E : Exa Z h a C) (wi : (Cond.instantiable C k).before a0 Z = true) : a ≠ b := by obtain ⟨c, A, -⟩ := F; exact ne_arr E wi A
theorem own_Aj.neq {a0 : Array Value} {k : Nat} {C : String} (F : own_Aj Z h b ty n fj) (E : Exa Z h a C) (wi : (Cond.instantiable C k).before a0 Z = true) : a ≠ b := by obtain ⟨c, A, -⟩ := F; exact ne_arr E wi A
theorem own_nat {j : Int32} {k : Nat} (hj : j.toInt = k) : j.toNatClampNeg = k := by simp only [Int32.toNatClampNeg, hj]; rfl
theorem own_in {j : Int32} {k n : Nat} (hj : j.toInt = k) (hk : k < n) : ¬ (j < 0 ∨ n ≤ j.toNatClampNeg) := by
  rw [own_nat hj, Int32.lt_iff_toInt_lt, hj, show (0 : Int32).toInt = 0 from rfl]; omega
theorem own_len {z : Int32} (hz : z.toInt = n) : n.toInt32 = z := by
  have := Int32.toInt_lt z
  exact Int32.toInt_inj.mp (by rw [Int32.toInt_ofNat_small (by omega), hz])
theorem own_iaload (X : Stand p l e R s m args below meth c T locs cells slots) (hx : p.tables.exec = Jvm.exec) (hZ : Z.Warmed39 s.vm) (eT : T.heap = h) (A : own_Ai Z h a .int n f) {j : Int32} {k : Nat} (hj : j.toInt = k) (hk : k < n) {g : JFrame} (hg : g.method = m) {rest : List Value} (hs : g.stack = .int j :: .ref a :: rest) (hd : decode c.code g.pc = .ok (.iaload, 1)) {target : State}
    (hr : Steps p.tables e below (T.setTop { g with pc := g.pc + 1, stack := .int (f k) :: rest }) target) : Steps p.tables e below (T.setTop g) target := by
  obtain ⟨cl, A, S, H⟩ := A
  exact X.iaload hx (j := j) (v := .int (f k)) (by rw [eT]; exact A.1) (State.isArrayOf_alike hZ.alike A.2.1) A.2.2 (by rw [S]; exact own_in hj hk) (by rw [own_nat hj]; exact H k hk) hg hs hd _ hr
theorem own_baload (X : Stand p l e R s m args below meth c T locs cells slots) (hx : p.tables.exec = Jvm.exec) (hZ : Z.Warmed39 s.vm) (eT : T.heap = h) (A : own_Ai Z h a .byte n f) {j : Int32} {k : Nat} (hj : j.toInt = k) (hk : k < n) {g : JFrame} (hg : g.method = m) {rest : List Value} (hs : g.stack = .int j :: .ref a :: rest) (hd : decode c.code g.pc = .ok (.baload, 1)) {target : State}
    (hr : Steps p.tables e below (T.setTop { g with pc := g.pc + 1, stack := .int (f k) :: rest }) target) : Steps p.tables e below (T.setTop g) target := by
  obtain ⟨cl, A, S, H⟩ := A
  exact X.baloadBytes hx (j := j) (v := .int (f k)) (by rw [eT]; exact A.1) (State.isArrayOf_alike hZ.alike A.2.1) A.2.2 (by rw [S]; exact own_in hj hk) (by rw [own_nat hj]; exact H k hk) hg hs hd _ hr
theorem own_laload (X : Stand p l e R s m args below meth c T locs cells slots) (hx : p.tables.exec = Jvm.exec) (hZ : Z.Warmed39 s.vm) (eT : T.heap = h) (A : own_Aj Z h a .long n fj) {j : Int32} {k : Nat} (hj : j.toInt = k) (hk : k < n) {g : JFrame} (hg : g.method = m) {rest : List Value} (hs : g.stack = .int j :: .ref a :: rest) (hd : decode c.code g.pc = .ok (.laload, 1)) {target : State}
    (hr : Steps p.tables e below (T.setTop { g with pc := g.pc + 1, stack := .long (fj k) :: rest }) target) : Steps p.tables e below (T.setTop g) target := by
  obtain ⟨cl, A, S, H⟩ := A
  exact X.laload hx (j := j) (v := .long (fj k)) (by rw [eT]; exact A.1) (State.isArrayOf_alike hZ.alike A.2.1) A.2.2 (by rw [S]; exact own_in hj hk) (by rw [own_nat hj]; exact H k hk) hg hs hd _ hr
theorem own_alen (X : Stand p l e R s m args below meth c T locs cells slots) (hx : p.tables.exec = Jvm.exec) (hZ : Z.Warmed39 s.vm) (eT : T.heap = h) (A : own_Ai Z h a ty n f) {z : Int32} (hz : z.toInt = n) {g : JFrame} (hg : g.method = m) {rest : List Value} (hs : g.stack = .ref a :: rest) (hd : decode c.code g.pc = .ok (.arraylength, 1)) {target : State}
    (hr : Steps p.tables e below (T.setTop { g with pc := g.pc + 1, stack := .int z :: rest }) target) : Steps p.tables e below (T.setTop g) target := by
  obtain ⟨cl, A, S, H⟩ := A
  refine X.arraylength hx (by rw [eT]; exact A.1) (State.isArrayOf_alike hZ.alike A.2.1) hg hs hd _ ?_
  rw [S, own_len hz]; exact hr
theorem own_Ai.set (F : own_Ai Z h a ty n f) {j : Nat} {x : Int32} (W : Wr h h' a j (.int x)) : own_Ai Z h' a ty n (own_up f j x) := by
  obtain ⟨cl, A, S, H⟩ := F
  refine ⟨_, A.same W, by rw [sz_set]; exact S, fun i hi => ?_⟩
  rw [own_up_at]
  by_cases q : i = j
  · subst q
    rw [if_pos rfl]
    simp [Cell.setSlot, S, hi]
  · rw [if_neg q, show (cl.setSlot j (.int x)).slots[i]? = cl.slots[i]? from Array.getElem?_setIfInBounds_ne (Ne.symm q)]
    exact H i hi
theorem own_Aj.set (F : own_Aj Z h a ty n fj) {j : Nat} {x : Int64} (W : Wr h h' a j (.long x)) : own_Aj Z h' a ty n (own_upJ fj j x) := by
  obtain ⟨cl, A, S, H⟩ := F
  refine ⟨_, A.same W, by rw [sz_set]; exact S, fun i hi => ?_⟩
  rw [own_upJ_at]
  by_cases q : i = j
  · subst q
    rw [if_pos rfl]
    simp [Cell.setSlot, S, hi]
  · rw [if_neg q, show (cl.setSlot j (.long x)).slots[i]? = cl.slots[i]? from Array.getElem?_setIfInBounds_ne (Ne.symm q)]
    exact H i hi
theorem own_iastore (X : Stand p l e R s m args below meth c T locs cells slots) (hx : p.tables.exec = Jvm.exec) (hZ : Z.Warmed39 s.vm) (eT : T.heap = h) (A : own_Ai Z h a .int n f) {j x : Int32} {k : Nat} (hj : j.toInt = k) (hk : k < n) {g : JFrame} (hg : g.method = m) {rest : List Value} (hs : g.stack = .int x :: .int j :: .ref a :: rest) (hd : decode c.code g.pc = .ok (.iastore, 1)) :
    ∃ T' h', Stand p l e R s m args below meth c T' (locs ++ [⟨a, k⟩]) cells slots ∧ T'.heap = h' ∧ Wr h h' a k (.int x) ∧ own_Ai Z h' a .int n (own_up f k x) ∧ ∀ target, Steps p.tables e below (T'.setTop { g with pc := g.pc + 1, stack := rest }) target → Steps p.tables e below (T.setTop g) target := by
  obtain ⟨cl, B, S, H⟩ := id A
  obtain ⟨T', h', X', e', W, st⟩ := stI X hx hZ eT B (j := j) (x := x) (by rw [S]; exact own_in hj hk) hg hs hd
  rw [own_nat hj] at X' W
  exact ⟨T', h', X', e', W, A.set W, st⟩
theorem own_bastore (X : Stand p l e R s m args below meth c T locs cells slots) (hx : p.tables.exec = Jvm.exec) (hZ : Z.Warmed39 s.vm) (eT : T.heap = h) (A : own_Ai Z h a .byte n f) {j x : Int32} {k : Nat} (hj : j.toInt = k) (hk : k < n) {g : JFrame} (hg : g.method = m) {rest : List Value} (hs : g.stack = .int x :: .int j :: .ref a :: rest) (hd : decode c.code g.pc = .ok (.bastore, 1)) :
    ∃ T' h', Stand p l e R s m args below meth c T' (locs ++ [⟨a, k⟩]) cells slots ∧ T'.heap = h' ∧ Wr h h' a k (.int x.toInt8.toInt32) ∧ own_Ai Z h' a .byte n (own_up f k x.toInt8.toInt32) ∧ ∀ target, Steps p.tables e below (T'.setTop { g with pc := g.pc + 1, stack := rest }) target → Steps p.tables e below (T.setTop g) target := by
  obtain ⟨cl, B, S, H⟩ := id A
  obtain ⟨T', h', X', e', W, st⟩ := stB X hx hZ eT B (j := j) (x := x) (by rw [S]; exact own_in hj hk) hg hs hd
  rw [own_nat hj] at X' W
  exact ⟨T', h', X', e', W, A.set W, st⟩
theorem own_lastore (X : Stand p l e R s m args below meth c T locs cells slots) (hx : p.tables.exec = Jvm.exec) (hZ : Z.Warmed39 s.vm) (eT : T.heap = h) (A : own_Aj Z h a .long n fj) {j : Int32} {x : Int64} {k : Nat} (hj : j.toInt = k) (hk : k < n) {g : JFrame} (hg : g.method = m) {rest : List Value} (hs : g.stack = .long x :: .int j :: .ref a :: rest) (hd : decode c.code g.pc = .ok (.lastore, 1)) :
    ∃ T' h', Stand p l e R s m args below meth c T' (locs ++ [⟨a, k⟩]) cells slots ∧ T'.heap = h' ∧ Wr h h' a k (.long x) ∧ own_Aj Z h' a .long n (own_upJ fj k x) ∧ ∀ target, Steps p.tables e below (T'.setTop { g with pc := g.pc + 1, stack := rest }) target → Steps p.tables e below (T.setTop g) target := by
  obtain ⟨cl, B, S, H⟩ := id A
  obtain ⟨T', h', X', e', W, st⟩ := stJ X hx hZ eT B (j := j) (x := x) (by rw [S]; exact own_in hj hk) hg hs hd
  rw [own_nat hj] at X' W
  exact ⟨T', h', X', e', W, A.set W, st⟩
theorem own_newarr (X : Stand p l e R s m args below meth c T locs cells slots) (hx : p.tables.exec = Jvm.exec) (hZ : Z.Warmed39 s.vm) {a0 : Array Value} {aty : ArrayType} (w : (Cond.arrayClass (newarray.typeOf aty)).before a0 Z = true) (eT : T.heap = h) {g : JFrame} (hg : g.method = m) (hd : decode c.code g.pc = .ok (.newarray aty, 2)) {z : Int32} {rest : List Value} (hs : g.stack = .int z :: rest) {k : Nat}
    (hz : z.toInt = k) {cap : Nat} (hcap : k ≤ cap) (hb : cap * 8 ≤ 536870912) (hc : cells + 1 ≤ R.cells) (hl : slots + cap ≤ R.slots) :
    ∃ T' h' cl, Stand p l e R s m args below meth c T' locs (cells + 1) (slots + cap) ∧ T'.heap = h' ∧ Ext h h' ∧ (Arr Z h' h.size cl (newarray.typeOf aty) ∧ cl.slots = Array.replicate k (defaultValue (newarray.typeOf aty))) ∧
      ∀ target, Steps p.tables e below (T'.setTop { g with pc := g.pc + 2, stack := .ref h.size :: rest }) target → Steps p.tables e below (T.setTop g) target := by
  have hn : ¬ z < 0 := by rw [Int32.lt_iff_toInt_lt, hz, show (0 : Int32).toInt = 0 from rfl]; omega
  obtain ⟨T', h', cA, X', e', E, A, st⟩ := newP X hx hZ w eT hg hd hs hn (by rw [own_nat hz]; exact hcap) hb hc hl
  exact ⟨T', h', _, X', e', E, ⟨A, by simp [newA, own_nat hz]⟩, st⟩
theorem own_Ai.new {cl : Cell} {k : Nat} (A : Arr Z h a cl ty ∧ cl.slots = Array.replicate k (.int 0)) : own_Ai Z h a ty k (fun _ => 0) :=
  ⟨cl, A.1, by rw [A.2]; simp, fun i hi => by rw [A.2]; simp [hi]⟩
theorem own_Aj.new {cl : Cell} {k : Nat} (A : Arr Z h a cl ty ∧ cl.slots = Array.replicate k (.long 0)) : own_Aj Z h a ty k (fun _ => 0) :=
  ⟨cl, A.1, by rw [A.2]; simp, fun i hi => by rw [A.2]; simp [hi]⟩
theorem own_l_lt (x y : Int64) {b : Bool} (h : if_icmp.holds .lt (lcmpW x y) 0 = b) : ifCond.holds .lt (lcmpW x y) = b := (if0 _ _).trans h
end Own
end Jvm.RoadKit
namespace Jvm.Pilot.@@N@@
open Jvm Jvm.ClassFile Sem Op Lib Jvm.Free Jvm.Stand Jvm.LawKit Jvm.RoadKit Bundle Jvm.Pilot.@@N@@.Jvm.D
theorem own_m3 (p : Int32) : (p &&& 2147483647) % 3 = 0 ∨ (p &&& 2147483647) % 3 = 1 ∨ (p &&& 2147483647) % 3 = 2 := by
  have h1 := c_mask p 2147483647 31 (by decide) (by decide)
  have h2 := (c_irem (p &&& 2147483647) 3 3 (by decide)).1 (by rw [h1]; omega)
  have e : ∀ k : Int32, ((p &&& 2147483647) % 3).toInt = k.toInt → (p &&& 2147483647) % 3 = k := fun k q => Int32.toInt_inj.mp q
  have h3 : (p &&& 2147483647).toInt % 3 = 0 ∨ (p &&& 2147483647).toInt % 3 = 1 ∨ (p &&& 2147483647).toInt % 3 = 2 := by omega
  rcases h3 with q | q | q
  · exact Or.inl (e 0 (by rw [h2, q]; rfl))
  · exact Or.inr (Or.inl (e 1 (by rw [h2, q]; rfl)))
  · exact Or.inr (Or.inr (e 2 (by rw [h2, q]; rfl)))
def own_X : Nat → Int32 := own_up (own_up (own_up (fun _ => 0) 0 0) 1 1) 2 2
theorem own_Xp (p : Int32) (h1 : 0 ≤ p.toInt) (h2 : p.toInt < 3) : own_X p.toInt.toNat = p := by
  have h3 : p.toInt = 0 ∨ p.toInt = 1 ∨ p.toInt = 2 := by omega
  rcases h3 with q | q | q
  · rw [q]; exact Int32.toInt_inj.mp (by rw [q]; rfl)
  · rw [q]; exact Int32.toInt_inj.mp (by rw [q]; rfl)
  · rw [q]; exact Int32.toInt_inj.mp (by rw [q]; rfl)
theorem own_p (a : Int32) : 0 ≤ ((a &&& 2147483647) % 3).toInt ∧ ((a &&& 2147483647) % 3).toInt < 3 := by
  rcases own_m3 a with q | q | q <;> rw [q] <;> decide
theorem own_q (a b : Int32) (h1 : 0 ≤ a.toInt) (h2 : a.toInt < 3) : 0 ≤ (((a + 1) + (b &&& 1)) % 3).toInt ∧ (((a + 1) + (b &&& 1)) % 3).toInt < 3 := by
  have e1 : (1 : Int32).toInt = 1 := by decide
  have q1 := c_iadd a 1
  have q2 := c_and b 1 (by decide)
  have q3 := c_iadd (a + 1) (b &&& 1)
  have r1 := rng32 (a + 1)
  have r2 := rng32 ((a + 1) + (b &&& 1))
  rw [e1] at q1 q2
  have q4 := (c_irem ((a + 1) + (b &&& 1)) 3 3 (by decide)).1 (by omega)
  rw [q4]
  omega
theorem d1_0 : decode prog_81_method_1_code 0 = .ok (.aload_n 0, 1) := by decide +kernel
theorem d1_1 : decode prog_81_method_1_code 1 = .ok (.invokespecial 1, 3) := by decide +kernel
theorem d1_4 : decode prog_81_method_1_code 4 = .ok (.aload_n 0, 1) := by decide +kernel
theorem d1_5 : decode prog_81_method_1_code 5 = .ok (.bipush 16, 2) := by decide +kernel
theorem d1_7 : decode prog_81_method_1_code 7 = .ok (.newarray .int, 2) := by decide +kernel
theorem d1_9 : decode prog_81_method_1_code 9 = .ok (.putfield 7, 3) := by decide +kernel
theorem d1_12 : decode prog_81_method_1_code 12 = .ok (.return_, 1) := by decide +kernel
theorem pn_1 : plainName "com/example/sigpoint/sigpoint/Rows" = true := by first | (simp [plainName, overriddenIn]; done) | decide +kernel
theorem ef_1 (m : MethodId) (x0 : Addr) : entryFrame m #[(.ref x0)] 1 = mkF m 0 #[.val (.ref x0)] [] := by first | (simp [entryFrame, mkF, argsToLocals, Value.category]; done) | rfl
def Q1 (Z : State) (ob : Addr) (h0 : Heap) (n0 : Nat) (v : Option Value) (h : Heap) (L : List Loc) : Prop := v = none ∧ Fr n0 L ∧ Keep h0 h [ob] ∧ ∃ (fr : Addr), (h0.size ≤ fr) ∧ (n0 ≤ fr) ∧ (ob ≠ fr) ∧ (Exa Z h ob "com/example/sigpoint/sigpoint/Rows") ∧ (Fld Z h ob "com/example/sigpoint/sigpoint/Rows" "free" "[I" (.ref fr)) ∧ (Fld Z h ob "com/example/sigpoint/sigpoint/Rows" "freeCount" "I" (.int (0 : Int32))) ∧ (Fld Z h ob "com/example/sigpoint/sigpoint/Rows" "high" "I" (.int (0 : Int32))) ∧ (own_Ai Z h fr .int 16 (fun _ => 0))
set_option maxRecDepth 65536 in
set_option maxHeartbeats 40000000 in
theorem rm1 (l : Launch) (Z : State) (a0 : Array Value) (hw : ∀ d ∈ tables_1, d.before a0 Z = true) (ws : List Jvm.Cond) (ob : Addr) (h0 : Heap) (n0 : Nat) (Z0 : n0 ≤ h0.size) (E1 : Exa Z h0 ob "com/example/sigpoint/sigpoint/Rows") (F1 : Fld Z h0 ob "com/example/sigpoint/sigpoint/Rows" "free" "[I" .null) (F2 : Fld Z h0 ob "com/example/sigpoint/sigpoint/Rows" "freeCount" "I" (.int (0 : Int32))) (F3 : Fld Z h0 ob "com/example/sigpoint/sigpoint/Rows" "high" "I" (.int (0 : Int32))) (G1 : n0 ≤ ob) :
    MetFree l (⟨"com/example/sigpoint/sigpoint/Rows", "<init>", "()V"⟩ : MethodName) (head1 (Jvm.Cond.code (⟨"com/example/sigpoint/sigpoint/Rows", "<init>", "()V"⟩ : MethodName) prog_81_method_1_code 1 none :: ws) ({ frames := 1, cells := 1, slots := 16, locals := 12 } : Room)) (fun a U => a = #[(.ref ob)] ∧ Z.Warmed39 U.vm ∧ U.heap = h0) (fun _ _ _ _ _ => True) (fun _ U o U' => ∃ v L, o = .returned v ∧ Q1 Z ob h0 n0 v U'.heap L ∧ FrameEnd U o U' L ({ frames := 1, cells := 1, slots := 16, locals := 12 } : Room).cells ({ frames := 1, cells := 1, slots := 16, locals := 12 } : Room).slots) := by
  refine MetFree.of_bodySF (plainFor_of_name pn_1) hisR ?_
  intro p e s m args below meth c s₁ Bd hml0 hP hK
  obtain ⟨rfl, hZ, hh⟩ := hP
  have hx := Bd.exec
  have hby := Bd.bytes
  have hlk : meth.locks = false := BodyLoose.notSynchronized Bd
  have hml : c.maxLocals = 1 := hml0
  have hown : s.vm.findClass "com/example/sigpoint/sigpoint/Rows" = some m.cls := findClass_of_methodNamed Bd.named
  have hnm := (name_of_methodNamed Bd.named Bd.method).1
  have X0 : Stand p l e ({ frames := 1, cells := 1, slots := 16, locals := 12 } : Room) s m #[(.ref ob)] below meth c s₁ [] 0 0 := Stand.of_body Bd
  have e0 : s₁.heap = h0 := by rw [← hh, Bd.state]; rfl
  have N0 := Fr.nil n0
  have K0 : Keep h0 h0 [ob] := Keep.refl _ _
  show own_Go p e below (own_G s (Q1 Z ob h0 n0) ({ frames := 1, cells := 1, slots := 16, locals := 12 } : Room).cells ({ frames := 1, cells := 1, slots := 16, locals := 12 } : Room).slots) (s₁.setTop (entryFrame m #[(.ref ob)] 1))
  refine own_st (fun tgt k => castTop (ef_1 m ob) k) ?_
  show own_Go p e below _ (s₁.setTop (mkF m 0 #[.val (.ref ob)] []))
  refine own_st (V := s₁.setTop (mkF m 1 #[.val (.ref ob)] [(.ref ob)])) (fun tgt k => ?_) ?_
  · show Steps p.tables e below (s₁.setTop (mkF m 0 #[.val (.ref ob)] [])) tgt
    refine XS.aloadN X0.here hx rfl (hb hby d1_0) rfl rfl ?_
    exact k
  obtain ⟨T1, X1, e1, st1⟩ := initO X0 hx hZ hown (hw _ (List.mem_of_getElem? (i := 6) rfl)) (hw _ (List.mem_of_getElem? (i := 7) rfl)) (hw _ (List.mem_of_getElem? (i := 8) rfl)) e0 (g := (mkF m 1 #[.val (.ref ob)] [(.ref ob)])) rfl (by rw [hml]; rfl) rfl (hb hby d1_1) (by decide) (W := 0) (by show 2 * 0 + _ ≤ _; exact Nat.le_of_eq rfl) (by decide)
  refine own_st st1 ?_
  show own_Go p e below _ (T1.setTop (mkF m 4 #[.val (.ref ob)] []))
  refine own_st (V := T1.setTop (mkF m 7 #[.val (.ref ob)] [(.int (16 : Int32)), (.ref ob)])) (fun tgt k => ?_) ?_
  · show Steps p.tables e below (T1.setTop (mkF m 4 #[.val (.ref ob)] [])) tgt
    refine XS.aloadN X1.here hx rfl (hb hby d1_4) rfl rfl ?_
    show Steps p.tables e below (T1.setTop (mkF m 5 #[.val (.ref ob)] [(.ref ob)])) tgt
    refine XS.bipush X1.here hx rfl (hb hby d1_5) ?_
    exact k
  obtain ⟨T2, h2, c2, X2, e2, E2, A2, st2⟩ := own_newarr X1 hx hZ (hw _ (List.mem_of_getElem? (i := 9) rfl)) e1 (g := (mkF m 7 #[.val (.ref ob)] [(.int (16 : Int32)), (.ref ob)])) rfl (hb hby d1_7) rfl (k := 16) rfl (cap := 16) (by decide) (by decide) (by decide) (by decide)
  obtain ⟨fr, g2⟩ : ∃ z, z = h0.size := ⟨_, rfl⟩
  rw [← g2] at A2 st2
  have ne_ob_fr : ob ≠ fr := Nat.ne_of_lt (Nat.lt_of_lt_of_le E1.lt (Nat.le_of_eq g2.symm))
  have E_ob_2 := E1.ext E2
  have F_ob_free_2 := F1.ext E2
  have F_ob_freeCount_2 := F2.ext E2
  have F_ob_high_2 := F3.ext E2
  have g_fr : n0 ≤ fr := Nat.le_trans Z0 (Nat.le_of_eq g2.symm)
  have gs_fr : h0.size ≤ fr := Nat.le_trans K0.1 (Nat.le_of_eq g2.symm)
  have A_fr_2 : own_Ai Z h2 fr .int 16 (fun _ => 0) := own_Ai.new A2
  have Zs2 : n0 ≤ h2.size := Nat.le_trans Z0 E2.1
  have Kp2 := K0.ext E2
  refine own_st st2 ?_
  show own_Go p e below _ (T2.setTop (mkF m 9 #[.val (.ref ob)] [(.ref fr), (.ref ob)]))
  obtain ⟨T3, h3, X3, e3, W3, st3⟩ := putF X2 hx hZ hown (host := "") (Or.inl (hw _ (List.mem_of_getElem? (i := 10) rfl))) Via.refl e2 F_ob_free_2 E_ob_2 (Or.inl (hw _ (List.mem_of_getElem? (i := 11) rfl))) (hw _ (List.mem_of_getElem? (i := 1) rfl)) (ty := (.array .int)) (by decide) rfl rfl (g := (mkF m 9 #[.val (.ref ob)] [(.ref fr), (.ref ob)])) rfl rfl (hb hby d1_9)
  have E_ob_3 := E_ob_2.wr W3
  have F_ob_freeCount_3 := Fld.other W3 F_ob_freeCount_2 (Or.inr (slot_ne (Or.inl (hw _ (List.mem_of_getElem? (i := 18) rfl))) (Or.inl (hw _ (List.mem_of_getElem? (i := 11) rfl))) (by decide) (t := .int) (t' := (.array .int)) (by decide) (by decide)))
  have F_ob_high_3 := Fld.other W3 F_ob_high_2 (Or.inr (slot_ne (Or.inl (hw _ (List.mem_of_getElem? (i := 20) rfl))) (Or.inl (hw _ (List.mem_of_getElem? (i := 11) rfl))) (by decide) (t := .int) (t' := (.array .int)) (by decide) (by decide)))
  have A_fr_3 := A_fr_2.other W3 (Ne.symm ne_ob_fr)
  have F_ob_free_3 := Fld.same W3 F_ob_free_2
  have N3 := Fr.snoc X3 N0 G1
  have Zs3 : n0 ≤ h3.size := Nat.le_trans Zs2 (Keep.of_wr W3).1
  have Kp3 := Kp2.wr W3 (Or.inl (List.mem_of_getElem? (i := 0) rfl))
  refine own_st st3 ?_
  show own_Go p e below _ (T3.setTop (mkF m 12 #[.val (.ref ob)] []))
  refine own_ret0 X3 hx hlk Bd.returns (hb hby d1_12) ?_ (by decide) (by decide)
  show Q1 Z ob h0 n0 none T3.heap _
  rw [e3]
  exact ⟨rfl, N3, Kp3, fr, gs_fr, g_fr, ne_ob_fr, E_ob_3, F_ob_free_3, F_ob_freeCount_3, F_ob_high_3, A_fr_3⟩
theorem d3a_0 : decode prog_81_method_2_code 0 = .ok (.aload_n 0, 1) := by decide +kernel
theorem d3a_1 : decode prog_81_method_2_code 1 = .ok (.getfield 13, 3) := by decide +kernel
theorem d3a_4 : decode prog_81_method_2_code 4 = .ok (.ifCond .le 20, 3) := by decide +kernel
theorem d3a_7 : decode prog_81_method_2_code 7 = .ok (.aload_n 0, 1) := by decide +kernel
theorem d3a_8 : decode prog_81_method_2_code 8 = .ok (.getfield 7, 3) := by decide +kernel
theorem d3a_11 : decode prog_81_method_2_code 11 = .ok (.aload_n 0, 1) := by decide +kernel
theorem d3a_12 : decode prog_81_method_2_code 12 = .ok (.dup, 1) := by decide +kernel
theorem d3a_13 : decode prog_81_method_2_code 13 = .ok (.getfield 13, 3) := by decide +kernel
theorem d3a_16 : decode prog_81_method_2_code 16 = .ok (.iconst 1, 1) := by decide +kernel
theorem d3a_17 : decode prog_81_method_2_code 17 = .ok (.isub, 1) := by decide +kernel
theorem d3a_18 : decode prog_81_method_2_code 18 = .ok (.dup_x1, 1) := by decide +kernel
theorem d3a_19 : decode prog_81_method_2_code 19 = .ok (.putfield 13, 3) := by decide +kernel
theorem d3a_22 : decode prog_81_method_2_code 22 = .ok (.iaload, 1) := by decide +kernel
theorem d3a_23 : decode prog_81_method_2_code 23 = .ok (.ireturn, 1) := by decide +kernel
theorem pn_3a : plainName "com/example/sigpoint/sigpoint/Rows" = true := by first | (simp [plainName, overriddenIn]; done) | decide +kernel
theorem ef_3a (m : MethodId) (x0 : Addr) : entryFrame m #[(.ref x0)] 1 = mkF m 0 #[.val (.ref x0)] [] := by first | (simp [entryFrame, mkF, argsToLocals, Value.category]; done) | rfl
def Q3a (Z : State) (ob : Addr) (fr : Addr) (fc : Int32) (hg : Int32) (ff : Nat → Int32) (kk : Nat) (h0 : Heap) (n0 : Nat) (v : Option Value) (h : Heap) (L : List Loc) : Prop := v = some (.int (ff kk)) ∧ Fr n0 L ∧ Keep h0 h [ob] ∧ (Exa Z h ob "com/example/sigpoint/sigpoint/Rows") ∧ (Fld Z h ob "com/example/sigpoint/sigpoint/Rows" "free" "[I" (.ref fr)) ∧ (Fld Z h ob "com/example/sigpoint/sigpoint/Rows" "freeCount" "I" (.int (fc - (1 : Int32)))) ∧ (Fld Z h ob "com/example/sigpoint/sigpoint/Rows" "high" "I" (.int hg))
set_option maxRecDepth 65536 in
set_option maxHeartbeats 40000000 in
theorem rm3a (l : Launch) (Z : State) (a0 : Array Value) (hw : ∀ d ∈ tables_1, d.before a0 Z = true) (ws : List Jvm.Cond) (ob : Addr) (fr : Addr) (fc : Int32) (hg : Int32) (ff : Nat → Int32) (kk : Nat) (h0 : Heap) (n0 : Nat) (Z0 : n0 ≤ h0.size) (E1 : Exa Z h0 ob "com/example/sigpoint/sigpoint/Rows") (F1 : Fld Z h0 ob "com/example/sigpoint/sigpoint/Rows" "free" "[I" (.ref fr)) (F2 : Fld Z h0 ob "com/example/sigpoint/sigpoint/Rows" "freeCount" "I" (.int fc)) (F3 : Fld Z h0 ob "com/example/sigpoint/sigpoint/Rows" "high" "I" (.int hg)) (A1 : own_Ai Z h0 fr .int 16 ff) (G1 : n0 ≤ ob) (G2 : n0 ≤ fr) (NE : ob ≠ fr) (HB : (0 : Int32) < fc) (I1 : (fc - (1 : Int32)).toInt = (kk : Int)) (I2 : kk < 16) :
    MetFree l (⟨"com/example/sigpoint/sigpoint/Rows", "add", "()I"⟩ : MethodName) (head1 (Jvm.Cond.code (⟨"com/example/sigpoint/sigpoint/Rows", "add", "()I"⟩ : MethodName) prog_81_method_2_code 1 (some .int) :: ws) ({ frames := 0, cells := 0, slots := 0, locals := 0 } : Room)) (fun a U => a = #[(.ref ob)] ∧ Z.Warmed39 U.vm ∧ U.heap = h0) (fun _ _ _ _ _ => True) (fun _ U o U' => ∃ v L, o = .returned v ∧ Q3a Z ob fr fc hg ff kk h0 n0 v U'.heap L ∧ FrameEnd U o U' L ({ frames := 0, cells := 0, slots := 0, locals := 0 } : Room).cells ({ frames := 0, cells := 0, slots := 0, locals := 0 } : Room).slots) := by
  refine MetFree.of_bodySF (plainFor_of_name pn_3a) hisR ?_
  intro p e s m args below meth c s₁ Bd hml0 hP hK
  obtain ⟨rfl, hZ, hh⟩ := hP
  have hx := Bd.exec
  have hby := Bd.bytes
  have hlk : meth.locks = false := BodyLoose.notSynchronized Bd
  have hml : c.maxLocals = 1 := hml0
  have hown : s.vm.findClass "com/example/sigpoint/sigpoint/Rows" = some m.cls := findClass_of_methodNamed Bd.named
  have hnm := (name_of_methodNamed Bd.named Bd.method).1
  have X0 : Stand p l e ({ frames := 0, cells := 0, slots := 0, locals := 0 } : Room) s m #[(.ref ob)] below meth c s₁ [] 0 0 := Stand.of_body Bd
  have e0 : s₁.heap = h0 := by rw [← hh, Bd.state]; rfl
  have N0 := Fr.nil n0
  have K0 : Keep h0 h0 [ob] := Keep.refl _ _
  show own_Go p e below (own_G s (Q3a Z ob fr fc hg ff kk h0 n0) ({ frames := 0, cells := 0, slots := 0, locals := 0 } : Room).cells ({ frames := 0, cells := 0, slots := 0, locals := 0 } : Room).slots) (s₁.setTop (entryFrame m #[(.ref ob)] 1))
  refine own_st (fun tgt k => castTop (ef_3a m ob) k) ?_
  show own_Go p e below _ (s₁.setTop (mkF m 0 #[.val (.ref ob)] []))
  refine own_st (V := s₁.setTop (mkF m 1 #[.val (.ref ob)] [(.ref ob)])) (fun tgt k => ?_) ?_
  · show Steps p.tables e below (s₁.setTop (mkF m 0 #[.val (.ref ob)] [])) tgt
    refine XS.aloadN X0.here hx rfl (hb hby d3a_0) rfl rfl ?_
    exact k
  obtain ⟨T1, X1, e1, st1⟩ := getF X0 hx hZ hown (host := "") (Or.inl (hw _ (List.mem_of_getElem? (i := 17) rfl))) Via.refl e0 F2 (g := (mkF m 1 #[.val (.ref ob)] [(.ref ob)])) rfl rfl (hb hby d3a_1)
  refine own_st st1 ?_
  show own_Go p e below _ (T1.setTop (mkF m 4 #[.val (.ref ob)] [(.int fc)]))
  refine own_st (V := T1.setTop (mkF m 8 #[.val (.ref ob)] [(.ref ob)])) (fun tgt k => ?_) ?_
  · show Steps p.tables e below (T1.setTop (mkF m 4 #[.val (.ref ob)] [(.int fc)])) tgt
    refine XS.ifNo X1.here hx rfl (hb hby d3a_4) rfl ((if0 _ _).trans (tlt HB).2.2.2) ?_
    show Steps p.tables e below (T1.setTop (mkF m 7 #[.val (.ref ob)] [])) tgt
    refine XS.aloadN X1.here hx rfl (hb hby d3a_7) rfl rfl ?_
    exact k
  obtain ⟨T2, X2, e2, st2⟩ := getF X1 hx hZ hown (host := "") (Or.inl (hw _ (List.mem_of_getElem? (i := 10) rfl))) Via.refl e1 F1 (g := (mkF m 8 #[.val (.ref ob)] [(.ref ob)])) rfl rfl (hb hby d3a_8)
  refine own_st st2 ?_
  show own_Go p e below _ (T2.setTop (mkF m 11 #[.val (.ref ob)] [(.ref fr)]))
  refine own_st (V := T2.setTop (mkF m 13 #[.val (.ref ob)] [(.ref ob), (.ref ob), (.ref fr)])) (fun tgt k => ?_) ?_
  · show Steps p.tables e below (T2.setTop (mkF m 11 #[.val (.ref ob)] [(.ref fr)])) tgt
    refine XS.aloadN X2.here hx rfl (hb hby d3a_11) rfl rfl ?_
    show Steps p.tables e below (T2.setTop (mkF m 12 #[.val (.ref ob)] [(.ref ob), (.ref fr)])) tgt
    refine XS.dup X2.here hx rfl (hb hby d3a_12) rfl rfl ?_
    exact k
  obtain ⟨T3, X3, e3, st3⟩ := getF X2 hx hZ hown (host := "") (Or.inl (hw _ (List.mem_of_getElem? (i := 17) rfl))) Via.refl e2 F2 (g := (mkF m 13 #[.val (.ref ob)] [(.ref ob), (.ref ob), (.ref fr)])) rfl rfl (hb hby d3a_13)
  refine own_st st3 ?_
  show own_Go p e below _ (T3.setTop (mkF m 16 #[.val (.ref ob)] [(.int fc), (.ref ob), (.ref fr)]))
  refine own_st (V := T3.setTop (mkF m 19 #[.val (.ref ob)] [(.int (fc - (1 : Int32))), (.ref ob), (.int (fc - (1 : Int32))), (.ref fr)])) (fun tgt k => ?_) ?_
  · show Steps p.tables e below (T3.setTop (mkF m 16 #[.val (.ref ob)] [(.int fc), (.ref ob), (.ref fr)])) tgt
    refine XS.iconst X3.here hx rfl (hb hby d3a_16) ?_
    show Steps p.tables e below (T3.setTop (mkF m 17 #[.val (.ref ob)] [(.int (1 : Int32)), (.int fc), (.ref ob), (.ref fr)])) tgt
    refine XS.isub X3.here hx rfl (hb hby d3a_17) rfl ?_
    show Steps p.tables e below (T3.setTop (mkF m 18 #[.val (.ref ob)] [(.int (fc - (1 : Int32))), (.ref ob), (.ref fr)])) tgt
    refine XS.dupX1 X3.here hx rfl (hb hby d3a_18) rfl rfl rfl ?_
    exact k
  obtain ⟨T4, h4, X4, e4, W4, st4⟩ := putF X3 hx hZ hown (host := "") (Or.inl (hw _ (List.mem_of_getElem? (i := 17) rfl))) Via.refl e3 F2 E1 (Or.inl (hw _ (List.mem_of_getElem? (i := 18) rfl))) (hw _ (List.mem_of_getElem? (i := 1) rfl)) (ty := .int) (by decide) rfl rfl (g := (mkF m 19 #[.val (.ref ob)] [(.int (fc - (1 : Int32))), (.ref ob), (.int (fc - (1 : Int32))), (.ref fr)])) rfl rfl (hb hby d3a_19)
  have E_ob_4 := E1.wr W4
  have F_ob_free_4 := Fld.other W4 F1 (Or.inr (slot_ne (Or.inl (hw _ (List.mem_of_getElem? (i := 11) rfl))) (Or.inl (hw _ (List.mem_of_getElem? (i := 18) rfl))) (by decide) (t := (.array .int)) (t' := .int) (by decide) (by decide)))
  have F_ob_high_4 := Fld.other W4 F3 (Or.inr (slot_ne (Or.inl (hw _ (List.mem_of_getElem? (i := 20) rfl))) (Or.inl (hw _ (List.mem_of_getElem? (i := 18) rfl))) (by decide) (t := .int) (t' := .int) (by decide) (by decide)))
  have A_fr_4 := A1.other W4 (Ne.symm NE)
  have F_ob_freeCount_4 := Fld.same W4 F2
  have N4 := Fr.snoc X4 N0 G1
  have Zs4 : n0 ≤ h4.size := Nat.le_trans Z0 (Keep.of_wr W4).1
  have Kp4 := K0.wr W4 (Or.inl (List.mem_of_getElem? (i := 0) rfl))
  refine own_st st4 ?_
  show own_Go p e below _ (T4.setTop (mkF m 22 #[.val (.ref ob)] [(.int (fc - (1 : Int32))), (.ref fr)]))
  refine own_st (V := T4.setTop (mkF m 23 #[.val (.ref ob)] [(.int (ff kk))])) (fun tgt k => ?_) ?_
  · show Steps p.tables e below (T4.setTop (mkF m 22 #[.val (.ref ob)] [(.int (fc - (1 : Int32))), (.ref fr)])) tgt
    refine own_iaload X4 hx hZ e4 A_fr_4 (j := (fc - (1 : Int32))) (k := kk) I1 I2 (g := (mkF m 22 #[.val (.ref ob)] [(.int (fc - (1 : Int32))), (.ref fr)])) rfl rfl (hb hby d3a_22) ?_
    exact k
  refine own_retI X4 hx hlk Bd.returns (hb hby d3a_23) ?_ (by decide) (by decide)
  show Q3a Z ob fr fc hg ff kk h0 n0 (some (.int (ff kk))) T4.heap _
  rw [e4]
  exact ⟨rfl, N4, Kp4, E_ob_4, F_ob_free_4, F_ob_freeCount_4, F_ob_high_4⟩
theorem d3b_0 : decode prog_81_method_2_code 0 = .ok (.aload_n 0, 1) := by decide +kernel
theorem d3b_1 : decode prog_81_method_2_code 1 = .ok (.getfield 13, 3) := by decide +kernel
theorem d3b_4 : decode prog_81_method_2_code 4 = .ok (.ifCond .le 20, 3) := by decide +kernel
theorem d3b_24 : decode prog_81_method_2_code 24 = .ok (.aload_n 0, 1) := by decide +kernel
theorem d3b_25 : decode prog_81_method_2_code 25 = .ok (.dup, 1) := by decide +kernel
theorem d3b_26 : decode prog_81_method_2_code 26 = .ok (.getfield 17, 3) := by decide +kernel
theorem d3b_29 : decode prog_81_method_2_code 29 = .ok (.dup_x1, 1) := by decide +kernel
theorem d3b_30 : decode prog_81_method_2_code 30 = .ok (.iconst 1, 1) := by decide +kernel
theorem d3b_31 : decode prog_81_method_2_code 31 = .ok (.iadd, 1) := by decide +kernel
theorem d3b_32 : decode prog_81_method_2_code 32 = .ok (.putfield 17, 3) := by decide +kernel
theorem d3b_35 : decode prog_81_method_2_code 35 = .ok (.ireturn, 1) := by decide +kernel
theorem pn_3b : plainName "com/example/sigpoint/sigpoint/Rows" = true := by first | (simp [plainName, overriddenIn]; done) | decide +kernel
theorem ef_3b (m : MethodId) (x0 : Addr) : entryFrame m #[(.ref x0)] 1 = mkF m 0 #[.val (.ref x0)] [] := by first | (simp [entryFrame, mkF, argsToLocals, Value.category]; done) | rfl
def Q3b (Z : State) (ob : Addr) (fr : Addr) (fc : Int32) (hg : Int32) (ff : Nat → Int32) (h0 : Heap) (n0 : Nat) (v : Option Value) (h : Heap) (L : List Loc) : Prop := v = some (.int hg) ∧ Fr n0 L ∧ Keep h0 h [ob] ∧ (Exa Z h ob "com/example/sigpoint/sigpoint/Rows") ∧ (Fld Z h ob "com/example/sigpoint/sigpoint/Rows" "free" "[I" (.ref fr)) ∧ (Fld Z h ob "com/example/sigpoint/sigpoint/Rows" "freeCount" "I" (.int fc)) ∧ (Fld Z h ob "com/example/sigpoint/sigpoint/Rows" "high" "I" (.int (hg + (1 : Int32))))
set_option maxRecDepth 65536 in
set_option maxHeartbeats 40000000 in
theorem rm3b (l : Launch) (Z : State) (a0 : Array Value) (hw : ∀ d ∈ tables_1, d.before a0 Z = true) (ws : List Jvm.Cond) (ob : Addr) (fr : Addr) (fc : Int32) (hg : Int32) (ff : Nat → Int32) (h0 : Heap) (n0 : Nat) (Z0 : n0 ≤ h0.size) (E1 : Exa Z h0 ob "com/example/sigpoint/sigpoint/Rows") (F1 : Fld Z h0 ob "com/example/sigpoint/sigpoint/Rows" "free" "[I" (.ref fr)) (F2 : Fld Z h0 ob "com/example/sigpoint/sigpoint/Rows" "freeCount" "I" (.int fc)) (F3 : Fld Z h0 ob "com/example/sigpoint/sigpoint/Rows" "high" "I" (.int hg)) (A1 : own_Ai Z h0 fr .int 16 ff) (G1 : n0 ≤ ob) (G2 : n0 ≤ fr) (NE : ob ≠ fr) (HB : ¬ ((0 : Int32) < fc)) :
    MetFree l (⟨"com/example/sigpoint/sigpoint/Rows", "add", "()I"⟩ : MethodName) (head1 (Jvm.Cond.code (⟨"com/example/sigpoint/sigpoint/Rows", "add", "()I"⟩ : MethodName) prog_81_method_2_code 1 (some .int) :: ws) ({ frames := 0, cells := 0, slots := 0, locals := 0 } : Room)) (fun a U => a = #[(.ref ob)] ∧ Z.Warmed39 U.vm ∧ U.heap = h0) (fun _ _ _ _ _ => True) (fun _ U o U' => ∃ v L, o = .returned v ∧ Q3b Z ob fr fc hg ff h0 n0 v U'.heap L ∧ FrameEnd U o U' L ({ frames := 0, cells := 0, slots := 0, locals := 0 } : Room).cells ({ frames := 0, cells := 0, slots := 0, locals := 0 } : Room).slots) := by
  refine MetFree.of_bodySF (plainFor_of_name pn_3b) hisR ?_
  intro p e s m args below meth c s₁ Bd hml0 hP hK
  obtain ⟨rfl, hZ, hh⟩ := hP
  have hx := Bd.exec
  have hby := Bd.bytes
  have hlk : meth.locks = false := BodyLoose.notSynchronized Bd
  have hml : c.maxLocals = 1 := hml0
  have hown : s.vm.findClass "com/example/sigpoint/sigpoint/Rows" = some m.cls := findClass_of_methodNamed Bd.named
  have hnm := (name_of_methodNamed Bd.named Bd.method).1
  have X0 : Stand p l e ({ frames := 0, cells := 0, slots := 0, locals := 0 } : Room) s m #[(.ref ob)] below meth c s₁ [] 0 0 := Stand.of_body Bd
  have e0 : s₁.heap = h0 := by rw [← hh, Bd.state]; rfl
  have N0 := Fr.nil n0
  have K0 : Keep h0 h0 [ob] := Keep.refl _ _
  show own_Go p e below (own_G s (Q3b Z ob fr fc hg ff h0 n0) ({ frames := 0, cells := 0, slots := 0, locals := 0 } : Room).cells ({ frames := 0, cells := 0, slots := 0, locals := 0 } : Room).slots) (s₁.setTop (entryFrame m #[(.ref ob)] 1))
  refine own_st (fun tgt k => castTop (ef_3b m ob) k) ?_
  show own_Go p e below _ (s₁.setTop (mkF m 0 #[.val (.ref ob)] []))
  refine own_st (V := s₁.setTop (mkF m 1 #[.val (.ref ob)] [(.ref ob)])) (fun tgt k => ?_) ?_
  · show Steps p.tables e below (s₁.setTop (mkF m 0 #[.val (.ref ob)] [])) tgt
    refine XS.aloadN X0.here hx rfl (hb hby d3b_0) rfl rfl ?_
    exact k
  obtain ⟨T1, X1, e1, st1⟩ := getF X0 hx hZ hown (host := "") (Or.inl (hw _ (List.mem_of_getElem? (i := 17) rfl))) Via.refl e0 F2 (g := (mkF m 1 #[.val (.ref ob)] [(.ref ob)])) rfl rfl (hb hby d3b_1)
  refine own_st st1 ?_
  show own_Go p e below _ (T1.setTop (mkF m 4 #[.val (.ref ob)] [(.int fc)]))
  refine own_st (V := T1.setTop (mkF m 26 #[.val (.ref ob)] [(.ref ob), (.ref ob)])) (fun tgt k => ?_) ?_
  · show Steps p.tables e below (T1.setTop (mkF m 4 #[.val (.ref ob)] [(.int fc)])) tgt
    refine XS.ifYes X1.here hx rfl (pc0 := 4) (pc' := 24) rfl (hb hby d3b_4) rfl ((if0 _ _).trans (flt HB).2.2.2) (by decide) (by decide) ?_
    show Steps p.tables e below (T1.setTop (mkF m 24 #[.val (.ref ob)] [])) tgt
    refine XS.aloadN X1.here hx rfl (hb hby d3b_24) rfl rfl ?_
    show Steps p.tables e below (T1.setTop (mkF m 25 #[.val (.ref ob)] [(.ref ob)])) tgt
    refine XS.dup X1.here hx rfl (hb hby d3b_25) rfl rfl ?_
    exact k
  obtain ⟨T2, X2, e2, st2⟩ := getF X1 hx hZ hown (host := "") (Or.inl (hw _ (List.mem_of_getElem? (i := 19) rfl))) Via.refl e1 F3 (g := (mkF m 26 #[.val (.ref ob)] [(.ref ob), (.ref ob)])) rfl rfl (hb hby d3b_26)
  refine own_st st2 ?_
  show own_Go p e below _ (T2.setTop (mkF m 29 #[.val (.ref ob)] [(.int hg), (.ref ob)]))
  refine own_st (V := T2.setTop (mkF m 32 #[.val (.ref ob)] [(.int (hg + (1 : Int32))), (.ref ob), (.int hg)])) (fun tgt k => ?_) ?_
  · show Steps p.tables e below (T2.setTop (mkF m 29 #[.val (.ref ob)] [(.int hg), (.ref ob)])) tgt
    refine XS.dupX1 X2.here hx rfl (hb hby d3b_29) rfl rfl rfl ?_
    show Steps p.tables e below (T2.setTop (mkF m 30 #[.val (.ref ob)] [(.int hg), (.ref ob), (.int hg)])) tgt
    refine XS.iconst X2.here hx rfl (hb hby d3b_30) ?_
    show Steps p.tables e below (T2.setTop (mkF m 31 #[.val (.ref ob)] [(.int (1 : Int32)), (.int hg), (.ref ob), (.int hg)])) tgt
    refine XS.iadd X2.here hx rfl (hb hby d3b_31) rfl ?_
    exact k
  obtain ⟨T3, h3, X3, e3, W3, st3⟩ := putF X2 hx hZ hown (host := "") (Or.inl (hw _ (List.mem_of_getElem? (i := 19) rfl))) Via.refl e2 F3 E1 (Or.inl (hw _ (List.mem_of_getElem? (i := 20) rfl))) (hw _ (List.mem_of_getElem? (i := 1) rfl)) (ty := .int) (by decide) rfl rfl (g := (mkF m 32 #[.val (.ref ob)] [(.int (hg + (1 : Int32))), (.ref ob), (.int hg)])) rfl rfl (hb hby d3b_32)
  have E_ob_3 := E1.wr W3
  have F_ob_free_3 := Fld.other W3 F1 (Or.inr (slot_ne (Or.inl (hw _ (List.mem_of_getElem? (i := 11) rfl))) (Or.inl (hw _ (List.mem_of_getElem? (i := 20) rfl))) (by decide) (t := (.array .int)) (t' := .int) (by decide) (by decide)))
  have F_ob_freeCount_3 := Fld.other W3 F2 (Or.inr (slot_ne (Or.inl (hw _ (List.mem_of_getElem? (i := 18) rfl))) (Or.inl (hw _ (List.mem_of_getElem? (i := 20) rfl))) (by decide) (t := .int) (t' := .int) (by decide) (by decide)))
  have A_fr_3 := A1.other W3 (Ne.symm NE)
  have F_ob_high_3 := Fld.same W3 F3
  have N3 := Fr.snoc X3 N0 G1
  have Zs3 : n0 ≤ h3.size := Nat.le_trans Z0 (Keep.of_wr W3).1
  have Kp3 := K0.wr W3 (Or.inl (List.mem_of_getElem? (i := 0) rfl))
  refine own_st st3 ?_
  show own_Go p e below _ (T3.setTop (mkF m 35 #[.val (.ref ob)] [(.int hg)]))
  refine own_retI X3 hx hlk Bd.returns (hb hby d3b_35) ?_ (by decide) (by decide)
  show Q3b Z ob fr fc hg ff h0 n0 (some (.int hg)) T3.heap _
  rw [e3]
  exact ⟨rfl, N3, Kp3, E_ob_3, F_ob_free_3, F_ob_freeCount_3, F_ob_high_3⟩
theorem d4_0 : decode prog_81_method_3_code 0 = .ok (.aload_n 0, 1) := by decide +kernel
theorem d4_1 : decode prog_81_method_3_code 1 = .ok (.getfield 13, 3) := by decide +kernel
theorem d4_4 : decode prog_81_method_3_code 4 = .ok (.aload_n 0, 1) := by decide +kernel
theorem d4_5 : decode prog_81_method_3_code 5 = .ok (.getfield 7, 3) := by decide +kernel
theorem d4_8 : decode prog_81_method_3_code 8 = .ok (.arraylength, 1) := by decide +kernel
theorem d4_9 : decode prog_81_method_3_code 9 = .ok (.if_icmp .ne 21, 3) := by decide +kernel
theorem d4_30 : decode prog_81_method_3_code 30 = .ok (.aload_n 0, 1) := by decide +kernel
theorem d4_31 : decode prog_81_method_3_code 31 = .ok (.getfield 7, 3) := by decide +kernel
theorem d4_34 : decode prog_81_method_3_code 34 = .ok (.aload_n 0, 1) := by decide +kernel
theorem d4_35 : decode prog_81_method_3_code 35 = .ok (.dup, 1) := by decide +kernel
theorem d4_36 : decode prog_81_method_3_code 36 = .ok (.getfield 13, 3) := by decide +kernel
theorem d4_39 : decode prog_81_method_3_code 39 = .ok (.dup_x1, 1) := by decide +kernel
theorem d4_40 : decode prog_81_method_3_code 40 = .ok (.iconst 1, 1) := by decide +kernel
theorem d4_41 : decode prog_81_method_3_code 41 = .ok (.iadd, 1) := by decide +kernel
theorem d4_42 : decode prog_81_method_3_code 42 = .ok (.putfield 13, 3) := by decide +kernel
theorem d4_45 : decode prog_81_method_3_code 45 = .ok (.iload_n 1, 1) := by decide +kernel
theorem d4_46 : decode prog_81_method_3_code 46 = .ok (.iastore, 1) := by decide +kernel
theorem d4_47 : decode prog_81_method_3_code 47 = .ok (.return_, 1) := by decide +kernel
theorem pn_4 : plainName "com/example/sigpoint/sigpoint/Rows" = true := by first | (simp [plainName, overriddenIn]; done) | decide +kernel
theorem ef_4 (m : MethodId) (x0 : Addr) (x1 : Int32) : entryFrame m #[(.ref x0), (.int x1)] 2 = mkF m 0 #[.val (.ref x0), .val (.int x1)] [] := by first | (simp [entryFrame, mkF, argsToLocals, Value.category]; done) | rfl
def Q4 (Z : State) (ob : Addr) (vv : Int32) (fr : Addr) (fc : Int32) (hg : Int32) (ff : Nat → Int32) (kk : Nat) (h0 : Heap) (n0 : Nat) (v : Option Value) (h : Heap) (L : List Loc) : Prop := v = none ∧ Fr n0 L ∧ Keep h0 h [ob, fr] ∧ (Exa Z h ob "com/example/sigpoint/sigpoint/Rows") ∧ (Fld Z h ob "com/example/sigpoint/sigpoint/Rows" "free" "[I" (.ref fr)) ∧ (Fld Z h ob "com/example/sigpoint/sigpoint/Rows" "freeCount" "I" (.int (fc + (1 : Int32)))) ∧ (Fld Z h ob "com/example/sigpoint/sigpoint/Rows" "high" "I" (.int hg)) ∧ (own_Ai Z h fr .int 16 (own_up ff kk vv))
set_option maxRecDepth 65536 in
set_option maxHeartbeats 40000000 in
theorem rm4 (l : Launch) (Z : State) (a0 : Array Value) (hw : ∀ d ∈ tables_1, d.before a0 Z = true) (ws : List Jvm.Cond) (ob : Addr) (vv : Int32) (fr : Addr) (fc : Int32) (hg : Int32) (ff : Nat → Int32) (kk : Nat) (h0 : Heap) (n0 : Nat) (Z0 : n0 ≤ h0.size) (E1 : Exa Z h0 ob "com/example/sigpoint/sigpoint/Rows") (F1 : Fld Z h0 ob "com/example/sigpoint/sigpoint/Rows" "free" "[I" (.ref fr)) (F2 : Fld Z h0 ob "com/example/sigpoint/sigpoint/Rows" "freeCount" "I" (.int fc)) (F3 : Fld Z h0 ob "com/example/sigpoint/sigpoint/Rows" "high" "I" (.int hg)) (A1 : own_Ai Z h0 fr .int 16 ff) (G1 : n0 ≤ ob) (G2 : n0 ≤ fr) (NE : ob ≠ fr) (HB : ¬ (fc = (16 : Int32))) (I1 : fc.toInt = (kk : Int)) (I2 : kk < 16) :
    MetFree l (⟨"com/example/sigpoint/sigpoint/Rows", "remove", "(I)V"⟩ : MethodName) (head1 (Jvm.Cond.code (⟨"com/example/sigpoint/sigpoint/Rows", "remove", "(I)V"⟩ : MethodName) prog_81_method_3_code 2 none :: ws) ({ frames := 0, cells := 0, slots := 0, locals := 0 } : Room)) (fun a U => a = #[(.ref ob), (.int vv)] ∧ Z.Warmed39 U.vm ∧ U.heap = h0) (fun _ _ _ _ _ => True) (fun _ U o U' => ∃ v L, o = .returned v ∧ Q4 Z ob vv fr fc hg ff kk h0 n0 v U'.heap L ∧ FrameEnd U o U' L ({ frames := 0, cells := 0, slots := 0, locals := 0 } : Room).cells ({ frames := 0, cells := 0, slots := 0, locals := 0 } : Room).slots) := by
  refine MetFree.of_bodySF (plainFor_of_name pn_4) hisR ?_
  intro p e s m args below meth c s₁ Bd hml0 hP hK
  obtain ⟨rfl, hZ, hh⟩ := hP
  have hx := Bd.exec
  have hby := Bd.bytes
  have hlk : meth.locks = false := BodyLoose.notSynchronized Bd
  have hml : c.maxLocals = 2 := hml0
  have hown : s.vm.findClass "com/example/sigpoint/sigpoint/Rows" = some m.cls := findClass_of_methodNamed Bd.named
  have hnm := (name_of_methodNamed Bd.named Bd.method).1
  have X0 : Stand p l e ({ frames := 0, cells := 0, slots := 0, locals := 0 } : Room) s m #[(.ref ob), (.int vv)] below meth c s₁ [] 0 0 := Stand.of_body Bd
  have e0 : s₁.heap = h0 := by rw [← hh, Bd.state]; rfl
  have N0 := Fr.nil n0
  have K0 : Keep h0 h0 [ob, fr] := Keep.refl _ _
  show own_Go p e below (own_G s (Q4 Z ob vv fr fc hg ff kk h0 n0) ({ frames := 0, cells := 0, slots := 0, locals := 0 } : Room).cells ({ frames := 0, cells := 0, slots := 0, locals := 0 } : Room).slots) (s₁.setTop (entryFrame m #[(.ref ob), (.int vv)] 2))
  refine own_st (fun tgt k => castTop (ef_4 m ob vv) k) ?_
  show own_Go p e below _ (s₁.setTop (mkF m 0 #[.val (.ref ob), .val (.int vv)] []))
  refine own_st (V := s₁.setTop (mkF m 1 #[.val (.ref ob), .val (.int vv)] [(.ref ob)])) (fun tgt k => ?_) ?_
  · show Steps p.tables e below (s₁.setTop (mkF m 0 #[.val (.ref ob), .val (.int vv)] [])) tgt
    refine XS.aloadN X0.here hx rfl (hb hby d4_0) rfl rfl ?_
    exact k
  obtain ⟨T1, X1, e1, st1⟩ := getF X0 hx hZ hown (host := "") (Or.inl (hw _ (List.mem_of_getElem? (i := 17) rfl))) Via.refl e0 F2 (g := (mkF m 1 #[.val (.ref ob), .val (.int vv)] [(.ref ob)])) rfl rfl (hb hby d4_1)
  refine own_st st1 ?_
  show own_Go p e below _ (T1.setTop (mkF m 4 #[.val (.ref ob), .val (.int vv)] [(.int fc)]))
  refine own_st (V := T1.setTop (mkF m 5 #[.val (.ref ob), .val (.int vv)] [(.ref ob), (.int fc)])) (fun tgt k => ?_) ?_
  · show Steps p.tables e below (T1.setTop (mkF m 4 #[.val (.ref ob), .val (.int vv)] [(.int fc)])) tgt
    refine XS.aloadN X1.here hx rfl (hb hby d4_4) rfl rfl ?_
    exact k
  obtain ⟨T2, X2, e2, st2⟩ := getF X1 hx hZ hown (host := "") (Or.inl (hw _ (List.mem_of_getElem? (i := 10) rfl))) Via.refl e1 F1 (g := (mkF m 5 #[.val (.ref ob), .val (.int vv)] [(.ref ob), (.int fc)])) rfl rfl (hb hby d4_5)
  refine own_st st2 ?_
  show own_Go p e below _ (T2.setTop (mkF m 8 #[.val (.ref ob), .val (.int vv)] [(.ref fr), (.int fc)]))
  refine own_st (V := T2.setTop (mkF m 31 #[.val (.ref ob), .val (.int vv)] [(.ref ob)])) (fun tgt k => ?_) ?_
  · show Steps p.tables e below (T2.setTop (mkF m 8 #[.val (.ref ob), .val (.int vv)] [(.ref fr), (.int fc)])) tgt
    refine own_alen X2 hx hZ e2 A1 (z := (16 : Int32)) rfl (g := (mkF m 8 #[.val (.ref ob), .val (.int vv)] [(.ref fr), (.int fc)])) rfl rfl (hb hby d4_8) ?_
    show Steps p.tables e below (T2.setTop (mkF m 9 #[.val (.ref ob), .val (.int vv)] [(.int (16 : Int32)), (.int fc)])) tgt
    refine XS.icmpYes X2.here hx rfl (pc0 := 9) (pc' := 30) rfl (hb hby d4_9) rfl (feq HB).2 (by decide) (by decide) ?_
    show Steps p.tables e below (T2.setTop (mkF m 30 #[.val (.ref ob), .val (.int vv)] [])) tgt
    refine XS.aloadN X2.here hx rfl (hb hby d4_30) rfl rfl ?_
    exact k
  obtain ⟨T3, X3, e3, st3⟩ := getF X2 hx hZ hown (host := "") (Or.inl (hw _ (List.mem_of_getElem? (i := 10) rfl))) Via.refl e2 F1 (g := (mkF m 31 #[.val (.ref ob), .val (.int vv)] [(.ref ob)])) rfl rfl (hb hby d4_31)
  refine own_st st3 ?_
  show own_Go p e below _ (T3.setTop (mkF m 34 #[.val (.ref ob), .val (.int vv)] [(.ref fr)]))
  refine own_st (V := T3.setTop (mkF m 36 #[.val (.ref ob), .val (.int vv)] [(.ref ob), (.ref ob), (.ref fr)])) (fun tgt k => ?_) ?_
  · show Steps p.tables e below (T3.setTop (mkF m 34 #[.val (.ref ob), .val (.int vv)] [(.ref fr)])) tgt
    refine XS.aloadN X3.here hx rfl (hb hby d4_34) rfl rfl ?_
    show Steps p.tables e below (T3.setTop (mkF m 35 #[.val (.ref ob), .val (.int vv)] [(.ref ob), (.ref fr)])) tgt
    refine XS.dup X3.here hx rfl (hb hby d4_35) rfl rfl ?_
    exact k
  obtain ⟨T4, X4, e4, st4⟩ := getF X3 hx hZ hown (host := "") (Or.inl (hw _ (List.mem_of_getElem? (i := 17) rfl))) Via.refl e3 F2 (g := (mkF m 36 #[.val (.ref ob), .val (.int vv)] [(.ref ob), (.ref ob), (.ref fr)])) rfl rfl (hb hby d4_36)
  refine own_st st4 ?_
  show own_Go p e below _ (T4.setTop (mkF m 39 #[.val (.ref ob), .val (.int vv)] [(.int fc), (.ref ob), (.ref fr)]))
  refine own_st (V := T4.setTop (mkF m 42 #[.val (.ref ob), .val (.int vv)] [(.int (fc + (1 : Int32))), (.ref ob), (.int fc), (.ref fr)])) (fun tgt k => ?_) ?_
  · show Steps p.tables e below (T4.setTop (mkF m 39 #[.val (.ref ob), .val (.int vv)] [(.int fc), (.ref ob), (.ref fr)])) tgt
    refine XS.dupX1 X4.here hx rfl (hb hby d4_39) rfl rfl rfl ?_
    show Steps p.tables e below (T4.setTop (mkF m 40 #[.val (.ref ob), .val (.int vv)] [(.int fc), (.ref ob), (.int fc), (.ref fr)])) tgt
    refine XS.iconst X4.here hx rfl (hb hby d4_40) ?_
    show Steps p.tables e below (T4.setTop (mkF m 41 #[.val (.ref ob), .val (.int vv)] [(.int (1 : Int32)), (.int fc), (.ref ob), (.int fc), (.ref fr)])) tgt
    refine XS.iadd X4.here hx rfl (hb hby d4_41) rfl ?_
    exact k
  obtain ⟨T5, h5, X5, e5, W5, st5⟩ := putF X4 hx hZ hown (host := "") (Or.inl (hw _ (List.mem_of_getElem? (i := 17) rfl))) Via.refl e4 F2 E1 (Or.inl (hw _ (List.mem_of_getElem? (i := 18) rfl))) (hw _ (List.mem_of_getElem? (i := 1) rfl)) (ty := .int) (by decide) rfl rfl (g := (mkF m 42 #[.val (.ref ob), .val (.int vv)] [(.int (fc + (1 : Int32))), (.ref ob), (.int fc), (.ref fr)])) rfl rfl (hb hby d4_42)
  have E_ob_5 := E1.wr W5
  have F_ob_free_5 := Fld.other W5 F1 (Or.inr (slot_ne (Or.inl (hw _ (List.mem_of_getElem? (i := 11) rfl))) (Or.inl (hw _ (List.mem_of_getElem? (i := 18) rfl))) (by decide) (t := (.array .int)) (t' := .int) (by decide) (by decide)))
  have F_ob_high_5 := Fld.other W5 F3 (Or.inr (slot_ne (Or.inl (hw _ (List.mem_of_getElem? (i := 20) rfl))) (Or.inl (hw _ (List.mem_of_getElem? (i := 18) rfl))) (by decide) (t := .int) (t' := .int) (by decide) (by decide)))
  have A_fr_5 := A1.other W5 (Ne.symm NE)
  have F_ob_freeCount_5 := Fld.same W5 F2
  have N5 := Fr.snoc X5 N0 G1
  have Zs5 : n0 ≤ h5.size := Nat.le_trans Z0 (Keep.of_wr W5).1
  have Kp5 := K0.wr W5 (Or.inl (List.mem_of_getElem? (i := 0) rfl))
  refine own_st st5 ?_
  show own_Go p e below _ (T5.setTop (mkF m 45 #[.val (.ref ob), .val (.int vv)] [(.int fc), (.ref fr)]))
  refine own_st (V := T5.setTop (mkF m 46 #[.val (.ref ob), .val (.int vv)] [(.int vv), (.int fc), (.ref fr)])) (fun tgt k => ?_) ?_
  · show Steps p.tables e below (T5.setTop (mkF m 45 #[.val (.ref ob), .val (.int vv)] [(.int fc), (.ref fr)])) tgt
    refine XS.iloadN X5.here hx rfl (hb hby d4_45) rfl ?_
    exact k
  obtain ⟨T6, h6, X6, e6, W6, A_fr_6, st6⟩ := own_iastore X5 hx hZ e5 A_fr_5 (j := fc) (k := kk) I1 I2 (g := (mkF m 46 #[.val (.ref ob), .val (.int vv)] [(.int vv), (.int fc), (.ref fr)])) rfl rfl (hb hby d4_46)
  have E_ob_6 := E_ob_5.wr W6
  have F_ob_free_6 := Fld.other W6 F_ob_free_5 (Or.inl NE)
  have F_ob_freeCount_6 := Fld.other W6 F_ob_freeCount_5 (Or.inl NE)
  have F_ob_high_6 := Fld.other W6 F_ob_high_5 (Or.inl NE)
  have N6 := Fr.snoc X6 N5 G2
  have Zs6 : n0 ≤ h6.size := Nat.le_trans Zs5 (Keep.of_wr W6).1
  have Kp6 := Kp5.wr W6 (Or.inl (List.mem_of_getElem? (i := 1) rfl))
  refine own_st st6 ?_
  show own_Go p e below _ (T6.setTop (mkF m 47 #[.val (.ref ob), .val (.int vv)] []))
  refine own_ret0 X6 hx hlk Bd.returns (hb hby d4_47) ?_ (by decide) (by decide)
  show Q4 Z ob vv fr fc hg ff kk h0 n0 none T6.heap _
  rw [e6]
  exact ⟨rfl, N6, Kp6, E_ob_6, F_ob_free_6, F_ob_freeCount_6, F_ob_high_6, A_fr_6⟩
theorem d5_0 : decode prog_81_method_4_code 0 = .ok (.aload_n 0, 1) := by decide +kernel
theorem d5_1 : decode prog_81_method_4_code 1 = .ok (.getfield 17, 3) := by decide +kernel
theorem d5_4 : decode prog_81_method_4_code 4 = .ok (.ireturn, 1) := by decide +kernel
theorem pn_5 : plainName "com/example/sigpoint/sigpoint/Rows" = true := by first | (simp [plainName, overriddenIn]; done) | decide +kernel
theorem ef_5 (m : MethodId) (x0 : Addr) : entryFrame m #[(.ref x0)] 1 = mkF m 0 #[.val (.ref x0)] [] := by first | (simp [entryFrame, mkF, argsToLocals, Value.category]; done) | rfl
def Q5 (Z : State) (ob : Addr) (hg : Int32) (h0 : Heap) (n0 : Nat) (v : Option Value) (h : Heap) (L : List Loc) : Prop := v = some (.int hg) ∧ Fr n0 L ∧ h = h0
set_option maxRecDepth 65536 in
set_option maxHeartbeats 40000000 in
theorem rm5 (l : Launch) (Z : State) (a0 : Array Value) (hw : ∀ d ∈ tables_1, d.before a0 Z = true) (ws : List Jvm.Cond) (ob : Addr) (hg : Int32) (h0 : Heap) (n0 : Nat) (Z0 : n0 ≤ h0.size) (F3 : Fld Z h0 ob "com/example/sigpoint/sigpoint/Rows" "high" "I" (.int hg)) :
    MetFree l (⟨"com/example/sigpoint/sigpoint/Rows", "high", "()I"⟩ : MethodName) (head1 (Jvm.Cond.code (⟨"com/example/sigpoint/sigpoint/Rows", "high", "()I"⟩ : MethodName) prog_81_method_4_code 1 (some .int) :: ws) ({ frames := 0, cells := 0, slots := 0, locals := 0 } : Room)) (fun a U => a = #[(.ref ob)] ∧ Z.Warmed39 U.vm ∧ U.heap = h0) (fun _ _ _ _ _ => True) (fun _ U o U' => ∃ v L, o = .returned v ∧ Q5 Z ob hg h0 n0 v U'.heap L ∧ FrameEnd U o U' L ({ frames := 0, cells := 0, slots := 0, locals := 0 } : Room).cells ({ frames := 0, cells := 0, slots := 0, locals := 0 } : Room).slots) := by
  refine MetFree.of_bodySF (plainFor_of_name pn_5) hisR ?_
  intro p e s m args below meth c s₁ Bd hml0 hP hK
  obtain ⟨rfl, hZ, hh⟩ := hP
  have hx := Bd.exec
  have hby := Bd.bytes
  have hlk : meth.locks = false := BodyLoose.notSynchronized Bd
  have hml : c.maxLocals = 1 := hml0
  have hown : s.vm.findClass "com/example/sigpoint/sigpoint/Rows" = some m.cls := findClass_of_methodNamed Bd.named
  have hnm := (name_of_methodNamed Bd.named Bd.method).1
  have X0 : Stand p l e ({ frames := 0, cells := 0, slots := 0, locals := 0 } : Room) s m #[(.ref ob)] below meth c s₁ [] 0 0 := Stand.of_body Bd
  have e0 : s₁.heap = h0 := by rw [← hh, Bd.state]; rfl
  have N0 := Fr.nil n0
  show own_Go p e below (own_G s (Q5 Z ob hg h0 n0) ({ frames := 0, cells := 0, slots := 0, locals := 0 } : Room).cells ({ frames := 0, cells := 0, slots := 0, locals := 0 } : Room).slots) (s₁.setTop (entryFrame m #[(.ref ob)] 1))
  refine own_st (fun tgt k => castTop (ef_5 m ob) k) ?_
  show own_Go p e below _ (s₁.setTop (mkF m 0 #[.val (.ref ob)] []))
  refine own_st (V := s₁.setTop (mkF m 1 #[.val (.ref ob)] [(.ref ob)])) (fun tgt k => ?_) ?_
  · show Steps p.tables e below (s₁.setTop (mkF m 0 #[.val (.ref ob)] [])) tgt
    refine XS.aloadN X0.here hx rfl (hb hby d5_0) rfl rfl ?_
    exact k
  obtain ⟨T1, X1, e1, st1⟩ := getF X0 hx hZ hown (host := "") (Or.inl (hw _ (List.mem_of_getElem? (i := 19) rfl))) Via.refl e0 F3 (g := (mkF m 1 #[.val (.ref ob)] [(.ref ob)])) rfl rfl (hb hby d5_1)
  refine own_st st1 ?_
  show own_Go p e below _ (T1.setTop (mkF m 4 #[.val (.ref ob)] [(.int hg)]))
  refine own_retI X1 hx hlk Bd.returns (hb hby d5_4) ?_ (by decide) (by decide)
  show Q5 Z ob hg h0 n0 (some (.int hg)) T1.heap _
  rw [e1]
  exact ⟨rfl, N0, rfl⟩
theorem pn_0 : plainName "com/example/sigpoint/sigpoint/RowsAddPinLaw" = true := by first | (simp [plainName, overriddenIn]; done) | decide +kernel
theorem pd_0_0 : parseMethodDescriptor "()V" = some ⟨[], none⟩ := by decide +kernel
theorem pd_0_1 : parseMethodDescriptor "()I" = some ⟨[], some .int⟩ := by decide +kernel
theorem pd_0_2 : parseMethodDescriptor "(I)V" = some ⟨[.int], none⟩ := by decide +kernel
theorem ef_0 (m : MethodId) (x0 : Int32) (x1 : Int32) (x2 : Int32) : entryFrame m #[(.int x0), (.int x1), (.int x2)] maxLocals = mkF m 0 #[.val (.int x0), .val (.int x1), .val (.int x2), .unset, .unset, .unset, .unset, .unset, .unset, .unset, .unset, .unset, .unset, .unset, .unset] [] := by first | (simp [entryFrame, mkF, argsToLocals, Value.category, maxLocals]; done) | rfl
def Q0 (Z : State) (aa : Int32) (bb : Int32) (cc : Int32) (h0 : Heap) (n0 : Nat) (v : Option Value) (h : Heap) (L : List Loc) : Prop := v = some (.int (1 : Int32)) ∧ Fr n0 L
set_option maxRecDepth 65536 in
set_option maxHeartbeats 40000000 in
theorem rm0 (l : Launch) (Z : State) (a0 : Array Value) (hw : ∀ d ∈ tables_1, d.before a0 Z = true) (ws : List Jvm.Cond) (aa : Int32) (bb : Int32) (cc : Int32) (h0 : Heap) (n0 : Nat) (Z0 : n0 ≤ h0.size) :
    MetFree l x (head1 (Jvm.Cond.code x code maxLocals ret :: ws) room_1) (fun a U => a = #[(.int aa), (.int bb), (.int cc)] ∧ Z.Warmed39 U.vm ∧ U.heap = h0) (fun _ _ _ _ _ => True) (fun _ U o U' => ∃ v L, o = .returned v ∧ Q0 Z aa bb cc h0 n0 v U'.heap L ∧ FrameEnd U o U' L 16 128) := by
  refine MetFree.of_bodySF (plainFor_of_name pn_0) hisR ?_
  intro p e s m args below meth c s₁ Bd hml0 hP hK
  obtain ⟨rfl, hZ, hh⟩ := hP
  have hx := Bd.exec
  have hby := Bd.bytes
  have hlk : meth.locks = false := BodyLoose.notSynchronized Bd
  have hml : c.maxLocals = 15 := hml0
  have hown : s.vm.findClass "com/example/sigpoint/sigpoint/RowsAddPinLaw" = some m.cls := findClass_of_methodNamed Bd.named
  have hnm := (name_of_methodNamed Bd.named Bd.method).1
  have X0 : Stand p l e room_1 s m #[(.int aa), (.int bb), (.int cc)] below meth c s₁ [] 0 0 := Stand.of_body Bd
  have e0 : s₁.heap = h0 := by rw [← hh, Bd.state]; rfl
  have N0 := Fr.nil n0
  show own_Go p e below (own_G s (Q0 Z aa bb cc h0 n0) 16 128) (s₁.setTop (entryFrame m #[(.int aa), (.int bb), (.int cc)] maxLocals))
  refine own_st (fun tgt k => castTop (ef_0 m aa bb cc) k) ?_
  show own_Go p e below _ (s₁.setTop (mkF m 0 #[.val (.int aa), .val (.int bb), .val (.int cc), .unset, .unset, .unset, .unset, .unset, .unset, .unset, .unset, .unset, .unset, .unset, .unset] []))
  obtain ⟨T1, h1, X1, e1, E1, A1, D1, -, st1⟩ := newO X0 hx hZ hown (hw _ (List.mem_of_getElem? (i := 0) rfl)) (hw _ (List.mem_of_getElem? (i := 1) rfl)) (hw _ (List.mem_of_getElem? (i := 2) rfl)) e0 (g := (mkF m 0 #[.val (.int aa), .val (.int bb), .val (.int cc), .unset, .unset, .unset, .unset, .unset, .unset, .unset, .unset, .unset, .unset, .unset, .unset] [])) rfl (hb hby at_0) (by decide) (by decide)
  obtain ⟨rv, g1⟩ : ∃ z, z = h0.size := ⟨_, rfl⟩
  rw [← g1] at A1 D1 st1
  have g_rv : n0 ≤ rv := Nat.le_trans Z0 (Nat.le_of_eq g1.symm)
  have Zs1 : n0 ≤ h1.size := Nat.le_trans Z0 E1.1
  have F_rv_free_1 : Fld Z h1 rv "com/example/sigpoint/sigpoint/Rows" "free" "[I" .null := D1 (Or.inl (hw _ (List.mem_of_getElem? (i := 11) rfl))) (ty := (.array .int)) (by decide)
  have F_rv_freeCount_1 : Fld Z h1 rv "com/example/sigpoint/sigpoint/Rows" "freeCount" "I" (.int (0 : Int32)) := D1 (Or.inl (hw _ (List.mem_of_getElem? (i := 18) rfl))) (ty := .int) (by decide)
  have F_rv_high_1 : Fld Z h1 rv "com/example/sigpoint/sigpoint/Rows" "high" "I" (.int (0 : Int32)) := D1 (Or.inl (hw _ (List.mem_of_getElem? (i := 20) rfl))) (ty := .int) (by decide)
  refine own_st st1 ?_
  show own_Go p e below _ (T1.setTop (mkF m 3 #[.val (.int aa), .val (.int bb), .val (.int cc), .unset, .unset, .unset, .unset, .unset, .unset, .unset, .unset, .unset, .unset, .unset, .unset] [(.ref rv)]))
  refine own_st (V := T1.setTop (mkF m 4 #[.val (.int aa), .val (.int bb), .val (.int cc), .unset, .unset, .unset, .unset, .unset, .unset, .unset, .unset, .unset, .unset, .unset, .unset] [(.ref rv), (.ref rv)])) (fun tgt k => ?_) ?_
  · show Steps p.tables e below (T1.setTop (mkF m 3 #[.val (.int aa), .val (.int bb), .val (.int cc), .unset, .unset, .unset, .unset, .unset, .unset, .unset, .unset, .unset, .unset, .unset, .unset] [(.ref rv)])) tgt
    refine XS.dup X1.here hx rfl (hb hby at_3) rfl rfl ?_
    exact k
  obtain ⟨_, _, ⟨T2, L2, k2, n2⟩, -, X2, ⟨Lc2, hQ2, l2, y2, z2⟩, st2⟩ := X1.specialBack hx (y := (⟨"com/example/sigpoint/sigpoint/Rows", "<init>", "()V"⟩ : MethodName)) rfl hown (mvT hZ (hw _ (List.mem_of_getElem? (i := 3) rfl))) (mvT hZ (hw _ (List.mem_of_getElem? (i := 4) rfl))) (mvT hZ (hw _ (List.mem_of_getElem? (i := 5) rfl))) (by decide) (backOf (W := 1) (rm1 l Z a0 hw [] rv h1 n0 Zs1 A1 F_rv_free_1 F_rv_freeCount_1 F_rv_high_1 g_rv) hZ (hw _ (List.mem_of_getElem? (i := 5) rfl)) (hw _ (List.mem_of_getElem? (i := 2) rfl)) (by decide) (by decide)) (g := (mkF m 4 #[.val (.int aa), .val (.int bb), .val (.int cc), .unset, .unset, .unset, .unset, .unset, .unset, .unset, .unset, .unset, .unset, .unset, .unset] [(.ref rv), (.ref rv)])) rfl (by rw [hml]; rfl) (Steps.refl _) (a := rv) (argsL := []) (rest := [(.ref rv)]) (lenOf pd_0_0 rfl) rfl (by show 2 * 0 + _ ≤ _; exact Nat.le_of_eq rfl) (hb hby at_4) (fun _ _ => ⟨rfl, e1, (by decide : 1 + 1 ≤ _), (by decide : 3 + 16 ≤ _)⟩)
  dsimp only [Pt.U, Pt.locs, Pt.cells, Pt.slots] at X2 l2 y2 z2 st2 hQ2
  subst l2 y2 z2
  obtain ⟨rfl, N2q, K2, fr_2, g2_0, g2_1, g2_2, g2_3, g2_4, g2_5, g2_6, g2_7⟩ := hQ2
  have N2 := Fr.app N0 N2q
  have ne_rv_fr_2 : rv ≠ fr_2 := Nat.ne_of_lt (Nat.lt_of_lt_of_le A1.lt g2_0)
  have E_rv_2 := A1.keep K2
  have Zs2 : n0 ≤ T2.heap.size := Nat.le_trans Zs1 K2.1
  refine own_st (fun tgt k => st2.trans k) ?_
  show own_Go p e below _ (T2.setTop (mkF m 7 #[.val (.int aa), .val (.int bb), .val (.int cc), .unset, .unset, .unset, .unset, .unset, .unset, .unset, .unset, .unset, .unset, .unset, .unset] [(.ref rv)]))
  refine own_st (V := T2.setTop (mkF m 9 #[.val (.int aa), .val (.int bb), .val (.int cc), .val (.ref rv), .unset, .unset, .unset, .unset, .unset, .unset, .unset, .unset, .unset, .unset, .unset] [(.int (3 : Int32))])) (fun tgt k => ?_) ?_
  · show Steps p.tables e below (T2.setTop (mkF m 7 #[.val (.int aa), .val (.int bb), .val (.int cc), .unset, .unset, .unset, .unset, .unset, .unset, .unset, .unset, .unset, .unset, .unset, .unset] [(.ref rv)])) tgt
    refine XS.astoreN X2.here hx rfl (hb hby at_7) rfl rfl (l' := #[.val (.int aa), .val (.int bb), .val (.int cc), .val (.ref rv), .unset, .unset, .unset, .unset, .unset, .unset, .unset, .unset, .unset, .unset, .unset]) rfl ?_
    show Steps p.tables e below (T2.setTop (mkF m 8 #[.val (.int aa), .val (.int bb), .val (.int cc), .val (.ref rv), .unset, .unset, .unset, .unset, .unset, .unset, .unset, .unset, .unset, .unset, .unset] [])) tgt
    refine XS.iconst X2.here hx rfl (hb hby at_8) ?_
    exact k
  obtain ⟨T3, h3, c3, X3, e3, E3, A3, st3⟩ := own_newarr X2 hx hZ (hw _ (List.mem_of_getElem? (i := 9) rfl)) rfl (g := (mkF m 9 #[.val (.int aa), .val (.int bb), .val (.int cc), .val (.ref rv), .unset, .unset, .unset, .unset, .unset, .unset, .unset, .unset, .unset, .unset, .unset] [(.int (3 : Int32))])) rfl (hb hby at_9) rfl (k := 3) rfl (cap := 3) (by decide) (by decide) (by decide) (by decide)
  obtain ⟨xs, g3⟩ : ∃ z, z = T2.heap.size := ⟨_, rfl⟩
  rw [← g3] at A3 st3
  have ne_fr_2_xs : fr_2 ≠ xs := Nat.ne_of_lt (Nat.lt_of_lt_of_le g2_7.lt (Nat.le_of_eq g3.symm))
  have ne_rv_xs : rv ≠ xs := Nat.ne_of_lt (Nat.lt_of_lt_of_le g2_3.lt (Nat.le_of_eq g3.symm))
  have E_rv_3 := g2_3.ext E3
  have F_rv_free_3 := g2_4.ext E3
  have F_rv_freeCount_3 := g2_5.ext E3
  have F_rv_high_3 := g2_6.ext E3
  have A_fr_2_3 := g2_7.ext E3
  have g_xs : n0 ≤ xs := Nat.le_trans Zs2 (Nat.le_of_eq g3.symm)
  have A_xs_3 : own_Ai Z h3 xs .int 3 (fun _ => 0) := own_Ai.new A3
  have Zs3 : n0 ≤ h3.size := Nat.le_trans Zs2 E3.1
  refine own_st st3 ?_
  show own_Go p e below _ (T3.setTop (mkF m 11 #[.val (.int aa), .val (.int bb), .val (.int cc), .val (.ref rv), .unset, .unset, .unset, .unset, .unset, .unset, .unset, .unset, .unset, .unset, .unset] [(.ref xs)]))
  refine own_st (V := T3.setTop (mkF m 17 #[.val (.int aa), .val (.int bb), .val (.int cc), .val (.ref rv), .val (.ref xs), .unset, .unset, .unset, .unset, .unset, .unset, .unset, .unset, .unset, .unset] [(.ref rv), (.int (0 : Int32)), (.ref xs)])) (fun tgt k => ?_) ?_
  · show Steps p.tables e below (T3.setTop (mkF m 11 #[.val (.int aa), .val (.int bb), .val (.int cc), .val (.ref rv), .unset, .unset, .unset, .unset, .unset, .unset, .unset, .unset, .unset, .unset, .unset] [(.ref xs)])) tgt
    refine XS.astore X3.here hx rfl (hb hby at_11) rfl rfl (l' := #[.val (.int aa), .val (.int bb), .val (.int cc), .val (.ref rv), .val (.ref xs), .unset, .unset, .unset, .unset, .unset, .unset, .unset, .unset, .unset, .unset]) rfl ?_
    show Steps p.tables e below (T3.setTop (mkF m 13 #[.val (.int aa), .val (.int bb), .val (.int cc), .val (.ref rv), .val (.ref xs), .unset, .unset, .unset, .unset, .unset, .unset, .unset, .unset, .unset, .unset] [])) tgt
    refine XS.aload X3.here hx rfl (hb hby at_13) rfl rfl ?_
    show Steps p.tables e below (T3.setTop (mkF m 15 #[.val (.int aa), .val (.int bb), .val (.int cc), .val (.ref rv), .val (.ref xs), .unset, .unset, .unset, .unset, .unset, .unset, .unset, .unset, .unset, .unset] [(.ref xs)])) tgt
    refine XS.iconst X3.here hx rfl (hb hby at_15) ?_
    show Steps p.tables e below (T3.setTop (mkF m 16 #[.val (.int aa), .val (.int bb), .val (.int cc), .val (.ref rv), .val (.ref xs), .unset, .unset, .unset, .unset, .unset, .unset, .unset, .unset, .unset, .unset] [(.int (0 : Int32)), (.ref xs)])) tgt
    refine XS.aloadN X3.here hx rfl (hb hby at_16) rfl rfl ?_
    exact k
  obtain ⟨cq4, kq4, q4a, q4b, q4c⟩ := isOf hZ e3 E_rv_3
  obtain ⟨_, _, ⟨T4, L4, k4, n4⟩, -, X4, ⟨Lc4, hQ4, l4, y4, z4⟩, st4⟩ := X3.virtualBack hx (y := (⟨"com/example/sigpoint/sigpoint/Rows", "add", "()I"⟩ : MethodName)) (z := (⟨"com/example/sigpoint/sigpoint/Rows", "add", "()I"⟩ : MethodName)) hown (mvT hZ (hw _ (List.mem_of_getElem? (i := 12) rfl))) (mvT hZ (hw _ (List.mem_of_getElem? (i := 13) rfl))) (notFace_of_selects (args := #[]) (mvT hZ (hw _ (List.mem_of_getElem? (i := 15) rfl)))) (mvT hZ (hw _ (List.mem_of_getElem? (i := 15) rfl))) (mvT hZ (hw _ (List.mem_of_getElem? (i := 14) rfl))) (by decide) (backOf (W := 2) (rm3b l Z a0 hw [] rv fr_2 (0 : Int32) (0 : Int32) (fun _ => 0) h3 n0 Zs3 E_rv_3 F_rv_free_3 F_rv_freeCount_3 F_rv_high_3 A_fr_2_3 g_rv g2_1 g2_2 (by first | assumption | decide | rfl)) hZ (hw _ (List.mem_of_getElem? (i := 16) rfl)) (hw _ (List.mem_of_getElem? (i := 2) rfl)) (by decide) (by decide)) q4a q4c (g := (mkF m 17 #[.val (.int aa), .val (.int bb), .val (.int cc), .val (.ref rv), .val (.ref xs), .unset, .unset, .unset, .unset, .unset, .unset, .unset, .unset, .unset, .unset] [(.ref rv), (.int (0 : Int32)), (.ref xs)])) rfl (by rw [hml]; rfl) (Steps.refl _) (argsL := []) (rest := [(.int (0 : Int32)), (.ref xs)]) (lenOf pd_0_1 rfl) rfl (by show 2 * 0 + _ ≤ _; exact Nat.le_of_eq rfl) (hb hby at_17) (fun _ _ => ⟨rfl, e3, (by decide : 3 + 0 ≤ _), (by decide : 22 + 0 ≤ _)⟩)
  dsimp only [Pt.U, Pt.locs, Pt.cells, Pt.slots] at X4 l4 y4 z4 st4 hQ4
  subst l4 y4 z4
  obtain ⟨rfl, N4q, K4, g4_0, g4_1, g4_2, g4_3⟩ := hQ4
  have N4 := Fr.app N2 N4q
  have E_rv_4 := E_rv_3.keep K4
  have A_fr_2_4 := A_fr_2_3.keep K4 (ninS (Ne.symm g2_2) nin0)
  have A_xs_4 := A_xs_3.keep K4 (ninS (Ne.symm ne_rv_xs) nin0)
  have Zs4 : n0 ≤ T4.heap.size := Nat.le_trans Zs3 K4.1
  refine own_st (fun tgt k => st4.trans k) ?_
  show own_Go p e below _ (T4.setTop (mkF m 20 #[.val (.int aa), .val (.int bb), .val (.int cc), .val (.ref rv), .val (.ref xs), .unset, .unset, .unset, .unset, .unset, .unset, .unset, .unset, .unset, .unset] [(.int (0 : Int32)), (.int (0 : Int32)), (.ref xs)]))
  have Ff_rv_5 := g4_3
  rw [show ((0 : Int32) + (1 : Int32)) = (1 : Int32) from by decide] at Ff_rv_5
  obtain ⟨T6, h6, X6, e6, W6, A_xs_6, st6⟩ := own_iastore X4 hx hZ rfl A_xs_4 (j := (0 : Int32)) (k := 0) rfl (by decide) (g := (mkF m 20 #[.val (.int aa), .val (.int bb), .val (.int cc), .val (.ref rv), .val (.ref xs), .unset, .unset, .unset, .unset, .unset, .unset, .unset, .unset, .unset, .unset] [(.int (0 : Int32)), (.int (0 : Int32)), (.ref xs)])) rfl rfl (hb hby at_20)
  have E_rv_6 := g4_0.wr W6
  have A_fr_2_6 := A_fr_2_4.other W6 ne_fr_2_xs
  have F_rv_free_6 := Fld.other W6 g4_1 (Or.inl ne_rv_xs)
  have F_rv_freeCount_6 := Fld.other W6 g4_2 (Or.inl ne_rv_xs)
  have F_rv_high_6 := Fld.other W6 Ff_rv_5 (Or.inl ne_rv_xs)
  have N6 := Fr.snoc X6 N4 g_xs
  have Zs6 : n0 ≤ h6.size := Nat.le_trans Zs4 (Keep.of_wr W6).1
  refine own_st st6 ?_
  show own_Go p e below _ (T6.setTop (mkF m 21 #[.val (.int aa), .val (.int bb), .val (.int cc), .val (.ref rv), .val (.ref xs), .unset, .unset, .unset, .unset, .unset, .unset, .unset, .unset, .unset, .unset] []))
  refine own_st (V := T6.setTop (mkF m 25 #[.val (.int aa), .val (.int bb), .val (.int cc), .val (.ref rv), .val (.ref xs), .unset, .unset, .unset, .unset, .unset, .unset, .unset, .unset, .unset, .unset] [(.ref rv), (.int (1 : Int32)), (.ref xs)])) (fun tgt k => ?_) ?_
  · show Steps p.tables e below (T6.setTop (mkF m 21 #[.val (.int aa), .val (.int bb), .val (.int cc), .val (.ref rv), .val (.ref xs), .unset, .unset, .unset, .unset, .unset, .unset, .unset, .unset, .unset, .unset] [])) tgt
    refine XS.aload X6.here hx rfl (hb hby at_21) rfl rfl ?_
    show Steps p.tables e below (T6.setTop (mkF m 23 #[.val (.int aa), .val (.int bb), .val (.int cc), .val (.ref rv), .val (.ref xs), .unset, .unset, .unset, .unset, .unset, .unset, .unset, .unset, .unset, .unset] [(.ref xs)])) tgt
    refine XS.iconst X6.here hx rfl (hb hby at_23) ?_
    show Steps p.tables e below (T6.setTop (mkF m 24 #[.val (.int aa), .val (.int bb), .val (.int cc), .val (.ref rv), .val (.ref xs), .unset, .unset, .unset, .unset, .unset, .unset, .unset, .unset, .unset, .unset] [(.int (1 : Int32)), (.ref xs)])) tgt
    refine XS.aloadN X6.here hx rfl (hb hby at_24) rfl rfl ?_
    exact k
  obtain ⟨cq7, kq7, q7a, q7b, q7c⟩ := isOf hZ e6 E_rv_6
  obtain ⟨_, _, ⟨T7, L7, k7, n7⟩, -, X7, ⟨Lc7, hQ7, l7, y7, z7⟩, st7⟩ := X6.virtualBack hx (y := (⟨"com/example/sigpoint/sigpoint/Rows", "add", "()I"⟩ : MethodName)) (z := (⟨"com/example/sigpoint/sigpoint/Rows", "add", "()I"⟩ : MethodName)) hown (mvT hZ (hw _ (List.mem_of_getElem? (i := 12) rfl))) (mvT hZ (hw _ (List.mem_of_getElem? (i := 13) rfl))) (notFace_of_selects (args := #[]) (mvT hZ (hw _ (List.mem_of_getElem? (i := 15) rfl)))) (mvT hZ (hw _ (List.mem_of_getElem? (i := 15) rfl))) (mvT hZ (hw _ (List.mem_of_getElem? (i := 14) rfl))) (by decide) (backOf (W := 2) (rm3b l Z a0 hw [] rv fr_2 (0 : Int32) (1 : Int32) (fun _ => 0) h6 n0 Zs6 E_rv_6 F_rv_free_6 F_rv_freeCount_6 F_rv_high_6 A_fr_2_6 g_rv g2_1 g2_2 (by first | assumption | decide | rfl)) hZ (hw _ (List.mem_of_getElem? (i := 16) rfl)) (hw _ (List.mem_of_getElem? (i := 2) rfl)) (by decide) (by decide)) q7a q7c (g := (mkF m 25 #[.val (.int aa), .val (.int bb), .val (.int cc), .val (.ref rv), .val (.ref xs), .unset, .unset, .unset, .unset, .unset, .unset, .unset, .unset, .unset, .unset] [(.ref rv), (.int (1 : Int32)), (.ref xs)])) rfl (by rw [hml]; rfl) (Steps.refl _) (argsL := []) (rest := [(.int (1 : Int32)), (.ref xs)]) (lenOf pd_0_1 rfl) rfl (by show 2 * 0 + _ ≤ _; exact Nat.le_of_eq rfl) (hb hby at_25) (fun _ _ => ⟨rfl, e6, (by decide : 3 + 0 ≤ _), (by decide : 22 + 0 ≤ _)⟩)
  dsimp only [Pt.U, Pt.locs, Pt.cells, Pt.slots] at X7 l7 y7 z7 st7 hQ7
  subst l7 y7 z7
  obtain ⟨rfl, N7q, K7, g7_0, g7_1, g7_2, g7_3⟩ := hQ7
  have N7 := Fr.app N6 N7q
  have E_rv_7 := E_rv_6.keep K7
  have A_fr_2_7 := A_fr_2_6.keep K7 (ninS (Ne.symm g2_2) nin0)
  have A_xs_7 := A_xs_6.keep K7 (ninS (Ne.symm ne_rv_xs) nin0)
  have Zs7 : n0 ≤ T7.heap.size := Nat.le_trans Zs6 K7.1
  refine own_st (fun tgt k => st7.trans k) ?_
  show own_Go p e below _ (T7.setTop (mkF m 28 #[.val (.int aa), .val (.int bb), .val (.int cc), .val (.ref rv), .val (.ref xs), .unset, .unset, .unset, .unset, .unset, .unset, .unset, .unset, .unset, .unset] [(.int (1 : Int32)), (.int (1 : Int32)), (.ref xs)]))
  have Ff_rv_8 := g7_3
  rw [show ((1 : Int32) + (1 : Int32)) = (2 : Int32) from by decide] at Ff_rv_8
  obtain ⟨T9, h9, X9, e9, W9, A_xs_9, st9⟩ := own_iastore X7 hx hZ rfl A_xs_7 (j := (1 : Int32)) (k := 1) rfl (by decide) (g := (mkF m 28 #[.val (.int aa), .val (.int bb), .val (.int cc), .val (.ref rv), .val (.ref xs), .unset, .unset, .unset, .unset, .unset, .unset, .unset, .unset, .unset, .unset] [(.int (1 : Int32)), (.int (1 : Int32)), (.ref xs)])) rfl rfl (hb hby at_28)
  have E_rv_9 := g7_0.wr W9
  have A_fr_2_9 := A_fr_2_7.other W9 ne_fr_2_xs
  have F_rv_free_9 := Fld.other W9 g7_1 (Or.inl ne_rv_xs)
  have F_rv_freeCount_9 := Fld.other W9 g7_2 (Or.inl ne_rv_xs)
  have F_rv_high_9 := Fld.other W9 Ff_rv_8 (Or.inl ne_rv_xs)
  have N9 := Fr.snoc X9 N7 g_xs
  have Zs9 : n0 ≤ h9.size := Nat.le_trans Zs7 (Keep.of_wr W9).1
  refine own_st st9 ?_
  show own_Go p e below _ (T9.setTop (mkF m 29 #[.val (.int aa), .val (.int bb), .val (.int cc), .val (.ref rv), .val (.ref xs), .unset, .unset, .unset, .unset, .unset, .unset, .unset, .unset, .unset, .unset] []))
  refine own_st (V := T9.setTop (mkF m 33 #[.val (.int aa), .val (.int bb), .val (.int cc), .val (.ref rv), .val (.ref xs), .unset, .unset, .unset, .unset, .unset, .unset, .unset, .unset, .unset, .unset] [(.ref rv), (.int (2 : Int32)), (.ref xs)])) (fun tgt k => ?_) ?_
  · show Steps p.tables e below (T9.setTop (mkF m 29 #[.val (.int aa), .val (.int bb), .val (.int cc), .val (.ref rv), .val (.ref xs), .unset, .unset, .unset, .unset, .unset, .unset, .unset, .unset, .unset, .unset] [])) tgt
    refine XS.aload X9.here hx rfl (hb hby at_29) rfl rfl ?_
    show Steps p.tables e below (T9.setTop (mkF m 31 #[.val (.int aa), .val (.int bb), .val (.int cc), .val (.ref rv), .val (.ref xs), .unset, .unset, .unset, .unset, .unset, .unset, .unset, .unset, .unset, .unset] [(.ref xs)])) tgt
    refine XS.iconst X9.here hx rfl (hb hby at_31) ?_
    show Steps p.tables e below (T9.setTop (mkF m 32 #[.val (.int aa), .val (.int bb), .val (.int cc), .val (.ref rv), .val (.ref xs), .unset, .unset, .unset, .unset, .unset, .unset, .unset, .unset, .unset, .unset] [(.int (2 : Int32)), (.ref xs)])) tgt
    refine XS.aloadN X9.here hx rfl (hb hby at_32) rfl rfl ?_
    exact k
  obtain ⟨cq10, kq10, q10a, q10b, q10c⟩ := isOf hZ e9 E_rv_9
  obtain ⟨_, _, ⟨T10, L10, k10, n10⟩, -, X10, ⟨Lc10, hQ10, l10, y10, z10⟩, st10⟩ := X9.virtualBack hx (y := (⟨"com/example/sigpoint/sigpoint/Rows", "add", "()I"⟩ : MethodName)) (z := (⟨"com/example/sigpoint/sigpoint/Rows", "add", "()I"⟩ : MethodName)) hown (mvT hZ (hw _ (List.mem_of_getElem? (i := 12) rfl))) (mvT hZ (hw _ (List.mem_of_getElem? (i := 13) rfl))) (notFace_of_selects (args := #[]) (mvT hZ (hw _ (List.mem_of_getElem? (i := 15) rfl)))) (mvT hZ (hw _ (List.mem_of_getElem? (i := 15) rfl))) (mvT hZ (hw _ (List.mem_of_getElem? (i := 14) rfl))) (by decide) (backOf (W := 2) (rm3b l Z a0 hw [] rv fr_2 (0 : Int32) (2 : Int32) (fun _ => 0) h9 n0 Zs9 E_rv_9 F_rv_free_9 F_rv_freeCount_9 F_rv_high_9 A_fr_2_9 g_rv g2_1 g2_2 (by first | assumption | decide | rfl)) hZ (hw _ (List.mem_of_getElem? (i := 16) rfl)) (hw _ (List.mem_of_getElem? (i := 2) rfl)) (by decide) (by decide)) q10a q10c (g := (mkF m 33 #[.val (.int aa), .val (.int bb), .val (.int cc), .val (.ref rv), .val (.ref xs), .unset, .unset, .unset, .unset, .unset, .unset, .unset, .unset, .unset, .unset] [(.ref rv), (.int (2 : Int32)), (.ref xs)])) rfl (by rw [hml]; rfl) (Steps.refl _) (argsL := []) (rest := [(.int (2 : Int32)), (.ref xs)]) (lenOf pd_0_1 rfl) rfl (by show 2 * 0 + _ ≤ _; exact Nat.le_of_eq rfl) (hb hby at_33) (fun _ _ => ⟨rfl, e9, (by decide : 3 + 0 ≤ _), (by decide : 22 + 0 ≤ _)⟩)
  dsimp only [Pt.U, Pt.locs, Pt.cells, Pt.slots] at X10 l10 y10 z10 st10 hQ10
  subst l10 y10 z10
  obtain ⟨rfl, N10q, K10, g10_0, g10_1, g10_2, g10_3⟩ := hQ10
  have N10 := Fr.app N9 N10q
  have E_rv_10 := E_rv_9.keep K10
  have A_fr_2_10 := A_fr_2_9.keep K10 (ninS (Ne.symm g2_2) nin0)
  have A_xs_10 := A_xs_9.keep K10 (ninS (Ne.symm ne_rv_xs) nin0)
  have Zs10 : n0 ≤ T10.heap.size := Nat.le_trans Zs9 K10.1
  refine own_st (fun tgt k => st10.trans k) ?_
  show own_Go p e below _ (T10.setTop (mkF m 36 #[.val (.int aa), .val (.int bb), .val (.int cc), .val (.ref rv), .val (.ref xs), .unset, .unset, .unset, .unset, .unset, .unset, .unset, .unset, .unset, .unset] [(.int (2 : Int32)), (.int (2 : Int32)), (.ref xs)]))
  have Ff_rv_11 := g10_3
  rw [show ((2 : Int32) + (1 : Int32)) = (3 : Int32) from by decide] at Ff_rv_11
  obtain ⟨T12, h12, X12, e12, W12, A_xs_12, st12⟩ := own_iastore X10 hx hZ rfl A_xs_10 (j := (2 : Int32)) (k := 2) rfl (by decide) (g := (mkF m 36 #[.val (.int aa), .val (.int bb), .val (.int cc), .val (.ref rv), .val (.ref xs), .unset, .unset, .unset, .unset, .unset, .unset, .unset, .unset, .unset, .unset] [(.int (2 : Int32)), (.int (2 : Int32)), (.ref xs)])) rfl rfl (hb hby at_36)
  have E_rv_12 := g10_0.wr W12
  have A_fr_2_12 := A_fr_2_10.other W12 ne_fr_2_xs
  have F_rv_free_12 := Fld.other W12 g10_1 (Or.inl ne_rv_xs)
  have F_rv_freeCount_12 := Fld.other W12 g10_2 (Or.inl ne_rv_xs)
  have F_rv_high_12 := Fld.other W12 Ff_rv_11 (Or.inl ne_rv_xs)
  have N12 := Fr.snoc X12 N10 g_xs
  have Zs12 : n0 ≤ h12.size := Nat.le_trans Zs10 (Keep.of_wr W12).1
  refine own_st st12 ?_
  show own_Go p e below _ (T12.setTop (mkF m 37 #[.val (.int aa), .val (.int bb), .val (.int cc), .val (.ref rv), .val (.ref xs), .unset, .unset, .unset, .unset, .unset, .unset, .unset, .unset, .unset, .unset] []))
  have Af_xs_13 := A_xs_12
  rw [show (own_up (own_up (own_up (fun _ => 0) 0 (0 : Int32)) 1 (1 : Int32)) 2 (2 : Int32)) = own_X from rfl] at Af_xs_13
  refine own_st (V := T12.setTop (mkF m 70 #[.val (.int aa), .val (.int bb), .val (.int cc), .val (.ref rv), .val (.ref xs), .val (.int ((aa &&& (2147483647 : Int32)) % (3 : Int32))), .unset, .unset, .unset, .unset, .unset, .unset, .unset, .unset, .unset] [])) (fun tgt k => ?_) ?_
  · show Steps p.tables e below (T12.setTop (mkF m 37 #[.val (.int aa), .val (.int bb), .val (.int cc), .val (.ref rv), .val (.ref xs), .unset, .unset, .unset, .unset, .unset, .unset, .unset, .unset, .unset, .unset] [])) tgt
    refine XS.aload X12.here hx rfl (hb hby at_37) rfl rfl ?_
    show Steps p.tables e below (T12.setTop (mkF m 39 #[.val (.int aa), .val (.int bb), .val (.int cc), .val (.ref rv), .val (.ref xs), .unset, .unset, .unset, .unset, .unset, .unset, .unset, .unset, .unset, .unset] [(.ref xs)])) tgt
    refine XS.iconst X12.here hx rfl (hb hby at_39) ?_
    show Steps p.tables e below (T12.setTop (mkF m 40 #[.val (.int aa), .val (.int bb), .val (.int cc), .val (.ref rv), .val (.ref xs), .unset, .unset, .unset, .unset, .unset, .unset, .unset, .unset, .unset, .unset] [(.int (0 : Int32)), (.ref xs)])) tgt
    refine own_iaload X12 hx hZ e12 Af_xs_13 (j := (0 : Int32)) (k := 0) rfl (by decide) (g := (mkF m 40 #[.val (.int aa), .val (.int bb), .val (.int cc), .val (.ref rv), .val (.ref xs), .unset, .unset, .unset, .unset, .unset, .unset, .unset, .unset, .unset, .unset] [(.int (0 : Int32)), (.ref xs)])) rfl rfl (hb hby at_40) ?_
    show Steps p.tables e below (T12.setTop (mkF m 41 #[.val (.int aa), .val (.int bb), .val (.int cc), .val (.ref rv), .val (.ref xs), .unset, .unset, .unset, .unset, .unset, .unset, .unset, .unset, .unset, .unset] [(.int (own_X 0))])) tgt
    refine XS.ifNo X12.here hx rfl (hb hby at_41) rfl ((if0 _ _).trans (teq (by decide)).2) ?_
    show Steps p.tables e below (T12.setTop (mkF m 44 #[.val (.int aa), .val (.int bb), .val (.int cc), .val (.ref rv), .val (.ref xs), .unset, .unset, .unset, .unset, .unset, .unset, .unset, .unset, .unset, .unset] [])) tgt
    refine XS.aload X12.here hx rfl (hb hby at_44) rfl rfl ?_
    show Steps p.tables e below (T12.setTop (mkF m 46 #[.val (.int aa), .val (.int bb), .val (.int cc), .val (.ref rv), .val (.ref xs), .unset, .unset, .unset, .unset, .unset, .unset, .unset, .unset, .unset, .unset] [(.ref xs)])) tgt
    refine XS.iconst X12.here hx rfl (hb hby at_46) ?_
    show Steps p.tables e below (T12.setTop (mkF m 47 #[.val (.int aa), .val (.int bb), .val (.int cc), .val (.ref rv), .val (.ref xs), .unset, .unset, .unset, .unset, .unset, .unset, .unset, .unset, .unset, .unset] [(.int (1 : Int32)), (.ref xs)])) tgt
    refine own_iaload X12 hx hZ e12 Af_xs_13 (j := (1 : Int32)) (k := 1) rfl (by decide) (g := (mkF m 47 #[.val (.int aa), .val (.int bb), .val (.int cc), .val (.ref rv), .val (.ref xs), .unset, .unset, .unset, .unset, .unset, .unset, .unset, .unset, .unset, .unset] [(.int (1 : Int32)), (.ref xs)])) rfl rfl (hb hby at_47) ?_
    show Steps p.tables e below (T12.setTop (mkF m 48 #[.val (.int aa), .val (.int bb), .val (.int cc), .val (.ref rv), .val (.ref xs), .unset, .unset, .unset, .unset, .unset, .unset, .unset, .unset, .unset, .unset] [(.int (own_X 1))])) tgt
    refine XS.iconst X12.here hx rfl (hb hby at_48) ?_
    show Steps p.tables e below (T12.setTop (mkF m 49 #[.val (.int aa), .val (.int bb), .val (.int cc), .val (.ref rv), .val (.ref xs), .unset, .unset, .unset, .unset, .unset, .unset, .unset, .unset, .unset, .unset] [(.int (1 : Int32)), (.int (own_X 1))])) tgt
    refine XS.icmpNo X12.here hx rfl (hb hby at_49) rfl (teq (by decide)).2 ?_
    show Steps p.tables e below (T12.setTop (mkF m 52 #[.val (.int aa), .val (.int bb), .val (.int cc), .val (.ref rv), .val (.ref xs), .unset, .unset, .unset, .unset, .unset, .unset, .unset, .unset, .unset, .unset] [])) tgt
    refine XS.aload X12.here hx rfl (hb hby at_52) rfl rfl ?_
    show Steps p.tables e below (T12.setTop (mkF m 54 #[.val (.int aa), .val (.int bb), .val (.int cc), .val (.ref rv), .val (.ref xs), .unset, .unset, .unset, .unset, .unset, .unset, .unset, .unset, .unset, .unset] [(.ref xs)])) tgt
    refine XS.iconst X12.here hx rfl (hb hby at_54) ?_
    show Steps p.tables e below (T12.setTop (mkF m 55 #[.val (.int aa), .val (.int bb), .val (.int cc), .val (.ref rv), .val (.ref xs), .unset, .unset, .unset, .unset, .unset, .unset, .unset, .unset, .unset, .unset] [(.int (2 : Int32)), (.ref xs)])) tgt
    refine own_iaload X12 hx hZ e12 Af_xs_13 (j := (2 : Int32)) (k := 2) rfl (by decide) (g := (mkF m 55 #[.val (.int aa), .val (.int bb), .val (.int cc), .val (.ref rv), .val (.ref xs), .unset, .unset, .unset, .unset, .unset, .unset, .unset, .unset, .unset, .unset] [(.int (2 : Int32)), (.ref xs)])) rfl rfl (hb hby at_55) ?_
    show Steps p.tables e below (T12.setTop (mkF m 56 #[.val (.int aa), .val (.int bb), .val (.int cc), .val (.ref rv), .val (.ref xs), .unset, .unset, .unset, .unset, .unset, .unset, .unset, .unset, .unset, .unset] [(.int (own_X 2))])) tgt
    refine XS.iconst X12.here hx rfl (hb hby at_56) ?_
    show Steps p.tables e below (T12.setTop (mkF m 57 #[.val (.int aa), .val (.int bb), .val (.int cc), .val (.ref rv), .val (.ref xs), .unset, .unset, .unset, .unset, .unset, .unset, .unset, .unset, .unset, .unset] [(.int (2 : Int32)), (.int (own_X 2))])) tgt
    refine XS.icmpYes X12.here hx rfl (pc0 := 57) (pc' := 62) rfl (hb hby at_57) rfl (teq (by decide)).1 (by decide) (by decide) ?_
    show Steps p.tables e below (T12.setTop (mkF m 62 #[.val (.int aa), .val (.int bb), .val (.int cc), .val (.ref rv), .val (.ref xs), .unset, .unset, .unset, .unset, .unset, .unset, .unset, .unset, .unset, .unset] [])) tgt
    refine XS.iloadN X12.here hx rfl (hb hby at_62) rfl ?_
    show Steps p.tables e below (T12.setTop (mkF m 63 #[.val (.int aa), .val (.int bb), .val (.int cc), .val (.ref rv), .val (.ref xs), .unset, .unset, .unset, .unset, .unset, .unset, .unset, .unset, .unset, .unset] [(.int aa)])) tgt
    refine X12.ldcInt hx hown (mvT hZ (hw _ (List.mem_of_getElem? (i := 21) rfl))) (g := (mkF m 63 #[.val (.int aa), .val (.int bb), .val (.int cc), .val (.ref rv), .val (.ref xs), .unset, .unset, .unset, .unset, .unset, .unset, .unset, .unset, .unset, .unset] [(.int aa)])) rfl (hb hby at_63) _ ?_
    show Steps p.tables e below (T12.setTop (mkF m 65 #[.val (.int aa), .val (.int bb), .val (.int cc), .val (.ref rv), .val (.ref xs), .unset, .unset, .unset, .unset, .unset, .unset, .unset, .unset, .unset, .unset] [(.int (2147483647 : Int32)), (.int aa)])) tgt
    refine XS.iand X12.here hx rfl (hb hby at_65) rfl ?_
    show Steps p.tables e below (T12.setTop (mkF m 66 #[.val (.int aa), .val (.int bb), .val (.int cc), .val (.ref rv), .val (.ref xs), .unset, .unset, .unset, .unset, .unset, .unset, .unset, .unset, .unset, .unset] [(.int (aa &&& (2147483647 : Int32)))])) tgt
    refine XS.iconst X12.here hx rfl (hb hby at_66) ?_
    show Steps p.tables e below (T12.setTop (mkF m 67 #[.val (.int aa), .val (.int bb), .val (.int cc), .val (.ref rv), .val (.ref xs), .unset, .unset, .unset, .unset, .unset, .unset, .unset, .unset, .unset, .unset] [(.int (3 : Int32)), (.int (aa &&& (2147483647 : Int32)))])) tgt
    refine iremM X12 hx rfl (hb hby at_67) rfl (by decide) ?_
    show Steps p.tables e below (T12.setTop (mkF m 68 #[.val (.int aa), .val (.int bb), .val (.int cc), .val (.ref rv), .val (.ref xs), .unset, .unset, .unset, .unset, .unset, .unset, .unset, .unset, .unset, .unset] [(.int ((aa &&& (2147483647 : Int32)) % (3 : Int32)))])) tgt
    refine XS.istore X12.here hx rfl (hb hby at_68) rfl (l' := #[.val (.int aa), .val (.int bb), .val (.int cc), .val (.ref rv), .val (.ref xs), .val (.int ((aa &&& (2147483647 : Int32)) % (3 : Int32))), .unset, .unset, .unset, .unset, .unset, .unset, .unset, .unset, .unset]) rfl ?_
    exact k
  obtain ⟨pv, hpv⟩ : ∃ z : Int32, z = ((aa &&& (2147483647 : Int32)) % (3 : Int32)) := ⟨_, rfl⟩
  rw [← hpv]
  have hp0 : 0 ≤ pv.toInt ∧ pv.toInt < 3 := by rw [hpv]; exact own_p aa
  have hp1 : pv.toInt = (pv.toInt.toNat : Int) := by omega
  have hp2 : pv.toInt.toNat < 3 := by omega
  refine own_st (V := T12.setTop (mkF m 82 #[.val (.int aa), .val (.int bb), .val (.int cc), .val (.ref rv), .val (.ref xs), .val (.int pv), .val (.int (((pv + (1 : Int32)) + (bb &&& (1 : Int32))) % (3 : Int32))), .unset, .unset, .unset, .unset, .unset, .unset, .unset, .unset] [])) (fun tgt k => ?_) ?_
  · show Steps p.tables e below (T12.setTop (mkF m 70 #[.val (.int aa), .val (.int bb), .val (.int cc), .val (.ref rv), .val (.ref xs), .val (.int pv), .unset, .unset, .unset, .unset, .unset, .unset, .unset, .unset, .unset] [])) tgt
    refine XS.iload X12.here hx rfl (hb hby at_70) rfl ?_
    show Steps p.tables e below (T12.setTop (mkF m 72 #[.val (.int aa), .val (.int bb), .val (.int cc), .val (.ref rv), .val (.ref xs), .val (.int pv), .unset, .unset, .unset, .unset, .unset, .unset, .unset, .unset, .unset] [(.int pv)])) tgt
    refine XS.iconst X12.here hx rfl (hb hby at_72) ?_
    show Steps p.tables e below (T12.setTop (mkF m 73 #[.val (.int aa), .val (.int bb), .val (.int cc), .val (.ref rv), .val (.ref xs), .val (.int pv), .unset, .unset, .unset, .unset, .unset, .unset, .unset, .unset, .unset] [(.int (1 : Int32)), (.int pv)])) tgt
    refine XS.iadd X12.here hx rfl (hb hby at_73) rfl ?_
    show Steps p.tables e below (T12.setTop (mkF m 74 #[.val (.int aa), .val (.int bb), .val (.int cc), .val (.ref rv), .val (.ref xs), .val (.int pv), .unset, .unset, .unset, .unset, .unset, .unset, .unset, .unset, .unset] [(.int (pv + (1 : Int32)))])) tgt
    refine XS.iloadN X12.here hx rfl (hb hby at_74) rfl ?_
    show Steps p.tables e below (T12.setTop (mkF m 75 #[.val (.int aa), .val (.int bb), .val (.int cc), .val (.ref rv), .val (.ref xs), .val (.int pv), .unset, .unset, .unset, .unset, .unset, .unset, .unset, .unset, .unset] [(.int bb), (.int (pv + (1 : Int32)))])) tgt
    refine XS.iconst X12.here hx rfl (hb hby at_75) ?_
    show Steps p.tables e below (T12.setTop (mkF m 76 #[.val (.int aa), .val (.int bb), .val (.int cc), .val (.ref rv), .val (.ref xs), .val (.int pv), .unset, .unset, .unset, .unset, .unset, .unset, .unset, .unset, .unset] [(.int (1 : Int32)), (.int bb), (.int (pv + (1 : Int32)))])) tgt
    refine XS.iand X12.here hx rfl (hb hby at_76) rfl ?_
    show Steps p.tables e below (T12.setTop (mkF m 77 #[.val (.int aa), .val (.int bb), .val (.int cc), .val (.ref rv), .val (.ref xs), .val (.int pv), .unset, .unset, .unset, .unset, .unset, .unset, .unset, .unset, .unset] [(.int (bb &&& (1 : Int32))), (.int (pv + (1 : Int32)))])) tgt
    refine XS.iadd X12.here hx rfl (hb hby at_77) rfl ?_
    show Steps p.tables e below (T12.setTop (mkF m 78 #[.val (.int aa), .val (.int bb), .val (.int cc), .val (.ref rv), .val (.ref xs), .val (.int pv), .unset, .unset, .unset, .unset, .unset, .unset, .unset, .unset, .unset] [(.int ((pv + (1 : Int32)) + (bb &&& (1 : Int32))))])) tgt
    refine XS.iconst X12.here hx rfl (hb hby at_78) ?_
    show Steps p.tables e below (T12.setTop (mkF m 79 #[.val (.int aa), .val (.int bb), .val (.int cc), .val (.ref rv), .val (.ref xs), .val (.int pv), .unset, .unset, .unset, .unset, .unset, .unset, .unset, .unset, .unset] [(.int (3 : Int32)), (.int ((pv + (1 : Int32)) + (bb &&& (1 : Int32))))])) tgt
    refine iremM X12 hx rfl (hb hby at_79) rfl (by decide) ?_
    show Steps p.tables e below (T12.setTop (mkF m 80 #[.val (.int aa), .val (.int bb), .val (.int cc), .val (.ref rv), .val (.ref xs), .val (.int pv), .unset, .unset, .unset, .unset, .unset, .unset, .unset, .unset, .unset] [(.int (((pv + (1 : Int32)) + (bb &&& (1 : Int32))) % (3 : Int32)))])) tgt
    refine XS.istore X12.here hx rfl (hb hby at_80) rfl (l' := #[.val (.int aa), .val (.int bb), .val (.int cc), .val (.ref rv), .val (.ref xs), .val (.int pv), .val (.int (((pv + (1 : Int32)) + (bb &&& (1 : Int32))) % (3 : Int32))), .unset, .unset, .unset, .unset, .unset, .unset, .unset, .unset]) rfl ?_
    exact k
  obtain ⟨qv, hqv⟩ : ∃ z : Int32, z = (((pv + (1 : Int32)) + (bb &&& (1 : Int32))) % (3 : Int32)) := ⟨_, rfl⟩
  rw [← hqv]
  have hq0 : 0 ≤ qv.toInt ∧ qv.toInt < 3 := by rw [hqv]; exact own_q pv bb hp0.1 hp0.2
  have hq1 : qv.toInt = (qv.toInt.toNat : Int) := by omega
  have hq2 : qv.toInt.toNat < 3 := by omega
  refine own_st (V := T12.setTop (mkF m 85 #[.val (.int aa), .val (.int bb), .val (.int cc), .val (.ref rv), .val (.ref xs), .val (.int pv), .val (.int qv), .unset, .unset, .unset, .unset, .unset, .unset, .unset, .unset] [(.int (cc &&& (1 : Int32)))])) (fun tgt k => ?_) ?_
  · show Steps p.tables e below (T12.setTop (mkF m 82 #[.val (.int aa), .val (.int bb), .val (.int cc), .val (.ref rv), .val (.ref xs), .val (.int pv), .val (.int qv), .unset, .unset, .unset, .unset, .unset, .unset, .unset, .unset] [])) tgt
    refine XS.iloadN X12.here hx rfl (hb hby at_82) rfl ?_
    show Steps p.tables e below (T12.setTop (mkF m 83 #[.val (.int aa), .val (.int bb), .val (.int cc), .val (.ref rv), .val (.ref xs), .val (.int pv), .val (.int qv), .unset, .unset, .unset, .unset, .unset, .unset, .unset, .unset] [(.int cc)])) tgt
    refine XS.iconst X12.here hx rfl (hb hby at_83) ?_
    show Steps p.tables e below (T12.setTop (mkF m 84 #[.val (.int aa), .val (.int bb), .val (.int cc), .val (.ref rv), .val (.ref xs), .val (.int pv), .val (.int qv), .unset, .unset, .unset, .unset, .unset, .unset, .unset, .unset] [(.int (1 : Int32)), (.int cc)])) tgt
    refine XS.iand X12.here hx rfl (hb hby at_84) rfl ?_
    exact k
  by_cases hc85 : (cc &&& (1 : Int32)) = (0 : Int32)
  · skip
    refine own_st (V := T12.setTop (mkF m 98 #[.val (.int aa), .val (.int bb), .val (.int cc), .val (.ref rv), .val (.ref xs), .val (.int pv), .val (.int qv), .val (.int (0 : Int32)), .unset, .unset, .unset, .unset, .unset, .unset, .unset] [(.int (cc &&& (2 : Int32)))])) (fun tgt k => ?_) ?_
    · show Steps p.tables e below (T12.setTop (mkF m 85 #[.val (.int aa), .val (.int bb), .val (.int cc), .val (.ref rv), .val (.ref xs), .val (.int pv), .val (.int qv), .unset, .unset, .unset, .unset, .unset, .unset, .unset, .unset] [(.int (cc &&& (1 : Int32)))])) tgt
      refine XS.ifYes X12.here hx rfl (pc0 := 85) (pc' := 92) rfl (hb hby at_85) rfl ((if0 _ _).trans (teq hc85).1) (by decide) (by decide) ?_
      show Steps p.tables e below (T12.setTop (mkF m 92 #[.val (.int aa), .val (.int bb), .val (.int cc), .val (.ref rv), .val (.ref xs), .val (.int pv), .val (.int qv), .unset, .unset, .unset, .unset, .unset, .unset, .unset, .unset] [])) tgt
      refine XS.iconst X12.here hx rfl (hb hby at_92) ?_
      show Steps p.tables e below (T12.setTop (mkF m 93 #[.val (.int aa), .val (.int bb), .val (.int cc), .val (.ref rv), .val (.ref xs), .val (.int pv), .val (.int qv), .unset, .unset, .unset, .unset, .unset, .unset, .unset, .unset] [(.int (0 : Int32))])) tgt
      refine XS.istore X12.here hx rfl (hb hby at_93) rfl (l' := #[.val (.int aa), .val (.int bb), .val (.int cc), .val (.ref rv), .val (.ref xs), .val (.int pv), .val (.int qv), .val (.int (0 : Int32)), .unset, .unset, .unset, .unset, .unset, .unset, .unset]) rfl ?_
      show Steps p.tables e below (T12.setTop (mkF m 95 #[.val (.int aa), .val (.int bb), .val (.int cc), .val (.ref rv), .val (.ref xs), .val (.int pv), .val (.int qv), .val (.int (0 : Int32)), .unset, .unset, .unset, .unset, .unset, .unset, .unset] [])) tgt
      refine XS.iloadN X12.here hx rfl (hb hby at_95) rfl ?_
      show Steps p.tables e below (T12.setTop (mkF m 96 #[.val (.int aa), .val (.int bb), .val (.int cc), .val (.ref rv), .val (.ref xs), .val (.int pv), .val (.int qv), .val (.int (0 : Int32)), .unset, .unset, .unset, .unset, .unset, .unset, .unset] [(.int cc)])) tgt
      refine XS.iconst X12.here hx rfl (hb hby at_96) ?_
      show Steps p.tables e below (T12.setTop (mkF m 97 #[.val (.int aa), .val (.int bb), .val (.int cc), .val (.ref rv), .val (.ref xs), .val (.int pv), .val (.int qv), .val (.int (0 : Int32)), .unset, .unset, .unset, .unset, .unset, .unset, .unset] [(.int (2 : Int32)), (.int cc)])) tgt
      refine XS.iand X12.here hx rfl (hb hby at_97) rfl ?_
      exact k
    by_cases hc98 : (cc &&& (2 : Int32)) = (0 : Int32)
    · skip
      refine own_st (V := T12.setTop (mkF m 137 #[.val (.int aa), .val (.int bb), .val (.int cc), .val (.ref rv), .val (.ref xs), .val (.int pv), .val (.int qv), .val (.int (0 : Int32)), .val (.int (0 : Int32)), .unset, .unset, .unset, .unset, .unset, .unset] [(.ref rv)])) (fun tgt k => ?_) ?_
      · show Steps p.tables e below (T12.setTop (mkF m 98 #[.val (.int aa), .val (.int bb), .val (.int cc), .val (.ref rv), .val (.ref xs), .val (.int pv), .val (.int qv), .val (.int (0 : Int32)), .unset, .unset, .unset, .unset, .unset, .unset, .unset] [(.int (cc &&& (2 : Int32)))])) tgt
        refine XS.ifYes X12.here hx rfl (pc0 := 98) (pc' := 105) rfl (hb hby at_98) rfl ((if0 _ _).trans (teq hc98).1) (by decide) (by decide) ?_
        show Steps p.tables e below (T12.setTop (mkF m 105 #[.val (.int aa), .val (.int bb), .val (.int cc), .val (.ref rv), .val (.ref xs), .val (.int pv), .val (.int qv), .val (.int (0 : Int32)), .unset, .unset, .unset, .unset, .unset, .unset, .unset] [])) tgt
        refine XS.iconst X12.here hx rfl (hb hby at_105) ?_
        show Steps p.tables e below (T12.setTop (mkF m 106 #[.val (.int aa), .val (.int bb), .val (.int cc), .val (.ref rv), .val (.ref xs), .val (.int pv), .val (.int qv), .val (.int (0 : Int32)), .unset, .unset, .unset, .unset, .unset, .unset, .unset] [(.int (0 : Int32))])) tgt
        refine XS.istore X12.here hx rfl (hb hby at_106) rfl (l' := #[.val (.int aa), .val (.int bb), .val (.int cc), .val (.ref rv), .val (.ref xs), .val (.int pv), .val (.int qv), .val (.int (0 : Int32)), .val (.int (0 : Int32)), .unset, .unset, .unset, .unset, .unset, .unset]) rfl ?_
        show Steps p.tables e below (T12.setTop (mkF m 108 #[.val (.int aa), .val (.int bb), .val (.int cc), .val (.ref rv), .val (.ref xs), .val (.int pv), .val (.int qv), .val (.int (0 : Int32)), .val (.int (0 : Int32)), .unset, .unset, .unset, .unset, .unset, .unset] [])) tgt
        refine XS.iload X12.here hx rfl (hb hby at_108) rfl ?_
        show Steps p.tables e below (T12.setTop (mkF m 110 #[.val (.int aa), .val (.int bb), .val (.int cc), .val (.ref rv), .val (.ref xs), .val (.int pv), .val (.int qv), .val (.int (0 : Int32)), .val (.int (0 : Int32)), .unset, .unset, .unset, .unset, .unset, .unset] [(.int (0 : Int32))])) tgt
        refine XS.ifYes X12.here hx rfl (pc0 := 110) (pc' := 122) rfl (hb hby at_110) rfl ((if0 _ _).trans (teq (by decide : (0 : Int32) = (0 : Int32))).1) (by decide) (by decide) ?_
        show Steps p.tables e below (T12.setTop (mkF m 122 #[.val (.int aa), .val (.int bb), .val (.int cc), .val (.ref rv), .val (.ref xs), .val (.int pv), .val (.int qv), .val (.int (0 : Int32)), .val (.int (0 : Int32)), .unset, .unset, .unset, .unset, .unset, .unset] [])) tgt
        refine XS.iload X12.here hx rfl (hb hby at_122) rfl ?_
        show Steps p.tables e below (T12.setTop (mkF m 124 #[.val (.int aa), .val (.int bb), .val (.int cc), .val (.ref rv), .val (.ref xs), .val (.int pv), .val (.int qv), .val (.int (0 : Int32)), .val (.int (0 : Int32)), .unset, .unset, .unset, .unset, .unset, .unset] [(.int (0 : Int32))])) tgt
        refine XS.ifYes X12.here hx rfl (pc0 := 124) (pc' := 136) rfl (hb hby at_124) rfl ((if0 _ _).trans (teq (by decide : (0 : Int32) = (0 : Int32))).1) (by decide) (by decide) ?_
        show Steps p.tables e below (T12.setTop (mkF m 136 #[.val (.int aa), .val (.int bb), .val (.int cc), .val (.ref rv), .val (.ref xs), .val (.int pv), .val (.int qv), .val (.int (0 : Int32)), .val (.int (0 : Int32)), .unset, .unset, .unset, .unset, .unset, .unset] [])) tgt
        refine XS.aloadN X12.here hx rfl (hb hby at_136) rfl rfl ?_
        exact k
      obtain ⟨cq14, kq14, q14a, q14b, q14c⟩ := isOf hZ e12 E_rv_12
      obtain ⟨_, _, ⟨T14, L14, k14, n14⟩, -, X14, ⟨Lc14, hQ14, l14, y14, z14⟩, st14⟩ := X12.virtualBack hx (y := (⟨"com/example/sigpoint/sigpoint/Rows", "add", "()I"⟩ : MethodName)) (z := (⟨"com/example/sigpoint/sigpoint/Rows", "add", "()I"⟩ : MethodName)) hown (mvT hZ (hw _ (List.mem_of_getElem? (i := 12) rfl))) (mvT hZ (hw _ (List.mem_of_getElem? (i := 13) rfl))) (notFace_of_selects (args := #[]) (mvT hZ (hw _ (List.mem_of_getElem? (i := 15) rfl)))) (mvT hZ (hw _ (List.mem_of_getElem? (i := 15) rfl))) (mvT hZ (hw _ (List.mem_of_getElem? (i := 14) rfl))) (by decide) (backOf (W := 0) (rm3b l Z a0 hw [] rv fr_2 (0 : Int32) (3 : Int32) (fun _ => 0) h12 n0 Zs12 E_rv_12 F_rv_free_12 F_rv_freeCount_12 F_rv_high_12 A_fr_2_12 g_rv g2_1 g2_2 (by first | assumption | decide | rfl)) hZ (hw _ (List.mem_of_getElem? (i := 16) rfl)) (hw _ (List.mem_of_getElem? (i := 2) rfl)) (by decide) (by decide)) q14a q14c (g := (mkF m 137 #[.val (.int aa), .val (.int bb), .val (.int cc), .val (.ref rv), .val (.ref xs), .val (.int pv), .val (.int qv), .val (.int (0 : Int32)), .val (.int (0 : Int32)), .unset, .unset, .unset, .unset, .unset, .unset] [(.ref rv)])) rfl (by rw [hml]; rfl) (Steps.refl _) (argsL := []) (rest := []) (lenOf pd_0_1 rfl) rfl (by show 2 * 0 + _ ≤ _; exact Nat.le_of_eq rfl) (hb hby at_137) (fun _ _ => ⟨rfl, e12, (by decide : 3 + 0 ≤ _), (by decide : 22 + 0 ≤ _)⟩)
      dsimp only [Pt.U, Pt.locs, Pt.cells, Pt.slots] at X14 l14 y14 z14 st14 hQ14
      subst l14 y14 z14
      obtain ⟨rfl, N14q, K14, g14_0, g14_1, g14_2, g14_3⟩ := hQ14
      have N14 := Fr.app N12 N14q
      have E_rv_14 := E_rv_12.keep K14
      have A_fr_2_14 := A_fr_2_12.keep K14 (ninS (Ne.symm g2_2) nin0)
      have A_xs_14 := Af_xs_13.keep K14 (ninS (Ne.symm ne_rv_xs) nin0)
      have Zs14 : n0 ≤ T14.heap.size := Nat.le_trans Zs12 K14.1
      refine own_st (fun tgt k => st14.trans k) ?_
      show own_Go p e below _ (T14.setTop (mkF m 140 #[.val (.int aa), .val (.int bb), .val (.int cc), .val (.ref rv), .val (.ref xs), .val (.int pv), .val (.int qv), .val (.int (0 : Int32)), .val (.int (0 : Int32)), .unset, .unset, .unset, .unset, .unset, .unset] [(.int (3 : Int32))]))
      have Ff_rv_15 := g14_3
      rw [show ((3 : Int32) + (1 : Int32)) = (4 : Int32) from by decide] at Ff_rv_15
      refine own_st (V := T14.setTop (mkF m 143 #[.val (.int aa), .val (.int bb), .val (.int cc), .val (.ref rv), .val (.ref xs), .val (.int pv), .val (.int qv), .val (.int (0 : Int32)), .val (.int (0 : Int32)), .val (.int (3 : Int32)), .unset, .unset, .unset, .unset, .unset] [(.ref rv)])) (fun tgt k => ?_) ?_
      · show Steps p.tables e below (T14.setTop (mkF m 140 #[.val (.int aa), .val (.int bb), .val (.int cc), .val (.ref rv), .val (.ref xs), .val (.int pv), .val (.int qv), .val (.int (0 : Int32)), .val (.int (0 : Int32)), .unset, .unset, .unset, .unset, .unset, .unset] [(.int (3 : Int32))])) tgt
        refine XS.istore X14.here hx rfl (hb hby at_140) rfl (l' := #[.val (.int aa), .val (.int bb), .val (.int cc), .val (.ref rv), .val (.ref xs), .val (.int pv), .val (.int qv), .val (.int (0 : Int32)), .val (.int (0 : Int32)), .val (.int (3 : Int32)), .unset, .unset, .unset, .unset, .unset]) rfl ?_
        show Steps p.tables e below (T14.setTop (mkF m 142 #[.val (.int aa), .val (.int bb), .val (.int cc), .val (.ref rv), .val (.ref xs), .val (.int pv), .val (.int qv), .val (.int (0 : Int32)), .val (.int (0 : Int32)), .val (.int (3 : Int32)), .unset, .unset, .unset, .unset, .unset] [])) tgt
        refine XS.aloadN X14.here hx rfl (hb hby at_142) rfl rfl ?_
        exact k
      obtain ⟨cq16, kq16, q16a, q16b, q16c⟩ := isOf hZ rfl g14_0
      obtain ⟨_, _, ⟨T16, L16, k16, n16⟩, -, X16, ⟨Lc16, hQ16, l16, y16, z16⟩, st16⟩ := X14.virtualBack hx (y := (⟨"com/example/sigpoint/sigpoint/Rows", "add", "()I"⟩ : MethodName)) (z := (⟨"com/example/sigpoint/sigpoint/Rows", "add", "()I"⟩ : MethodName)) hown (mvT hZ (hw _ (List.mem_of_getElem? (i := 12) rfl))) (mvT hZ (hw _ (List.mem_of_getElem? (i := 13) rfl))) (notFace_of_selects (args := #[]) (mvT hZ (hw _ (List.mem_of_getElem? (i := 15) rfl)))) (mvT hZ (hw _ (List.mem_of_getElem? (i := 15) rfl))) (mvT hZ (hw _ (List.mem_of_getElem? (i := 14) rfl))) (by decide) (backOf (W := 0) (rm3b l Z a0 hw [] rv fr_2 (0 : Int32) (4 : Int32) (fun _ => 0) T14.heap n0 Zs14 g14_0 g14_1 g14_2 Ff_rv_15 A_fr_2_14 g_rv g2_1 g2_2 (by first | assumption | decide | rfl)) hZ (hw _ (List.mem_of_getElem? (i := 16) rfl)) (hw _ (List.mem_of_getElem? (i := 2) rfl)) (by decide) (by decide)) q16a q16c (g := (mkF m 143 #[.val (.int aa), .val (.int bb), .val (.int cc), .val (.ref rv), .val (.ref xs), .val (.int pv), .val (.int qv), .val (.int (0 : Int32)), .val (.int (0 : Int32)), .val (.int (3 : Int32)), .unset, .unset, .unset, .unset, .unset] [(.ref rv)])) rfl (by rw [hml]; rfl) (Steps.refl _) (argsL := []) (rest := []) (lenOf pd_0_1 rfl) rfl (by show 2 * 0 + _ ≤ _; exact Nat.le_of_eq rfl) (hb hby at_143) (fun _ _ => ⟨rfl, rfl, (by decide : 3 + 0 ≤ _), (by decide : 22 + 0 ≤ _)⟩)
      dsimp only [Pt.U, Pt.locs, Pt.cells, Pt.slots] at X16 l16 y16 z16 st16 hQ16
      subst l16 y16 z16
      obtain ⟨rfl, N16q, K16, g16_0, g16_1, g16_2, g16_3⟩ := hQ16
      have N16 := Fr.app N14 N16q
      have E_rv_16 := g14_0.keep K16
      have A_fr_2_16 := A_fr_2_14.keep K16 (ninS (Ne.symm g2_2) nin0)
      have A_xs_16 := A_xs_14.keep K16 (ninS (Ne.symm ne_rv_xs) nin0)
      have Zs16 : n0 ≤ T16.heap.size := Nat.le_trans Zs14 K16.1
      refine own_st (fun tgt k => st16.trans k) ?_
      show own_Go p e below _ (T16.setTop (mkF m 146 #[.val (.int aa), .val (.int bb), .val (.int cc), .val (.ref rv), .val (.ref xs), .val (.int pv), .val (.int qv), .val (.int (0 : Int32)), .val (.int (0 : Int32)), .val (.int (3 : Int32)), .unset, .unset, .unset, .unset, .unset] [(.int (4 : Int32))]))
      have Ff_rv_17 := g16_3
      rw [show ((4 : Int32) + (1 : Int32)) = (5 : Int32) from by decide] at Ff_rv_17
      refine own_st (V := T16.setTop (mkF m 149 #[.val (.int aa), .val (.int bb), .val (.int cc), .val (.ref rv), .val (.ref xs), .val (.int pv), .val (.int qv), .val (.int (0 : Int32)), .val (.int (0 : Int32)), .val (.int (3 : Int32)), .val (.int (4 : Int32)), .unset, .unset, .unset, .unset] [(.ref rv)])) (fun tgt k => ?_) ?_
      · show Steps p.tables e below (T16.setTop (mkF m 146 #[.val (.int aa), .val (.int bb), .val (.int cc), .val (.ref rv), .val (.ref xs), .val (.int pv), .val (.int qv), .val (.int (0 : Int32)), .val (.int (0 : Int32)), .val (.int (3 : Int32)), .unset, .unset, .unset, .unset, .unset] [(.int (4 : Int32))])) tgt
        refine XS.istore X16.here hx rfl (hb hby at_146) rfl (l' := #[.val (.int aa), .val (.int bb), .val (.int cc), .val (.ref rv), .val (.ref xs), .val (.int pv), .val (.int qv), .val (.int (0 : Int32)), .val (.int (0 : Int32)), .val (.int (3 : Int32)), .val (.int (4 : Int32)), .unset, .unset, .unset, .unset]) rfl ?_
        show Steps p.tables e below (T16.setTop (mkF m 148 #[.val (.int aa), .val (.int bb), .val (.int cc), .val (.ref rv), .val (.ref xs), .val (.int pv), .val (.int qv), .val (.int (0 : Int32)), .val (.int (0 : Int32)), .val (.int (3 : Int32)), .val (.int (4 : Int32)), .unset, .unset, .unset, .unset] [])) tgt
        refine XS.aloadN X16.here hx rfl (hb hby at_148) rfl rfl ?_
        exact k
      obtain ⟨cq18, kq18, q18a, q18b, q18c⟩ := isOf hZ rfl g16_0
      obtain ⟨_, _, ⟨T18, L18, k18, n18⟩, -, X18, ⟨Lc18, hQ18, l18, y18, z18⟩, st18⟩ := X16.virtualBack hx (y := (⟨"com/example/sigpoint/sigpoint/Rows", "high", "()I"⟩ : MethodName)) (z := (⟨"com/example/sigpoint/sigpoint/Rows", "high", "()I"⟩ : MethodName)) hown (mvT hZ (hw _ (List.mem_of_getElem? (i := 27) rfl))) (mvT hZ (hw _ (List.mem_of_getElem? (i := 28) rfl))) (notFace_of_selects (args := #[]) (mvT hZ (hw _ (List.mem_of_getElem? (i := 30) rfl)))) (mvT hZ (hw _ (List.mem_of_getElem? (i := 30) rfl))) (mvT hZ (hw _ (List.mem_of_getElem? (i := 29) rfl))) (by decide) (backOf (W := 0) (rm5 l Z a0 hw [] rv (5 : Int32) T16.heap n0 Zs16 Ff_rv_17) hZ (hw _ (List.mem_of_getElem? (i := 31) rfl)) (hw _ (List.mem_of_getElem? (i := 2) rfl)) (by decide) (by decide)) q18a q18c (g := (mkF m 149 #[.val (.int aa), .val (.int bb), .val (.int cc), .val (.ref rv), .val (.ref xs), .val (.int pv), .val (.int qv), .val (.int (0 : Int32)), .val (.int (0 : Int32)), .val (.int (3 : Int32)), .val (.int (4 : Int32)), .unset, .unset, .unset, .unset] [(.ref rv)])) rfl (by rw [hml]; rfl) (Steps.refl _) (argsL := []) (rest := []) (lenOf pd_0_1 rfl) rfl (by show 2 * 0 + _ ≤ _; exact Nat.le_of_eq rfl) (hb hby at_149) (fun _ _ => ⟨rfl, rfl, (by decide : 3 + 0 ≤ _), (by decide : 22 + 0 ≤ _)⟩)
      dsimp only [Pt.U, Pt.locs, Pt.cells, Pt.slots] at X18 l18 y18 z18 st18 hQ18
      subst l18 y18 z18
      obtain ⟨rfl, N18q, K18⟩ := hQ18
      have N18 := Fr.app N16 N18q
      refine own_st (fun tgt k => st18.trans k) ?_
      show own_Go p e below _ (T18.setTop (mkF m 152 #[.val (.int aa), .val (.int bb), .val (.int cc), .val (.ref rv), .val (.ref xs), .val (.int pv), .val (.int qv), .val (.int (0 : Int32)), .val (.int (0 : Int32)), .val (.int (3 : Int32)), .val (.int (4 : Int32)), .unset, .unset, .unset, .unset] [(.int (5 : Int32))]))
      refine own_st (V := T18.setTop (mkF m 249 #[.val (.int aa), .val (.int bb), .val (.int cc), .val (.ref rv), .val (.ref xs), .val (.int pv), .val (.int qv), .val (.int (0 : Int32)), .val (.int (0 : Int32)), .val (.int (3 : Int32)), .val (.int (4 : Int32)), .val (.int (5 : Int32)), .val (.int (3 : Int32)), .val (.int (4 : Int32)), .val (.int (5 : Int32))] [(.int (1 : Int32))])) (fun tgt k => ?_) ?_
      · show Steps p.tables e below (T18.setTop (mkF m 152 #[.val (.int aa), .val (.int bb), .val (.int cc), .val (.ref rv), .val (.ref xs), .val (.int pv), .val (.int qv), .val (.int (0 : Int32)), .val (.int (0 : Int32)), .val (.int (3 : Int32)), .val (.int (4 : Int32)), .unset, .unset, .unset, .unset] [(.int (5 : Int32))])) tgt
        refine XS.istore X18.here hx rfl (hb hby at_152) rfl (l' := #[.val (.int aa), .val (.int bb), .val (.int cc), .val (.ref rv), .val (.ref xs), .val (.int pv), .val (.int qv), .val (.int (0 : Int32)), .val (.int (0 : Int32)), .val (.int (3 : Int32)), .val (.int (4 : Int32)), .val (.int (5 : Int32)), .unset, .unset, .unset]) rfl ?_
        show Steps p.tables e below (T18.setTop (mkF m 154 #[.val (.int aa), .val (.int bb), .val (.int cc), .val (.ref rv), .val (.ref xs), .val (.int pv), .val (.int qv), .val (.int (0 : Int32)), .val (.int (0 : Int32)), .val (.int (3 : Int32)), .val (.int (4 : Int32)), .val (.int (5 : Int32)), .unset, .unset, .unset] [])) tgt
        refine XS.iload X18.here hx rfl (hb hby at_154) rfl ?_
        show Steps p.tables e below (T18.setTop (mkF m 156 #[.val (.int aa), .val (.int bb), .val (.int cc), .val (.ref rv), .val (.ref xs), .val (.int pv), .val (.int qv), .val (.int (0 : Int32)), .val (.int (0 : Int32)), .val (.int (3 : Int32)), .val (.int (4 : Int32)), .val (.int (5 : Int32)), .unset, .unset, .unset] [(.int (0 : Int32))])) tgt
        refine XS.ifYes X18.here hx rfl (pc0 := 156) (pc' := 178) rfl (hb hby at_156) rfl ((if0 _ _).trans (teq (by decide : (0 : Int32) = (0 : Int32))).1) (by decide) (by decide) ?_
        show Steps p.tables e below (T18.setTop (mkF m 178 #[.val (.int aa), .val (.int bb), .val (.int cc), .val (.ref rv), .val (.ref xs), .val (.int pv), .val (.int qv), .val (.int (0 : Int32)), .val (.int (0 : Int32)), .val (.int (3 : Int32)), .val (.int (4 : Int32)), .val (.int (5 : Int32)), .unset, .unset, .unset] [])) tgt
        refine XS.iload X18.here hx rfl (hb hby at_178) rfl ?_
        show Steps p.tables e below (T18.setTop (mkF m 180 #[.val (.int aa), .val (.int bb), .val (.int cc), .val (.ref rv), .val (.ref xs), .val (.int pv), .val (.int qv), .val (.int (0 : Int32)), .val (.int (0 : Int32)), .val (.int (3 : Int32)), .val (.int (4 : Int32)), .val (.int (5 : Int32)), .unset, .unset, .unset] [(.int (0 : Int32))])) tgt
        refine XS.ifYes X18.here hx rfl (pc0 := 180) (pc' := 196) rfl (hb hby at_180) rfl ((if0 _ _).trans (teq (by decide : (0 : Int32) = (0 : Int32))).1) (by decide) (by decide) ?_
        show Steps p.tables e below (T18.setTop (mkF m 196 #[.val (.int aa), .val (.int bb), .val (.int cc), .val (.ref rv), .val (.ref xs), .val (.int pv), .val (.int qv), .val (.int (0 : Int32)), .val (.int (0 : Int32)), .val (.int (3 : Int32)), .val (.int (4 : Int32)), .val (.int (5 : Int32)), .unset, .unset, .unset] [])) tgt
        refine XS.iload X18.here hx rfl (hb hby at_196) rfl ?_
        show Steps p.tables e below (T18.setTop (mkF m 198 #[.val (.int aa), .val (.int bb), .val (.int cc), .val (.ref rv), .val (.ref xs), .val (.int pv), .val (.int qv), .val (.int (0 : Int32)), .val (.int (0 : Int32)), .val (.int (3 : Int32)), .val (.int (4 : Int32)), .val (.int (5 : Int32)), .unset, .unset, .unset] [(.int (0 : Int32))])) tgt
        refine XS.ifYes X18.here hx rfl (pc0 := 198) (pc' := 214) rfl (hb hby at_198) rfl ((if0 _ _).trans (teq (by decide : (0 : Int32) = (0 : Int32))).1) (by decide) (by decide) ?_
        show Steps p.tables e below (T18.setTop (mkF m 214 #[.val (.int aa), .val (.int bb), .val (.int cc), .val (.ref rv), .val (.ref xs), .val (.int pv), .val (.int qv), .val (.int (0 : Int32)), .val (.int (0 : Int32)), .val (.int (3 : Int32)), .val (.int (4 : Int32)), .val (.int (5 : Int32)), .unset, .unset, .unset] [])) tgt
        refine XS.iconst X18.here hx rfl (hb hby at_214) ?_
        show Steps p.tables e below (T18.setTop (mkF m 215 #[.val (.int aa), .val (.int bb), .val (.int cc), .val (.ref rv), .val (.ref xs), .val (.int pv), .val (.int qv), .val (.int (0 : Int32)), .val (.int (0 : Int32)), .val (.int (3 : Int32)), .val (.int (4 : Int32)), .val (.int (5 : Int32)), .unset, .unset, .unset] [(.int (3 : Int32))])) tgt
        refine XS.istore X18.here hx rfl (hb hby at_215) rfl (l' := #[.val (.int aa), .val (.int bb), .val (.int cc), .val (.ref rv), .val (.ref xs), .val (.int pv), .val (.int qv), .val (.int (0 : Int32)), .val (.int (0 : Int32)), .val (.int (3 : Int32)), .val (.int (4 : Int32)), .val (.int (5 : Int32)), .val (.int (3 : Int32)), .unset, .unset]) rfl ?_
        show Steps p.tables e below (T18.setTop (mkF m 217 #[.val (.int aa), .val (.int bb), .val (.int cc), .val (.ref rv), .val (.ref xs), .val (.int pv), .val (.int qv), .val (.int (0 : Int32)), .val (.int (0 : Int32)), .val (.int (3 : Int32)), .val (.int (4 : Int32)), .val (.int (5 : Int32)), .val (.int (3 : Int32)), .unset, .unset] [])) tgt
        refine XS.iconst X18.here hx rfl (hb hby at_217) ?_
        show Steps p.tables e below (T18.setTop (mkF m 218 #[.val (.int aa), .val (.int bb), .val (.int cc), .val (.ref rv), .val (.ref xs), .val (.int pv), .val (.int qv), .val (.int (0 : Int32)), .val (.int (0 : Int32)), .val (.int (3 : Int32)), .val (.int (4 : Int32)), .val (.int (5 : Int32)), .val (.int (3 : Int32)), .unset, .unset] [(.int (4 : Int32))])) tgt
        refine XS.istore X18.here hx rfl (hb hby at_218) rfl (l' := #[.val (.int aa), .val (.int bb), .val (.int cc), .val (.ref rv), .val (.ref xs), .val (.int pv), .val (.int qv), .val (.int (0 : Int32)), .val (.int (0 : Int32)), .val (.int (3 : Int32)), .val (.int (4 : Int32)), .val (.int (5 : Int32)), .val (.int (3 : Int32)), .val (.int (4 : Int32)), .unset]) rfl ?_
        show Steps p.tables e below (T18.setTop (mkF m 220 #[.val (.int aa), .val (.int bb), .val (.int cc), .val (.ref rv), .val (.ref xs), .val (.int pv), .val (.int qv), .val (.int (0 : Int32)), .val (.int (0 : Int32)), .val (.int (3 : Int32)), .val (.int (4 : Int32)), .val (.int (5 : Int32)), .val (.int (3 : Int32)), .val (.int (4 : Int32)), .unset] [])) tgt
        refine XS.iconst X18.here hx rfl (hb hby at_220) ?_
        show Steps p.tables e below (T18.setTop (mkF m 221 #[.val (.int aa), .val (.int bb), .val (.int cc), .val (.ref rv), .val (.ref xs), .val (.int pv), .val (.int qv), .val (.int (0 : Int32)), .val (.int (0 : Int32)), .val (.int (3 : Int32)), .val (.int (4 : Int32)), .val (.int (5 : Int32)), .val (.int (3 : Int32)), .val (.int (4 : Int32)), .unset] [(.int (5 : Int32))])) tgt
        refine XS.istore X18.here hx rfl (hb hby at_221) rfl (l' := #[.val (.int aa), .val (.int bb), .val (.int cc), .val (.ref rv), .val (.ref xs), .val (.int pv), .val (.int qv), .val (.int (0 : Int32)), .val (.int (0 : Int32)), .val (.int (3 : Int32)), .val (.int (4 : Int32)), .val (.int (5 : Int32)), .val (.int (3 : Int32)), .val (.int (4 : Int32)), .val (.int (5 : Int32))]) rfl ?_
        show Steps p.tables e below (T18.setTop (mkF m 223 #[.val (.int aa), .val (.int bb), .val (.int cc), .val (.ref rv), .val (.ref xs), .val (.int pv), .val (.int qv), .val (.int (0 : Int32)), .val (.int (0 : Int32)), .val (.int (3 : Int32)), .val (.int (4 : Int32)), .val (.int (5 : Int32)), .val (.int (3 : Int32)), .val (.int (4 : Int32)), .val (.int (5 : Int32))] [])) tgt
        refine XS.iload X18.here hx rfl (hb hby at_223) rfl ?_
        show Steps p.tables e below (T18.setTop (mkF m 225 #[.val (.int aa), .val (.int bb), .val (.int cc), .val (.ref rv), .val (.ref xs), .val (.int pv), .val (.int qv), .val (.int (0 : Int32)), .val (.int (0 : Int32)), .val (.int (3 : Int32)), .val (.int (4 : Int32)), .val (.int (5 : Int32)), .val (.int (3 : Int32)), .val (.int (4 : Int32)), .val (.int (5 : Int32))] [(.int (3 : Int32))])) tgt
        refine XS.iload X18.here hx rfl (hb hby at_225) rfl ?_
        show Steps p.tables e below (T18.setTop (mkF m 227 #[.val (.int aa), .val (.int bb), .val (.int cc), .val (.ref rv), .val (.ref xs), .val (.int pv), .val (.int qv), .val (.int (0 : Int32)), .val (.int (0 : Int32)), .val (.int (3 : Int32)), .val (.int (4 : Int32)), .val (.int (5 : Int32)), .val (.int (3 : Int32)), .val (.int (4 : Int32)), .val (.int (5 : Int32))] [(.int (3 : Int32)), (.int (3 : Int32))])) tgt
        refine XS.icmpNo X18.here hx rfl (hb hby at_227) rfl (teq (by decide : (3 : Int32) = (3 : Int32))).2 ?_
        show Steps p.tables e below (T18.setTop (mkF m 230 #[.val (.int aa), .val (.int bb), .val (.int cc), .val (.ref rv), .val (.ref xs), .val (.int pv), .val (.int qv), .val (.int (0 : Int32)), .val (.int (0 : Int32)), .val (.int (3 : Int32)), .val (.int (4 : Int32)), .val (.int (5 : Int32)), .val (.int (3 : Int32)), .val (.int (4 : Int32)), .val (.int (5 : Int32))] [])) tgt
        refine XS.iload X18.here hx rfl (hb hby at_230) rfl ?_
        show Steps p.tables e below (T18.setTop (mkF m 232 #[.val (.int aa), .val (.int bb), .val (.int cc), .val (.ref rv), .val (.ref xs), .val (.int pv), .val (.int qv), .val (.int (0 : Int32)), .val (.int (0 : Int32)), .val (.int (3 : Int32)), .val (.int (4 : Int32)), .val (.int (5 : Int32)), .val (.int (3 : Int32)), .val (.int (4 : Int32)), .val (.int (5 : Int32))] [(.int (4 : Int32))])) tgt
        refine XS.iload X18.here hx rfl (hb hby at_232) rfl ?_
        show Steps p.tables e below (T18.setTop (mkF m 234 #[.val (.int aa), .val (.int bb), .val (.int cc), .val (.ref rv), .val (.ref xs), .val (.int pv), .val (.int qv), .val (.int (0 : Int32)), .val (.int (0 : Int32)), .val (.int (3 : Int32)), .val (.int (4 : Int32)), .val (.int (5 : Int32)), .val (.int (3 : Int32)), .val (.int (4 : Int32)), .val (.int (5 : Int32))] [(.int (4 : Int32)), (.int (4 : Int32))])) tgt
        refine XS.icmpNo X18.here hx rfl (hb hby at_234) rfl (teq (by decide : (4 : Int32) = (4 : Int32))).2 ?_
        show Steps p.tables e below (T18.setTop (mkF m 237 #[.val (.int aa), .val (.int bb), .val (.int cc), .val (.ref rv), .val (.ref xs), .val (.int pv), .val (.int qv), .val (.int (0 : Int32)), .val (.int (0 : Int32)), .val (.int (3 : Int32)), .val (.int (4 : Int32)), .val (.int (5 : Int32)), .val (.int (3 : Int32)), .val (.int (4 : Int32)), .val (.int (5 : Int32))] [])) tgt
        refine XS.iload X18.here hx rfl (hb hby at_237) rfl ?_
        show Steps p.tables e below (T18.setTop (mkF m 239 #[.val (.int aa), .val (.int bb), .val (.int cc), .val (.ref rv), .val (.ref xs), .val (.int pv), .val (.int qv), .val (.int (0 : Int32)), .val (.int (0 : Int32)), .val (.int (3 : Int32)), .val (.int (4 : Int32)), .val (.int (5 : Int32)), .val (.int (3 : Int32)), .val (.int (4 : Int32)), .val (.int (5 : Int32))] [(.int (5 : Int32))])) tgt
        refine XS.iload X18.here hx rfl (hb hby at_239) rfl ?_
        show Steps p.tables e below (T18.setTop (mkF m 241 #[.val (.int aa), .val (.int bb), .val (.int cc), .val (.ref rv), .val (.ref xs), .val (.int pv), .val (.int qv), .val (.int (0 : Int32)), .val (.int (0 : Int32)), .val (.int (3 : Int32)), .val (.int (4 : Int32)), .val (.int (5 : Int32)), .val (.int (3 : Int32)), .val (.int (4 : Int32)), .val (.int (5 : Int32))] [(.int (5 : Int32)), (.int (5 : Int32))])) tgt
        refine XS.icmpNo X18.here hx rfl (hb hby at_241) rfl (teq (by decide : (5 : Int32) = (5 : Int32))).2 ?_
        show Steps p.tables e below (T18.setTop (mkF m 244 #[.val (.int aa), .val (.int bb), .val (.int cc), .val (.ref rv), .val (.ref xs), .val (.int pv), .val (.int qv), .val (.int (0 : Int32)), .val (.int (0 : Int32)), .val (.int (3 : Int32)), .val (.int (4 : Int32)), .val (.int (5 : Int32)), .val (.int (3 : Int32)), .val (.int (4 : Int32)), .val (.int (5 : Int32))] [])) tgt
        refine XS.iconst X18.here hx rfl (hb hby at_244) ?_
        show Steps p.tables e below (T18.setTop (mkF m 245 #[.val (.int aa), .val (.int bb), .val (.int cc), .val (.ref rv), .val (.ref xs), .val (.int pv), .val (.int qv), .val (.int (0 : Int32)), .val (.int (0 : Int32)), .val (.int (3 : Int32)), .val (.int (4 : Int32)), .val (.int (5 : Int32)), .val (.int (3 : Int32)), .val (.int (4 : Int32)), .val (.int (5 : Int32))] [(.int (1 : Int32))])) tgt
        refine XS.goto X18.here hx rfl (pc0 := 245) (pc' := 249) rfl (hb hby at_245) (by decide) (by decide) ?_
        exact k
      refine own_retN X18 hx hlk (t := .boolean) (z' := (1 : Int32)) Bd.returns (by simp) rfl (hb hby at_249) ?_ (by decide) (by decide)
      show Q0 Z aa bb cc h0 n0 (some (.int (1 : Int32))) T18.heap _
      rw [K18]
      exact ⟨rfl, N18⟩
    · skip
      refine own_st (V := T12.setTop (mkF m 133 #[.val (.int aa), .val (.int bb), .val (.int cc), .val (.ref rv), .val (.ref xs), .val (.int pv), .val (.int qv), .val (.int (0 : Int32)), .val (.int (1 : Int32)), .unset, .unset, .unset, .unset, .unset, .unset] [(.int (own_X qv.toInt.toNat)), (.ref rv)])) (fun tgt k => ?_) ?_
      · show Steps p.tables e below (T12.setTop (mkF m 98 #[.val (.int aa), .val (.int bb), .val (.int cc), .val (.ref rv), .val (.ref xs), .val (.int pv), .val (.int qv), .val (.int (0 : Int32)), .unset, .unset, .unset, .unset, .unset, .unset, .unset] [(.int (cc &&& (2 : Int32)))])) tgt
        refine XS.ifNo X12.here hx rfl (hb hby at_98) rfl ((if0 _ _).trans (feq hc98).1) ?_
        show Steps p.tables e below (T12.setTop (mkF m 101 #[.val (.int aa), .val (.int bb), .val (.int cc), .val (.ref rv), .val (.ref xs), .val (.int pv), .val (.int qv), .val (.int (0 : Int32)), .unset, .unset, .unset, .unset, .unset, .unset, .unset] [])) tgt
        refine XS.iconst X12.here hx rfl (hb hby at_101) ?_
        show Steps p.tables e below (T12.setTop (mkF m 102 #[.val (.int aa), .val (.int bb), .val (.int cc), .val (.ref rv), .val (.ref xs), .val (.int pv), .val (.int qv), .val (.int (0 : Int32)), .unset, .unset, .unset, .unset, .unset, .unset, .unset] [(.int (1 : Int32))])) tgt
        refine XS.goto X12.here hx rfl (pc0 := 102) (pc' := 106) rfl (hb hby at_102) (by decide) (by decide) ?_
        show Steps p.tables e below (T12.setTop (mkF m 106 #[.val (.int aa), .val (.int bb), .val (.int cc), .val (.ref rv), .val (.ref xs), .val (.int pv), .val (.int qv), .val (.int (0 : Int32)), .unset, .unset, .unset, .unset, .unset, .unset, .unset] [(.int (1 : Int32))])) tgt
        refine XS.istore X12.here hx rfl (hb hby at_106) rfl (l' := #[.val (.int aa), .val (.int bb), .val (.int cc), .val (.ref rv), .val (.ref xs), .val (.int pv), .val (.int qv), .val (.int (0 : Int32)), .val (.int (1 : Int32)), .unset, .unset, .unset, .unset, .unset, .unset]) rfl ?_
        show Steps p.tables e below (T12.setTop (mkF m 108 #[.val (.int aa), .val (.int bb), .val (.int cc), .val (.ref rv), .val (.ref xs), .val (.int pv), .val (.int qv), .val (.int (0 : Int32)), .val (.int (1 : Int32)), .unset, .unset, .unset, .unset, .unset, .unset] [])) tgt
        refine XS.iload X12.here hx rfl (hb hby at_108) rfl ?_
        show Steps p.tables e below (T12.setTop (mkF m 110 #[.val (.int aa), .val (.int bb), .val (.int cc), .val (.ref rv), .val (.ref xs), .val (.int pv), .val (.int qv), .val (.int (0 : Int32)), .val (.int (1 : Int32)), .unset, .unset, .unset, .unset, .unset, .unset] [(.int (0 : Int32))])) tgt
        refine XS.ifYes X12.here hx rfl (pc0 := 110) (pc' := 122) rfl (hb hby at_110) rfl ((if0 _ _).trans (teq (by decide : (0 : Int32) = (0 : Int32))).1) (by decide) (by decide) ?_
        show Steps p.tables e below (T12.setTop (mkF m 122 #[.val (.int aa), .val (.int bb), .val (.int cc), .val (.ref rv), .val (.ref xs), .val (.int pv), .val (.int qv), .val (.int (0 : Int32)), .val (.int (1 : Int32)), .unset, .unset, .unset, .unset, .unset, .unset] [])) tgt
        refine XS.iload X12.here hx rfl (hb hby at_122) rfl ?_
        show Steps p.tables e below (T12.setTop (mkF m 124 #[.val (.int aa), .val (.int bb), .val (.int cc), .val (.ref rv), .val (.ref xs), .val (.int pv), .val (.int qv), .val (.int (0 : Int32)), .val (.int (1 : Int32)), .unset, .unset, .unset, .unset, .unset, .unset] [(.int (1 : Int32))])) tgt
        refine XS.ifNo X12.here hx rfl (hb hby at_124) rfl ((if0 _ _).trans (feq (by decide : ¬ ((1 : Int32) = (0 : Int32)))).1) ?_
        show Steps p.tables e below (T12.setTop (mkF m 127 #[.val (.int aa), .val (.int bb), .val (.int cc), .val (.ref rv), .val (.ref xs), .val (.int pv), .val (.int qv), .val (.int (0 : Int32)), .val (.int (1 : Int32)), .unset, .unset, .unset, .unset, .unset, .unset] [])) tgt
        refine XS.aloadN X12.here hx rfl (hb hby at_127) rfl rfl ?_
        show Steps p.tables e below (T12.setTop (mkF m 128 #[.val (.int aa), .val (.int bb), .val (.int cc), .val (.ref rv), .val (.ref xs), .val (.int pv), .val (.int qv), .val (.int (0 : Int32)), .val (.int (1 : Int32)), .unset, .unset, .unset, .unset, .unset, .unset] [(.ref rv)])) tgt
        refine XS.aload X12.here hx rfl (hb hby at_128) rfl rfl ?_
        show Steps p.tables e below (T12.setTop (mkF m 130 #[.val (.int aa), .val (.int bb), .val (.int cc), .val (.ref rv), .val (.ref xs), .val (.int pv), .val (.int qv), .val (.int (0 : Int32)), .val (.int (1 : Int32)), .unset, .unset, .unset, .unset, .unset, .unset] [(.ref xs), (.ref rv)])) tgt
        refine XS.iload X12.here hx rfl (hb hby at_130) rfl ?_
        show Steps p.tables e below (T12.setTop (mkF m 132 #[.val (.int aa), .val (.int bb), .val (.int cc), .val (.ref rv), .val (.ref xs), .val (.int pv), .val (.int qv), .val (.int (0 : Int32)), .val (.int (1 : Int32)), .unset, .unset, .unset, .unset, .unset, .unset] [(.int qv), (.ref xs), (.ref rv)])) tgt
        refine own_iaload X12 hx hZ e12 Af_xs_13 (j := qv) (k := qv.toInt.toNat) hq1 hq2 (g := (mkF m 132 #[.val (.int aa), .val (.int bb), .val (.int cc), .val (.ref rv), .val (.ref xs), .val (.int pv), .val (.int qv), .val (.int (0 : Int32)), .val (.int (1 : Int32)), .unset, .unset, .unset, .unset, .unset, .unset] [(.int qv), (.ref xs), (.ref rv)])) rfl rfl (hb hby at_132) ?_
        exact k
      rw [show (own_X qv.toInt.toNat) = qv from own_Xp qv hq0.1 hq0.2]
      obtain ⟨cq20, kq20, q20a, q20b, q20c⟩ := isOf hZ e12 E_rv_12
      obtain ⟨_, _, ⟨T20, L20, k20, n20⟩, -, X20, ⟨Lc20, hQ20, l20, y20, z20⟩, st20⟩ := X12.virtualBack hx (y := (⟨"com/example/sigpoint/sigpoint/Rows", "remove", "(I)V"⟩ : MethodName)) (z := (⟨"com/example/sigpoint/sigpoint/Rows", "remove", "(I)V"⟩ : MethodName)) hown (mvT hZ (hw _ (List.mem_of_getElem? (i := 22) rfl))) (mvT hZ (hw _ (List.mem_of_getElem? (i := 23) rfl))) (notFace_of_selects (args := #[]) (mvT hZ (hw _ (List.mem_of_getElem? (i := 25) rfl)))) (mvT hZ (hw _ (List.mem_of_getElem? (i := 25) rfl))) (mvT hZ (hw _ (List.mem_of_getElem? (i := 24) rfl))) (by decide) (backOf (W := 0) (rm4 l Z a0 hw [] rv qv fr_2 (0 : Int32) (3 : Int32) (fun _ => 0) 0 h12 n0 Zs12 E_rv_12 F_rv_free_12 F_rv_freeCount_12 F_rv_high_12 A_fr_2_12 g_rv g2_1 g2_2 (by first | assumption | decide | rfl) (by first | assumption | decide | rfl) (by first | assumption | decide | rfl)) hZ (hw _ (List.mem_of_getElem? (i := 26) rfl)) (hw _ (List.mem_of_getElem? (i := 2) rfl)) (by decide) (by decide)) q20a q20c (g := (mkF m 133 #[.val (.int aa), .val (.int bb), .val (.int cc), .val (.ref rv), .val (.ref xs), .val (.int pv), .val (.int qv), .val (.int (0 : Int32)), .val (.int (1 : Int32)), .unset, .unset, .unset, .unset, .unset, .unset] [(.int qv), (.ref rv)])) rfl (by rw [hml]; rfl) (Steps.refl _) (argsL := [(.int qv)]) (rest := []) (lenOf pd_0_2 rfl) rfl (by show 2 * 0 + _ ≤ _; exact Nat.le_of_eq rfl) (hb hby at_133) (fun _ _ => ⟨rfl, e12, (by decide : 3 + 0 ≤ _), (by decide : 22 + 0 ≤ _)⟩)
      dsimp only [Pt.U, Pt.locs, Pt.cells, Pt.slots] at X20 l20 y20 z20 st20 hQ20
      subst l20 y20 z20
      obtain ⟨rfl, N20q, K20, g20_0, g20_1, g20_2, g20_3, g20_4⟩ := hQ20
      have N20 := Fr.app N12 N20q
      have E_rv_20 := E_rv_12.keep K20
      have A_xs_20 := Af_xs_13.keep K20 (ninS (Ne.symm ne_rv_xs) (ninS (Ne.symm ne_fr_2_xs) nin0))
      have Zs20 : n0 ≤ T20.heap.size := Nat.le_trans Zs12 K20.1
      refine own_st (fun tgt k => st20.trans k) ?_
      show own_Go p e below _ (T20.setTop (mkF m 136 #[.val (.int aa), .val (.int bb), .val (.int cc), .val (.ref rv), .val (.ref xs), .val (.int pv), .val (.int qv), .val (.int (0 : Int32)), .val (.int (1 : Int32)), .unset, .unset, .unset, .unset, .unset, .unset] []))
      have Ff_rv_21 := g20_2
      rw [show ((0 : Int32) + (1 : Int32)) = (1 : Int32) from by decide] at Ff_rv_21
      refine own_st (V := T20.setTop (mkF m 137 #[.val (.int aa), .val (.int bb), .val (.int cc), .val (.ref rv), .val (.ref xs), .val (.int pv), .val (.int qv), .val (.int (0 : Int32)), .val (.int (1 : Int32)), .unset, .unset, .unset, .unset, .unset, .unset] [(.ref rv)])) (fun tgt k => ?_) ?_
      · show Steps p.tables e below (T20.setTop (mkF m 136 #[.val (.int aa), .val (.int bb), .val (.int cc), .val (.ref rv), .val (.ref xs), .val (.int pv), .val (.int qv), .val (.int (0 : Int32)), .val (.int (1 : Int32)), .unset, .unset, .unset, .unset, .unset, .unset] [])) tgt
        refine XS.aloadN X20.here hx rfl (hb hby at_136) rfl rfl ?_
        exact k
      obtain ⟨cq22, kq22, q22a, q22b, q22c⟩ := isOf hZ rfl g20_0
      obtain ⟨_, _, ⟨T22, L22, k22, n22⟩, -, X22, ⟨Lc22, hQ22, l22, y22, z22⟩, st22⟩ := X20.virtualBack hx (y := (⟨"com/example/sigpoint/sigpoint/Rows", "add", "()I"⟩ : MethodName)) (z := (⟨"com/example/sigpoint/sigpoint/Rows", "add", "()I"⟩ : MethodName)) hown (mvT hZ (hw _ (List.mem_of_getElem? (i := 12) rfl))) (mvT hZ (hw _ (List.mem_of_getElem? (i := 13) rfl))) (notFace_of_selects (args := #[]) (mvT hZ (hw _ (List.mem_of_getElem? (i := 15) rfl)))) (mvT hZ (hw _ (List.mem_of_getElem? (i := 15) rfl))) (mvT hZ (hw _ (List.mem_of_getElem? (i := 14) rfl))) (by decide) (backOf (W := 0) (rm3a l Z a0 hw [] rv fr_2 (1 : Int32) (3 : Int32) (own_up (fun _ => 0) 0 qv) 0 T20.heap n0 Zs20 g20_0 g20_1 Ff_rv_21 g20_3 g20_4 g_rv g2_1 g2_2 (by first | assumption | decide | rfl) (by first | assumption | decide | rfl) (by first | assumption | decide | rfl)) hZ (hw _ (List.mem_of_getElem? (i := 16) rfl)) (hw _ (List.mem_of_getElem? (i := 2) rfl)) (by decide) (by decide)) q22a q22c (g := (mkF m 137 #[.val (.int aa), .val (.int bb), .val (.int cc), .val (.ref rv), .val (.ref xs), .val (.int pv), .val (.int qv), .val (.int (0 : Int32)), .val (.int (1 : Int32)), .unset, .unset, .unset, .unset, .unset, .unset] [(.ref rv)])) rfl (by rw [hml]; rfl) (Steps.refl _) (argsL := []) (rest := []) (lenOf pd_0_1 rfl) rfl (by show 2 * 0 + _ ≤ _; exact Nat.le_of_eq rfl) (hb hby at_137) (fun _ _ => ⟨rfl, rfl, (by decide : 3 + 0 ≤ _), (by decide : 22 + 0 ≤ _)⟩)
      dsimp only [Pt.U, Pt.locs, Pt.cells, Pt.slots] at X22 l22 y22 z22 st22 hQ22
      subst l22 y22 z22
      obtain ⟨rfl, N22q, K22, g22_0, g22_1, g22_2, g22_3⟩ := hQ22
      have N22 := Fr.app N20 N22q
      have E_rv_22 := g20_0.keep K22
      have A_xs_22 := A_xs_20.keep K22 (ninS (Ne.symm ne_rv_xs) nin0)
      have A_fr_2_22 := g20_4.keep K22 (ninS (Ne.symm g2_2) nin0)
      have Zs22 : n0 ≤ T22.heap.size := Nat.le_trans Zs20 K22.1
      refine own_st (fun tgt k => st22.trans k) ?_
      show own_Go p e below _ (T22.setTop (mkF m 140 #[.val (.int aa), .val (.int bb), .val (.int cc), .val (.ref rv), .val (.ref xs), .val (.int pv), .val (.int qv), .val (.int (0 : Int32)), .val (.int (1 : Int32)), .unset, .unset, .unset, .unset, .unset, .unset] [(.int ((own_up (fun _ => 0) 0 qv) 0))]))
      have Ff_rv_23 := g22_2
      rw [show ((1 : Int32) - (1 : Int32)) = (0 : Int32) from by decide] at Ff_rv_23
      refine own_st (V := T22.setTop (mkF m 143 #[.val (.int aa), .val (.int bb), .val (.int cc), .val (.ref rv), .val (.ref xs), .val (.int pv), .val (.int qv), .val (.int (0 : Int32)), .val (.int (1 : Int32)), .val (.int ((own_up (fun _ => 0) 0 qv) 0)), .unset, .unset, .unset, .unset, .unset] [(.ref rv)])) (fun tgt k => ?_) ?_
      · show Steps p.tables e below (T22.setTop (mkF m 140 #[.val (.int aa), .val (.int bb), .val (.int cc), .val (.ref rv), .val (.ref xs), .val (.int pv), .val (.int qv), .val (.int (0 : Int32)), .val (.int (1 : Int32)), .unset, .unset, .unset, .unset, .unset, .unset] [(.int ((own_up (fun _ => 0) 0 qv) 0))])) tgt
        refine XS.istore X22.here hx rfl (hb hby at_140) rfl (l' := #[.val (.int aa), .val (.int bb), .val (.int cc), .val (.ref rv), .val (.ref xs), .val (.int pv), .val (.int qv), .val (.int (0 : Int32)), .val (.int (1 : Int32)), .val (.int ((own_up (fun _ => 0) 0 qv) 0)), .unset, .unset, .unset, .unset, .unset]) rfl ?_
        show Steps p.tables e below (T22.setTop (mkF m 142 #[.val (.int aa), .val (.int bb), .val (.int cc), .val (.ref rv), .val (.ref xs), .val (.int pv), .val (.int qv), .val (.int (0 : Int32)), .val (.int (1 : Int32)), .val (.int ((own_up (fun _ => 0) 0 qv) 0)), .unset, .unset, .unset, .unset, .unset] [])) tgt
        refine XS.aloadN X22.here hx rfl (hb hby at_142) rfl rfl ?_
        exact k
      obtain ⟨cq24, kq24, q24a, q24b, q24c⟩ := isOf hZ rfl g22_0
      obtain ⟨_, _, ⟨T24, L24, k24, n24⟩, -, X24, ⟨Lc24, hQ24, l24, y24, z24⟩, st24⟩ := X22.virtualBack hx (y := (⟨"com/example/sigpoint/sigpoint/Rows", "add", "()I"⟩ : MethodName)) (z := (⟨"com/example/sigpoint/sigpoint/Rows", "add", "()I"⟩ : MethodName)) hown (mvT hZ (hw _ (List.mem_of_getElem? (i := 12) rfl))) (mvT hZ (hw _ (List.mem_of_getElem? (i := 13) rfl))) (notFace_of_selects (args := #[]) (mvT hZ (hw _ (List.mem_of_getElem? (i := 15) rfl)))) (mvT hZ (hw _ (List.mem_of_getElem? (i := 15) rfl))) (mvT hZ (hw _ (List.mem_of_getElem? (i := 14) rfl))) (by decide) (backOf (W := 0) (rm3b l Z a0 hw [] rv fr_2 (0 : Int32) (3 : Int32) (own_up (fun _ => 0) 0 qv) T22.heap n0 Zs22 g22_0 g22_1 Ff_rv_23 g22_3 A_fr_2_22 g_rv g2_1 g2_2 (by first | assumption | decide | rfl)) hZ (hw _ (List.mem_of_getElem? (i := 16) rfl)) (hw _ (List.mem_of_getElem? (i := 2) rfl)) (by decide) (by decide)) q24a q24c (g := (mkF m 143 #[.val (.int aa), .val (.int bb), .val (.int cc), .val (.ref rv), .val (.ref xs), .val (.int pv), .val (.int qv), .val (.int (0 : Int32)), .val (.int (1 : Int32)), .val (.int ((own_up (fun _ => 0) 0 qv) 0)), .unset, .unset, .unset, .unset, .unset] [(.ref rv)])) rfl (by rw [hml]; rfl) (Steps.refl _) (argsL := []) (rest := []) (lenOf pd_0_1 rfl) rfl (by show 2 * 0 + _ ≤ _; exact Nat.le_of_eq rfl) (hb hby at_143) (fun _ _ => ⟨rfl, rfl, (by decide : 3 + 0 ≤ _), (by decide : 22 + 0 ≤ _)⟩)
      dsimp only [Pt.U, Pt.locs, Pt.cells, Pt.slots] at X24 l24 y24 z24 st24 hQ24
      subst l24 y24 z24
      obtain ⟨rfl, N24q, K24, g24_0, g24_1, g24_2, g24_3⟩ := hQ24
      have N24 := Fr.app N22 N24q
      have E_rv_24 := g22_0.keep K24
      have A_xs_24 := A_xs_22.keep K24 (ninS (Ne.symm ne_rv_xs) nin0)
      have A_fr_2_24 := A_fr_2_22.keep K24 (ninS (Ne.symm g2_2) nin0)
      have Zs24 : n0 ≤ T24.heap.size := Nat.le_trans Zs22 K24.1
      refine own_st (fun tgt k => st24.trans k) ?_
      show own_Go p e below _ (T24.setTop (mkF m 146 #[.val (.int aa), .val (.int bb), .val (.int cc), .val (.ref rv), .val (.ref xs), .val (.int pv), .val (.int qv), .val (.int (0 : Int32)), .val (.int (1 : Int32)), .val (.int ((own_up (fun _ => 0) 0 qv) 0)), .unset, .unset, .unset, .unset, .unset] [(.int (3 : Int32))]))
      have Ff_rv_25 := g24_3
      rw [show ((3 : Int32) + (1 : Int32)) = (4 : Int32) from by decide] at Ff_rv_25
      refine own_st (V := T24.setTop (mkF m 149 #[.val (.int aa), .val (.int bb), .val (.int cc), .val (.ref rv), .val (.ref xs), .val (.int pv), .val (.int qv), .val (.int (0 : Int32)), .val (.int (1 : Int32)), .val (.int ((own_up (fun _ => 0) 0 qv) 0)), .val (.int (3 : Int32)), .unset, .unset, .unset, .unset] [(.ref rv)])) (fun tgt k => ?_) ?_
      · show Steps p.tables e below (T24.setTop (mkF m 146 #[.val (.int aa), .val (.int bb), .val (.int cc), .val (.ref rv), .val (.ref xs), .val (.int pv), .val (.int qv), .val (.int (0 : Int32)), .val (.int (1 : Int32)), .val (.int ((own_up (fun _ => 0) 0 qv) 0)), .unset, .unset, .unset, .unset, .unset] [(.int (3 : Int32))])) tgt
        refine XS.istore X24.here hx rfl (hb hby at_146) rfl (l' := #[.val (.int aa), .val (.int bb), .val (.int cc), .val (.ref rv), .val (.ref xs), .val (.int pv), .val (.int qv), .val (.int (0 : Int32)), .val (.int (1 : Int32)), .val (.int ((own_up (fun _ => 0) 0 qv) 0)), .val (.int (3 : Int32)), .unset, .unset, .unset, .unset]) rfl ?_
        show Steps p.tables e below (T24.setTop (mkF m 148 #[.val (.int aa), .val (.int bb), .val (.int cc), .val (.ref rv), .val (.ref xs), .val (.int pv), .val (.int qv), .val (.int (0 : Int32)), .val (.int (1 : Int32)), .val (.int ((own_up (fun _ => 0) 0 qv) 0)), .val (.int (3 : Int32)), .unset, .unset, .unset, .unset] [])) tgt
        refine XS.aloadN X24.here hx rfl (hb hby at_148) rfl rfl ?_
        exact k
      obtain ⟨cq26, kq26, q26a, q26b, q26c⟩ := isOf hZ rfl g24_0
      obtain ⟨_, _, ⟨T26, L26, k26, n26⟩, -, X26, ⟨Lc26, hQ26, l26, y26, z26⟩, st26⟩ := X24.virtualBack hx (y := (⟨"com/example/sigpoint/sigpoint/Rows", "high", "()I"⟩ : MethodName)) (z := (⟨"com/example/sigpoint/sigpoint/Rows", "high", "()I"⟩ : MethodName)) hown (mvT hZ (hw _ (List.mem_of_getElem? (i := 27) rfl))) (mvT hZ (hw _ (List.mem_of_getElem? (i := 28) rfl))) (notFace_of_selects (args := #[]) (mvT hZ (hw _ (List.mem_of_getElem? (i := 30) rfl)))) (mvT hZ (hw _ (List.mem_of_getElem? (i := 30) rfl))) (mvT hZ (hw _ (List.mem_of_getElem? (i := 29) rfl))) (by decide) (backOf (W := 0) (rm5 l Z a0 hw [] rv (4 : Int32) T24.heap n0 Zs24 Ff_rv_25) hZ (hw _ (List.mem_of_getElem? (i := 31) rfl)) (hw _ (List.mem_of_getElem? (i := 2) rfl)) (by decide) (by decide)) q26a q26c (g := (mkF m 149 #[.val (.int aa), .val (.int bb), .val (.int cc), .val (.ref rv), .val (.ref xs), .val (.int pv), .val (.int qv), .val (.int (0 : Int32)), .val (.int (1 : Int32)), .val (.int ((own_up (fun _ => 0) 0 qv) 0)), .val (.int (3 : Int32)), .unset, .unset, .unset, .unset] [(.ref rv)])) rfl (by rw [hml]; rfl) (Steps.refl _) (argsL := []) (rest := []) (lenOf pd_0_1 rfl) rfl (by show 2 * 0 + _ ≤ _; exact Nat.le_of_eq rfl) (hb hby at_149) (fun _ _ => ⟨rfl, rfl, (by decide : 3 + 0 ≤ _), (by decide : 22 + 0 ≤ _)⟩)
      dsimp only [Pt.U, Pt.locs, Pt.cells, Pt.slots] at X26 l26 y26 z26 st26 hQ26
      subst l26 y26 z26
      obtain ⟨rfl, N26q, K26⟩ := hQ26
      have N26 := Fr.app N24 N26q
      refine own_st (fun tgt k => st26.trans k) ?_
      show own_Go p e below _ (T26.setTop (mkF m 152 #[.val (.int aa), .val (.int bb), .val (.int cc), .val (.ref rv), .val (.ref xs), .val (.int pv), .val (.int qv), .val (.int (0 : Int32)), .val (.int (1 : Int32)), .val (.int ((own_up (fun _ => 0) 0 qv) 0)), .val (.int (3 : Int32)), .unset, .unset, .unset, .unset] [(.int (4 : Int32))]))
      refine own_st (V := T26.setTop (mkF m 249 #[.val (.int aa), .val (.int bb), .val (.int cc), .val (.ref rv), .val (.ref xs), .val (.int pv), .val (.int qv), .val (.int (0 : Int32)), .val (.int (1 : Int32)), .val (.int ((own_up (fun _ => 0) 0 qv) 0)), .val (.int (3 : Int32)), .val (.int (4 : Int32)), .val (.int qv), .val (.int (3 : Int32)), .val (.int (4 : Int32))] [(.int (1 : Int32))])) (fun tgt k => ?_) ?_
      · show Steps p.tables e below (T26.setTop (mkF m 152 #[.val (.int aa), .val (.int bb), .val (.int cc), .val (.ref rv), .val (.ref xs), .val (.int pv), .val (.int qv), .val (.int (0 : Int32)), .val (.int (1 : Int32)), .val (.int ((own_up (fun _ => 0) 0 qv) 0)), .val (.int (3 : Int32)), .unset, .unset, .unset, .unset] [(.int (4 : Int32))])) tgt
        refine XS.istore X26.here hx rfl (hb hby at_152) rfl (l' := #[.val (.int aa), .val (.int bb), .val (.int cc), .val (.ref rv), .val (.ref xs), .val (.int pv), .val (.int qv), .val (.int (0 : Int32)), .val (.int (1 : Int32)), .val (.int ((own_up (fun _ => 0) 0 qv) 0)), .val (.int (3 : Int32)), .val (.int (4 : Int32)), .unset, .unset, .unset]) rfl ?_
        show Steps p.tables e below (T26.setTop (mkF m 154 #[.val (.int aa), .val (.int bb), .val (.int cc), .val (.ref rv), .val (.ref xs), .val (.int pv), .val (.int qv), .val (.int (0 : Int32)), .val (.int (1 : Int32)), .val (.int ((own_up (fun _ => 0) 0 qv) 0)), .val (.int (3 : Int32)), .val (.int (4 : Int32)), .unset, .unset, .unset] [])) tgt
        refine XS.iload X26.here hx rfl (hb hby at_154) rfl ?_
        show Steps p.tables e below (T26.setTop (mkF m 156 #[.val (.int aa), .val (.int bb), .val (.int cc), .val (.ref rv), .val (.ref xs), .val (.int pv), .val (.int qv), .val (.int (0 : Int32)), .val (.int (1 : Int32)), .val (.int ((own_up (fun _ => 0) 0 qv) 0)), .val (.int (3 : Int32)), .val (.int (4 : Int32)), .unset, .unset, .unset] [(.int (0 : Int32))])) tgt
        refine XS.ifYes X26.here hx rfl (pc0 := 156) (pc' := 178) rfl (hb hby at_156) rfl ((if0 _ _).trans (teq (by decide : (0 : Int32) = (0 : Int32))).1) (by decide) (by decide) ?_
        show Steps p.tables e below (T26.setTop (mkF m 178 #[.val (.int aa), .val (.int bb), .val (.int cc), .val (.ref rv), .val (.ref xs), .val (.int pv), .val (.int qv), .val (.int (0 : Int32)), .val (.int (1 : Int32)), .val (.int ((own_up (fun _ => 0) 0 qv) 0)), .val (.int (3 : Int32)), .val (.int (4 : Int32)), .unset, .unset, .unset] [])) tgt
        refine XS.iload X26.here hx rfl (hb hby at_178) rfl ?_
        show Steps p.tables e below (T26.setTop (mkF m 180 #[.val (.int aa), .val (.int bb), .val (.int cc), .val (.ref rv), .val (.ref xs), .val (.int pv), .val (.int qv), .val (.int (0 : Int32)), .val (.int (1 : Int32)), .val (.int ((own_up (fun _ => 0) 0 qv) 0)), .val (.int (3 : Int32)), .val (.int (4 : Int32)), .unset, .unset, .unset] [(.int (0 : Int32))])) tgt
        refine XS.ifYes X26.here hx rfl (pc0 := 180) (pc' := 196) rfl (hb hby at_180) rfl ((if0 _ _).trans (teq (by decide : (0 : Int32) = (0 : Int32))).1) (by decide) (by decide) ?_
        show Steps p.tables e below (T26.setTop (mkF m 196 #[.val (.int aa), .val (.int bb), .val (.int cc), .val (.ref rv), .val (.ref xs), .val (.int pv), .val (.int qv), .val (.int (0 : Int32)), .val (.int (1 : Int32)), .val (.int ((own_up (fun _ => 0) 0 qv) 0)), .val (.int (3 : Int32)), .val (.int (4 : Int32)), .unset, .unset, .unset] [])) tgt
        refine XS.iload X26.here hx rfl (hb hby at_196) rfl ?_
        show Steps p.tables e below (T26.setTop (mkF m 198 #[.val (.int aa), .val (.int bb), .val (.int cc), .val (.ref rv), .val (.ref xs), .val (.int pv), .val (.int qv), .val (.int (0 : Int32)), .val (.int (1 : Int32)), .val (.int ((own_up (fun _ => 0) 0 qv) 0)), .val (.int (3 : Int32)), .val (.int (4 : Int32)), .unset, .unset, .unset] [(.int (1 : Int32))])) tgt
        refine XS.ifNo X26.here hx rfl (hb hby at_198) rfl ((if0 _ _).trans (feq (by decide : ¬ ((1 : Int32) = (0 : Int32)))).1) ?_
        show Steps p.tables e below (T26.setTop (mkF m 201 #[.val (.int aa), .val (.int bb), .val (.int cc), .val (.ref rv), .val (.ref xs), .val (.int pv), .val (.int qv), .val (.int (0 : Int32)), .val (.int (1 : Int32)), .val (.int ((own_up (fun _ => 0) 0 qv) 0)), .val (.int (3 : Int32)), .val (.int (4 : Int32)), .unset, .unset, .unset] [])) tgt
        refine XS.iload X26.here hx rfl (hb hby at_201) rfl ?_
        show Steps p.tables e below (T26.setTop (mkF m 203 #[.val (.int aa), .val (.int bb), .val (.int cc), .val (.ref rv), .val (.ref xs), .val (.int pv), .val (.int qv), .val (.int (0 : Int32)), .val (.int (1 : Int32)), .val (.int ((own_up (fun _ => 0) 0 qv) 0)), .val (.int (3 : Int32)), .val (.int (4 : Int32)), .unset, .unset, .unset] [(.int qv)])) tgt
        refine XS.istore X26.here hx rfl (hb hby at_203) rfl (l' := #[.val (.int aa), .val (.int bb), .val (.int cc), .val (.ref rv), .val (.ref xs), .val (.int pv), .val (.int qv), .val (.int (0 : Int32)), .val (.int (1 : Int32)), .val (.int ((own_up (fun _ => 0) 0 qv) 0)), .val (.int (3 : Int32)), .val (.int (4 : Int32)), .val (.int qv), .unset, .unset]) rfl ?_
        show Steps p.tables e below (T26.setTop (mkF m 205 #[.val (.int aa), .val (.int bb), .val (.int cc), .val (.ref rv), .val (.ref xs), .val (.int pv), .val (.int qv), .val (.int (0 : Int32)), .val (.int (1 : Int32)), .val (.int ((own_up (fun _ => 0) 0 qv) 0)), .val (.int (3 : Int32)), .val (.int (4 : Int32)), .val (.int qv), .unset, .unset] [])) tgt
        refine XS.iconst X26.here hx rfl (hb hby at_205) ?_
        show Steps p.tables e below (T26.setTop (mkF m 206 #[.val (.int aa), .val (.int bb), .val (.int cc), .val (.ref rv), .val (.ref xs), .val (.int pv), .val (.int qv), .val (.int (0 : Int32)), .val (.int (1 : Int32)), .val (.int ((own_up (fun _ => 0) 0 qv) 0)), .val (.int (3 : Int32)), .val (.int (4 : Int32)), .val (.int qv), .unset, .unset] [(.int (3 : Int32))])) tgt
        refine XS.istore X26.here hx rfl (hb hby at_206) rfl (l' := #[.val (.int aa), .val (.int bb), .val (.int cc), .val (.ref rv), .val (.ref xs), .val (.int pv), .val (.int qv), .val (.int (0 : Int32)), .val (.int (1 : Int32)), .val (.int ((own_up (fun _ => 0) 0 qv) 0)), .val (.int (3 : Int32)), .val (.int (4 : Int32)), .val (.int qv), .val (.int (3 : Int32)), .unset]) rfl ?_
        show Steps p.tables e below (T26.setTop (mkF m 208 #[.val (.int aa), .val (.int bb), .val (.int cc), .val (.ref rv), .val (.ref xs), .val (.int pv), .val (.int qv), .val (.int (0 : Int32)), .val (.int (1 : Int32)), .val (.int ((own_up (fun _ => 0) 0 qv) 0)), .val (.int (3 : Int32)), .val (.int (4 : Int32)), .val (.int qv), .val (.int (3 : Int32)), .unset] [])) tgt
        refine XS.iconst X26.here hx rfl (hb hby at_208) ?_
        show Steps p.tables e below (T26.setTop (mkF m 209 #[.val (.int aa), .val (.int bb), .val (.int cc), .val (.ref rv), .val (.ref xs), .val (.int pv), .val (.int qv), .val (.int (0 : Int32)), .val (.int (1 : Int32)), .val (.int ((own_up (fun _ => 0) 0 qv) 0)), .val (.int (3 : Int32)), .val (.int (4 : Int32)), .val (.int qv), .val (.int (3 : Int32)), .unset] [(.int (4 : Int32))])) tgt
        refine XS.istore X26.here hx rfl (hb hby at_209) rfl (l' := #[.val (.int aa), .val (.int bb), .val (.int cc), .val (.ref rv), .val (.ref xs), .val (.int pv), .val (.int qv), .val (.int (0 : Int32)), .val (.int (1 : Int32)), .val (.int ((own_up (fun _ => 0) 0 qv) 0)), .val (.int (3 : Int32)), .val (.int (4 : Int32)), .val (.int qv), .val (.int (3 : Int32)), .val (.int (4 : Int32))]) rfl ?_
        show Steps p.tables e below (T26.setTop (mkF m 211 #[.val (.int aa), .val (.int bb), .val (.int cc), .val (.ref rv), .val (.ref xs), .val (.int pv), .val (.int qv), .val (.int (0 : Int32)), .val (.int (1 : Int32)), .val (.int ((own_up (fun _ => 0) 0 qv) 0)), .val (.int (3 : Int32)), .val (.int (4 : Int32)), .val (.int qv), .val (.int (3 : Int32)), .val (.int (4 : Int32))] [])) tgt
        refine XS.goto X26.here hx rfl (pc0 := 211) (pc' := 223) rfl (hb hby at_211) (by decide) (by decide) ?_
        show Steps p.tables e below (T26.setTop (mkF m 223 #[.val (.int aa), .val (.int bb), .val (.int cc), .val (.ref rv), .val (.ref xs), .val (.int pv), .val (.int qv), .val (.int (0 : Int32)), .val (.int (1 : Int32)), .val (.int ((own_up (fun _ => 0) 0 qv) 0)), .val (.int (3 : Int32)), .val (.int (4 : Int32)), .val (.int qv), .val (.int (3 : Int32)), .val (.int (4 : Int32))] [])) tgt
        refine XS.iload X26.here hx rfl (hb hby at_223) rfl ?_
        show Steps p.tables e below (T26.setTop (mkF m 225 #[.val (.int aa), .val (.int bb), .val (.int cc), .val (.ref rv), .val (.ref xs), .val (.int pv), .val (.int qv), .val (.int (0 : Int32)), .val (.int (1 : Int32)), .val (.int ((own_up (fun _ => 0) 0 qv) 0)), .val (.int (3 : Int32)), .val (.int (4 : Int32)), .val (.int qv), .val (.int (3 : Int32)), .val (.int (4 : Int32))] [(.int ((own_up (fun _ => 0) 0 qv) 0))])) tgt
        refine XS.iload X26.here hx rfl (hb hby at_225) rfl ?_
        show Steps p.tables e below (T26.setTop (mkF m 227 #[.val (.int aa), .val (.int bb), .val (.int cc), .val (.ref rv), .val (.ref xs), .val (.int pv), .val (.int qv), .val (.int (0 : Int32)), .val (.int (1 : Int32)), .val (.int ((own_up (fun _ => 0) 0 qv) 0)), .val (.int (3 : Int32)), .val (.int (4 : Int32)), .val (.int qv), .val (.int (3 : Int32)), .val (.int (4 : Int32))] [(.int qv), (.int ((own_up (fun _ => 0) 0 qv) 0))])) tgt
        refine XS.icmpNo X26.here hx rfl (hb hby at_227) rfl (teq (by simp [own_up])).2 ?_
        show Steps p.tables e below (T26.setTop (mkF m 230 #[.val (.int aa), .val (.int bb), .val (.int cc), .val (.ref rv), .val (.ref xs), .val (.int pv), .val (.int qv), .val (.int (0 : Int32)), .val (.int (1 : Int32)), .val (.int ((own_up (fun _ => 0) 0 qv) 0)), .val (.int (3 : Int32)), .val (.int (4 : Int32)), .val (.int qv), .val (.int (3 : Int32)), .val (.int (4 : Int32))] [])) tgt
        refine XS.iload X26.here hx rfl (hb hby at_230) rfl ?_
        show Steps p.tables e below (T26.setTop (mkF m 232 #[.val (.int aa), .val (.int bb), .val (.int cc), .val (.ref rv), .val (.ref xs), .val (.int pv), .val (.int qv), .val (.int (0 : Int32)), .val (.int (1 : Int32)), .val (.int ((own_up (fun _ => 0) 0 qv) 0)), .val (.int (3 : Int32)), .val (.int (4 : Int32)), .val (.int qv), .val (.int (3 : Int32)), .val (.int (4 : Int32))] [(.int (3 : Int32))])) tgt
        refine XS.iload X26.here hx rfl (hb hby at_232) rfl ?_
        show Steps p.tables e below (T26.setTop (mkF m 234 #[.val (.int aa), .val (.int bb), .val (.int cc), .val (.ref rv), .val (.ref xs), .val (.int pv), .val (.int qv), .val (.int (0 : Int32)), .val (.int (1 : Int32)), .val (.int ((own_up (fun _ => 0) 0 qv) 0)), .val (.int (3 : Int32)), .val (.int (4 : Int32)), .val (.int qv), .val (.int (3 : Int32)), .val (.int (4 : Int32))] [(.int (3 : Int32)), (.int (3 : Int32))])) tgt
        refine XS.icmpNo X26.here hx rfl (hb hby at_234) rfl (teq (by decide : (3 : Int32) = (3 : Int32))).2 ?_
        show Steps p.tables e below (T26.setTop (mkF m 237 #[.val (.int aa), .val (.int bb), .val (.int cc), .val (.ref rv), .val (.ref xs), .val (.int pv), .val (.int qv), .val (.int (0 : Int32)), .val (.int (1 : Int32)), .val (.int ((own_up (fun _ => 0) 0 qv) 0)), .val (.int (3 : Int32)), .val (.int (4 : Int32)), .val (.int qv), .val (.int (3 : Int32)), .val (.int (4 : Int32))] [])) tgt
        refine XS.iload X26.here hx rfl (hb hby at_237) rfl ?_
        show Steps p.tables e below (T26.setTop (mkF m 239 #[.val (.int aa), .val (.int bb), .val (.int cc), .val (.ref rv), .val (.ref xs), .val (.int pv), .val (.int qv), .val (.int (0 : Int32)), .val (.int (1 : Int32)), .val (.int ((own_up (fun _ => 0) 0 qv) 0)), .val (.int (3 : Int32)), .val (.int (4 : Int32)), .val (.int qv), .val (.int (3 : Int32)), .val (.int (4 : Int32))] [(.int (4 : Int32))])) tgt
        refine XS.iload X26.here hx rfl (hb hby at_239) rfl ?_
        show Steps p.tables e below (T26.setTop (mkF m 241 #[.val (.int aa), .val (.int bb), .val (.int cc), .val (.ref rv), .val (.ref xs), .val (.int pv), .val (.int qv), .val (.int (0 : Int32)), .val (.int (1 : Int32)), .val (.int ((own_up (fun _ => 0) 0 qv) 0)), .val (.int (3 : Int32)), .val (.int (4 : Int32)), .val (.int qv), .val (.int (3 : Int32)), .val (.int (4 : Int32))] [(.int (4 : Int32)), (.int (4 : Int32))])) tgt
        refine XS.icmpNo X26.here hx rfl (hb hby at_241) rfl (teq (by decide : (4 : Int32) = (4 : Int32))).2 ?_
        show Steps p.tables e below (T26.setTop (mkF m 244 #[.val (.int aa), .val (.int bb), .val (.int cc), .val (.ref rv), .val (.ref xs), .val (.int pv), .val (.int qv), .val (.int (0 : Int32)), .val (.int (1 : Int32)), .val (.int ((own_up (fun _ => 0) 0 qv) 0)), .val (.int (3 : Int32)), .val (.int (4 : Int32)), .val (.int qv), .val (.int (3 : Int32)), .val (.int (4 : Int32))] [])) tgt
        refine XS.iconst X26.here hx rfl (hb hby at_244) ?_
        show Steps p.tables e below (T26.setTop (mkF m 245 #[.val (.int aa), .val (.int bb), .val (.int cc), .val (.ref rv), .val (.ref xs), .val (.int pv), .val (.int qv), .val (.int (0 : Int32)), .val (.int (1 : Int32)), .val (.int ((own_up (fun _ => 0) 0 qv) 0)), .val (.int (3 : Int32)), .val (.int (4 : Int32)), .val (.int qv), .val (.int (3 : Int32)), .val (.int (4 : Int32))] [(.int (1 : Int32))])) tgt
        refine XS.goto X26.here hx rfl (pc0 := 245) (pc' := 249) rfl (hb hby at_245) (by decide) (by decide) ?_
        exact k
      refine own_retN X26 hx hlk (t := .boolean) (z' := (1 : Int32)) Bd.returns (by simp) rfl (hb hby at_249) ?_ (by decide) (by decide)
      show Q0 Z aa bb cc h0 n0 (some (.int (1 : Int32))) T26.heap _
      rw [K26]
      exact ⟨rfl, N26⟩
  · skip
    refine own_st (V := T12.setTop (mkF m 98 #[.val (.int aa), .val (.int bb), .val (.int cc), .val (.ref rv), .val (.ref xs), .val (.int pv), .val (.int qv), .val (.int (1 : Int32)), .unset, .unset, .unset, .unset, .unset, .unset, .unset] [(.int (cc &&& (2 : Int32)))])) (fun tgt k => ?_) ?_
    · show Steps p.tables e below (T12.setTop (mkF m 85 #[.val (.int aa), .val (.int bb), .val (.int cc), .val (.ref rv), .val (.ref xs), .val (.int pv), .val (.int qv), .unset, .unset, .unset, .unset, .unset, .unset, .unset, .unset] [(.int (cc &&& (1 : Int32)))])) tgt
      refine XS.ifNo X12.here hx rfl (hb hby at_85) rfl ((if0 _ _).trans (feq hc85).1) ?_
      show Steps p.tables e below (T12.setTop (mkF m 88 #[.val (.int aa), .val (.int bb), .val (.int cc), .val (.ref rv), .val (.ref xs), .val (.int pv), .val (.int qv), .unset, .unset, .unset, .unset, .unset, .unset, .unset, .unset] [])) tgt
      refine XS.iconst X12.here hx rfl (hb hby at_88) ?_
      show Steps p.tables e below (T12.setTop (mkF m 89 #[.val (.int aa), .val (.int bb), .val (.int cc), .val (.ref rv), .val (.ref xs), .val (.int pv), .val (.int qv), .unset, .unset, .unset, .unset, .unset, .unset, .unset, .unset] [(.int (1 : Int32))])) tgt
      refine XS.goto X12.here hx rfl (pc0 := 89) (pc' := 93) rfl (hb hby at_89) (by decide) (by decide) ?_
      show Steps p.tables e below (T12.setTop (mkF m 93 #[.val (.int aa), .val (.int bb), .val (.int cc), .val (.ref rv), .val (.ref xs), .val (.int pv), .val (.int qv), .unset, .unset, .unset, .unset, .unset, .unset, .unset, .unset] [(.int (1 : Int32))])) tgt
      refine XS.istore X12.here hx rfl (hb hby at_93) rfl (l' := #[.val (.int aa), .val (.int bb), .val (.int cc), .val (.ref rv), .val (.ref xs), .val (.int pv), .val (.int qv), .val (.int (1 : Int32)), .unset, .unset, .unset, .unset, .unset, .unset, .unset]) rfl ?_
      show Steps p.tables e below (T12.setTop (mkF m 95 #[.val (.int aa), .val (.int bb), .val (.int cc), .val (.ref rv), .val (.ref xs), .val (.int pv), .val (.int qv), .val (.int (1 : Int32)), .unset, .unset, .unset, .unset, .unset, .unset, .unset] [])) tgt
      refine XS.iloadN X12.here hx rfl (hb hby at_95) rfl ?_
      show Steps p.tables e below (T12.setTop (mkF m 96 #[.val (.int aa), .val (.int bb), .val (.int cc), .val (.ref rv), .val (.ref xs), .val (.int pv), .val (.int qv), .val (.int (1 : Int32)), .unset, .unset, .unset, .unset, .unset, .unset, .unset] [(.int cc)])) tgt
      refine XS.iconst X12.here hx rfl (hb hby at_96) ?_
      show Steps p.tables e below (T12.setTop (mkF m 97 #[.val (.int aa), .val (.int bb), .val (.int cc), .val (.ref rv), .val (.ref xs), .val (.int pv), .val (.int qv), .val (.int (1 : Int32)), .unset, .unset, .unset, .unset, .unset, .unset, .unset] [(.int (2 : Int32)), (.int cc)])) tgt
      refine XS.iand X12.here hx rfl (hb hby at_97) rfl ?_
      exact k
    by_cases hc98 : (cc &&& (2 : Int32)) = (0 : Int32)
    · skip
      refine own_st (V := T12.setTop (mkF m 119 #[.val (.int aa), .val (.int bb), .val (.int cc), .val (.ref rv), .val (.ref xs), .val (.int pv), .val (.int qv), .val (.int (1 : Int32)), .val (.int (0 : Int32)), .unset, .unset, .unset, .unset, .unset, .unset] [(.int (own_X pv.toInt.toNat)), (.ref rv)])) (fun tgt k => ?_) ?_
      · show Steps p.tables e below (T12.setTop (mkF m 98 #[.val (.int aa), .val (.int bb), .val (.int cc), .val (.ref rv), .val (.ref xs), .val (.int pv), .val (.int qv), .val (.int (1 : Int32)), .unset, .unset, .unset, .unset, .unset, .unset, .unset] [(.int (cc &&& (2 : Int32)))])) tgt
        refine XS.ifYes X12.here hx rfl (pc0 := 98) (pc' := 105) rfl (hb hby at_98) rfl ((if0 _ _).trans (teq hc98).1) (by decide) (by decide) ?_
        show Steps p.tables e below (T12.setTop (mkF m 105 #[.val (.int aa), .val (.int bb), .val (.int cc), .val (.ref rv), .val (.ref xs), .val (.int pv), .val (.int qv), .val (.int (1 : Int32)), .unset, .unset, .unset, .unset, .unset, .unset, .unset] [])) tgt
        refine XS.iconst X12.here hx rfl (hb hby at_105) ?_
        show Steps p.tables e below (T12.setTop (mkF m 106 #[.val (.int aa), .val (.int bb), .val (.int cc), .val (.ref rv), .val (.ref xs), .val (.int pv), .val (.int qv), .val (.int (1 : Int32)), .unset, .unset, .unset, .unset, .unset, .unset, .unset] [(.int (0 : Int32))])) tgt
        refine XS.istore X12.here hx rfl (hb hby at_106) rfl (l' := #[.val (.int aa), .val (.int bb), .val (.int cc), .val (.ref rv), .val (.ref xs), .val (.int pv), .val (.int qv), .val (.int (1 : Int32)), .val (.int (0 : Int32)), .unset, .unset, .unset, .unset, .unset, .unset]) rfl ?_
        show Steps p.tables e below (T12.setTop (mkF m 108 #[.val (.int aa), .val (.int bb), .val (.int cc), .val (.ref rv), .val (.ref xs), .val (.int pv), .val (.int qv), .val (.int (1 : Int32)), .val (.int (0 : Int32)), .unset, .unset, .unset, .unset, .unset, .unset] [])) tgt
        refine XS.iload X12.here hx rfl (hb hby at_108) rfl ?_
        show Steps p.tables e below (T12.setTop (mkF m 110 #[.val (.int aa), .val (.int bb), .val (.int cc), .val (.ref rv), .val (.ref xs), .val (.int pv), .val (.int qv), .val (.int (1 : Int32)), .val (.int (0 : Int32)), .unset, .unset, .unset, .unset, .unset, .unset] [(.int (1 : Int32))])) tgt
        refine XS.ifNo X12.here hx rfl (hb hby at_110) rfl ((if0 _ _).trans (feq (by decide : ¬ ((1 : Int32) = (0 : Int32)))).1) ?_
        show Steps p.tables e below (T12.setTop (mkF m 113 #[.val (.int aa), .val (.int bb), .val (.int cc), .val (.ref rv), .val (.ref xs), .val (.int pv), .val (.int qv), .val (.int (1 : Int32)), .val (.int (0 : Int32)), .unset, .unset, .unset, .unset, .unset, .unset] [])) tgt
        refine XS.aloadN X12.here hx rfl (hb hby at_113) rfl rfl ?_
        show Steps p.tables e below (T12.setTop (mkF m 114 #[.val (.int aa), .val (.int bb), .val (.int cc), .val (.ref rv), .val (.ref xs), .val (.int pv), .val (.int qv), .val (.int (1 : Int32)), .val (.int (0 : Int32)), .unset, .unset, .unset, .unset, .unset, .unset] [(.ref rv)])) tgt
        refine XS.aload X12.here hx rfl (hb hby at_114) rfl rfl ?_
        show Steps p.tables e below (T12.setTop (mkF m 116 #[.val (.int aa), .val (.int bb), .val (.int cc), .val (.ref rv), .val (.ref xs), .val (.int pv), .val (.int qv), .val (.int (1 : Int32)), .val (.int (0 : Int32)), .unset, .unset, .unset, .unset, .unset, .unset] [(.ref xs), (.ref rv)])) tgt
        refine XS.iload X12.here hx rfl (hb hby at_116) rfl ?_
        show Steps p.tables e below (T12.setTop (mkF m 118 #[.val (.int aa), .val (.int bb), .val (.int cc), .val (.ref rv), .val (.ref xs), .val (.int pv), .val (.int qv), .val (.int (1 : Int32)), .val (.int (0 : Int32)), .unset, .unset, .unset, .unset, .unset, .unset] [(.int pv), (.ref xs), (.ref rv)])) tgt
        refine own_iaload X12 hx hZ e12 Af_xs_13 (j := pv) (k := pv.toInt.toNat) hp1 hp2 (g := (mkF m 118 #[.val (.int aa), .val (.int bb), .val (.int cc), .val (.ref rv), .val (.ref xs), .val (.int pv), .val (.int qv), .val (.int (1 : Int32)), .val (.int (0 : Int32)), .unset, .unset, .unset, .unset, .unset, .unset] [(.int pv), (.ref xs), (.ref rv)])) rfl rfl (hb hby at_118) ?_
        exact k
      rw [show (own_X pv.toInt.toNat) = pv from own_Xp pv hp0.1 hp0.2]
      obtain ⟨cq28, kq28, q28a, q28b, q28c⟩ := isOf hZ e12 E_rv_12
      obtain ⟨_, _, ⟨T28, L28, k28, n28⟩, -, X28, ⟨Lc28, hQ28, l28, y28, z28⟩, st28⟩ := X12.virtualBack hx (y := (⟨"com/example/sigpoint/sigpoint/Rows", "remove", "(I)V"⟩ : MethodName)) (z := (⟨"com/example/sigpoint/sigpoint/Rows", "remove", "(I)V"⟩ : MethodName)) hown (mvT hZ (hw _ (List.mem_of_getElem? (i := 22) rfl))) (mvT hZ (hw _ (List.mem_of_getElem? (i := 23) rfl))) (notFace_of_selects (args := #[]) (mvT hZ (hw _ (List.mem_of_getElem? (i := 25) rfl)))) (mvT hZ (hw _ (List.mem_of_getElem? (i := 25) rfl))) (mvT hZ (hw _ (List.mem_of_getElem? (i := 24) rfl))) (by decide) (backOf (W := 0) (rm4 l Z a0 hw [] rv pv fr_2 (0 : Int32) (3 : Int32) (fun _ => 0) 0 h12 n0 Zs12 E_rv_12 F_rv_free_12 F_rv_freeCount_12 F_rv_high_12 A_fr_2_12 g_rv g2_1 g2_2 (by first | assumption | decide | rfl) (by first | assumption | decide | rfl) (by first | assumption | decide | rfl)) hZ (hw _ (List.mem_of_getElem? (i := 26) rfl)) (hw _ (List.mem_of_getElem? (i := 2) rfl)) (by decide) (by decide)) q28a q28c (g := (mkF m 119 #[.val (.int aa), .val (.int bb), .val (.int cc), .val (.ref rv), .val (.ref xs), .val (.int pv), .val (.int qv), .val (.int (1 : Int32)), .val (.int (0 : Int32)), .unset, .unset, .unset, .unset, .unset, .unset] [(.int pv), (.ref rv)])) rfl (by rw [hml]; rfl) (Steps.refl _) (argsL := [(.int pv)]) (rest := []) (lenOf pd_0_2 rfl) rfl (by show 2 * 0 + _ ≤ _; exact Nat.le_of_eq rfl) (hb hby at_119) (fun _ _ => ⟨rfl, e12, (by decide : 3 + 0 ≤ _), (by decide : 22 + 0 ≤ _)⟩)
      dsimp only [Pt.U, Pt.locs, Pt.cells, Pt.slots] at X28 l28 y28 z28 st28 hQ28
      subst l28 y28 z28
      obtain ⟨rfl, N28q, K28, g28_0, g28_1, g28_2, g28_3, g28_4⟩ := hQ28
      have N28 := Fr.app N12 N28q
      have E_rv_28 := E_rv_12.keep K28
      have A_xs_28 := Af_xs_13.keep K28 (ninS (Ne.symm ne_rv_xs) (ninS (Ne.symm ne_fr_2_xs) nin0))
      have Zs28 : n0 ≤ T28.heap.size := Nat.le_trans Zs12 K28.1
      refine own_st (fun tgt k => st28.trans k) ?_
      show own_Go p e below _ (T28.setTop (mkF m 122 #[.val (.int aa), .val (.int bb), .val (.int cc), .val (.ref rv), .val (.ref xs), .val (.int pv), .val (.int qv), .val (.int (1 : Int32)), .val (.int (0 : Int32)), .unset, .unset, .unset, .unset, .unset, .unset] []))
      have Ff_rv_29 := g28_2
      rw [show ((0 : Int32) + (1 : Int32)) = (1 : Int32) from by decide] at Ff_rv_29
      refine own_st (V := T28.setTop (mkF m 137 #[.val (.int aa), .val (.int bb), .val (.int cc), .val (.ref rv), .val (.ref xs), .val (.int pv), .val (.int qv), .val (.int (1 : Int32)), .val (.int (0 : Int32)), .unset, .unset, .unset, .unset, .unset, .unset] [(.ref rv)])) (fun tgt k => ?_) ?_
      · show Steps p.tables e below (T28.setTop (mkF m 122 #[.val (.int aa), .val (.int bb), .val (.int cc), .val (.ref rv), .val (.ref xs), .val (.int pv), .val (.int qv), .val (.int (1 : Int32)), .val (.int (0 : Int32)), .unset, .unset, .unset, .unset, .unset, .unset] [])) tgt
        refine XS.iload X28.here hx rfl (hb hby at_122) rfl ?_
        show Steps p.tables e below (T28.setTop (mkF m 124 #[.val (.int aa), .val (.int bb), .val (.int cc), .val (.ref rv), .val (.ref xs), .val (.int pv), .val (.int qv), .val (.int (1 : Int32)), .val (.int (0 : Int32)), .unset, .unset, .unset, .unset, .unset, .unset] [(.int (0 : Int32))])) tgt
        refine XS.ifYes X28.here hx rfl (pc0 := 124) (pc' := 136) rfl (hb hby at_124) rfl ((if0 _ _).trans (teq (by decide : (0 : Int32) = (0 : Int32))).1) (by decide) (by decide) ?_
        show Steps p.tables e below (T28.setTop (mkF m 136 #[.val (.int aa), .val (.int bb), .val (.int cc), .val (.ref rv), .val (.ref xs), .val (.int pv), .val (.int qv), .val (.int (1 : Int32)), .val (.int (0 : Int32)), .unset, .unset, .unset, .unset, .unset, .unset] [])) tgt
        refine XS.aloadN X28.here hx rfl (hb hby at_136) rfl rfl ?_
        exact k
      obtain ⟨cq30, kq30, q30a, q30b, q30c⟩ := isOf hZ rfl g28_0
      obtain ⟨_, _, ⟨T30, L30, k30, n30⟩, -, X30, ⟨Lc30, hQ30, l30, y30, z30⟩, st30⟩ := X28.virtualBack hx (y := (⟨"com/example/sigpoint/sigpoint/Rows", "add", "()I"⟩ : MethodName)) (z := (⟨"com/example/sigpoint/sigpoint/Rows", "add", "()I"⟩ : MethodName)) hown (mvT hZ (hw _ (List.mem_of_getElem? (i := 12) rfl))) (mvT hZ (hw _ (List.mem_of_getElem? (i := 13) rfl))) (notFace_of_selects (args := #[]) (mvT hZ (hw _ (List.mem_of_getElem? (i := 15) rfl)))) (mvT hZ (hw _ (List.mem_of_getElem? (i := 15) rfl))) (mvT hZ (hw _ (List.mem_of_getElem? (i := 14) rfl))) (by decide) (backOf (W := 0) (rm3a l Z a0 hw [] rv fr_2 (1 : Int32) (3 : Int32) (own_up (fun _ => 0) 0 pv) 0 T28.heap n0 Zs28 g28_0 g28_1 Ff_rv_29 g28_3 g28_4 g_rv g2_1 g2_2 (by first | assumption | decide | rfl) (by first | assumption | decide | rfl) (by first | assumption | decide | rfl)) hZ (hw _ (List.mem_of_getElem? (i := 16) rfl)) (hw _ (List.mem_of_getElem? (i := 2) rfl)) (by decide) (by decide)) q30a q30c (g := (mkF m 137 #[.val (.int aa), .val (.int bb), .val (.int cc), .val (.ref rv), .val (.ref xs), .val (.int pv), .val (.int qv), .val (.int (1 : Int32)), .val (.int (0 : Int32)), .unset, .unset, .unset, .unset, .unset, .unset] [(.ref rv)])) rfl (by rw [hml]; rfl) (Steps.refl _) (argsL := []) (rest := []) (lenOf pd_0_1 rfl) rfl (by show 2 * 0 + _ ≤ _; exact Nat.le_of_eq rfl) (hb hby at_137) (fun _ _ => ⟨rfl, rfl, (by decide : 3 + 0 ≤ _), (by decide : 22 + 0 ≤ _)⟩)
      dsimp only [Pt.U, Pt.locs, Pt.cells, Pt.slots] at X30 l30 y30 z30 st30 hQ30
      subst l30 y30 z30
      obtain ⟨rfl, N30q, K30, g30_0, g30_1, g30_2, g30_3⟩ := hQ30
      have N30 := Fr.app N28 N30q
      have E_rv_30 := g28_0.keep K30
      have A_xs_30 := A_xs_28.keep K30 (ninS (Ne.symm ne_rv_xs) nin0)
      have A_fr_2_30 := g28_4.keep K30 (ninS (Ne.symm g2_2) nin0)
      have Zs30 : n0 ≤ T30.heap.size := Nat.le_trans Zs28 K30.1
      refine own_st (fun tgt k => st30.trans k) ?_
      show own_Go p e below _ (T30.setTop (mkF m 140 #[.val (.int aa), .val (.int bb), .val (.int cc), .val (.ref rv), .val (.ref xs), .val (.int pv), .val (.int qv), .val (.int (1 : Int32)), .val (.int (0 : Int32)), .unset, .unset, .unset, .unset, .unset, .unset] [(.int ((own_up (fun _ => 0) 0 pv) 0))]))
      have Ff_rv_31 := g30_2
      rw [show ((1 : Int32) - (1 : Int32)) = (0 : Int32) from by decide] at Ff_rv_31
      refine own_st (V := T30.setTop (mkF m 143 #[.val (.int aa), .val (.int bb), .val (.int cc), .val (.ref rv), .val (.ref xs), .val (.int pv), .val (.int qv), .val (.int (1 : Int32)), .val (.int (0 : Int32)), .val (.int ((own_up (fun _ => 0) 0 pv) 0)), .unset, .unset, .unset, .unset, .unset] [(.ref rv)])) (fun tgt k => ?_) ?_
      · show Steps p.tables e below (T30.setTop (mkF m 140 #[.val (.int aa), .val (.int bb), .val (.int cc), .val (.ref rv), .val (.ref xs), .val (.int pv), .val (.int qv), .val (.int (1 : Int32)), .val (.int (0 : Int32)), .unset, .unset, .unset, .unset, .unset, .unset] [(.int ((own_up (fun _ => 0) 0 pv) 0))])) tgt
        refine XS.istore X30.here hx rfl (hb hby at_140) rfl (l' := #[.val (.int aa), .val (.int bb), .val (.int cc), .val (.ref rv), .val (.ref xs), .val (.int pv), .val (.int qv), .val (.int (1 : Int32)), .val (.int (0 : Int32)), .val (.int ((own_up (fun _ => 0) 0 pv) 0)), .unset, .unset, .unset, .unset, .unset]) rfl ?_
        show Steps p.tables e below (T30.setTop (mkF m 142 #[.val (.int aa), .val (.int bb), .val (.int cc), .val (.ref rv), .val (.ref xs), .val (.int pv), .val (.int qv), .val (.int (1 : Int32)), .val (.int (0 : Int32)), .val (.int ((own_up (fun _ => 0) 0 pv) 0)), .unset, .unset, .unset, .unset, .unset] [])) tgt
        refine XS.aloadN X30.here hx rfl (hb hby at_142) rfl rfl ?_
        exact k
      obtain ⟨cq32, kq32, q32a, q32b, q32c⟩ := isOf hZ rfl g30_0
      obtain ⟨_, _, ⟨T32, L32, k32, n32⟩, -, X32, ⟨Lc32, hQ32, l32, y32, z32⟩, st32⟩ := X30.virtualBack hx (y := (⟨"com/example/sigpoint/sigpoint/Rows", "add", "()I"⟩ : MethodName)) (z := (⟨"com/example/sigpoint/sigpoint/Rows", "add", "()I"⟩ : MethodName)) hown (mvT hZ (hw _ (List.mem_of_getElem? (i := 12) rfl))) (mvT hZ (hw _ (List.mem_of_getElem? (i := 13) rfl))) (notFace_of_selects (args := #[]) (mvT hZ (hw _ (List.mem_of_getElem? (i := 15) rfl)))) (mvT hZ (hw _ (List.mem_of_getElem? (i := 15) rfl))) (mvT hZ (hw _ (List.mem_of_getElem? (i := 14) rfl))) (by decide) (backOf (W := 0) (rm3b l Z a0 hw [] rv fr_2 (0 : Int32) (3 : Int32) (own_up (fun _ => 0) 0 pv) T30.heap n0 Zs30 g30_0 g30_1 Ff_rv_31 g30_3 A_fr_2_30 g_rv g2_1 g2_2 (by first | assumption | decide | rfl)) hZ (hw _ (List.mem_of_getElem? (i := 16) rfl)) (hw _ (List.mem_of_getElem? (i := 2) rfl)) (by decide) (by decide)) q32a q32c (g := (mkF m 143 #[.val (.int aa), .val (.int bb), .val (.int cc), .val (.ref rv), .val (.ref xs), .val (.int pv), .val (.int qv), .val (.int (1 : Int32)), .val (.int (0 : Int32)), .val (.int ((own_up (fun _ => 0) 0 pv) 0)), .unset, .unset, .unset, .unset, .unset] [(.ref rv)])) rfl (by rw [hml]; rfl) (Steps.refl _) (argsL := []) (rest := []) (lenOf pd_0_1 rfl) rfl (by show 2 * 0 + _ ≤ _; exact Nat.le_of_eq rfl) (hb hby at_143) (fun _ _ => ⟨rfl, rfl, (by decide : 3 + 0 ≤ _), (by decide : 22 + 0 ≤ _)⟩)
      dsimp only [Pt.U, Pt.locs, Pt.cells, Pt.slots] at X32 l32 y32 z32 st32 hQ32
      subst l32 y32 z32
      obtain ⟨rfl, N32q, K32, g32_0, g32_1, g32_2, g32_3⟩ := hQ32
      have N32 := Fr.app N30 N32q
      have E_rv_32 := g30_0.keep K32
      have A_xs_32 := A_xs_30.keep K32 (ninS (Ne.symm ne_rv_xs) nin0)
      have A_fr_2_32 := A_fr_2_30.keep K32 (ninS (Ne.symm g2_2) nin0)
      have Zs32 : n0 ≤ T32.heap.size := Nat.le_trans Zs30 K32.1
      refine own_st (fun tgt k => st32.trans k) ?_
      show own_Go p e below _ (T32.setTop (mkF m 146 #[.val (.int aa), .val (.int bb), .val (.int cc), .val (.ref rv), .val (.ref xs), .val (.int pv), .val (.int qv), .val (.int (1 : Int32)), .val (.int (0 : Int32)), .val (.int ((own_up (fun _ => 0) 0 pv) 0)), .unset, .unset, .unset, .unset, .unset] [(.int (3 : Int32))]))
      have Ff_rv_33 := g32_3
      rw [show ((3 : Int32) + (1 : Int32)) = (4 : Int32) from by decide] at Ff_rv_33
      refine own_st (V := T32.setTop (mkF m 149 #[.val (.int aa), .val (.int bb), .val (.int cc), .val (.ref rv), .val (.ref xs), .val (.int pv), .val (.int qv), .val (.int (1 : Int32)), .val (.int (0 : Int32)), .val (.int ((own_up (fun _ => 0) 0 pv) 0)), .val (.int (3 : Int32)), .unset, .unset, .unset, .unset] [(.ref rv)])) (fun tgt k => ?_) ?_
      · show Steps p.tables e below (T32.setTop (mkF m 146 #[.val (.int aa), .val (.int bb), .val (.int cc), .val (.ref rv), .val (.ref xs), .val (.int pv), .val (.int qv), .val (.int (1 : Int32)), .val (.int (0 : Int32)), .val (.int ((own_up (fun _ => 0) 0 pv) 0)), .unset, .unset, .unset, .unset, .unset] [(.int (3 : Int32))])) tgt
        refine XS.istore X32.here hx rfl (hb hby at_146) rfl (l' := #[.val (.int aa), .val (.int bb), .val (.int cc), .val (.ref rv), .val (.ref xs), .val (.int pv), .val (.int qv), .val (.int (1 : Int32)), .val (.int (0 : Int32)), .val (.int ((own_up (fun _ => 0) 0 pv) 0)), .val (.int (3 : Int32)), .unset, .unset, .unset, .unset]) rfl ?_
        show Steps p.tables e below (T32.setTop (mkF m 148 #[.val (.int aa), .val (.int bb), .val (.int cc), .val (.ref rv), .val (.ref xs), .val (.int pv), .val (.int qv), .val (.int (1 : Int32)), .val (.int (0 : Int32)), .val (.int ((own_up (fun _ => 0) 0 pv) 0)), .val (.int (3 : Int32)), .unset, .unset, .unset, .unset] [])) tgt
        refine XS.aloadN X32.here hx rfl (hb hby at_148) rfl rfl ?_
        exact k
      obtain ⟨cq34, kq34, q34a, q34b, q34c⟩ := isOf hZ rfl g32_0
      obtain ⟨_, _, ⟨T34, L34, k34, n34⟩, -, X34, ⟨Lc34, hQ34, l34, y34, z34⟩, st34⟩ := X32.virtualBack hx (y := (⟨"com/example/sigpoint/sigpoint/Rows", "high", "()I"⟩ : MethodName)) (z := (⟨"com/example/sigpoint/sigpoint/Rows", "high", "()I"⟩ : MethodName)) hown (mvT hZ (hw _ (List.mem_of_getElem? (i := 27) rfl))) (mvT hZ (hw _ (List.mem_of_getElem? (i := 28) rfl))) (notFace_of_selects (args := #[]) (mvT hZ (hw _ (List.mem_of_getElem? (i := 30) rfl)))) (mvT hZ (hw _ (List.mem_of_getElem? (i := 30) rfl))) (mvT hZ (hw _ (List.mem_of_getElem? (i := 29) rfl))) (by decide) (backOf (W := 0) (rm5 l Z a0 hw [] rv (4 : Int32) T32.heap n0 Zs32 Ff_rv_33) hZ (hw _ (List.mem_of_getElem? (i := 31) rfl)) (hw _ (List.mem_of_getElem? (i := 2) rfl)) (by decide) (by decide)) q34a q34c (g := (mkF m 149 #[.val (.int aa), .val (.int bb), .val (.int cc), .val (.ref rv), .val (.ref xs), .val (.int pv), .val (.int qv), .val (.int (1 : Int32)), .val (.int (0 : Int32)), .val (.int ((own_up (fun _ => 0) 0 pv) 0)), .val (.int (3 : Int32)), .unset, .unset, .unset, .unset] [(.ref rv)])) rfl (by rw [hml]; rfl) (Steps.refl _) (argsL := []) (rest := []) (lenOf pd_0_1 rfl) rfl (by show 2 * 0 + _ ≤ _; exact Nat.le_of_eq rfl) (hb hby at_149) (fun _ _ => ⟨rfl, rfl, (by decide : 3 + 0 ≤ _), (by decide : 22 + 0 ≤ _)⟩)
      dsimp only [Pt.U, Pt.locs, Pt.cells, Pt.slots] at X34 l34 y34 z34 st34 hQ34
      subst l34 y34 z34
      obtain ⟨rfl, N34q, K34⟩ := hQ34
      have N34 := Fr.app N32 N34q
      refine own_st (fun tgt k => st34.trans k) ?_
      show own_Go p e below _ (T34.setTop (mkF m 152 #[.val (.int aa), .val (.int bb), .val (.int cc), .val (.ref rv), .val (.ref xs), .val (.int pv), .val (.int qv), .val (.int (1 : Int32)), .val (.int (0 : Int32)), .val (.int ((own_up (fun _ => 0) 0 pv) 0)), .val (.int (3 : Int32)), .unset, .unset, .unset, .unset] [(.int (4 : Int32))]))
      refine own_st (V := T34.setTop (mkF m 249 #[.val (.int aa), .val (.int bb), .val (.int cc), .val (.ref rv), .val (.ref xs), .val (.int pv), .val (.int qv), .val (.int (1 : Int32)), .val (.int (0 : Int32)), .val (.int ((own_up (fun _ => 0) 0 pv) 0)), .val (.int (3 : Int32)), .val (.int (4 : Int32)), .val (.int pv), .val (.int (3 : Int32)), .val (.int (4 : Int32))] [(.int (1 : Int32))])) (fun tgt k => ?_) ?_
      · show Steps p.tables e below (T34.setTop (mkF m 152 #[.val (.int aa), .val (.int bb), .val (.int cc), .val (.ref rv), .val (.ref xs), .val (.int pv), .val (.int qv), .val (.int (1 : Int32)), .val (.int (0 : Int32)), .val (.int ((own_up (fun _ => 0) 0 pv) 0)), .val (.int (3 : Int32)), .unset, .unset, .unset, .unset] [(.int (4 : Int32))])) tgt
        refine XS.istore X34.here hx rfl (hb hby at_152) rfl (l' := #[.val (.int aa), .val (.int bb), .val (.int cc), .val (.ref rv), .val (.ref xs), .val (.int pv), .val (.int qv), .val (.int (1 : Int32)), .val (.int (0 : Int32)), .val (.int ((own_up (fun _ => 0) 0 pv) 0)), .val (.int (3 : Int32)), .val (.int (4 : Int32)), .unset, .unset, .unset]) rfl ?_
        show Steps p.tables e below (T34.setTop (mkF m 154 #[.val (.int aa), .val (.int bb), .val (.int cc), .val (.ref rv), .val (.ref xs), .val (.int pv), .val (.int qv), .val (.int (1 : Int32)), .val (.int (0 : Int32)), .val (.int ((own_up (fun _ => 0) 0 pv) 0)), .val (.int (3 : Int32)), .val (.int (4 : Int32)), .unset, .unset, .unset] [])) tgt
        refine XS.iload X34.here hx rfl (hb hby at_154) rfl ?_
        show Steps p.tables e below (T34.setTop (mkF m 156 #[.val (.int aa), .val (.int bb), .val (.int cc), .val (.ref rv), .val (.ref xs), .val (.int pv), .val (.int qv), .val (.int (1 : Int32)), .val (.int (0 : Int32)), .val (.int ((own_up (fun _ => 0) 0 pv) 0)), .val (.int (3 : Int32)), .val (.int (4 : Int32)), .unset, .unset, .unset] [(.int (1 : Int32))])) tgt
        refine XS.ifNo X34.here hx rfl (hb hby at_156) rfl ((if0 _ _).trans (feq (by decide : ¬ ((1 : Int32) = (0 : Int32)))).1) ?_
        show Steps p.tables e below (T34.setTop (mkF m 159 #[.val (.int aa), .val (.int bb), .val (.int cc), .val (.ref rv), .val (.ref xs), .val (.int pv), .val (.int qv), .val (.int (1 : Int32)), .val (.int (0 : Int32)), .val (.int ((own_up (fun _ => 0) 0 pv) 0)), .val (.int (3 : Int32)), .val (.int (4 : Int32)), .unset, .unset, .unset] [])) tgt
        refine XS.iload X34.here hx rfl (hb hby at_159) rfl ?_
        show Steps p.tables e below (T34.setTop (mkF m 161 #[.val (.int aa), .val (.int bb), .val (.int cc), .val (.ref rv), .val (.ref xs), .val (.int pv), .val (.int qv), .val (.int (1 : Int32)), .val (.int (0 : Int32)), .val (.int ((own_up (fun _ => 0) 0 pv) 0)), .val (.int (3 : Int32)), .val (.int (4 : Int32)), .unset, .unset, .unset] [(.int (0 : Int32))])) tgt
        refine XS.ifYes X34.here hx rfl (pc0 := 161) (pc' := 178) rfl (hb hby at_161) rfl ((if0 _ _).trans (teq (by decide : (0 : Int32) = (0 : Int32))).1) (by decide) (by decide) ?_
        show Steps p.tables e below (T34.setTop (mkF m 178 #[.val (.int aa), .val (.int bb), .val (.int cc), .val (.ref rv), .val (.ref xs), .val (.int pv), .val (.int qv), .val (.int (1 : Int32)), .val (.int (0 : Int32)), .val (.int ((own_up (fun _ => 0) 0 pv) 0)), .val (.int (3 : Int32)), .val (.int (4 : Int32)), .unset, .unset, .unset] [])) tgt
        refine XS.iload X34.here hx rfl (hb hby at_178) rfl ?_
        show Steps p.tables e below (T34.setTop (mkF m 180 #[.val (.int aa), .val (.int bb), .val (.int cc), .val (.ref rv), .val (.ref xs), .val (.int pv), .val (.int qv), .val (.int (1 : Int32)), .val (.int (0 : Int32)), .val (.int ((own_up (fun _ => 0) 0 pv) 0)), .val (.int (3 : Int32)), .val (.int (4 : Int32)), .unset, .unset, .unset] [(.int (1 : Int32))])) tgt
        refine XS.ifNo X34.here hx rfl (hb hby at_180) rfl ((if0 _ _).trans (feq (by decide : ¬ ((1 : Int32) = (0 : Int32)))).1) ?_
        show Steps p.tables e below (T34.setTop (mkF m 183 #[.val (.int aa), .val (.int bb), .val (.int cc), .val (.ref rv), .val (.ref xs), .val (.int pv), .val (.int qv), .val (.int (1 : Int32)), .val (.int (0 : Int32)), .val (.int ((own_up (fun _ => 0) 0 pv) 0)), .val (.int (3 : Int32)), .val (.int (4 : Int32)), .unset, .unset, .unset] [])) tgt
        refine XS.iload X34.here hx rfl (hb hby at_183) rfl ?_
        show Steps p.tables e below (T34.setTop (mkF m 185 #[.val (.int aa), .val (.int bb), .val (.int cc), .val (.ref rv), .val (.ref xs), .val (.int pv), .val (.int qv), .val (.int (1 : Int32)), .val (.int (0 : Int32)), .val (.int ((own_up (fun _ => 0) 0 pv) 0)), .val (.int (3 : Int32)), .val (.int (4 : Int32)), .unset, .unset, .unset] [(.int pv)])) tgt
        refine XS.istore X34.here hx rfl (hb hby at_185) rfl (l' := #[.val (.int aa), .val (.int bb), .val (.int cc), .val (.ref rv), .val (.ref xs), .val (.int pv), .val (.int qv), .val (.int (1 : Int32)), .val (.int (0 : Int32)), .val (.int ((own_up (fun _ => 0) 0 pv) 0)), .val (.int (3 : Int32)), .val (.int (4 : Int32)), .val (.int pv), .unset, .unset]) rfl ?_
        show Steps p.tables e below (T34.setTop (mkF m 187 #[.val (.int aa), .val (.int bb), .val (.int cc), .val (.ref rv), .val (.ref xs), .val (.int pv), .val (.int qv), .val (.int (1 : Int32)), .val (.int (0 : Int32)), .val (.int ((own_up (fun _ => 0) 0 pv) 0)), .val (.int (3 : Int32)), .val (.int (4 : Int32)), .val (.int pv), .unset, .unset] [])) tgt
        refine XS.iconst X34.here hx rfl (hb hby at_187) ?_
        show Steps p.tables e below (T34.setTop (mkF m 188 #[.val (.int aa), .val (.int bb), .val (.int cc), .val (.ref rv), .val (.ref xs), .val (.int pv), .val (.int qv), .val (.int (1 : Int32)), .val (.int (0 : Int32)), .val (.int ((own_up (fun _ => 0) 0 pv) 0)), .val (.int (3 : Int32)), .val (.int (4 : Int32)), .val (.int pv), .unset, .unset] [(.int (3 : Int32))])) tgt
        refine XS.istore X34.here hx rfl (hb hby at_188) rfl (l' := #[.val (.int aa), .val (.int bb), .val (.int cc), .val (.ref rv), .val (.ref xs), .val (.int pv), .val (.int qv), .val (.int (1 : Int32)), .val (.int (0 : Int32)), .val (.int ((own_up (fun _ => 0) 0 pv) 0)), .val (.int (3 : Int32)), .val (.int (4 : Int32)), .val (.int pv), .val (.int (3 : Int32)), .unset]) rfl ?_
        show Steps p.tables e below (T34.setTop (mkF m 190 #[.val (.int aa), .val (.int bb), .val (.int cc), .val (.ref rv), .val (.ref xs), .val (.int pv), .val (.int qv), .val (.int (1 : Int32)), .val (.int (0 : Int32)), .val (.int ((own_up (fun _ => 0) 0 pv) 0)), .val (.int (3 : Int32)), .val (.int (4 : Int32)), .val (.int pv), .val (.int (3 : Int32)), .unset] [])) tgt
        refine XS.iconst X34.here hx rfl (hb hby at_190) ?_
        show Steps p.tables e below (T34.setTop (mkF m 191 #[.val (.int aa), .val (.int bb), .val (.int cc), .val (.ref rv), .val (.ref xs), .val (.int pv), .val (.int qv), .val (.int (1 : Int32)), .val (.int (0 : Int32)), .val (.int ((own_up (fun _ => 0) 0 pv) 0)), .val (.int (3 : Int32)), .val (.int (4 : Int32)), .val (.int pv), .val (.int (3 : Int32)), .unset] [(.int (4 : Int32))])) tgt
        refine XS.istore X34.here hx rfl (hb hby at_191) rfl (l' := #[.val (.int aa), .val (.int bb), .val (.int cc), .val (.ref rv), .val (.ref xs), .val (.int pv), .val (.int qv), .val (.int (1 : Int32)), .val (.int (0 : Int32)), .val (.int ((own_up (fun _ => 0) 0 pv) 0)), .val (.int (3 : Int32)), .val (.int (4 : Int32)), .val (.int pv), .val (.int (3 : Int32)), .val (.int (4 : Int32))]) rfl ?_
        show Steps p.tables e below (T34.setTop (mkF m 193 #[.val (.int aa), .val (.int bb), .val (.int cc), .val (.ref rv), .val (.ref xs), .val (.int pv), .val (.int qv), .val (.int (1 : Int32)), .val (.int (0 : Int32)), .val (.int ((own_up (fun _ => 0) 0 pv) 0)), .val (.int (3 : Int32)), .val (.int (4 : Int32)), .val (.int pv), .val (.int (3 : Int32)), .val (.int (4 : Int32))] [])) tgt
        refine XS.goto X34.here hx rfl (pc0 := 193) (pc' := 223) rfl (hb hby at_193) (by decide) (by decide) ?_
        show Steps p.tables e below (T34.setTop (mkF m 223 #[.val (.int aa), .val (.int bb), .val (.int cc), .val (.ref rv), .val (.ref xs), .val (.int pv), .val (.int qv), .val (.int (1 : Int32)), .val (.int (0 : Int32)), .val (.int ((own_up (fun _ => 0) 0 pv) 0)), .val (.int (3 : Int32)), .val (.int (4 : Int32)), .val (.int pv), .val (.int (3 : Int32)), .val (.int (4 : Int32))] [])) tgt
        refine XS.iload X34.here hx rfl (hb hby at_223) rfl ?_
        show Steps p.tables e below (T34.setTop (mkF m 225 #[.val (.int aa), .val (.int bb), .val (.int cc), .val (.ref rv), .val (.ref xs), .val (.int pv), .val (.int qv), .val (.int (1 : Int32)), .val (.int (0 : Int32)), .val (.int ((own_up (fun _ => 0) 0 pv) 0)), .val (.int (3 : Int32)), .val (.int (4 : Int32)), .val (.int pv), .val (.int (3 : Int32)), .val (.int (4 : Int32))] [(.int ((own_up (fun _ => 0) 0 pv) 0))])) tgt
        refine XS.iload X34.here hx rfl (hb hby at_225) rfl ?_
        show Steps p.tables e below (T34.setTop (mkF m 227 #[.val (.int aa), .val (.int bb), .val (.int cc), .val (.ref rv), .val (.ref xs), .val (.int pv), .val (.int qv), .val (.int (1 : Int32)), .val (.int (0 : Int32)), .val (.int ((own_up (fun _ => 0) 0 pv) 0)), .val (.int (3 : Int32)), .val (.int (4 : Int32)), .val (.int pv), .val (.int (3 : Int32)), .val (.int (4 : Int32))] [(.int pv), (.int ((own_up (fun _ => 0) 0 pv) 0))])) tgt
        refine XS.icmpNo X34.here hx rfl (hb hby at_227) rfl (teq (by simp [own_up])).2 ?_
        show Steps p.tables e below (T34.setTop (mkF m 230 #[.val (.int aa), .val (.int bb), .val (.int cc), .val (.ref rv), .val (.ref xs), .val (.int pv), .val (.int qv), .val (.int (1 : Int32)), .val (.int (0 : Int32)), .val (.int ((own_up (fun _ => 0) 0 pv) 0)), .val (.int (3 : Int32)), .val (.int (4 : Int32)), .val (.int pv), .val (.int (3 : Int32)), .val (.int (4 : Int32))] [])) tgt
        refine XS.iload X34.here hx rfl (hb hby at_230) rfl ?_
        show Steps p.tables e below (T34.setTop (mkF m 232 #[.val (.int aa), .val (.int bb), .val (.int cc), .val (.ref rv), .val (.ref xs), .val (.int pv), .val (.int qv), .val (.int (1 : Int32)), .val (.int (0 : Int32)), .val (.int ((own_up (fun _ => 0) 0 pv) 0)), .val (.int (3 : Int32)), .val (.int (4 : Int32)), .val (.int pv), .val (.int (3 : Int32)), .val (.int (4 : Int32))] [(.int (3 : Int32))])) tgt
        refine XS.iload X34.here hx rfl (hb hby at_232) rfl ?_
        show Steps p.tables e below (T34.setTop (mkF m 234 #[.val (.int aa), .val (.int bb), .val (.int cc), .val (.ref rv), .val (.ref xs), .val (.int pv), .val (.int qv), .val (.int (1 : Int32)), .val (.int (0 : Int32)), .val (.int ((own_up (fun _ => 0) 0 pv) 0)), .val (.int (3 : Int32)), .val (.int (4 : Int32)), .val (.int pv), .val (.int (3 : Int32)), .val (.int (4 : Int32))] [(.int (3 : Int32)), (.int (3 : Int32))])) tgt
        refine XS.icmpNo X34.here hx rfl (hb hby at_234) rfl (teq (by decide : (3 : Int32) = (3 : Int32))).2 ?_
        show Steps p.tables e below (T34.setTop (mkF m 237 #[.val (.int aa), .val (.int bb), .val (.int cc), .val (.ref rv), .val (.ref xs), .val (.int pv), .val (.int qv), .val (.int (1 : Int32)), .val (.int (0 : Int32)), .val (.int ((own_up (fun _ => 0) 0 pv) 0)), .val (.int (3 : Int32)), .val (.int (4 : Int32)), .val (.int pv), .val (.int (3 : Int32)), .val (.int (4 : Int32))] [])) tgt
        refine XS.iload X34.here hx rfl (hb hby at_237) rfl ?_
        show Steps p.tables e below (T34.setTop (mkF m 239 #[.val (.int aa), .val (.int bb), .val (.int cc), .val (.ref rv), .val (.ref xs), .val (.int pv), .val (.int qv), .val (.int (1 : Int32)), .val (.int (0 : Int32)), .val (.int ((own_up (fun _ => 0) 0 pv) 0)), .val (.int (3 : Int32)), .val (.int (4 : Int32)), .val (.int pv), .val (.int (3 : Int32)), .val (.int (4 : Int32))] [(.int (4 : Int32))])) tgt
        refine XS.iload X34.here hx rfl (hb hby at_239) rfl ?_
        show Steps p.tables e below (T34.setTop (mkF m 241 #[.val (.int aa), .val (.int bb), .val (.int cc), .val (.ref rv), .val (.ref xs), .val (.int pv), .val (.int qv), .val (.int (1 : Int32)), .val (.int (0 : Int32)), .val (.int ((own_up (fun _ => 0) 0 pv) 0)), .val (.int (3 : Int32)), .val (.int (4 : Int32)), .val (.int pv), .val (.int (3 : Int32)), .val (.int (4 : Int32))] [(.int (4 : Int32)), (.int (4 : Int32))])) tgt
        refine XS.icmpNo X34.here hx rfl (hb hby at_241) rfl (teq (by decide : (4 : Int32) = (4 : Int32))).2 ?_
        show Steps p.tables e below (T34.setTop (mkF m 244 #[.val (.int aa), .val (.int bb), .val (.int cc), .val (.ref rv), .val (.ref xs), .val (.int pv), .val (.int qv), .val (.int (1 : Int32)), .val (.int (0 : Int32)), .val (.int ((own_up (fun _ => 0) 0 pv) 0)), .val (.int (3 : Int32)), .val (.int (4 : Int32)), .val (.int pv), .val (.int (3 : Int32)), .val (.int (4 : Int32))] [])) tgt
        refine XS.iconst X34.here hx rfl (hb hby at_244) ?_
        show Steps p.tables e below (T34.setTop (mkF m 245 #[.val (.int aa), .val (.int bb), .val (.int cc), .val (.ref rv), .val (.ref xs), .val (.int pv), .val (.int qv), .val (.int (1 : Int32)), .val (.int (0 : Int32)), .val (.int ((own_up (fun _ => 0) 0 pv) 0)), .val (.int (3 : Int32)), .val (.int (4 : Int32)), .val (.int pv), .val (.int (3 : Int32)), .val (.int (4 : Int32))] [(.int (1 : Int32))])) tgt
        refine XS.goto X34.here hx rfl (pc0 := 245) (pc' := 249) rfl (hb hby at_245) (by decide) (by decide) ?_
        exact k
      refine own_retN X34 hx hlk (t := .boolean) (z' := (1 : Int32)) Bd.returns (by simp) rfl (hb hby at_249) ?_ (by decide) (by decide)
      show Q0 Z aa bb cc h0 n0 (some (.int (1 : Int32))) T34.heap _
      rw [K34]
      exact ⟨rfl, N34⟩
    · skip
      refine own_st (V := T12.setTop (mkF m 119 #[.val (.int aa), .val (.int bb), .val (.int cc), .val (.ref rv), .val (.ref xs), .val (.int pv), .val (.int qv), .val (.int (1 : Int32)), .val (.int (1 : Int32)), .unset, .unset, .unset, .unset, .unset, .unset] [(.int (own_X pv.toInt.toNat)), (.ref rv)])) (fun tgt k => ?_) ?_
      · show Steps p.tables e below (T12.setTop (mkF m 98 #[.val (.int aa), .val (.int bb), .val (.int cc), .val (.ref rv), .val (.ref xs), .val (.int pv), .val (.int qv), .val (.int (1 : Int32)), .unset, .unset, .unset, .unset, .unset, .unset, .unset] [(.int (cc &&& (2 : Int32)))])) tgt
        refine XS.ifNo X12.here hx rfl (hb hby at_98) rfl ((if0 _ _).trans (feq hc98).1) ?_
        show Steps p.tables e below (T12.setTop (mkF m 101 #[.val (.int aa), .val (.int bb), .val (.int cc), .val (.ref rv), .val (.ref xs), .val (.int pv), .val (.int qv), .val (.int (1 : Int32)), .unset, .unset, .unset, .unset, .unset, .unset, .unset] [])) tgt
        refine XS.iconst X12.here hx rfl (hb hby at_101) ?_
        show Steps p.tables e below (T12.setTop (mkF m 102 #[.val (.int aa), .val (.int bb), .val (.int cc), .val (.ref rv), .val (.ref xs), .val (.int pv), .val (.int qv), .val (.int (1 : Int32)), .unset, .unset, .unset, .unset, .unset, .unset, .unset] [(.int (1 : Int32))])) tgt
        refine XS.goto X12.here hx rfl (pc0 := 102) (pc' := 106) rfl (hb hby at_102) (by decide) (by decide) ?_
        show Steps p.tables e below (T12.setTop (mkF m 106 #[.val (.int aa), .val (.int bb), .val (.int cc), .val (.ref rv), .val (.ref xs), .val (.int pv), .val (.int qv), .val (.int (1 : Int32)), .unset, .unset, .unset, .unset, .unset, .unset, .unset] [(.int (1 : Int32))])) tgt
        refine XS.istore X12.here hx rfl (hb hby at_106) rfl (l' := #[.val (.int aa), .val (.int bb), .val (.int cc), .val (.ref rv), .val (.ref xs), .val (.int pv), .val (.int qv), .val (.int (1 : Int32)), .val (.int (1 : Int32)), .unset, .unset, .unset, .unset, .unset, .unset]) rfl ?_
        show Steps p.tables e below (T12.setTop (mkF m 108 #[.val (.int aa), .val (.int bb), .val (.int cc), .val (.ref rv), .val (.ref xs), .val (.int pv), .val (.int qv), .val (.int (1 : Int32)), .val (.int (1 : Int32)), .unset, .unset, .unset, .unset, .unset, .unset] [])) tgt
        refine XS.iload X12.here hx rfl (hb hby at_108) rfl ?_
        show Steps p.tables e below (T12.setTop (mkF m 110 #[.val (.int aa), .val (.int bb), .val (.int cc), .val (.ref rv), .val (.ref xs), .val (.int pv), .val (.int qv), .val (.int (1 : Int32)), .val (.int (1 : Int32)), .unset, .unset, .unset, .unset, .unset, .unset] [(.int (1 : Int32))])) tgt
        refine XS.ifNo X12.here hx rfl (hb hby at_110) rfl ((if0 _ _).trans (feq (by decide : ¬ ((1 : Int32) = (0 : Int32)))).1) ?_
        show Steps p.tables e below (T12.setTop (mkF m 113 #[.val (.int aa), .val (.int bb), .val (.int cc), .val (.ref rv), .val (.ref xs), .val (.int pv), .val (.int qv), .val (.int (1 : Int32)), .val (.int (1 : Int32)), .unset, .unset, .unset, .unset, .unset, .unset] [])) tgt
        refine XS.aloadN X12.here hx rfl (hb hby at_113) rfl rfl ?_
        show Steps p.tables e below (T12.setTop (mkF m 114 #[.val (.int aa), .val (.int bb), .val (.int cc), .val (.ref rv), .val (.ref xs), .val (.int pv), .val (.int qv), .val (.int (1 : Int32)), .val (.int (1 : Int32)), .unset, .unset, .unset, .unset, .unset, .unset] [(.ref rv)])) tgt
        refine XS.aload X12.here hx rfl (hb hby at_114) rfl rfl ?_
        show Steps p.tables e below (T12.setTop (mkF m 116 #[.val (.int aa), .val (.int bb), .val (.int cc), .val (.ref rv), .val (.ref xs), .val (.int pv), .val (.int qv), .val (.int (1 : Int32)), .val (.int (1 : Int32)), .unset, .unset, .unset, .unset, .unset, .unset] [(.ref xs), (.ref rv)])) tgt
        refine XS.iload X12.here hx rfl (hb hby at_116) rfl ?_
        show Steps p.tables e below (T12.setTop (mkF m 118 #[.val (.int aa), .val (.int bb), .val (.int cc), .val (.ref rv), .val (.ref xs), .val (.int pv), .val (.int qv), .val (.int (1 : Int32)), .val (.int (1 : Int32)), .unset, .unset, .unset, .unset, .unset, .unset] [(.int pv), (.ref xs), (.ref rv)])) tgt
        refine own_iaload X12 hx hZ e12 Af_xs_13 (j := pv) (k := pv.toInt.toNat) hp1 hp2 (g := (mkF m 118 #[.val (.int aa), .val (.int bb), .val (.int cc), .val (.ref rv), .val (.ref xs), .val (.int pv), .val (.int qv), .val (.int (1 : Int32)), .val (.int (1 : Int32)), .unset, .unset, .unset, .unset, .unset, .unset] [(.int pv), (.ref xs), (.ref rv)])) rfl rfl (hb hby at_118) ?_
        exact k
      rw [show (own_X pv.toInt.toNat) = pv from own_Xp pv hp0.1 hp0.2]
      obtain ⟨cq36, kq36, q36a, q36b, q36c⟩ := isOf hZ e12 E_rv_12
      obtain ⟨_, _, ⟨T36, L36, k36, n36⟩, -, X36, ⟨Lc36, hQ36, l36, y36, z36⟩, st36⟩ := X12.virtualBack hx (y := (⟨"com/example/sigpoint/sigpoint/Rows", "remove", "(I)V"⟩ : MethodName)) (z := (⟨"com/example/sigpoint/sigpoint/Rows", "remove", "(I)V"⟩ : MethodName)) hown (mvT hZ (hw _ (List.mem_of_getElem? (i := 22) rfl))) (mvT hZ (hw _ (List.mem_of_getElem? (i := 23) rfl))) (notFace_of_selects (args := #[]) (mvT hZ (hw _ (List.mem_of_getElem? (i := 25) rfl)))) (mvT hZ (hw _ (List.mem_of_getElem? (i := 25) rfl))) (mvT hZ (hw _ (List.mem_of_getElem? (i := 24) rfl))) (by decide) (backOf (W := 0) (rm4 l Z a0 hw [] rv pv fr_2 (0 : Int32) (3 : Int32) (fun _ => 0) 0 h12 n0 Zs12 E_rv_12 F_rv_free_12 F_rv_freeCount_12 F_rv_high_12 A_fr_2_12 g_rv g2_1 g2_2 (by first | assumption | decide | rfl) (by first | assumption | decide | rfl) (by first | assumption | decide | rfl)) hZ (hw _ (List.mem_of_getElem? (i := 26) rfl)) (hw _ (List.mem_of_getElem? (i := 2) rfl)) (by decide) (by decide)) q36a q36c (g := (mkF m 119 #[.val (.int aa), .val (.int bb), .val (.int cc), .val (.ref rv), .val (.ref xs), .val (.int pv), .val (.int qv), .val (.int (1 : Int32)), .val (.int (1 : Int32)), .unset, .unset, .unset, .unset, .unset, .unset] [(.int pv), (.ref rv)])) rfl (by rw [hml]; rfl) (Steps.refl _) (argsL := [(.int pv)]) (rest := []) (lenOf pd_0_2 rfl) rfl (by show 2 * 0 + _ ≤ _; exact Nat.le_of_eq rfl) (hb hby at_119) (fun _ _ => ⟨rfl, e12, (by decide : 3 + 0 ≤ _), (by decide : 22 + 0 ≤ _)⟩)
      dsimp only [Pt.U, Pt.locs, Pt.cells, Pt.slots] at X36 l36 y36 z36 st36 hQ36
      subst l36 y36 z36
      obtain ⟨rfl, N36q, K36, g36_0, g36_1, g36_2, g36_3, g36_4⟩ := hQ36
      have N36 := Fr.app N12 N36q
      have E_rv_36 := E_rv_12.keep K36
      have A_xs_36 := Af_xs_13.keep K36 (ninS (Ne.symm ne_rv_xs) (ninS (Ne.symm ne_fr_2_xs) nin0))
      have Zs36 : n0 ≤ T36.heap.size := Nat.le_trans Zs12 K36.1
      refine own_st (fun tgt k => st36.trans k) ?_
      show own_Go p e below _ (T36.setTop (mkF m 122 #[.val (.int aa), .val (.int bb), .val (.int cc), .val (.ref rv), .val (.ref xs), .val (.int pv), .val (.int qv), .val (.int (1 : Int32)), .val (.int (1 : Int32)), .unset, .unset, .unset, .unset, .unset, .unset] []))
      have Ff_rv_37 := g36_2
      rw [show ((0 : Int32) + (1 : Int32)) = (1 : Int32) from by decide] at Ff_rv_37
      refine own_st (V := T36.setTop (mkF m 133 #[.val (.int aa), .val (.int bb), .val (.int cc), .val (.ref rv), .val (.ref xs), .val (.int pv), .val (.int qv), .val (.int (1 : Int32)), .val (.int (1 : Int32)), .unset, .unset, .unset, .unset, .unset, .unset] [(.int (own_X qv.toInt.toNat)), (.ref rv)])) (fun tgt k => ?_) ?_
      · show Steps p.tables e below (T36.setTop (mkF m 122 #[.val (.int aa), .val (.int bb), .val (.int cc), .val (.ref rv), .val (.ref xs), .val (.int pv), .val (.int qv), .val (.int (1 : Int32)), .val (.int (1 : Int32)), .unset, .unset, .unset, .unset, .unset, .unset] [])) tgt
        refine XS.iload X36.here hx rfl (hb hby at_122) rfl ?_
        show Steps p.tables e below (T36.setTop (mkF m 124 #[.val (.int aa), .val (.int bb), .val (.int cc), .val (.ref rv), .val (.ref xs), .val (.int pv), .val (.int qv), .val (.int (1 : Int32)), .val (.int (1 : Int32)), .unset, .unset, .unset, .unset, .unset, .unset] [(.int (1 : Int32))])) tgt
        refine XS.ifNo X36.here hx rfl (hb hby at_124) rfl ((if0 _ _).trans (feq (by decide : ¬ ((1 : Int32) = (0 : Int32)))).1) ?_
        show Steps p.tables e below (T36.setTop (mkF m 127 #[.val (.int aa), .val (.int bb), .val (.int cc), .val (.ref rv), .val (.ref xs), .val (.int pv), .val (.int qv), .val (.int (1 : Int32)), .val (.int (1 : Int32)), .unset, .unset, .unset, .unset, .unset, .unset] [])) tgt
        refine XS.aloadN X36.here hx rfl (hb hby at_127) rfl rfl ?_
        show Steps p.tables e below (T36.setTop (mkF m 128 #[.val (.int aa), .val (.int bb), .val (.int cc), .val (.ref rv), .val (.ref xs), .val (.int pv), .val (.int qv), .val (.int (1 : Int32)), .val (.int (1 : Int32)), .unset, .unset, .unset, .unset, .unset, .unset] [(.ref rv)])) tgt
        refine XS.aload X36.here hx rfl (hb hby at_128) rfl rfl ?_
        show Steps p.tables e below (T36.setTop (mkF m 130 #[.val (.int aa), .val (.int bb), .val (.int cc), .val (.ref rv), .val (.ref xs), .val (.int pv), .val (.int qv), .val (.int (1 : Int32)), .val (.int (1 : Int32)), .unset, .unset, .unset, .unset, .unset, .unset] [(.ref xs), (.ref rv)])) tgt
        refine XS.iload X36.here hx rfl (hb hby at_130) rfl ?_
        show Steps p.tables e below (T36.setTop (mkF m 132 #[.val (.int aa), .val (.int bb), .val (.int cc), .val (.ref rv), .val (.ref xs), .val (.int pv), .val (.int qv), .val (.int (1 : Int32)), .val (.int (1 : Int32)), .unset, .unset, .unset, .unset, .unset, .unset] [(.int qv), (.ref xs), (.ref rv)])) tgt
        refine own_iaload X36 hx hZ rfl A_xs_36 (j := qv) (k := qv.toInt.toNat) hq1 hq2 (g := (mkF m 132 #[.val (.int aa), .val (.int bb), .val (.int cc), .val (.ref rv), .val (.ref xs), .val (.int pv), .val (.int qv), .val (.int (1 : Int32)), .val (.int (1 : Int32)), .unset, .unset, .unset, .unset, .unset, .unset] [(.int qv), (.ref xs), (.ref rv)])) rfl rfl (hb hby at_132) ?_
        exact k
      rw [show (own_X qv.toInt.toNat) = qv from own_Xp qv hq0.1 hq0.2]
      obtain ⟨cq38, kq38, q38a, q38b, q38c⟩ := isOf hZ rfl g36_0
      obtain ⟨_, _, ⟨T38, L38, k38, n38⟩, -, X38, ⟨Lc38, hQ38, l38, y38, z38⟩, st38⟩ := X36.virtualBack hx (y := (⟨"com/example/sigpoint/sigpoint/Rows", "remove", "(I)V"⟩ : MethodName)) (z := (⟨"com/example/sigpoint/sigpoint/Rows", "remove", "(I)V"⟩ : MethodName)) hown (mvT hZ (hw _ (List.mem_of_getElem? (i := 22) rfl))) (mvT hZ (hw _ (List.mem_of_getElem? (i := 23) rfl))) (notFace_of_selects (args := #[]) (mvT hZ (hw _ (List.mem_of_getElem? (i := 25) rfl)))) (mvT hZ (hw _ (List.mem_of_getElem? (i := 25) rfl))) (mvT hZ (hw _ (List.mem_of_getElem? (i := 24) rfl))) (by decide) (backOf (W := 0) (rm4 l Z a0 hw [] rv qv fr_2 (1 : Int32) (3 : Int32) (own_up (fun _ => 0) 0 pv) 1 T36.heap n0 Zs36 g36_0 g36_1 Ff_rv_37 g36_3 g36_4 g_rv g2_1 g2_2 (by first | assumption | decide | rfl) (by first | assumption | decide | rfl) (by first | assumption | decide | rfl)) hZ (hw _ (List.mem_of_getElem? (i := 26) rfl)) (hw _ (List.mem_of_getElem? (i := 2) rfl)) (by decide) (by decide)) q38a q38c (g := (mkF m 133 #[.val (.int aa), .val (.int bb), .val (.int cc), .val (.ref rv), .val (.ref xs), .val (.int pv), .val (.int qv), .val (.int (1 : Int32)), .val (.int (1 : Int32)), .unset, .unset, .unset, .unset, .unset, .unset] [(.int qv), (.ref rv)])) rfl (by rw [hml]; rfl) (Steps.refl _) (argsL := [(.int qv)]) (rest := []) (lenOf pd_0_2 rfl) rfl (by show 2 * 0 + _ ≤ _; exact Nat.le_of_eq rfl) (hb hby at_133) (fun _ _ => ⟨rfl, rfl, (by decide : 3 + 0 ≤ _), (by decide : 22 + 0 ≤ _)⟩)
      dsimp only [Pt.U, Pt.locs, Pt.cells, Pt.slots] at X38 l38 y38 z38 st38 hQ38
      subst l38 y38 z38
      obtain ⟨rfl, N38q, K38, g38_0, g38_1, g38_2, g38_3, g38_4⟩ := hQ38
      have N38 := Fr.app N36 N38q
      have E_rv_38 := g36_0.keep K38
      have A_xs_38 := A_xs_36.keep K38 (ninS (Ne.symm ne_rv_xs) (ninS (Ne.symm ne_fr_2_xs) nin0))
      have Zs38 : n0 ≤ T38.heap.size := Nat.le_trans Zs36 K38.1
      refine own_st (fun tgt k => st38.trans k) ?_
      show own_Go p e below _ (T38.setTop (mkF m 136 #[.val (.int aa), .val (.int bb), .val (.int cc), .val (.ref rv), .val (.ref xs), .val (.int pv), .val (.int qv), .val (.int (1 : Int32)), .val (.int (1 : Int32)), .unset, .unset, .unset, .unset, .unset, .unset] []))
      have Ff_rv_39 := g38_2
      rw [show ((1 : Int32) + (1 : Int32)) = (2 : Int32) from by decide] at Ff_rv_39
      refine own_st (V := T38.setTop (mkF m 137 #[.val (.int aa), .val (.int bb), .val (.int cc), .val (.ref rv), .val (.ref xs), .val (.int pv), .val (.int qv), .val (.int (1 : Int32)), .val (.int (1 : Int32)), .unset, .unset, .unset, .unset, .unset, .unset] [(.ref rv)])) (fun tgt k => ?_) ?_
      · show Steps p.tables e below (T38.setTop (mkF m 136 #[.val (.int aa), .val (.int bb), .val (.int cc), .val (.ref rv), .val (.ref xs), .val (.int pv), .val (.int qv), .val (.int (1 : Int32)), .val (.int (1 : Int32)), .unset, .unset, .unset, .unset, .unset, .unset] [])) tgt
        refine XS.aloadN X38.here hx rfl (hb hby at_136) rfl rfl ?_
        exact k
      obtain ⟨cq40, kq40, q40a, q40b, q40c⟩ := isOf hZ rfl g38_0
      obtain ⟨_, _, ⟨T40, L40, k40, n40⟩, -, X40, ⟨Lc40, hQ40, l40, y40, z40⟩, st40⟩ := X38.virtualBack hx (y := (⟨"com/example/sigpoint/sigpoint/Rows", "add", "()I"⟩ : MethodName)) (z := (⟨"com/example/sigpoint/sigpoint/Rows", "add", "()I"⟩ : MethodName)) hown (mvT hZ (hw _ (List.mem_of_getElem? (i := 12) rfl))) (mvT hZ (hw _ (List.mem_of_getElem? (i := 13) rfl))) (notFace_of_selects (args := #[]) (mvT hZ (hw _ (List.mem_of_getElem? (i := 15) rfl)))) (mvT hZ (hw _ (List.mem_of_getElem? (i := 15) rfl))) (mvT hZ (hw _ (List.mem_of_getElem? (i := 14) rfl))) (by decide) (backOf (W := 0) (rm3a l Z a0 hw [] rv fr_2 (2 : Int32) (3 : Int32) (own_up (own_up (fun _ => 0) 0 pv) 1 qv) 1 T38.heap n0 Zs38 g38_0 g38_1 Ff_rv_39 g38_3 g38_4 g_rv g2_1 g2_2 (by first | assumption | decide | rfl) (by first | assumption | decide | rfl) (by first | assumption | decide | rfl)) hZ (hw _ (List.mem_of_getElem? (i := 16) rfl)) (hw _ (List.mem_of_getElem? (i := 2) rfl)) (by decide) (by decide)) q40a q40c (g := (mkF m 137 #[.val (.int aa), .val (.int bb), .val (.int cc), .val (.ref rv), .val (.ref xs), .val (.int pv), .val (.int qv), .val (.int (1 : Int32)), .val (.int (1 : Int32)), .unset, .unset, .unset, .unset, .unset, .unset] [(.ref rv)])) rfl (by rw [hml]; rfl) (Steps.refl _) (argsL := []) (rest := []) (lenOf pd_0_1 rfl) rfl (by show 2 * 0 + _ ≤ _; exact Nat.le_of_eq rfl) (hb hby at_137) (fun _ _ => ⟨rfl, rfl, (by decide : 3 + 0 ≤ _), (by decide : 22 + 0 ≤ _)⟩)
      dsimp only [Pt.U, Pt.locs, Pt.cells, Pt.slots] at X40 l40 y40 z40 st40 hQ40
      subst l40 y40 z40
      obtain ⟨rfl, N40q, K40, g40_0, g40_1, g40_2, g40_3⟩ := hQ40
      have N40 := Fr.app N38 N40q
      have E_rv_40 := g38_0.keep K40
      have A_xs_40 := A_xs_38.keep K40 (ninS (Ne.symm ne_rv_xs) nin0)
      have A_fr_2_40 := g38_4.keep K40 (ninS (Ne.symm g2_2) nin0)
      have Zs40 : n0 ≤ T40.heap.size := Nat.le_trans Zs38 K40.1
      refine own_st (fun tgt k => st40.trans k) ?_
      show own_Go p e below _ (T40.setTop (mkF m 140 #[.val (.int aa), .val (.int bb), .val (.int cc), .val (.ref rv), .val (.ref xs), .val (.int pv), .val (.int qv), .val (.int (1 : Int32)), .val (.int (1 : Int32)), .unset, .unset, .unset, .unset, .unset, .unset] [(.int ((own_up (own_up (fun _ => 0) 0 pv) 1 qv) 1))]))
      have Ff_rv_41 := g40_2
      rw [show ((2 : Int32) - (1 : Int32)) = (1 : Int32) from by decide] at Ff_rv_41
      refine own_st (V := T40.setTop (mkF m 143 #[.val (.int aa), .val (.int bb), .val (.int cc), .val (.ref rv), .val (.ref xs), .val (.int pv), .val (.int qv), .val (.int (1 : Int32)), .val (.int (1 : Int32)), .val (.int ((own_up (own_up (fun _ => 0) 0 pv) 1 qv) 1)), .unset, .unset, .unset, .unset, .unset] [(.ref rv)])) (fun tgt k => ?_) ?_
      · show Steps p.tables e below (T40.setTop (mkF m 140 #[.val (.int aa), .val (.int bb), .val (.int cc), .val (.ref rv), .val (.ref xs), .val (.int pv), .val (.int qv), .val (.int (1 : Int32)), .val (.int (1 : Int32)), .unset, .unset, .unset, .unset, .unset, .unset] [(.int ((own_up (own_up (fun _ => 0) 0 pv) 1 qv) 1))])) tgt
        refine XS.istore X40.here hx rfl (hb hby at_140) rfl (l' := #[.val (.int aa), .val (.int bb), .val (.int cc), .val (.ref rv), .val (.ref xs), .val (.int pv), .val (.int qv), .val (.int (1 : Int32)), .val (.int (1 : Int32)), .val (.int ((own_up (own_up (fun _ => 0) 0 pv) 1 qv) 1)), .unset, .unset, .unset, .unset, .unset]) rfl ?_
        show Steps p.tables e below (T40.setTop (mkF m 142 #[.val (.int aa), .val (.int bb), .val (.int cc), .val (.ref rv), .val (.ref xs), .val (.int pv), .val (.int qv), .val (.int (1 : Int32)), .val (.int (1 : Int32)), .val (.int ((own_up (own_up (fun _ => 0) 0 pv) 1 qv) 1)), .unset, .unset, .unset, .unset, .unset] [])) tgt
        refine XS.aloadN X40.here hx rfl (hb hby at_142) rfl rfl ?_
        exact k
      obtain ⟨cq42, kq42, q42a, q42b, q42c⟩ := isOf hZ rfl g40_0
      obtain ⟨_, _, ⟨T42, L42, k42, n42⟩, -, X42, ⟨Lc42, hQ42, l42, y42, z42⟩, st42⟩ := X40.virtualBack hx (y := (⟨"com/example/sigpoint/sigpoint/Rows", "add", "()I"⟩ : MethodName)) (z := (⟨"com/example/sigpoint/sigpoint/Rows", "add", "()I"⟩ : MethodName)) hown (mvT hZ (hw _ (List.mem_of_getElem? (i := 12) rfl))) (mvT hZ (hw _ (List.mem_of_getElem? (i := 13) rfl))) (notFace_of_selects (args := #[]) (mvT hZ (hw _ (List.mem_of_getElem? (i := 15) rfl)))) (mvT hZ (hw _ (List.mem_of_getElem? (i := 15) rfl))) (mvT hZ (hw _ (List.mem_of_getElem? (i := 14) rfl))) (by decide) (backOf (W := 0) (rm3a l Z a0 hw [] rv fr_2 (1 : Int32) (3 : Int32) (own_up (own_up (fun _ => 0) 0 pv) 1 qv) 0 T40.heap n0 Zs40 g40_0 g40_1 Ff_rv_41 g40_3 A_fr_2_40 g_rv g2_1 g2_2 (by first | assumption | decide | rfl) (by first | assumption | decide | rfl) (by first | assumption | decide | rfl)) hZ (hw _ (List.mem_of_getElem? (i := 16) rfl)) (hw _ (List.mem_of_getElem? (i := 2) rfl)) (by decide) (by decide)) q42a q42c (g := (mkF m 143 #[.val (.int aa), .val (.int bb), .val (.int cc), .val (.ref rv), .val (.ref xs), .val (.int pv), .val (.int qv), .val (.int (1 : Int32)), .val (.int (1 : Int32)), .val (.int ((own_up (own_up (fun _ => 0) 0 pv) 1 qv) 1)), .unset, .unset, .unset, .unset, .unset] [(.ref rv)])) rfl (by rw [hml]; rfl) (Steps.refl _) (argsL := []) (rest := []) (lenOf pd_0_1 rfl) rfl (by show 2 * 0 + _ ≤ _; exact Nat.le_of_eq rfl) (hb hby at_143) (fun _ _ => ⟨rfl, rfl, (by decide : 3 + 0 ≤ _), (by decide : 22 + 0 ≤ _)⟩)
      dsimp only [Pt.U, Pt.locs, Pt.cells, Pt.slots] at X42 l42 y42 z42 st42 hQ42
      subst l42 y42 z42
      obtain ⟨rfl, N42q, K42, g42_0, g42_1, g42_2, g42_3⟩ := hQ42
      have N42 := Fr.app N40 N42q
      have E_rv_42 := g40_0.keep K42
      have A_xs_42 := A_xs_40.keep K42 (ninS (Ne.symm ne_rv_xs) nin0)
      have A_fr_2_42 := A_fr_2_40.keep K42 (ninS (Ne.symm g2_2) nin0)
      have Zs42 : n0 ≤ T42.heap.size := Nat.le_trans Zs40 K42.1
      refine own_st (fun tgt k => st42.trans k) ?_
      show own_Go p e below _ (T42.setTop (mkF m 146 #[.val (.int aa), .val (.int bb), .val (.int cc), .val (.ref rv), .val (.ref xs), .val (.int pv), .val (.int qv), .val (.int (1 : Int32)), .val (.int (1 : Int32)), .val (.int ((own_up (own_up (fun _ => 0) 0 pv) 1 qv) 1)), .unset, .unset, .unset, .unset, .unset] [(.int ((own_up (own_up (fun _ => 0) 0 pv) 1 qv) 0))]))
      have Ff_rv_43 := g42_2
      rw [show ((1 : Int32) - (1 : Int32)) = (0 : Int32) from by decide] at Ff_rv_43
      refine own_st (V := T42.setTop (mkF m 149 #[.val (.int aa), .val (.int bb), .val (.int cc), .val (.ref rv), .val (.ref xs), .val (.int pv), .val (.int qv), .val (.int (1 : Int32)), .val (.int (1 : Int32)), .val (.int ((own_up (own_up (fun _ => 0) 0 pv) 1 qv) 1)), .val (.int ((own_up (own_up (fun _ => 0) 0 pv) 1 qv) 0)), .unset, .unset, .unset, .unset] [(.ref rv)])) (fun tgt k => ?_) ?_
      · show Steps p.tables e below (T42.setTop (mkF m 146 #[.val (.int aa), .val (.int bb), .val (.int cc), .val (.ref rv), .val (.ref xs), .val (.int pv), .val (.int qv), .val (.int (1 : Int32)), .val (.int (1 : Int32)), .val (.int ((own_up (own_up (fun _ => 0) 0 pv) 1 qv) 1)), .unset, .unset, .unset, .unset, .unset] [(.int ((own_up (own_up (fun _ => 0) 0 pv) 1 qv) 0))])) tgt
        refine XS.istore X42.here hx rfl (hb hby at_146) rfl (l' := #[.val (.int aa), .val (.int bb), .val (.int cc), .val (.ref rv), .val (.ref xs), .val (.int pv), .val (.int qv), .val (.int (1 : Int32)), .val (.int (1 : Int32)), .val (.int ((own_up (own_up (fun _ => 0) 0 pv) 1 qv) 1)), .val (.int ((own_up (own_up (fun _ => 0) 0 pv) 1 qv) 0)), .unset, .unset, .unset, .unset]) rfl ?_
        show Steps p.tables e below (T42.setTop (mkF m 148 #[.val (.int aa), .val (.int bb), .val (.int cc), .val (.ref rv), .val (.ref xs), .val (.int pv), .val (.int qv), .val (.int (1 : Int32)), .val (.int (1 : Int32)), .val (.int ((own_up (own_up (fun _ => 0) 0 pv) 1 qv) 1)), .val (.int ((own_up (own_up (fun _ => 0) 0 pv) 1 qv) 0)), .unset, .unset, .unset, .unset] [])) tgt
        refine XS.aloadN X42.here hx rfl (hb hby at_148) rfl rfl ?_
        exact k
      obtain ⟨cq44, kq44, q44a, q44b, q44c⟩ := isOf hZ rfl g42_0
      obtain ⟨_, _, ⟨T44, L44, k44, n44⟩, -, X44, ⟨Lc44, hQ44, l44, y44, z44⟩, st44⟩ := X42.virtualBack hx (y := (⟨"com/example/sigpoint/sigpoint/Rows", "high", "()I"⟩ : MethodName)) (z := (⟨"com/example/sigpoint/sigpoint/Rows", "high", "()I"⟩ : MethodName)) hown (mvT hZ (hw _ (List.mem_of_getElem? (i := 27) rfl))) (mvT hZ (hw _ (List.mem_of_getElem? (i := 28) rfl))) (notFace_of_selects (args := #[]) (mvT hZ (hw _ (List.mem_of_getElem? (i := 30) rfl)))) (mvT hZ (hw _ (List.mem_of_getElem? (i := 30) rfl))) (mvT hZ (hw _ (List.mem_of_getElem? (i := 29) rfl))) (by decide) (backOf (W := 0) (rm5 l Z a0 hw [] rv (3 : Int32) T42.heap n0 Zs42 g42_3) hZ (hw _ (List.mem_of_getElem? (i := 31) rfl)) (hw _ (List.mem_of_getElem? (i := 2) rfl)) (by decide) (by decide)) q44a q44c (g := (mkF m 149 #[.val (.int aa), .val (.int bb), .val (.int cc), .val (.ref rv), .val (.ref xs), .val (.int pv), .val (.int qv), .val (.int (1 : Int32)), .val (.int (1 : Int32)), .val (.int ((own_up (own_up (fun _ => 0) 0 pv) 1 qv) 1)), .val (.int ((own_up (own_up (fun _ => 0) 0 pv) 1 qv) 0)), .unset, .unset, .unset, .unset] [(.ref rv)])) rfl (by rw [hml]; rfl) (Steps.refl _) (argsL := []) (rest := []) (lenOf pd_0_1 rfl) rfl (by show 2 * 0 + _ ≤ _; exact Nat.le_of_eq rfl) (hb hby at_149) (fun _ _ => ⟨rfl, rfl, (by decide : 3 + 0 ≤ _), (by decide : 22 + 0 ≤ _)⟩)
      dsimp only [Pt.U, Pt.locs, Pt.cells, Pt.slots] at X44 l44 y44 z44 st44 hQ44
      subst l44 y44 z44
      obtain ⟨rfl, N44q, K44⟩ := hQ44
      have N44 := Fr.app N42 N44q
      refine own_st (fun tgt k => st44.trans k) ?_
      show own_Go p e below _ (T44.setTop (mkF m 152 #[.val (.int aa), .val (.int bb), .val (.int cc), .val (.ref rv), .val (.ref xs), .val (.int pv), .val (.int qv), .val (.int (1 : Int32)), .val (.int (1 : Int32)), .val (.int ((own_up (own_up (fun _ => 0) 0 pv) 1 qv) 1)), .val (.int ((own_up (own_up (fun _ => 0) 0 pv) 1 qv) 0)), .unset, .unset, .unset, .unset] [(.int (3 : Int32))]))
      refine own_st (V := T44.setTop (mkF m 249 #[.val (.int aa), .val (.int bb), .val (.int cc), .val (.ref rv), .val (.ref xs), .val (.int pv), .val (.int qv), .val (.int (1 : Int32)), .val (.int (1 : Int32)), .val (.int ((own_up (own_up (fun _ => 0) 0 pv) 1 qv) 1)), .val (.int ((own_up (own_up (fun _ => 0) 0 pv) 1 qv) 0)), .val (.int (3 : Int32)), .val (.int qv), .val (.int pv), .val (.int (3 : Int32))] [(.int (1 : Int32))])) (fun tgt k => ?_) ?_
      · show Steps p.tables e below (T44.setTop (mkF m 152 #[.val (.int aa), .val (.int bb), .val (.int cc), .val (.ref rv), .val (.ref xs), .val (.int pv), .val (.int qv), .val (.int (1 : Int32)), .val (.int (1 : Int32)), .val (.int ((own_up (own_up (fun _ => 0) 0 pv) 1 qv) 1)), .val (.int ((own_up (own_up (fun _ => 0) 0 pv) 1 qv) 0)), .unset, .unset, .unset, .unset] [(.int (3 : Int32))])) tgt
        refine XS.istore X44.here hx rfl (hb hby at_152) rfl (l' := #[.val (.int aa), .val (.int bb), .val (.int cc), .val (.ref rv), .val (.ref xs), .val (.int pv), .val (.int qv), .val (.int (1 : Int32)), .val (.int (1 : Int32)), .val (.int ((own_up (own_up (fun _ => 0) 0 pv) 1 qv) 1)), .val (.int ((own_up (own_up (fun _ => 0) 0 pv) 1 qv) 0)), .val (.int (3 : Int32)), .unset, .unset, .unset]) rfl ?_
        show Steps p.tables e below (T44.setTop (mkF m 154 #[.val (.int aa), .val (.int bb), .val (.int cc), .val (.ref rv), .val (.ref xs), .val (.int pv), .val (.int qv), .val (.int (1 : Int32)), .val (.int (1 : Int32)), .val (.int ((own_up (own_up (fun _ => 0) 0 pv) 1 qv) 1)), .val (.int ((own_up (own_up (fun _ => 0) 0 pv) 1 qv) 0)), .val (.int (3 : Int32)), .unset, .unset, .unset] [])) tgt
        refine XS.iload X44.here hx rfl (hb hby at_154) rfl ?_
        show Steps p.tables e below (T44.setTop (mkF m 156 #[.val (.int aa), .val (.int bb), .val (.int cc), .val (.ref rv), .val (.ref xs), .val (.int pv), .val (.int qv), .val (.int (1 : Int32)), .val (.int (1 : Int32)), .val (.int ((own_up (own_up (fun _ => 0) 0 pv) 1 qv) 1)), .val (.int ((own_up (own_up (fun _ => 0) 0 pv) 1 qv) 0)), .val (.int (3 : Int32)), .unset, .unset, .unset] [(.int (1 : Int32))])) tgt
        refine XS.ifNo X44.here hx rfl (hb hby at_156) rfl ((if0 _ _).trans (feq (by decide : ¬ ((1 : Int32) = (0 : Int32)))).1) ?_
        show Steps p.tables e below (T44.setTop (mkF m 159 #[.val (.int aa), .val (.int bb), .val (.int cc), .val (.ref rv), .val (.ref xs), .val (.int pv), .val (.int qv), .val (.int (1 : Int32)), .val (.int (1 : Int32)), .val (.int ((own_up (own_up (fun _ => 0) 0 pv) 1 qv) 1)), .val (.int ((own_up (own_up (fun _ => 0) 0 pv) 1 qv) 0)), .val (.int (3 : Int32)), .unset, .unset, .unset] [])) tgt
        refine XS.iload X44.here hx rfl (hb hby at_159) rfl ?_
        show Steps p.tables e below (T44.setTop (mkF m 161 #[.val (.int aa), .val (.int bb), .val (.int cc), .val (.ref rv), .val (.ref xs), .val (.int pv), .val (.int qv), .val (.int (1 : Int32)), .val (.int (1 : Int32)), .val (.int ((own_up (own_up (fun _ => 0) 0 pv) 1 qv) 1)), .val (.int ((own_up (own_up (fun _ => 0) 0 pv) 1 qv) 0)), .val (.int (3 : Int32)), .unset, .unset, .unset] [(.int (1 : Int32))])) tgt
        refine XS.ifNo X44.here hx rfl (hb hby at_161) rfl ((if0 _ _).trans (feq (by decide : ¬ ((1 : Int32) = (0 : Int32)))).1) ?_
        show Steps p.tables e below (T44.setTop (mkF m 164 #[.val (.int aa), .val (.int bb), .val (.int cc), .val (.ref rv), .val (.ref xs), .val (.int pv), .val (.int qv), .val (.int (1 : Int32)), .val (.int (1 : Int32)), .val (.int ((own_up (own_up (fun _ => 0) 0 pv) 1 qv) 1)), .val (.int ((own_up (own_up (fun _ => 0) 0 pv) 1 qv) 0)), .val (.int (3 : Int32)), .unset, .unset, .unset] [])) tgt
        refine XS.iload X44.here hx rfl (hb hby at_164) rfl ?_
        show Steps p.tables e below (T44.setTop (mkF m 166 #[.val (.int aa), .val (.int bb), .val (.int cc), .val (.ref rv), .val (.ref xs), .val (.int pv), .val (.int qv), .val (.int (1 : Int32)), .val (.int (1 : Int32)), .val (.int ((own_up (own_up (fun _ => 0) 0 pv) 1 qv) 1)), .val (.int ((own_up (own_up (fun _ => 0) 0 pv) 1 qv) 0)), .val (.int (3 : Int32)), .unset, .unset, .unset] [(.int qv)])) tgt
        refine XS.istore X44.here hx rfl (hb hby at_166) rfl (l' := #[.val (.int aa), .val (.int bb), .val (.int cc), .val (.ref rv), .val (.ref xs), .val (.int pv), .val (.int qv), .val (.int (1 : Int32)), .val (.int (1 : Int32)), .val (.int ((own_up (own_up (fun _ => 0) 0 pv) 1 qv) 1)), .val (.int ((own_up (own_up (fun _ => 0) 0 pv) 1 qv) 0)), .val (.int (3 : Int32)), .val (.int qv), .unset, .unset]) rfl ?_
        show Steps p.tables e below (T44.setTop (mkF m 168 #[.val (.int aa), .val (.int bb), .val (.int cc), .val (.ref rv), .val (.ref xs), .val (.int pv), .val (.int qv), .val (.int (1 : Int32)), .val (.int (1 : Int32)), .val (.int ((own_up (own_up (fun _ => 0) 0 pv) 1 qv) 1)), .val (.int ((own_up (own_up (fun _ => 0) 0 pv) 1 qv) 0)), .val (.int (3 : Int32)), .val (.int qv), .unset, .unset] [])) tgt
        refine XS.iload X44.here hx rfl (hb hby at_168) rfl ?_
        show Steps p.tables e below (T44.setTop (mkF m 170 #[.val (.int aa), .val (.int bb), .val (.int cc), .val (.ref rv), .val (.ref xs), .val (.int pv), .val (.int qv), .val (.int (1 : Int32)), .val (.int (1 : Int32)), .val (.int ((own_up (own_up (fun _ => 0) 0 pv) 1 qv) 1)), .val (.int ((own_up (own_up (fun _ => 0) 0 pv) 1 qv) 0)), .val (.int (3 : Int32)), .val (.int qv), .unset, .unset] [(.int pv)])) tgt
        refine XS.istore X44.here hx rfl (hb hby at_170) rfl (l' := #[.val (.int aa), .val (.int bb), .val (.int cc), .val (.ref rv), .val (.ref xs), .val (.int pv), .val (.int qv), .val (.int (1 : Int32)), .val (.int (1 : Int32)), .val (.int ((own_up (own_up (fun _ => 0) 0 pv) 1 qv) 1)), .val (.int ((own_up (own_up (fun _ => 0) 0 pv) 1 qv) 0)), .val (.int (3 : Int32)), .val (.int qv), .val (.int pv), .unset]) rfl ?_
        show Steps p.tables e below (T44.setTop (mkF m 172 #[.val (.int aa), .val (.int bb), .val (.int cc), .val (.ref rv), .val (.ref xs), .val (.int pv), .val (.int qv), .val (.int (1 : Int32)), .val (.int (1 : Int32)), .val (.int ((own_up (own_up (fun _ => 0) 0 pv) 1 qv) 1)), .val (.int ((own_up (own_up (fun _ => 0) 0 pv) 1 qv) 0)), .val (.int (3 : Int32)), .val (.int qv), .val (.int pv), .unset] [])) tgt
        refine XS.iconst X44.here hx rfl (hb hby at_172) ?_
        show Steps p.tables e below (T44.setTop (mkF m 173 #[.val (.int aa), .val (.int bb), .val (.int cc), .val (.ref rv), .val (.ref xs), .val (.int pv), .val (.int qv), .val (.int (1 : Int32)), .val (.int (1 : Int32)), .val (.int ((own_up (own_up (fun _ => 0) 0 pv) 1 qv) 1)), .val (.int ((own_up (own_up (fun _ => 0) 0 pv) 1 qv) 0)), .val (.int (3 : Int32)), .val (.int qv), .val (.int pv), .unset] [(.int (3 : Int32))])) tgt
        refine XS.istore X44.here hx rfl (hb hby at_173) rfl (l' := #[.val (.int aa), .val (.int bb), .val (.int cc), .val (.ref rv), .val (.ref xs), .val (.int pv), .val (.int qv), .val (.int (1 : Int32)), .val (.int (1 : Int32)), .val (.int ((own_up (own_up (fun _ => 0) 0 pv) 1 qv) 1)), .val (.int ((own_up (own_up (fun _ => 0) 0 pv) 1 qv) 0)), .val (.int (3 : Int32)), .val (.int qv), .val (.int pv), .val (.int (3 : Int32))]) rfl ?_
        show Steps p.tables e below (T44.setTop (mkF m 175 #[.val (.int aa), .val (.int bb), .val (.int cc), .val (.ref rv), .val (.ref xs), .val (.int pv), .val (.int qv), .val (.int (1 : Int32)), .val (.int (1 : Int32)), .val (.int ((own_up (own_up (fun _ => 0) 0 pv) 1 qv) 1)), .val (.int ((own_up (own_up (fun _ => 0) 0 pv) 1 qv) 0)), .val (.int (3 : Int32)), .val (.int qv), .val (.int pv), .val (.int (3 : Int32))] [])) tgt
        refine XS.goto X44.here hx rfl (pc0 := 175) (pc' := 223) rfl (hb hby at_175) (by decide) (by decide) ?_
        show Steps p.tables e below (T44.setTop (mkF m 223 #[.val (.int aa), .val (.int bb), .val (.int cc), .val (.ref rv), .val (.ref xs), .val (.int pv), .val (.int qv), .val (.int (1 : Int32)), .val (.int (1 : Int32)), .val (.int ((own_up (own_up (fun _ => 0) 0 pv) 1 qv) 1)), .val (.int ((own_up (own_up (fun _ => 0) 0 pv) 1 qv) 0)), .val (.int (3 : Int32)), .val (.int qv), .val (.int pv), .val (.int (3 : Int32))] [])) tgt
        refine XS.iload X44.here hx rfl (hb hby at_223) rfl ?_
        show Steps p.tables e below (T44.setTop (mkF m 225 #[.val (.int aa), .val (.int bb), .val (.int cc), .val (.ref rv), .val (.ref xs), .val (.int pv), .val (.int qv), .val (.int (1 : Int32)), .val (.int (1 : Int32)), .val (.int ((own_up (own_up (fun _ => 0) 0 pv) 1 qv) 1)), .val (.int ((own_up (own_up (fun _ => 0) 0 pv) 1 qv) 0)), .val (.int (3 : Int32)), .val (.int qv), .val (.int pv), .val (.int (3 : Int32))] [(.int ((own_up (own_up (fun _ => 0) 0 pv) 1 qv) 1))])) tgt
        refine XS.iload X44.here hx rfl (hb hby at_225) rfl ?_
        show Steps p.tables e below (T44.setTop (mkF m 227 #[.val (.int aa), .val (.int bb), .val (.int cc), .val (.ref rv), .val (.ref xs), .val (.int pv), .val (.int qv), .val (.int (1 : Int32)), .val (.int (1 : Int32)), .val (.int ((own_up (own_up (fun _ => 0) 0 pv) 1 qv) 1)), .val (.int ((own_up (own_up (fun _ => 0) 0 pv) 1 qv) 0)), .val (.int (3 : Int32)), .val (.int qv), .val (.int pv), .val (.int (3 : Int32))] [(.int qv), (.int ((own_up (own_up (fun _ => 0) 0 pv) 1 qv) 1))])) tgt
        refine XS.icmpNo X44.here hx rfl (hb hby at_227) rfl (teq (by simp [own_up])).2 ?_
        show Steps p.tables e below (T44.setTop (mkF m 230 #[.val (.int aa), .val (.int bb), .val (.int cc), .val (.ref rv), .val (.ref xs), .val (.int pv), .val (.int qv), .val (.int (1 : Int32)), .val (.int (1 : Int32)), .val (.int ((own_up (own_up (fun _ => 0) 0 pv) 1 qv) 1)), .val (.int ((own_up (own_up (fun _ => 0) 0 pv) 1 qv) 0)), .val (.int (3 : Int32)), .val (.int qv), .val (.int pv), .val (.int (3 : Int32))] [])) tgt
        refine XS.iload X44.here hx rfl (hb hby at_230) rfl ?_
        show Steps p.tables e below (T44.setTop (mkF m 232 #[.val (.int aa), .val (.int bb), .val (.int cc), .val (.ref rv), .val (.ref xs), .val (.int pv), .val (.int qv), .val (.int (1 : Int32)), .val (.int (1 : Int32)), .val (.int ((own_up (own_up (fun _ => 0) 0 pv) 1 qv) 1)), .val (.int ((own_up (own_up (fun _ => 0) 0 pv) 1 qv) 0)), .val (.int (3 : Int32)), .val (.int qv), .val (.int pv), .val (.int (3 : Int32))] [(.int ((own_up (own_up (fun _ => 0) 0 pv) 1 qv) 0))])) tgt
        refine XS.iload X44.here hx rfl (hb hby at_232) rfl ?_
        show Steps p.tables e below (T44.setTop (mkF m 234 #[.val (.int aa), .val (.int bb), .val (.int cc), .val (.ref rv), .val (.ref xs), .val (.int pv), .val (.int qv), .val (.int (1 : Int32)), .val (.int (1 : Int32)), .val (.int ((own_up (own_up (fun _ => 0) 0 pv) 1 qv) 1)), .val (.int ((own_up (own_up (fun _ => 0) 0 pv) 1 qv) 0)), .val (.int (3 : Int32)), .val (.int qv), .val (.int pv), .val (.int (3 : Int32))] [(.int pv), (.int ((own_up (own_up (fun _ => 0) 0 pv) 1 qv) 0))])) tgt
        refine XS.icmpNo X44.here hx rfl (hb hby at_234) rfl (teq (by simp [own_up])).2 ?_
        show Steps p.tables e below (T44.setTop (mkF m 237 #[.val (.int aa), .val (.int bb), .val (.int cc), .val (.ref rv), .val (.ref xs), .val (.int pv), .val (.int qv), .val (.int (1 : Int32)), .val (.int (1 : Int32)), .val (.int ((own_up (own_up (fun _ => 0) 0 pv) 1 qv) 1)), .val (.int ((own_up (own_up (fun _ => 0) 0 pv) 1 qv) 0)), .val (.int (3 : Int32)), .val (.int qv), .val (.int pv), .val (.int (3 : Int32))] [])) tgt
        refine XS.iload X44.here hx rfl (hb hby at_237) rfl ?_
        show Steps p.tables e below (T44.setTop (mkF m 239 #[.val (.int aa), .val (.int bb), .val (.int cc), .val (.ref rv), .val (.ref xs), .val (.int pv), .val (.int qv), .val (.int (1 : Int32)), .val (.int (1 : Int32)), .val (.int ((own_up (own_up (fun _ => 0) 0 pv) 1 qv) 1)), .val (.int ((own_up (own_up (fun _ => 0) 0 pv) 1 qv) 0)), .val (.int (3 : Int32)), .val (.int qv), .val (.int pv), .val (.int (3 : Int32))] [(.int (3 : Int32))])) tgt
        refine XS.iload X44.here hx rfl (hb hby at_239) rfl ?_
        show Steps p.tables e below (T44.setTop (mkF m 241 #[.val (.int aa), .val (.int bb), .val (.int cc), .val (.ref rv), .val (.ref xs), .val (.int pv), .val (.int qv), .val (.int (1 : Int32)), .val (.int (1 : Int32)), .val (.int ((own_up (own_up (fun _ => 0) 0 pv) 1 qv) 1)), .val (.int ((own_up (own_up (fun _ => 0) 0 pv) 1 qv) 0)), .val (.int (3 : Int32)), .val (.int qv), .val (.int pv), .val (.int (3 : Int32))] [(.int (3 : Int32)), (.int (3 : Int32))])) tgt
        refine XS.icmpNo X44.here hx rfl (hb hby at_241) rfl (teq (by decide : (3 : Int32) = (3 : Int32))).2 ?_
        show Steps p.tables e below (T44.setTop (mkF m 244 #[.val (.int aa), .val (.int bb), .val (.int cc), .val (.ref rv), .val (.ref xs), .val (.int pv), .val (.int qv), .val (.int (1 : Int32)), .val (.int (1 : Int32)), .val (.int ((own_up (own_up (fun _ => 0) 0 pv) 1 qv) 1)), .val (.int ((own_up (own_up (fun _ => 0) 0 pv) 1 qv) 0)), .val (.int (3 : Int32)), .val (.int qv), .val (.int pv), .val (.int (3 : Int32))] [])) tgt
        refine XS.iconst X44.here hx rfl (hb hby at_244) ?_
        show Steps p.tables e below (T44.setTop (mkF m 245 #[.val (.int aa), .val (.int bb), .val (.int cc), .val (.ref rv), .val (.ref xs), .val (.int pv), .val (.int qv), .val (.int (1 : Int32)), .val (.int (1 : Int32)), .val (.int ((own_up (own_up (fun _ => 0) 0 pv) 1 qv) 1)), .val (.int ((own_up (own_up (fun _ => 0) 0 pv) 1 qv) 0)), .val (.int (3 : Int32)), .val (.int qv), .val (.int pv), .val (.int (3 : Int32))] [(.int (1 : Int32))])) tgt
        refine XS.goto X44.here hx rfl (pc0 := 245) (pc' := 249) rfl (hb hby at_245) (by decide) (by decide) ?_
        exact k
      refine own_retN X44 hx hlk (t := .boolean) (z' := (1 : Int32)) Bd.returns (by simp) rfl (hb hby at_249) ?_ (by decide) (by decide)
      show Q0 Z aa bb cc h0 n0 (some (.int (1 : Int32))) T44.heap _
      rw [K44]
      exact ⟨rfl, N44⟩
set_option maxRecDepth 65536 in
set_option maxHeartbeats 40000000 in
theorem comes_1 {Post : Tables → Env → Array Value → State → Outcome → State → Prop} (hpost : ∀ tb e args s v u, (limb_1_1.after args s (.returned v) u = true ∧ limb_1_2.after args s (.returned v) u = true ∧ True) → FrameEnd s (.returned v) u (Jvm.fieldLocs frame_1_writes args s ++ Jvm.arrayLocs frame_1_arrays args s ++ Jvm.staticLocs frame_1_statics s) 16 128 → Post tb e args s (.returned v) u) :
    ArmFor flags0 classFile x code maxLocals ret World_1 tables_1 room_1 Calls_1 rest_1 Pre_1 Post := by
  intro l hfl _ _ p e ha hc hk s m args below hf hA hF happ hP
  obtain ⟨hcalls, hrest, hpre⟩ := hP
  obtain ⟨-, -, -, hnamed, -, -, -, hat⟩ := (Spec.applies_iff hf).mp happ
  obtain ⟨hg, hn⟩ := and_e (Cond.before_iff.mp (show (Jvm.Cond.and given_1 narrow_1).before args s = true from hpre))
  obtain ⟨hcount, g0⟩ := and_e hg
  obtain ⟨a0, g1⟩ := and_e g0
  obtain ⟨a1, g2⟩ := and_e g1
  have a2 := g2
  obtain ⟨w0, w1, w2, rfl⟩ : ∃ w0 w1 w2 : Value, args = #[w0, w1, w2] := by
    have hs : args.size = 3 := by simpa [Cond.value, given_1] using hcount
    obtain ⟨L⟩ := args
    match L, hs with
    | [w0, w1, w2], _ => exact ⟨w0, w1, w2, rfl⟩
  have hw := fun d (hd : d ∈ tables_1) => atoms_spec (ws := Jvm.Cond.code x code maxLocals ret :: tables_1) hat d (List.mem_cons_of_mem _ hd)
  obtain ⟨i0, ei0⟩ := is_v a0
  obtain rfl : w0 = (.int i0) := Option.some.inj ei0
  obtain ⟨i1, ei1⟩ := is_v a1
  obtain rfl : w1 = (.int i1) := Option.some.inj ei1
  obtain ⟨i2, ei2⟩ := is_v a2
  obtain rfl : w2 = (.int i2) := Option.some.inj ei2
  obtain ⟨n, o, h1, h2, h3, _, L, rfl, ⟨rfl, N⟩, hq⟩ := rm0 l s _ hw tables_1 i0 i1 i2 s.heap s.heap.size (Nat.le_refl _) p e ha hc hk s m _ below hf ((Spec.applies_iff_loose hf).mp happ).1 ⟨rfl, State.Warmed39.refl s, rfl⟩ trivial
  refine ⟨n, _, h1, h2, h3, hpost _ _ _ _ _ _ ⟨Cond.after_iff.mpr rfl, Cond.after_iff.mpr (eq_i res_at (Term.int_eval (1)) rfl), trivial⟩ ⟨hq.1, hq.2.1, (hq.2.2.sift fun y hy => Or.inr (N y hy)).mono (by decide) (by decide)⟩⟩
theorem main_1_1 : Claimed_1_1 := comes_1 fun _ _ _ _ _ _ h hF => ⟨h.1, hF⟩
theorem main_1_2 : Claimed_1_2 := comes_1 fun _ _ _ _ _ _ h hF => ⟨h.2.1, hF⟩
end Jvm.Pilot.@@N@@
namespace Jvm.Pilot.@@N@@
open Jvm Jvm.ClassFile Sem Op Lib Jvm.Free Jvm.Stand Jvm.Pilot.@@N@@.Jvm.D
/-! MADE BY PROGRAM (witnessworld.py) out of the Statement's table words and the real class files: 9 classes; the members and pool entries that the words name. The judged class is class 1, her method 1. -/
namespace start1
open Jvm.ClassFile
def u (s : String) : CpInfo := .utf8 (stringToUtf16 s)
/-- a pool by its gaps: so many unusable entries, then the entry; so many at the end -/
def gap : Nat → List CpInfo → List CpInfo
  | 0, r => r
  | n + 1, r => .unusable :: gap n r
def poolList (es : List (Nat × CpInfo)) (last : Nat) : List CpInfo := es.foldr (fun e r => gap e.1 (e.2 :: r)) (gap last [])
def pool (es : List (Nat × CpInfo)) (last : Nat) : Array CpInfo := ⟨poolList es last⟩
def fileOf (pool : Array CpInfo) (this : Nat) (attrs : Array Attribute := #[]) (ms : Array MethodInfo := #[]) (fl : Nat := 33) (sup : Nat := 0) (ifs : Array Nat := #[]) (fds : Array FieldInfo := #[]) : ClassFile where
  minorVersion := 0
  majorVersion := 65
  constantPool := pool
  accessFlags := fl
  thisClass := this
  superClass := sup
  interfaces := ifs
  fields := fds
  methods := ms
  attributes := attrs
def plain (name : String) (sup : Option ClassId) : Class where
  name := name
  kind := .ordinary
  loader := none
  accessFlags := 33
  super := sup
  interfaces := #[]
  cf := none
  fields := #[]
  methods := #[]
  instanceTypes := #[]
  staticTypes := #[]
  resolved := #[]
  callSites := []
  init := .initialized
  statics := none
  mirror := none

def pool0 : Array CpInfo := pool [(5, u "<init>"), (0, u "()V"), (1, .class_ 10), (1, u "java/lang/Object")] 113

def k0c0 : Code := { maxStack := 0, maxLocals := 1, code := object_method_1_code, exceptionTable := #[], attributes := #[] }
def k0m0 : Method := { name := "<init>", desc := "()V", sig := { parameters := [], returnType := none }, accessFlags := 1, code := some k0c0 }
/-- java/lang/Object -/
def k0 : Class := { plain "java/lang/Object" none with
  accessFlags := 33
  interfaces := #[]
  cf := some (fileOf pool0 8 #[] #[{ accessFlags := 1, nameIndex := 5, descriptorIndex := 6, attributes := #[] }] 33 0 #[] #[])
  fields := #[]
  methods := #[k0m0]
  instanceTypes := #[]
  staticTypes := #[]
  resolved := Array.replicate 124 none
  statics := none }

def pool1 : Array CpInfo := pool [(2, .class_ 4), (0, .nameAndType 5 6), (0, u "java/lang/Object"), (0, u "<init>"), (0, u "()V"), (0, .class_ 8), (0, u "com/example/sigpoint/sigpoint/Rows"), (0, .methodref 7 3), (0, .methodref 7 11), (0, .nameAndType 12 13), (0, u "add"), (0, u "()I"), (0, .integer 2147483647), (0, .methodref 7 16), (0, .nameAndType 17 18), (0, u "remove"), (0, u "(I)V"), (0, .methodref 7 20), (0, .nameAndType 21 13), (0, u "high"), (0, .class_ 23), (0, u "com/example/sigpoint/sigpoint/RowsAddPinLaw"), (2, u "law"), (0, u "(III)Z")] 5

def k1m0 : Method := { name := "<init>", desc := "()V", sig := { parameters := [], returnType := none }, accessFlags := 1, code := none }
def k1c1 : Code := { maxStack := 3, maxLocals := 15, code := code, exceptionTable := #[], attributes := #[] }
def k1m1 : Method := { name := "law", desc := "(III)Z", sig := { parameters := [.int, .int, .int], returnType := some .boolean }, accessFlags := 9, code := some k1c1 }
/-- com/example/sigpoint/sigpoint/RowsAddPinLaw -/
def k1 : Class := { plain "com/example/sigpoint/sigpoint/RowsAddPinLaw" (some 0) with
  accessFlags := 49
  interfaces := #[]
  cf := some (fileOf pool1 22 #[] #[{ accessFlags := 1, nameIndex := 5, descriptorIndex := 6, attributes := #[] }, { accessFlags := 9, nameIndex := 26, descriptorIndex := 27, attributes := #[] }] 49 2 #[] #[])
  fields := #[]
  methods := #[k1m0, k1m1]
  instanceTypes := #[]
  staticTypes := #[]
  resolved := Array.replicate 33 none
  statics := none }

def pool2 : Array CpInfo := pool [(1, .methodref 2 3), (0, .class_ 4), (0, .nameAndType 5 6), (0, u "java/lang/Object"), (0, u "<init>"), (0, u "()V"), (0, .fieldref 8 9), (0, .class_ 10), (0, .nameAndType 11 12), (0, u "com/example/sigpoint/sigpoint/Rows"), (0, u "free"), (0, u "[I"), (0, .fieldref 8 14), (0, .nameAndType 15 16), (0, u "freeCount"), (0, u "I"), (0, .fieldref 8 18), (0, .nameAndType 19 16), (0, u "high"), (8, u "add"), (0, u "()I"), (1, u "remove"), (0, u "(I)V")] 2

def k2c0 : Code := { maxStack := 2, maxLocals := 1, code := prog_81_method_1_code, exceptionTable := #[], attributes := #[] }
def k2m0 : Method := { name := "<init>", desc := "()V", sig := { parameters := [], returnType := none }, accessFlags := 0, code := some k2c0 }
def k2c1 : Code := { maxStack := 4, maxLocals := 1, code := prog_81_method_2_code, exceptionTable := #[], attributes := #[] }
def k2m1 : Method := { name := "add", desc := "()I", sig := { parameters := [], returnType := some .int }, accessFlags := 0, code := some k2c1 }
def k2c2 : Code := { maxStack := 5, maxLocals := 2, code := prog_81_method_3_code, exceptionTable := #[], attributes := #[] }
def k2m2 : Method := { name := "remove", desc := "(I)V", sig := { parameters := [.int], returnType := none }, accessFlags := 0, code := some k2c2 }
def k2c3 : Code := { maxStack := 1, maxLocals := 1, code := prog_81_method_4_code, exceptionTable := #[], attributes := #[] }
def k2m3 : Method := { name := "high", desc := "()I", sig := { parameters := [], returnType := some .int }, accessFlags := 0, code := some k2c3 }
/-- com/example/sigpoint/sigpoint/Rows -/
def k2 : Class := { plain "com/example/sigpoint/sigpoint/Rows" (some 0) with
  accessFlags := 48
  interfaces := #[]
  cf := some (fileOf pool2 8 #[] #[{ accessFlags := 0, nameIndex := 5, descriptorIndex := 6, attributes := #[] }, { accessFlags := 0, nameIndex := 28, descriptorIndex := 29, attributes := #[] }, { accessFlags := 0, nameIndex := 31, descriptorIndex := 32, attributes := #[] }, { accessFlags := 0, nameIndex := 19, descriptorIndex := 29, attributes := #[] }] 48 2 #[] #[{ accessFlags := 2, nameIndex := 11, descriptorIndex := 12, attributes := #[] }, { accessFlags := 2, nameIndex := 15, descriptorIndex := 16, attributes := #[] }, { accessFlags := 2, nameIndex := 19, descriptorIndex := 16, attributes := #[] }])
  fields := #[{ name := "free", type := (.array .int), accessFlags := 2, slot := 0, constantValue := 0 }, { name := "freeCount", type := .int, accessFlags := 2, slot := 1, constantValue := 0 }, { name := "high", type := .int, accessFlags := 2, slot := 2, constantValue := 0 }]
  methods := #[k2m0, k2m1, k2m2, k2m3]
  instanceTypes := #[(.array .int), .int, .int]
  staticTypes := #[]
  resolved := Array.replicate 35 none
  statics := none }

def pool3 : Array CpInfo := pool [(1, u "java/lang/Cloneable"), (0, .class_ 1), (0, u "java/lang/Object"), (0, .class_ 3)] 3

/-- java/lang/Cloneable -/
def k3 : Class := { plain "java/lang/Cloneable" (some 0) with
  accessFlags := 1537
  interfaces := #[]
  cf := some (fileOf pool3 2 #[] #[] 1537 4 #[] #[])
  fields := #[]
  methods := #[]
  instanceTypes := #[]
  staticTypes := #[]
  resolved := Array.replicate 8 none
  statics := none }

def pool4 : Array CpInfo := pool [(1, u "java/io/Serializable"), (0, .class_ 1), (0, u "java/lang/Object"), (0, .class_ 3)] 3

/-- java/io/Serializable -/
def k4 : Class := { plain "java/io/Serializable" (some 0) with
  accessFlags := 1537
  interfaces := #[]
  cf := some (fileOf pool4 2 #[] #[] 1537 4 #[] #[])
  fields := #[]
  methods := #[]
  instanceTypes := #[]
  staticTypes := #[]
  resolved := Array.replicate 8 none
  statics := none }

/-- the primitive byte -/
def k5 : Class := { plain "byte" none with kind := .primitive 'B', accessFlags := 0x411 }
/-- [B -/
def k6 : Class := { plain "[B" (some 0) with kind := .array 5 .byte, interfaces := #[3, 4], accessFlags := 1041 }

/-- the primitive int -/
def k7 : Class := { plain "int" none with kind := .primitive 'I', accessFlags := 0x411 }
/-- [I -/
def k8 : Class := { plain "[I" (some 0) with kind := .array 7 .int, interfaces := #[3, 4], accessFlags := 1041 }

def heap : Heap := #[]
def classes : Array Class := #[k0, k1, k2, k3, k4, k5, k6, k7, k8]
def interned : List (Array UInt16 × Addr) := []
def slotsUsed : Nat := 0
def theMethod : MethodId := ⟨1, 1⟩
def args0 : Array Value := #[.int 5, .int 3, .int 3]
def aboutOver (below : List Frame) : State where
  vm := { classes := classes, interned := interned.toArray }
  heap := heap
  slotsUsed := slotsUsed
  threads := #[{ frames := .invoking theMethod args0 :: below }]
def below0 : List Frame := [.native { method := ⟨0, 0⟩, args := #[] }]
def about1 : State := aboutOver below0
def p0 : Program := .bare "" "" ""
def e0 : Env := launch0.env 0 0 0
theorem w_frames : about1.frames = Frame.invoking theMethod args0 :: below0 := rfl
set_option maxRecDepth 65536 in
theorem w_args : argsFit about1.vm theMethod args0 = true := by decide +kernel
set_option maxRecDepth 65536 in
theorem w_heap : heapFits about1 = true := by decide +kernel
set_option maxRecDepth 65536 in
theorem w_runnable : about1.curStatus? = some .runnable := by decide +kernel
set_option maxRecDepth 65536 in
theorem w_alone : about1.alone = true := by decide +kernel
set_option maxRecDepth 65536 in
theorem w_named : about1.methodNamed? x = some theMethod := by decide +kernel
set_option maxRecDepth 65536 in
theorem w_hears : about1.hears theMethod below0 = true := by decide +kernel
set_option maxRecDepth 65536 in
theorem w_ripe : about1.ripe theMethod args0 below0 = true := by decide +kernel
theorem w_running : about1.status = .running := rfl
set_option maxRecDepth 65536 in
theorem w_room : about1.hasRoom e0.platform room_1 = true :=
  launch0.hasRoom_least _ room_1 (by decide +kernel) (by decide +kernel) (by decide +kernel) (by decide +kernel) (by decide +kernel) (by decide +kernel)
theorem allAtoms_all (ts : List Jvm.Cond) (a : Array Jvm.Value) (st : Jvm.State) : (allAtoms ts).before a st = ts.all (fun c => c.before a st) := by
  induction ts with
  | nil => rfl
  | cons c t ih =>
    show (Jvm.Cond.and c (allAtoms t)).before a st = _
    rw [Jvm.Cond.before_and, ih, List.all_cons]
def words1 : List Jvm.Cond := Jvm.Cond.code x code maxLocals ret :: tables_1
/-- a 'code' word, met by the world's own term for the bytes: nothing is compared byte by byte -/
theorem code_word {y : MethodName} {bytes : ByteArray} {mx : Nat} {rt : Option FieldType} {a : Array Value} {s : State} {m : MethodId} {meth : Method} {c : Code} (h1 : s.methodNamed? y = some m) (h2 : s.vm.method? m = some meth) (h3 : meth.code = some c) (h4 : c.code = bytes)
    (h5 : (c.maxLocals == mx && c.exceptionTable.isEmpty && decide (c.maxStack ≤ mostOperands) && decide (meth.sig.returnType = rt) && !meth.locks && decide (parseMethodDescriptor y.desc = some meth.sig)) = true) : (Jvm.Cond.code y bytes mx rt).before a s = true := by
  simp only [Bool.and_eq_true, beq_iff_eq, Bool.not_eq_true', decide_eq_true_eq] at h5
  obtain ⟨⟨⟨⟨⟨g1, g2⟩, g3⟩, g4⟩, g5⟩, g6⟩ := h5
  simp [Cond.before, Cond.holds, Cond.value, h1, h2, h3, h4, g1, g2, g3, g4, g5, g6]
def isCode : Jvm.Cond → Bool
  | .code _ _ _ _ => true
  | _ => false
theorem all_split {L : List Jvm.Cond} {P : Jvm.Cond → Bool} (h1 : L.all (fun c => isCode c || P c) = true) (h2 : ∀ c ∈ L.filter isCode, P c = true) : L.all P = true := by
  refine List.all_eq_true.mpr fun c hc => ?_
  have h := List.all_eq_true.mp h1 c hc
  rcases Bool.eq_false_or_eq_true (isCode c) with hi | hi
  · exact h2 c (List.mem_filter.mpr ⟨hc, hi⟩)
  · simpa [hi] using h
set_option maxRecDepth 65536 in
theorem w_c0 : (Jvm.Cond.code x code maxLocals ret).before args0 about1 = true := code_word (m := ⟨1, 1⟩) (meth := k1m1) (c := k1c1) (by decide +kernel) rfl rfl rfl (by decide +kernel)
set_option maxRecDepth 65536 in
theorem w_c1 : (Jvm.Cond.code ({ cls := "com/example/sigpoint/sigpoint/Rows", name := "<init>", desc := "()V" } : Jvm.MethodName) prog_81_method_1_code (1 : Nat) (Option.none : Option Jvm.ClassFile.FieldType)).before args0 about1 = true := code_word (m := ⟨2, 0⟩) (meth := k2m0) (c := k2c0) (by decide +kernel) rfl rfl rfl (by decide +kernel)
set_option maxRecDepth 65536 in
theorem w_c2 : (Jvm.Cond.code ({ cls := "java/lang/Object", name := "<init>", desc := "()V" } : Jvm.MethodName) object_method_1_code (1 : Nat) (Option.none : Option Jvm.ClassFile.FieldType)).before args0 about1 = true := code_word (m := ⟨0, 0⟩) (meth := k0m0) (c := k0c0) (by decide +kernel) rfl rfl rfl (by decide +kernel)
set_option maxRecDepth 65536 in
theorem w_c3 : (Jvm.Cond.code ({ cls := "com/example/sigpoint/sigpoint/Rows", name := "add", desc := "()I" } : Jvm.MethodName) prog_81_method_2_code (1 : Nat) (Option.some Jvm.ClassFile.FieldType.int)).before args0 about1 = true := code_word (m := ⟨2, 1⟩) (meth := k2m1) (c := k2c1) (by decide +kernel) rfl rfl rfl (by decide +kernel)
set_option maxRecDepth 65536 in
theorem w_c4 : (Jvm.Cond.code ({ cls := "com/example/sigpoint/sigpoint/Rows", name := "remove", desc := "(I)V" } : Jvm.MethodName) prog_81_method_3_code (2 : Nat) (Option.none : Option Jvm.ClassFile.FieldType)).before args0 about1 = true := code_word (m := ⟨2, 2⟩) (meth := k2m2) (c := k2c2) (by decide +kernel) rfl rfl rfl (by decide +kernel)
set_option maxRecDepth 65536 in
theorem w_c5 : (Jvm.Cond.code ({ cls := "com/example/sigpoint/sigpoint/Rows", name := "high", desc := "()I" } : Jvm.MethodName) prog_81_method_4_code (1 : Nat) (Option.some Jvm.ClassFile.FieldType.int)).before args0 about1 = true := code_word (m := ⟨2, 3⟩) (meth := k2m3) (c := k2c3) (by decide +kernel) rfl rfl rfl (by decide +kernel)
def codes1 : List Jvm.Cond := [Jvm.Cond.code x code maxLocals ret, Jvm.Cond.code ({ cls := "com/example/sigpoint/sigpoint/Rows", name := "<init>", desc := "()V" } : Jvm.MethodName) prog_81_method_1_code (1 : Nat) (Option.none : Option Jvm.ClassFile.FieldType), Jvm.Cond.code ({ cls := "java/lang/Object", name := "<init>", desc := "()V" } : Jvm.MethodName) object_method_1_code (1 : Nat) (Option.none : Option Jvm.ClassFile.FieldType), Jvm.Cond.code ({ cls := "com/example/sigpoint/sigpoint/Rows", name := "add", desc := "()I" } : Jvm.MethodName) prog_81_method_2_code (1 : Nat) (Option.some Jvm.ClassFile.FieldType.int), Jvm.Cond.code ({ cls := "com/example/sigpoint/sigpoint/Rows", name := "remove", desc := "(I)V" } : Jvm.MethodName) prog_81_method_3_code (2 : Nat) (Option.none : Option Jvm.ClassFile.FieldType), Jvm.Cond.code ({ cls := "com/example/sigpoint/sigpoint/Rows", name := "high", desc := "()I" } : Jvm.MethodName) prog_81_method_4_code (1 : Nat) (Option.some Jvm.ClassFile.FieldType.int)]
set_option maxRecDepth 65536 in
theorem codes_eq : words1.filter isCode = codes1 := rfl
theorem w_codes : ∀ c ∈ words1.filter isCode, c.before args0 about1 = true := by
  rw [codes_eq]
  intro c hc
  simp only [codes1, List.mem_cons, List.not_mem_nil, or_false] at hc
  rcases hc with rfl | rfl | rfl | rfl | rfl | rfl
  · exact w_c0
  · exact w_c1
  · exact w_c2
  · exact w_c3
  · exact w_c4
  · exact w_c5
set_option maxRecDepth 65536 in
theorem w_t1 : (words1.take 24).all (fun c => isCode c || c.before args0 about1) = true := by decide +kernel
set_option maxRecDepth 65536 in
theorem w_t2 : (words1.drop 24).all (fun c => isCode c || c.before args0 about1) = true := by decide +kernel
theorem w_tables : (allAtoms (Jvm.Cond.code x code maxLocals ret :: tables_1)).before args0 about1 = true := by
  rw [allAtoms_all]
  show words1.all (fun c => c.before args0 about1) = true
  refine all_split ?_ w_codes
  rw [← List.take_append_drop 24 words1, List.all_append, w_t1, w_t2]
  rfl
set_option maxRecDepth 65536 in
theorem w_case : (Jvm.Cond.and given_1 narrow_1).before args0 about1 = true := by decide +kernel
theorem w_applies : (headSpec (Jvm.Cond.code x code maxLocals ret :: tables_1) room_1).applies x e0.platform about1 = true :=
  (Spec.applies_iff w_frames).mpr ⟨w_running, w_runnable, w_alone, w_named, w_hears, w_ripe, w_room, w_tables⟩
theorem atStart : AtStart classFile x code maxLocals ret World_1 tables_1 room_1 Calls_1 rest_1 Pre_1 launch0 p0 e0 about1 theMethod args0 below0 :=
  ⟨lists_1, trivial, launch0.admits_env _ _ _, launch0.least_env, fairChoices_fair.cas, fairChoices_fair.clock, w_frames, w_args, w_heap, w_applies, trivial, trivial, w_case⟩
end start1
theorem witness_1 : WitnessClaimed_1 := ⟨start1.p0, start1.e0, start1.about1, start1.theMethod, start1.args0, start1.below0, start1.atStart⟩
end Jvm.Pilot.@@N@@
