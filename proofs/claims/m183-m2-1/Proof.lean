import JvmDerived
import JvmDerived.Pilot.@@N@@Statement
import JvmDerived.Pilot.@@N@@Code
set_option linter.unusedVariables false
set_option linter.unusedSimpArgs false
@@BLOCK:NumsL.lean.txt@@
@@BLOCK:Masks.lean.txt@@
@@BLOCK:Nums.lean.txt@@
namespace Jvm.Pilot.@@N@@
open Jvm Jvm.ClassFile Sem Op Lib Jvm.Free Jvm.Stand Jvm.LawKit Jvm.RoadKit Bundle Jvm.Pilot.@@N@@.Jvm.D
section Own
variable {p : Program} {l : Launch} {e : Env} {R : Room} {s : State} {m : MethodId} {args : Array Value} {below : List Frame} {meth : Method} {c : Code} {T T' : State} {locs : List Loc} {cells slots : Nat} {Z : State} {h h' : Heap} {n0 : Nat} {a0 : Array Value} {CC SS : Nat} {Q : Option Value → Heap → List Loc → Prop} {g g' : JFrame} {pc : Nat} {Ls : Array Slot} {rest st : List Value}
/-- from here the run comes to its end, and Q holds there -/
def own_Run (p : Program) (e : Env) (below : List Frame) (s : State) (CC SS : Nat) (Q : Option Value → Heap → List Loc → Prop) (T : State) (g : JFrame) : Prop :=
  ∃ s₂ o, Steps p.tables e below (T.setTop g) s₂ ∧ s₂.status = .running ∧ Ended s₂ below o ∧ ∃ v L, o = .returned v ∧ Q v s₂.heap L ∧ FrameEnd s o s₂ L CC SS
theorem own_run (sp : ∀ t, Steps p.tables e below (T'.setTop g') t → Steps p.tables e below (T.setTop g) t) (r : own_Run p e below s CC SS Q T' g') : own_Run p e below s CC SS Q T g := by
  obtain ⟨s₂, o, h1, r⟩ := r; exact ⟨s₂, o, sp _ h1, r⟩
theorem own_enter {ml : Nat} (q : entryFrame m args ml = g) (r : own_Run p e below s CC SS Q T g) : ∃ s₂ o, Steps p.tables e below (T.setTop (entryFrame m args ml)) s₂ ∧ s₂.status = .running ∧ Ended s₂ below o ∧ ∃ v L, o = .returned v ∧ Q v s₂.heap L ∧ FrameEnd s o s₂ L CC SS := by rw [q]; exact r
theorem own_retN {t : FieldType} {z : Int32} (X : Stand p l e R s m args below meth c T locs cells slots) (hx : p.tables.exec = Jvm.exec) (hlk : meth.locks = false) (hret : meth.sig.returnType = some t) (ht : t = .boolean ∨ t = .byte ∨ t = .char ∨ t = .short) (hd : decode c.code pc = .ok (.ireturn, 1)) (hc : cells ≤ CC) (hs : slots ≤ SS) (q : Q (some (.int (nar t z))) T.heap locs) : own_Run p e below s CC SS Q T (mkF m pc Ls (.int z :: rest)) := by
  obtain ⟨fs, hr, hrun, hended, hW, hsame⟩ := X.leave (v := some (.int (nar t z))) (fun h => by rw [hret] at h; cases h) hlk
  exact ⟨_, _, retN X hx hret ht hd hr, hrun, hended, _, _, rfl, q, ⟨_, rfl⟩, hW, hsame.mono hc hs⟩
theorem own_retI {z : Int32} (X : Stand p l e R s m args below meth c T locs cells slots) (hx : p.tables.exec = Jvm.exec) (hlk : meth.locks = false) (hret : meth.sig.returnType = some .int) (hd : decode c.code pc = .ok (.ireturn, 1)) (hc : cells ≤ CC) (hs : slots ≤ SS) (q : Q (some (.int z)) T.heap locs) : own_Run p e below s CC SS Q T (mkF m pc Ls (.int z :: rest)) := by
  obtain ⟨fs, hr, hrun, hended, hW, hsame⟩ := X.leave (v := some (.int z)) (fun h => by rw [hret] at h; cases h) hlk
  refine ⟨_, _, ?_, hrun, hended, _, _, rfl, q, ⟨_, rfl⟩, hW, hsame.mono hc hs⟩
  have hm' : T.vm.method? m = some meth := X.method'
  have hn : narrow .int (.int z) = .int z := rfl
  show Steps p.tables e below (T.setTop { method := m, pc := pc, locals := Ls, stack := _ :: rest, locked := none }) _
  jvm_step X.here [X.here.top, hx, hd, hm', hret, hn]
  first | (intro acts; rw [hr _ acts rfl rfl rfl]) | rw [hr _ _ rfl rfl rfl]
  exact Steps.refl _
theorem own_retL {z : Int64} (X : Stand p l e R s m args below meth c T locs cells slots) (hx : p.tables.exec = Jvm.exec) (hlk : meth.locks = false) (hret : meth.sig.returnType = some .long) (hd : decode c.code pc = .ok (.lreturn, 1)) (hc : cells ≤ CC) (hs : slots ≤ SS) (q : Q (some (.long z)) T.heap locs) : own_Run p e below s CC SS Q T (mkF m pc Ls [.long z]) := by
  obtain ⟨fs, hr, hrun, hended, hW, hsame⟩ := X.leave (v := some (.long z)) (fun h => by rw [hret] at h; cases h) hlk
  exact ⟨_, _, X.lreturnOut hx hret hd hr, hrun, hended, _, _, rfl, q, ⟨_, rfl⟩, hW, hsame.mono hc hs⟩
theorem own_retV (X : Stand p l e R s m args below meth c T locs cells slots) (hx : p.tables.exec = Jvm.exec) (hlk : meth.locks = false) (hret : meth.sig.returnType = none) (hd : decode c.code pc = .ok (.return_, 1)) (hc : cells ≤ CC) (hs : slots ≤ SS) (q : Q none T.heap locs) : own_Run p e below s CC SS Q T (mkF m pc Ls []) := by
  obtain ⟨fs, hr, hrun, hended, hW, hsame⟩ := X.leave (v := none) (fun _ => rfl) hlk
  exact ⟨_, _, X.returnOut hx hret hd hr, hrun, hended, _, _, rfl, q, ⟨_, rfl⟩, hW, hsame.mono hc hs⟩
theorem own_retR {v : Value} {t : FieldType} (X : Stand p l e R s m args below meth c T locs cells slots) (hx : p.tables.exec = Jvm.exec) (hlk : meth.locks = false) (hret : meth.sig.returnType = some t) (ht : t.isReference = true) (hv : v.isRef = true) (hd : decode c.code pc = .ok (.areturn, 1)) (hc : cells ≤ CC) (hs : slots ≤ SS) (q : Q (some v) T.heap locs) : own_Run p e below s CC SS Q T (mkF m pc Ls (v :: rest)) := by
  obtain ⟨fs, hr, hrun, hended, hW, hsame⟩ := X.leave (v := some v) (fun h => by rw [hret] at h; cases h) hlk
  refine ⟨_, _, ?_, hrun, hended, _, _, rfl, q, ⟨_, rfl⟩, hW, hsame.mono hc hs⟩
  have hm' : T.vm.method? m = some meth := X.method'
  show Steps p.tables e below (T.setTop { method := m, pc := pc, locals := Ls, stack := _ :: rest, locked := none }) _
  jvm_step X.here [X.here.top, hx, hd, hm', hret, ht, hv]
  first | (intro acts; rw [hr _ acts rfl rfl rfl]) | rw [hr _ _ rfl rfl rfl]
  exact Steps.refl _
theorem own_clt {x y : Int64} (q : x < y) : ifCond.holds .lt (XT.cmpL x y) = true ∧ ifCond.holds .ge (XT.cmpL x y) = false := by
  have q' : XT.cmpL x y < 0 := (lw_lt x y).mpr q
  exact ⟨(if0 _ _).trans (tlt q').1, (if0 _ _).trans (tlt q').2.1⟩
theorem own_cnlt {x y : Int64} (q : ¬ x < y) : ifCond.holds .lt (XT.cmpL x y) = false ∧ ifCond.holds .ge (XT.cmpL x y) = true := by
  have q' : ¬ XT.cmpL x y < 0 := fun z => q ((lw_lt x y).mp z)
  exact ⟨(if0 _ _).trans (flt q').1, (if0 _ _).trans (flt q').2.1⟩
theorem own_cgt {x y : Int64} (q : y < x) : ifCond.holds .gt (XT.cmpL x y) = true ∧ ifCond.holds .le (XT.cmpL x y) = false := by
  have q' : 0 < XT.cmpL x y := (lw_gt x y).mpr q
  exact ⟨(if0 _ _).trans (tlt q').2.2.1, (if0 _ _).trans (tlt q').2.2.2⟩
theorem own_cngt {x y : Int64} (q : ¬ y < x) : ifCond.holds .gt (XT.cmpL x y) = false ∧ ifCond.holds .le (XT.cmpL x y) = true := by
  have q' : ¬ 0 < XT.cmpL x y := fun z => q ((lw_gt x y).mp z)
  exact ⟨(if0 _ _).trans (flt q').2.2.1, (if0 _ _).trans (flt q').2.2.2⟩
theorem own_ceq {x y : Int64} (q : x = y) : ifCond.holds .eq (XT.cmpL x y) = true ∧ ifCond.holds .ne (XT.cmpL x y) = false := by
  have q' : XT.cmpL x y = 0 := (lw_eq x y).mpr q
  exact ⟨(if0 _ _).trans (teq q').1, (if0 _ _).trans (teq q').2⟩
theorem own_cneq {x y : Int64} (q : ¬ x = y) : ifCond.holds .eq (XT.cmpL x y) = false ∧ ifCond.holds .ne (XT.cmpL x y) = true := by
  have q' : ¬ XT.cmpL x y = 0 := fun z => q ((lw_eq x y).mp z)
  exact ⟨(if0 _ _).trans (feq q').1, (if0 _ _).trans (feq q').2⟩
theorem own_rem (x y : Int32) : x - (x / y) * y = x % y := by
  have a := (x % y).toInt_lt; have b := (x % y).le_toInt
  rw [Int32.toInt_mod] at a b
  apply Int32.toInt_inj.mp
  rw [Int32.toInt_mod, Int32.toInt_sub, Int32.toInt_mul, Int32.toInt_div, Int.bmod_mul_bmod, Int.sub_bmod_bmod, Int.mul_comm, ← Int.tmod_def]
  exact Jvm.Kit.bmod32 b a
theorem own_irem {tb : Tables} [Ours tb] {e : Env} {below : List Frame} {T target : State} {m : MethodId} {c : Code} {g : JFrame} (h : At T m c below) (hx : tb.exec = Jvm.exec) (hg : g.method = m) {x y : Int32} {rest : List Value} (hd : decode c.code g.pc = .ok (.irem, 1)) (hs : g.stack = .int y :: .int x :: rest) (hy : y ≠ 0)
    (hr : Steps tb e below (T.setTop { g with pc := g.pc + 1, stack := .int (x % y) :: rest }) target) : Steps tb e below (T.setTop g) target := XS.irem h hx hg hd hs hy (by rw [own_rem]; exact hr)
theorem own_ldcI {own : String} {index : Nat} {x : Int32} (X : Stand p l e R s m args below meth c T locs cells slots) (hx : p.tables.exec = Jvm.exec) (hZ : Z.Warmed39 s.vm) (hown : s.vm.findClass own = some m.cls) (w : (Cond.constant own index x).before a0 Z = true) (hd : decode c.code pc = .ok (.ldc index, 2)) (k : own_Run p e below s CC SS Q T (mkF m (pc + 2) Ls (.int x :: rest))) : own_Run p e below s CC SS Q T (mkF m pc Ls rest) :=
  own_run (X.ldcInt hx hown (mvT hZ w) (g := mkF m pc Ls rest) rfl hd) k
theorem own_ldcwI {own : String} {index : Nat} {x : Int32} (X : Stand p l e R s m args below meth c T locs cells slots) (hx : p.tables.exec = Jvm.exec) (hZ : Z.Warmed39 s.vm) (hown : s.vm.findClass own = some m.cls) (w : (Cond.constant own index x).before a0 Z = true) (hd : decode c.code pc = .ok (.ldc_w index, 3)) (k : own_Run p e below s CC SS Q T (mkF m (pc + 3) Ls (.int x :: rest))) : own_Run p e below s CC SS Q T (mkF m pc Ls rest) :=
  own_run (X.ldcwInt hx hown (mvT hZ w) (g := mkF m pc Ls rest) rfl hd) k
theorem own_ldcL {own : String} {index : Nat} {x : Int64} (X : Stand p l e R s m args below meth c T locs cells slots) (hx : p.tables.exec = Jvm.exec) (hZ : Z.Warmed39 s.vm) (hown : s.vm.findClass own = some m.cls) (w : (Cond.constantLong own index x).before a0 Z = true) (hd : decode c.code pc = .ok (.ldc2_w index, 3)) (k : own_Run p e below s CC SS Q T (mkF m (pc + 3) Ls (.long x :: rest))) : own_Run p e below s CC SS Q T (mkF m pc Ls rest) :=
  own_run (X.ldc2Long hx hown (mvT hZ w) (g := mkF m pc Ls rest) rfl hd) k
/-- an array of ints or bytes: its length and what it holds -/
def own_A (Z : State) (h : Heap) (a : Addr) (ty : FieldType) (n : Int32) (xs : List Int32) : Prop :=
  xs.length = n.toNatClampNeg ∧ ∃ k, Arv Z h a k ty n (xs.map Value.int) (.int (0 : Int32))
variable {a b : Addr} {ty : FieldType} {n j x : Int32} {xs ys : List Int32} {sl : Nat} {v : Value} {ws : List Addr}
theorem own_A.lt (A : own_A Z h a ty n xs) : a < h.size := by obtain ⟨-, k, V⟩ := A; exact V.lt
theorem own_A.ext (A : own_A Z h a ty n xs) (E : Ext h h') : own_A Z h' a ty n xs := ⟨A.1, A.2.imp fun _ V => V.ext E⟩
theorem own_A.other (A : own_A Z h b ty n xs) (W : Wr h h' a sl v) (q : b ≠ a) : own_A Z h' b ty n xs := ⟨A.1, A.2.imp fun _ V => V.other W q⟩
theorem own_A.keep (A : own_A Z h a ty n xs) (K : Keep h h' ws) (q : a ∉ ws) : own_A Z h' a ty n xs := ⟨A.1, A.2.imp fun _ V => V.keep K q⟩
theorem own_A.nn (A : own_A Z h a ty n xs) : ¬ n < 0 := by obtain ⟨-, k, cl, -, -, -, q, -⟩ := A; exact q
theorem own_A.to (A : own_A Z h a ty n xs) (q : xs = ys) : own_A Z h a ty n ys := q ▸ A
theorem own_lt_clamp {j n : Int32} (hj : ¬ j < 0 ∧ j < n) : j.toNatClampNeg < n.toNatClampNeg := by
  obtain ⟨q1, q2⟩ := hj
  rw [Int32.lt_iff_toInt_lt] at q1 q2
  have e0 : (0 : Int32).toInt = 0 := rfl
  simp only [Int32.toNatClampNeg] at *; omega
theorem own_newA {aty : ArrayType} {cap : Nat} (X : Stand p l e R s m args below meth c T locs cells slots) (hx : p.tables.exec = Jvm.exec) (hZ : Z.Warmed39 s.vm) (w : (Cond.arrayClass (newarray.typeOf aty)).before a0 Z = true) (hty : newarray.typeOf aty = ty) (hdv : defaultValue ty = .int 0) (eT : T.heap = h) (hd : decode c.code pc = .ok (.newarray aty, 2)) (hn : ¬ n < 0) (hcap : n.toNatClampNeg ≤ cap) (hb : cap * 8 ≤ 536870912) (hc : cells + 1 ≤ R.cells) (hl : slots + cap ≤ R.slots)
    (k : ∀ T' h' b, b = h.size → Stand p l e R s m args below meth c T' locs (cells + 1) (slots + cap) → T'.heap = h' → Ext h h' → own_A Z h' b ty n (List.replicate n.toNatClampNeg 0) → own_Run p e below s CC SS Q T' (mkF m (pc + 2) Ls (.ref b :: rest))) :
    own_Run p e below s CC SS Q T (mkF m pc Ls (.int n :: rest)) := by
  obtain ⟨T', h', cA, X', e', E', A', sp⟩ := newP X hx hZ w eT (g := mkF m pc Ls (.int n :: rest)) rfl hd rfl hn hcap hb hc hl
  subst hty
  refine own_run sp (k T' h' _ rfl X' e' E' ⟨by simp, cA, ?_⟩)
  have V := Arv.new A' hn
  rw [hdv] at V
  have q := V.pad (pad_rep [] (.int 0) n.toNatClampNeg)
  simpa using q
theorem own_len (X : Stand p l e R s m args below meth c T locs cells slots) (hx : p.tables.exec = Jvm.exec) (hZ : Z.Warmed39 s.vm) (eT : T.heap = h) (A : own_A Z h a ty n xs) (hd : decode c.code pc = .ok (.arraylength, 1)) (k : own_Run p e below s CC SS Q T (mkF m (pc + 1) Ls (.int n :: rest))) : own_Run p e below s CC SS Q T (mkF m pc Ls (.ref a :: rest)) := by
  obtain ⟨hl, kk, cl, Ar, q1, Sz, Nn, H, G⟩ := A
  refine own_run (fun t kt => X.arraylength hx (by rw [eT]; exact Ar.1) (State.isArrayOf_alike hZ.alike Ar.2.1) (g := mkF m pc Ls (.ref a :: rest)) rfl rfl hd t (by rw [len_of Sz Nn]; exact kt)) k
theorem own_getD (xs : List Int32) (i : Nat) : (xs.map Value.int).getD i (.int 0) = .int (xs.getD i 0) := by
  simp only [List.getD_eq_getElem?_getD, List.getElem?_map]; cases xs[i]? <;> rfl
theorem own_ldI (X : Stand p l e R s m args below meth c T locs cells slots) (hx : p.tables.exec = Jvm.exec) (hZ : Z.Warmed39 s.vm) (eT : T.heap = h) (A : own_A Z h a .int n xs) (hj : ¬ j < 0 ∧ j < n) (hd : decode c.code pc = .ok (.iaload, 1)) (hv : xs.getD j.toNatClampNeg 0 = x) (k : own_Run p e below s CC SS Q T (mkF m (pc + 1) Ls (.int x :: rest))) : own_Run p e below s CC SS Q T (mkF m pc Ls (.int j :: .ref a :: rest)) := by
  obtain ⟨hl, kk, cl, Ar, q1, Sz, Nn, H, G⟩ := A
  have hin := inb_of Sz hj
  refine own_run (fun t kt => X.iaload hx (j := j) (v := .int x) (by rw [eT]; exact Ar.1) (State.isArrayOf_alike hZ.alike Ar.2.1) Ar.2.2 hin (H.at hin (by rw [own_getD, hv])) (g := mkF m pc Ls (.int j :: .ref a :: rest)) rfl rfl hd t kt) k
theorem own_ldB (X : Stand p l e R s m args below meth c T locs cells slots) (hx : p.tables.exec = Jvm.exec) (hZ : Z.Warmed39 s.vm) (eT : T.heap = h) (A : own_A Z h a .byte n xs) (hj : ¬ j < 0 ∧ j < n) (hd : decode c.code pc = .ok (.baload, 1)) (hv : xs.getD j.toNatClampNeg 0 = x) (k : own_Run p e below s CC SS Q T (mkF m (pc + 1) Ls (.int x :: rest))) : own_Run p e below s CC SS Q T (mkF m pc Ls (.int j :: .ref a :: rest)) := by
  obtain ⟨hl, kk, cl, Ar, q1, Sz, Nn, H, G⟩ := A
  have hin := inb_of Sz hj
  refine own_run (fun t kt => X.baloadBytes hx (j := j) (v := .int x) (by rw [eT]; exact Ar.1) (State.isArrayOf_alike hZ.alike Ar.2.1) Ar.2.2 hin (H.at hin (by rw [own_getD, hv])) (g := mkF m pc Ls (.int j :: .ref a :: rest)) rfl rfl hd t kt) k
theorem own_map_set (xs : List Int32) (i : Nat) (x : Int32) : (xs.map Value.int).set i (.int x) = (xs.set i x).map Value.int := by rw [List.map_set]
theorem own_stI (X : Stand p l e R s m args below meth c T locs cells slots) (hx : p.tables.exec = Jvm.exec) (hZ : Z.Warmed39 s.vm) (eT : T.heap = h) (A : own_A Z h a .int n xs) (hj : ¬ j < 0 ∧ j < n) (N : Fr n0 locs) (ga : n0 ≤ a) (hd : decode c.code pc = .ok (.iastore, 1)) (hys : xs.set j.toNatClampNeg x = ys)
    (k : ∀ T' h' locs', Stand p l e R s m args below meth c T' locs' cells slots → Fr n0 locs' → T'.heap = h' → Wr h h' a j.toNatClampNeg (.int x) → own_A Z h' a .int n ys → own_Run p e below s CC SS Q T' (mkF m (pc + 1) Ls rest)) : own_Run p e below s CC SS Q T (mkF m pc Ls (.int x :: .int j :: .ref a :: rest)) := by
  obtain ⟨hl, kk, cl, Ar, q1, Sz, Nn, H, G⟩ := A
  have hin := inb_of Sz hj
  obtain ⟨T', h', X', e', W, sp⟩ := stI X hx hZ eT Ar (j := j) (x := x) hin (g := mkF m pc Ls (.int x :: .int j :: .ref a :: rest)) rfl rfl hd
  have V := Arv.set Ar q1 Sz Nn H G (show fits .int (.int x) = true from rfl) W _ rfl (by rw [List.length_map, hl]; exact own_lt_clamp hj)
  refine own_run sp (k T' h' _ X' (Fr.snoc X' N ga) e' W ⟨by rw [← hys, List.length_set]; exact hl, kk, ?_⟩)
  rw [← hys, ← own_map_set]; exact V
theorem own_stB (X : Stand p l e R s m args below meth c T locs cells slots) (hx : p.tables.exec = Jvm.exec) (hZ : Z.Warmed39 s.vm) (eT : T.heap = h) (A : own_A Z h a .byte n xs) (hj : ¬ j < 0 ∧ j < n) (N : Fr n0 locs) (ga : n0 ≤ a) (hd : decode c.code pc = .ok (.bastore, 1)) (hys : xs.set j.toNatClampNeg (nar .byte x) = ys)
    (k : ∀ T' h' locs', Stand p l e R s m args below meth c T' locs' cells slots → Fr n0 locs' → T'.heap = h' → Wr h h' a j.toNatClampNeg (.int (nar .byte x)) → own_A Z h' a .byte n ys → own_Run p e below s CC SS Q T' (mkF m (pc + 1) Ls rest)) : own_Run p e below s CC SS Q T (mkF m pc Ls (.int x :: .int j :: .ref a :: rest)) := by
  obtain ⟨hl, kk, cl, Ar, q1, Sz, Nn, H, G⟩ := A
  have hin := inb_of Sz hj
  obtain ⟨T', h', X', e', W, sp⟩ := stB X hx hZ eT Ar (j := j) (x := x) hin (g := mkF m pc Ls (.int x :: .int j :: .ref a :: rest)) rfl rfl hd
  have V := Arv.set Ar q1 Sz Nn H G (fits_nar_byte x) W _ rfl (by rw [List.length_map, hl]; exact own_lt_clamp hj)
  refine own_run sp (k T' h' _ X' (Fr.snoc X' N ga) e' W ⟨by rw [← hys, List.length_set]; exact hl, kk, ?_⟩)
  rw [← hys, ← own_map_set]; exact V
/-- an array of which only the length is said -/
def own_L (Z : State) (h : Heap) (a : Addr) (n : Int32) : Prop := ∃ (ty : FieldType) (k : ClassId) (vs : List Value) (d : Value), Arv Z h a k ty n vs d
theorem own_L.lt (A : own_L Z h a n) : a < h.size := by obtain ⟨_, _, _, _, V⟩ := A; exact V.lt
theorem own_L.ext (A : own_L Z h a n) (E : Ext h h') : own_L Z h' a n := by obtain ⟨_, _, _, _, V⟩ := A; exact ⟨_, _, _, _, V.ext E⟩
theorem own_L.other (A : own_L Z h b n) (W : Wr h h' a sl v) (q : b ≠ a) : own_L Z h' b n := by obtain ⟨_, _, _, _, V⟩ := A; exact ⟨_, _, _, _, V.other W q⟩
theorem own_L.keep (A : own_L Z h a n) (K : Keep h h' ws) (q : a ∉ ws) : own_L Z h' a n := by obtain ⟨_, _, _, _, V⟩ := A; exact ⟨_, _, _, _, V.keep K q⟩
theorem own_A.toL (A : own_A Z h a ty n xs) : own_L Z h a n := by obtain ⟨-, k, V⟩ := A; exact ⟨_, _, _, _, V⟩
theorem own_newL {aty : ArrayType} {cap : Nat} (X : Stand p l e R s m args below meth c T locs cells slots) (hx : p.tables.exec = Jvm.exec) (hZ : Z.Warmed39 s.vm) (w : (Cond.arrayClass (newarray.typeOf aty)).before a0 Z = true) (eT : T.heap = h) (hd : decode c.code pc = .ok (.newarray aty, 2)) (hn : ¬ n < 0) (hcap : n.toNatClampNeg ≤ cap) (hb : cap * 8 ≤ 536870912) (hc : cells + 1 ≤ R.cells) (hl : slots + cap ≤ R.slots)
    (k : ∀ T' h' b, b = h.size → Stand p l e R s m args below meth c T' locs (cells + 1) (slots + cap) → T'.heap = h' → Ext h h' → own_L Z h' b n → own_Run p e below s CC SS Q T' (mkF m (pc + 2) Ls (.ref b :: rest))) :
    own_Run p e below s CC SS Q T (mkF m pc Ls (.int n :: rest)) := by
  obtain ⟨T', h', cA, X', e', E', A', sp⟩ := newP X hx hZ w eT (g := mkF m pc Ls (.int n :: rest)) rfl hd rfl hn hcap hb hc hl
  exact own_run sp (k T' h' _ rfl X' e' E' ⟨_, _, _, _, Arv.new A' hn⟩)
theorem own_lenL (X : Stand p l e R s m args below meth c T locs cells slots) (hx : p.tables.exec = Jvm.exec) (hZ : Z.Warmed39 s.vm) (eT : T.heap = h) (A : own_L Z h a n) (hd : decode c.code pc = .ok (.arraylength, 1)) (k : own_Run p e below s CC SS Q T (mkF m (pc + 1) Ls (.int n :: rest))) : own_Run p e below s CC SS Q T (mkF m pc Ls (.ref a :: rest)) := by
  obtain ⟨ty, kk, vs, d, cl, Ar, q1, Sz, Nn, H, G⟩ := A
  refine own_run (fun t kt => X.arraylength hx (by rw [eT]; exact Ar.1) (State.isArrayOf_alike hZ.alike Ar.2.1) (g := mkF m pc Ls (.ref a :: rest)) rfl rfl hd t (by rw [len_of Sz Nn]; exact kt)) k
/-- an array of references that holds nothing but null -/
def own_U (Z : State) (h : Heap) (a : Addr) (n : Int32) : Prop := ∃ (C : String) (k : ClassId), Arv Z h a k (.object C) n [] .null
theorem own_U.lt (A : own_U Z h a n) : a < h.size := by obtain ⟨_, _, V⟩ := A; exact V.lt
theorem own_U.ext (A : own_U Z h a n) (E : Ext h h') : own_U Z h' a n := by obtain ⟨_, _, V⟩ := A; exact ⟨_, _, V.ext E⟩
theorem own_U.toL (A : own_U Z h a n) : own_L Z h a n := by obtain ⟨_, _, V⟩ := A; exact ⟨_, _, _, _, V⟩
theorem own_newU {own K : String} {index cap : Nat} (X : Stand p l e R s m args below meth c T locs cells slots) (hx : p.tables.exec = Jvm.exec) (hZ : Z.Warmed39 s.vm) (hown : s.vm.findClass own = some m.cls) (w1 : (Cond.classLink own index K).before a0 Z = true) (w2 : (Cond.arrayOver (.object K)).before a0 Z = true) (eT : T.heap = h) (hd : decode c.code pc = .ok (.anewarray index, 3)) (hn : ¬ n < 0) (hcap : n.toNatClampNeg ≤ cap) (hb : cap * 8 ≤ 536870912) (hc : cells + 1 ≤ R.cells) (hl : slots + cap ≤ R.slots)
    (k : ∀ T' h' b, b = h.size → Stand p l e R s m args below meth c T' locs (cells + 1) (slots + cap) → T'.heap = h' → Ext h h' → own_U Z h' b n → own_Run p e below s CC SS Q T' (mkF m (pc + 3) Ls (.ref b :: rest))) :
    own_Run p e below s CC SS Q T (mkF m pc Ls (.int n :: rest)) := by
  obtain ⟨T', h', cA, X', e', E', A', -, sp⟩ := newR X hx hZ hown w1 w2 eT (g := mkF m pc Ls (.int n :: rest)) rfl hd rfl hn hcap hb hc hl
  exact own_run sp (k T' h' _ rfl X' e' E' ⟨_, _, Arv.new A' hn⟩)
theorem own_ldU (X : Stand p l e R s m args below meth c T locs cells slots) (hx : p.tables.exec = Jvm.exec) (hZ : Z.Warmed39 s.vm) (eT : T.heap = h) (A : own_U Z h a n) (hj : ¬ j < 0 ∧ j < n) (hd : decode c.code pc = .ok (.aaload, 1)) (k : own_Run p e below s CC SS Q T (mkF m (pc + 1) Ls (.null :: rest))) : own_Run p e below s CC SS Q T (mkF m pc Ls (.int j :: .ref a :: rest)) := by
  obtain ⟨C, kk, cl, Ar, q1, Sz, Nn, H, G⟩ := A
  have hin := inb_of Sz hj
  refine own_run (fun t kt => X.aaload hx (j := j) (v := .null) (by rw [eT]; exact Ar.1) (State.isArrayOf_alike hZ.alike Ar.2.1) rfl Ar.2.2 hin (H.at hin (by simp)) (g := mkF m pc Ls (.int j :: .ref a :: rest)) rfl rfl hd t kt) k
/-- new -/
theorem own_new {own K : String} {index sz : Nat} (X : Stand p l e R s m args below meth c T locs cells slots) (hx : p.tables.exec = Jvm.exec) (hZ : Z.Warmed39 s.vm) (hown : s.vm.findClass own = some m.cls) (w : (Cond.classLink own index K).before a0 Z = true) (wi : (Cond.instantiable K sz).before a0 Z = true) (wz : (Cond.initialized K).before a0 Z = true) (eT : T.heap = h) (hd : decode c.code pc = .ok (.new index, 3)) (hc : cells + 1 ≤ R.cells) (hl : slots + sz ≤ R.slots)
    (k : ∀ T' h' b, b = h.size → Stand p l e R s m args below meth c T' locs (cells + 1) (slots + sz) → T'.heap = h' → Ext h h' → Exa Z h' b K → (∀ {O nm d : String} {ty : FieldType}, Laid Z a0 K O nm d → parseFieldDescriptor d = some ty → Fld Z h' b O nm d (defaultValue ty)) → own_Run p e below s CC SS Q T' (mkF m (pc + 3) Ls (.ref b :: rest))) :
    own_Run p e below s CC SS Q T (mkF m pc Ls rest) := by
  obtain ⟨T', h', X', e', E', A', D', -, sp⟩ := newO X hx hZ hown w wi wz eT (g := mkF m pc Ls rest) rfl hd hc hl
  exact own_run sp (k T' h' _ rfl X' e' E' A' D')
theorem own_getF {own R0 O nm d host : String} {index : Nat} (X : Stand p l e R s m args below meth c T locs cells slots) (hx : p.tables.exec = Jvm.exec) (hZ : Z.Warmed39 s.vm) (hown : s.vm.findClass own = some m.cls) (w : (Cond.fieldLink own index R0 nm d).before a0 Z = true ∨ (Cond.fieldLinkNest own index R0 nm d host).before a0 Z = true) (via : Via Z R0 O nm d) (eT : T.heap = h) (F : Fld Z h a O nm d v) (hd : decode c.code pc = .ok (.getfield index, 3))
    (k : ∀ T', Stand p l e R s m args below meth c T' locs cells slots → T'.heap = h → own_Run p e below s CC SS Q T' (mkF m (pc + 3) Ls (v :: rest))) : own_Run p e below s CC SS Q T (mkF m pc Ls (.ref a :: rest)) := by
  obtain ⟨T', X', e', sp⟩ := getF X hx hZ hown w via eT F (g := mkF m pc Ls (.ref a :: rest)) rfl rfl hd
  exact own_run sp (k T' X' e')
theorem own_getS {own R0 O nm d : String} {index : Nat} (X : Stand p l e R s m args below meth c T locs cells slots) (hx : p.tables.exec = Jvm.exec) (hZ : Z.Warmed39 s.vm) (hown : s.vm.findClass own = some m.cls) (w : (Cond.fieldLink own index R0 nm d).before a0 Z = true) (via : Via Z R0 O nm d) (eT : T.heap = h) (F : Sta Z h O nm d v) (hd : decode c.code pc = .ok (.getstatic index, 3))
    (k : ∀ T', Stand p l e R s m args below meth c T' locs cells slots → T'.heap = h → own_Run p e below s CC SS Q T' (mkF m (pc + 3) Ls (v :: rest))) : own_Run p e below s CC SS Q T (mkF m pc Ls rest) := by
  obtain ⟨T', X', e', sp⟩ := getS (host := "") X hx hZ hown w via eT F (g := mkF m pc Ls rest) rfl hd
  exact own_run sp (k T' X' e')
theorem own_StaKeep {O nm d K : String} (F : Sta Z h O nm d v) (Kp : Keep h h' [a]) (E : Exa Z h a K) : Sta Z h' O nm d v := by
  obtain ⟨cf, i, k, f, st, cell, h1, h2, h3, h4, h5, h6, h7⟩ := F
  obtain ⟨cell', k', q1, -, -, q4, -⟩ := E
  have ne : st ≠ a := fun e => by subst e; cases h5.symm.trans q1; rw [h6] at q4; cases q4
  exact ⟨cf, i, k, f, st, cell, h1, h2, h3, h4, Kp.2.1 _ _ h5 (ninS ne nin0), h6, h7⟩
theorem own_StaKeepA {O nm d : String} (F : Sta Z h O nm d v) (Kp : Keep h h' [a]) (A : own_A Z h a ty n xs) : Sta Z h' O nm d v := by
  obtain ⟨cf, i, k, f, st, cell, h1, h2, h3, h4, h5, h6, h7⟩ := F
  obtain ⟨-, kk, cl, Ar, -⟩ := A
  have q4 := Ar.plain
  have ne : st ≠ a := fun e => by subst e; cases h5.symm.trans Ar.1; rw [h6] at q4; cases q4
  exact ⟨cf, i, k, f, st, cell, h1, h2, h3, h4, Kp.2.1 _ _ h5 (ninS ne nin0), h6, h7⟩
theorem own_putF {own R0 O nm d host K : String} {index kk : Nat} {old : Value} (X : Stand p l e R s m args below meth c T locs cells slots) (hx : p.tables.exec = Jvm.exec) (hZ : Z.Warmed39 s.vm) (hown : s.vm.findClass own = some m.cls) (w : (Cond.fieldLink own index R0 nm d).before a0 Z = true ∨ (Cond.fieldLinkNest own index R0 nm d host).before a0 Z = true) (via : Via Z R0 O nm d) (eT : T.heap = h) (F : Fld Z h a O nm d old) (E : Exa Z h a K) (L : (Cond.lays K O nm d).before a0 Z = true ∨ ((Cond.laysFinal K O nm d).before a0 Z = true ∧ own = O ∧ meth.name = "<init>")) (wi : (Cond.instantiable K kk).before a0 Z = true) (hty : parseFieldDescriptor d = some ty) (hn : narrow ty v = v) (hf : fits ty v = true) (N : Fr n0 locs) (ga : n0 ≤ a) (hd : decode c.code pc = .ok (.putfield index, 3))
    (k : ∀ T' h' locs', Stand p l e R s m args below meth c T' locs' cells slots → Fr n0 locs' → T'.heap = h' → Wr h h' a (Jvm.RoadKit.slotOf Z O nm d) v → Fld Z h' a O nm d v → own_Run p e below s CC SS Q T' (mkF m (pc + 3) Ls rest)) : own_Run p e below s CC SS Q T (mkF m pc Ls (v :: .ref a :: rest)) := by
  obtain ⟨T', h', X', e', W, sp⟩ := putF X hx hZ hown w via eT F E L wi hty hn hf (g := mkF m pc Ls (v :: .ref a :: rest)) rfl rfl hd
  exact own_run sp (k T' h' _ X' (Fr.snoc X' N ga) e' W (F.same W))
theorem own_initO {own : String} {index W : Nat} (X : Stand p l e R s m args below meth c T locs cells slots) (hx : p.tables.exec = Jvm.exec) (hZ : Z.Warmed39 s.vm) (hown : s.vm.findClass own = some m.cls) (w1 : (Cond.methodLink own index Lib.objectInit).before a0 Z = true) (w2 : (Cond.instanceMethod Lib.objectInit).before a0 Z = true) (w3 : (Cond.code Lib.objectInit ⟨#[0xb1]⟩ 1 none).before a0 Z = true) (eT : T.heap = h) (hsize : Ls.size = c.maxLocals) (hd : decode c.code pc = .ok (.invokespecial index, 3)) (hf : 1 ≤ R.frames) (hW : (rest.map fun v => v.category).sum ≤ W) (hl : W + 12 ≤ R.locals)
    (k : ∀ T', Stand p l e R s m args below meth c T' locs cells slots → T'.heap = h → own_Run p e below s CC SS Q T' (mkF m (pc + 3) Ls rest)) : own_Run p e below s CC SS Q T (mkF m pc Ls (.ref a :: rest)) := by
  obtain ⟨T', X', e', sp⟩ := initO X hx hZ hown w1 w2 w3 eT (g := mkF m pc Ls (.ref a :: rest)) rfl hsize rfl hd hf (W := W) (by show 2 * 0 + _ ≤ _; omega) hl
  exact own_run sp (k T' X' e')
variable {own : String} {index maxL W : Nat} {y z : MethodName} {bytes : ByteArray} {ret : Option FieldType} {rm : Room} {argsL : List Value} {Q' : Option Value → Heap → List Loc → Prop}
/-- a static method by its contract -/
theorem own_callS (X : Stand p l e R s m args below meth c T locs cells slots) (hx : p.tables.exec = Jvm.exec) (hZ : Z.Warmed39 s.vm) (hown : s.vm.findClass own = some m.cls) (w1 : (Cond.methodLink own index y).before a0 Z = true) (w2 : (Cond.static y).before a0 Z = true) (w3 : (Cond.initialized y.cls).before a0 Z = true) (w4 : (Cond.code y bytes maxL ret).before a0 Z = true) (hy : y.cls ≠ "java/lang/invoke/MethodHandle" ∧ y.cls ≠ "java/lang/invoke/VarHandle")
    (hM : MetFree l y (head1 [Cond.code y bytes maxL ret] rm) (fun a U => a = argsL.toArray ∧ Z.Warmed39 U.vm ∧ U.heap = h) (fun _ _ _ _ _ => True) (fun _ U o U' => ∃ v L, o = .returned v ∧ Q' v U'.heap L ∧ FrameEnd U o U' L rm.cells rm.slots)) (eT : T.heap = h) (hf : rm.frames + 1 ≤ R.frames) (hl : W + (maxL + 11) + rm.locals ≤ R.locals) (hcl : cells + rm.cells ≤ R.cells) (hsl : slots + rm.slots ≤ R.slots) (hsize : Ls.size = c.maxLocals)
    (hlen : ∀ sig, parseMethodDescriptor y.desc = some sig → argsL.length = sig.parameters.length) (hs : st = argsL.reverse ++ rest) (hW : (rest.map fun v => v.category).sum ≤ W) (hd : decode c.code pc = .ok (.invokestatic index, 3))
    (k : ∀ T' v L, Stand p l e R s m args below meth c T' (locs ++ L) (cells + rm.cells) (slots + rm.slots) → Q' v T'.heap L → own_Run p e below s CC SS Q T' (mkF m (pc + 3) Ls (v.toList ++ rest))) : own_Run p e below s CC SS Q T (mkF m pc Ls st) := by
  obtain ⟨v, _, ⟨T1, L1, k1, n1⟩, -, X1, ⟨Lc, hQ, l1, y1, z1⟩, sp⟩ := Jvm.LawKit.callS X hx hown (mvT hZ w1) (mvT hZ w2) (mvT hZ w3) (mvT hZ w4) hy (backOf (W := W) hM hZ w4 w3 hf hl) (g := mkF m pc Ls st) rfl hsize (argsL := argsL) (rest := rest) hlen hs (by show 2 * 0 + _ ≤ _; omega) hd (fun _ _ => ⟨rfl, eT, hcl, hsl⟩)
  dsimp only [Pt.U, Pt.locs, Pt.cells, Pt.slots] at X1 l1 y1 z1 sp hQ
  subst l1 y1 z1
  exact own_run sp (k T1 v Lc X1 hQ)
/-- a constructor by its contract -/
theorem own_callI (X : Stand p l e R s m args below meth c T locs cells slots) (hx : p.tables.exec = Jvm.exec) (hZ : Z.Warmed39 s.vm) (hown : s.vm.findClass own = some m.cls) (hy1 : y.name = "<init>") (w1 : (Cond.methodLink own index y).before a0 Z = true) (w2 : (Cond.instanceMethod y).before a0 Z = true) (w3 : (Cond.initialized y.cls).before a0 Z = true) (w4 : (Cond.code y bytes maxL none).before a0 Z = true) (hy : y.cls ≠ "java/lang/invoke/MethodHandle" ∧ y.cls ≠ "java/lang/invoke/VarHandle")
    (hM : MetFree l y (head1 [Cond.code y bytes maxL none] rm) (fun a U => a = (.ref b :: argsL).toArray ∧ Z.Warmed39 U.vm ∧ U.heap = h) (fun _ _ _ _ _ => True) (fun _ U o U' => ∃ v L, o = .returned v ∧ Q' v U'.heap L ∧ FrameEnd U o U' L rm.cells rm.slots)) (eT : T.heap = h) (hf : rm.frames + 1 ≤ R.frames) (hl : W + (maxL + 11) + rm.locals ≤ R.locals) (hcl : cells + rm.cells ≤ R.cells) (hsl : slots + rm.slots ≤ R.slots) (hsize : Ls.size = c.maxLocals)
    (hlen : ∀ sig, parseMethodDescriptor y.desc = some sig → argsL.length = sig.parameters.length) (hs : st = argsL.reverse ++ .ref b :: rest) (hW : (rest.map fun v => v.category).sum ≤ W) (hd : decode c.code pc = .ok (.invokespecial index, 3))
    (k : ∀ T' v L, Stand p l e R s m args below meth c T' (locs ++ L) (cells + rm.cells) (slots + rm.slots) → Q' v T'.heap L → own_Run p e below s CC SS Q T' (mkF m (pc + 3) Ls (v.toList ++ rest))) : own_Run p e below s CC SS Q T (mkF m pc Ls st) := by
  obtain ⟨v, _, ⟨T1, L1, k1, n1⟩, -, X1, ⟨Lc, hQ, l1, y1, z1⟩, sp⟩ := X.specialBack hx (y := y) hy1 hown (mvT hZ w1) (mvT hZ w2) (mvT hZ w4) hy (backOf (W := W) hM hZ w4 w3 hf hl) (g := mkF m pc Ls st) rfl hsize (Steps.refl _) (a := b) (argsL := argsL) (rest := rest) hlen hs (by show 2 * 0 + _ ≤ _; omega) hd (fun _ _ => ⟨rfl, eT, hcl, hsl⟩)
  dsimp only [Pt.U, Pt.locs, Pt.cells, Pt.slots] at X1 l1 y1 z1 sp hQ
  subst l1 y1 z1
  exact own_run (fun t kt => sp.trans kt) (k T1 v Lc X1 hQ)
/-- an instance method by its contract -/
theorem own_callV {K : String} (X : Stand p l e R s m args below meth c T locs cells slots) (hx : p.tables.exec = Jvm.exec) (hZ : Z.Warmed39 s.vm) (hown : s.vm.findClass own = some m.cls) (w1 : (Cond.methodLink own index y).before a0 Z = true) (w2 : (Cond.declares y).before a0 Z = true) (w5 : (Cond.selects K y y).before a0 Z = true) (w6 : (Cond.instanceMethod y).before a0 Z = true) (w3 : (Cond.initialized y.cls).before a0 Z = true) (w4 : (Cond.code y bytes maxL ret).before a0 Z = true) (hy : y.cls ≠ "java/lang/invoke/MethodHandle" ∧ y.cls ≠ "java/lang/invoke/VarHandle") (E : Exa Z h b K)
    (hM : MetFree l y (head1 [Cond.code y bytes maxL ret] rm) (fun a U => a = (.ref b :: argsL).toArray ∧ Z.Warmed39 U.vm ∧ U.heap = h) (fun _ _ _ _ _ => True) (fun _ U o U' => ∃ v L, o = .returned v ∧ Q' v U'.heap L ∧ FrameEnd U o U' L rm.cells rm.slots)) (eT : T.heap = h) (hf : rm.frames + 1 ≤ R.frames) (hl : W + (maxL + 11) + rm.locals ≤ R.locals) (hcl : cells + rm.cells ≤ R.cells) (hsl : slots + rm.slots ≤ R.slots) (hsize : Ls.size = c.maxLocals)
    (hlen : ∀ sig, parseMethodDescriptor y.desc = some sig → argsL.length = sig.parameters.length) (hs : st = argsL.reverse ++ .ref b :: rest) (hW : (rest.map fun v => v.category).sum ≤ W) (hd : decode c.code pc = .ok (.invokevirtual index, 3))
    (k : ∀ T' v L, Stand p l e R s m args below meth c T' (locs ++ L) (cells + rm.cells) (slots + rm.slots) → Q' v T'.heap L → own_Run p e below s CC SS Q T' (mkF m (pc + 3) Ls (v.toList ++ rest))) : own_Run p e below s CC SS Q T (mkF m pc Ls st) := by
  obtain ⟨cq, kq, qa, qb, qc⟩ := isOf hZ eT E
  obtain ⟨v, _, ⟨T1, L1, k1, n1⟩, -, X1, ⟨Lc, hQ, l1, y1, z1⟩, sp⟩ := X.virtualBack hx (y := y) (z := y) hown (mvT hZ w1) (mvT hZ w2) (notFace_of_selects (args := #[]) (mvT hZ w5)) (mvT hZ w5) (mvT hZ w6) hy (backOf (W := W) hM hZ w4 w3 hf hl) qa qc (g := mkF m pc Ls st) rfl hsize (Steps.refl _) (argsL := argsL) (rest := rest) hlen hs (by show 2 * 0 + _ ≤ _; omega) hd (fun _ _ => ⟨rfl, eT, hcl, hsl⟩)
  dsimp only [Pt.U, Pt.locs, Pt.cells, Pt.slots] at X1 l1 y1 z1 sp hQ
  subst l1 y1 z1
  exact own_run (fun t kt => sp.trans kt) (k T1 v Lc X1 hQ)
/-- a private instance method by its contract -/
theorem own_callP {kk : Nat} {K : String} (X : Stand p l e R s m args below meth c T locs cells slots) (hx : p.tables.exec = Jvm.exec) (hZ : Z.Warmed39 s.vm) (hown : s.vm.findClass own = some m.cls) (w1 : (Cond.methodLink own index y).before a0 Z = true) (w2 : (Cond.instanceMethod y).before a0 Z = true) (wi : (Cond.instantiable y.cls kk).before a0 Z = true) (wp : (Cond.privateMethod y).before a0 Z = true) (w3 : (Cond.initialized y.cls).before a0 Z = true) (w4 : (Cond.code y bytes maxL ret).before a0 Z = true) (hy : y.cls ≠ "java/lang/invoke/MethodHandle" ∧ y.cls ≠ "java/lang/invoke/VarHandle") (E : Exa Z h b K)
    (hM : MetFree l y (head1 [Cond.code y bytes maxL ret] rm) (fun a U => a = (.ref b :: argsL).toArray ∧ Z.Warmed39 U.vm ∧ U.heap = h) (fun _ _ _ _ _ => True) (fun _ U o U' => ∃ v L, o = .returned v ∧ Q' v U'.heap L ∧ FrameEnd U o U' L rm.cells rm.slots)) (eT : T.heap = h) (hf : rm.frames + 1 ≤ R.frames) (hl : W + (maxL + 11) + rm.locals ≤ R.locals) (hcl : cells + rm.cells ≤ R.cells) (hsl : slots + rm.slots ≤ R.slots) (hsize : Ls.size = c.maxLocals)
    (hlen : ∀ sig, parseMethodDescriptor y.desc = some sig → argsL.length = sig.parameters.length) (hs : st = argsL.reverse ++ .ref b :: rest) (hW : (rest.map fun v => v.category).sum ≤ W) (hd : decode c.code pc = .ok (.invokevirtual index, 3))
    (k : ∀ T' v L, Stand p l e R s m args below meth c T' (locs ++ L) (cells + rm.cells) (slots + rm.slots) → Q' v T'.heap L → own_Run p e below s CC SS Q T' (mkF m (pc + 3) Ls (v.toList ++ rest))) : own_Run p e below s CC SS Q T (mkF m pc Ls st) := by
  obtain ⟨cq, q1, q2⟩ := E.cell
  obtain ⟨cI, kI, hc, hk, -, hniab, -, -⟩ := Cond.instantiable_spec (mvT (args := args) hZ wi)
  have hni : kI.isInterface = false := (Bool.or_eq_false_iff.mp hniab).1
  have hpriv : s.PrivateAt y := Cond.privateMethod_at (mvP hZ wp (args := #[]))
  have hsel : (Cond.selects y.cls y y).before args s = true := selects_self_of_private hc hk hni hpriv (mvT hZ w2) hy
  obtain ⟨v, _, ⟨T1, L1, k1, n1⟩, -, X1, ⟨Lc, hQ, l1, y1, z1⟩, sp⟩ := X.privateBack hx (y := y) hown (mvT hZ w1) (mvT hZ w2) hsel hpriv (mvT hZ w4) hy (backOf (W := W) hM hZ w4 w3 hf hl) (g := mkF m pc Ls st) rfl hsize (Steps.refl _) (a := b) (by rw [eT]; exact q1) q2 (argsL := argsL) (rest := rest) hlen hs (by show 2 * 0 + _ ≤ _; omega) hd (fun _ _ => ⟨rfl, eT, hcl, hsl⟩)
  dsimp only [Pt.U, Pt.locs, Pt.cells, Pt.slots] at X1 l1 y1 z1 sp hQ
  subst l1 y1 z1
  exact own_run (fun t kt => sp.trans kt) (k T1 v Lc X1 hQ)
end Own
theorem own_pn3 : plainName "java/util/AbstractCollection" = true := by first | (simp [plainName, overriddenIn]; done) | decide +kernel
theorem own_ef3 (m : MethodId) (o0 : Addr) : entryFrame m #[(.ref o0)] 1 = mkF m 0 #[.val (.ref o0)] [] := by first | (simp [entryFrame, mkF, argsToLocals, Value.category]; done) | rfl
def own_R3 : Room := ({ frames := 1, cells := 0, slots := 0, locals := 12 } : Room)
def Q3 (h0 : Heap) (n0 : Nat) (v : Option Value) (h : Heap) (L : List Loc) : Prop := v = none ∧ Fr n0 L ∧ h = h0
theorem d3_0 : decode jdk_22_method_1_code 0 = .ok (.aload_n 0, 1) := by decide +kernel
theorem d3_1 : decode jdk_22_method_1_code 1 = .ok (.invokespecial 1, 3) := by decide +kernel
theorem d3_4 : decode jdk_22_method_1_code 4 = .ok (.return_, 1) := by decide +kernel
set_option maxRecDepth 65536 in
set_option maxHeartbeats 40000000 in
theorem rm3 (l : Launch) (Z : State) (a0 : Array Value) (hw : ∀ d ∈ tables_1, d.before a0 Z = true) (ws : List Jvm.Cond) (o0 : Addr) (h0 : Heap) (n0 : Nat) :
    MetFree l (⟨"java/util/AbstractCollection", "<init>", "()V"⟩ : MethodName) (head1 (Jvm.Cond.code (⟨"java/util/AbstractCollection", "<init>", "()V"⟩ : MethodName) jdk_22_method_1_code 1 none :: ws) own_R3) (fun a U => a = #[(.ref o0)] ∧ Z.Warmed39 U.vm ∧ U.heap = h0) (fun _ _ _ _ _ => True) (fun _ U o U' => ∃ v L, o = .returned v ∧ Q3 h0 n0 v U'.heap L ∧ FrameEnd U o U' L own_R3.cells own_R3.slots) := by
  refine MetFree.of_bodySF (plainFor_of_name own_pn3) hisR ?_
  intro p e s m args below meth c s₁ Bd hml0 hP hK
  obtain ⟨ha, hZ, hh⟩ := hP
  have hx := Bd.exec
  have hby := Bd.bytes
  have hml : c.maxLocals = 1 := hml0
  have hown : s.vm.findClass "java/util/AbstractCollection" = some m.cls := findClass_of_methodNamed Bd.named
  have hnm := (name_of_methodNamed Bd.named Bd.method).1
  have X0 : Stand p l e own_R3 s m args below meth c s₁ [] 0 0 := Stand.of_body Bd
  have e0 : s₁.heap = h0 := by rw [← hh, Bd.state]; rfl
  have N0 := Fr.nil n0
  refine own_enter (Q := (Q3 h0 n0)) (g := mkF m 0 #[.val (.ref o0)] []) (by rw [ha]; exact own_ef3 m o0) ?_
  refine own_run (g' := (mkF m 1 #[.val (.ref o0)] [(.ref o0)])) (fun _ kt => XS.aloadN X0.here hx rfl (hb hby d3_0) rfl rfl (kt)) ?_
  refine own_initO X0 hx hZ hown (hw _ (List.mem_of_getElem? (i := 19) rfl)) (hw _ (List.mem_of_getElem? (i := 20) rfl)) (hw _ (List.mem_of_getElem? (i := 21) rfl)) e0 (by rw [hml]; rfl) (hb hby d3_1) (by decide) (W := 0) (Nat.le_of_eq rfl) (by decide) ?_
  intro T1 X1 e1
  exact own_retV X1 hx Bd.notSynchronized Bd.returns (hb hby d3_4) (by decide) (by decide) ⟨rfl, N0, e1⟩
theorem own_pn2 : plainName "java/util/AbstractList" = true := by first | (simp [plainName, overriddenIn]; done) | decide +kernel
theorem own_ef2 (m : MethodId) (o0 : Addr) : entryFrame m #[(.ref o0)] 1 = mkF m 0 #[.val (.ref o0)] [] := by first | (simp [entryFrame, mkF, argsToLocals, Value.category]; done) | rfl
def own_R2 : Room := ({ frames := 2, cells := 0, slots := 0, locals := 24 } : Room)
def Q2 (Z : State) (o0 : Addr) (h0 : Heap) (n0 : Nat) (v : Option Value) (h : Heap) (L : List Loc) : Prop := v = none ∧ Fr n0 L ∧ Keep h0 h [o0] ∧ Fld Z h o0 "java/util/AbstractList" "modCount" "I" (.int (0 : Int32)) ∧ Fld Z h o0 "java/util/ArrayList" "elementData" "[Ljava/lang/Object;" .null
theorem own_pd0 : parseMethodDescriptor "()V" = some ⟨[], none⟩ := by decide +kernel
theorem d2_0 : decode jdk_39_method_1_code 0 = .ok (.aload_n 0, 1) := by decide +kernel
theorem d2_1 : decode jdk_39_method_1_code 1 = .ok (.invokespecial 1, 3) := by decide +kernel
theorem d2_4 : decode jdk_39_method_1_code 4 = .ok (.aload_n 0, 1) := by decide +kernel
theorem d2_5 : decode jdk_39_method_1_code 5 = .ok (.iconst 0, 1) := by decide +kernel
theorem d2_6 : decode jdk_39_method_1_code 6 = .ok (.putfield 7, 3) := by decide +kernel
theorem d2_9 : decode jdk_39_method_1_code 9 = .ok (.return_, 1) := by decide +kernel
set_option maxRecDepth 65536 in
set_option maxHeartbeats 40000000 in
theorem rm2 (l : Launch) (Z : State) (a0 : Array Value) (hw : ∀ d ∈ tables_1, d.before a0 Z = true) (ws : List Jvm.Cond) (o0 : Addr) (h0 : Heap) (n0 : Nat) (Z0 : n0 ≤ h0.size) (K0 : Exa Z h0 o0 "java/util/ArrayList") (F0_0 : Fld Z h0 o0 "java/util/AbstractList" "modCount" "I" (.int (0 : Int32))) (F0_1 : Fld Z h0 o0 "java/util/ArrayList" "elementData" "[Ljava/lang/Object;" .null) (g_o0 : n0 ≤ o0) :
    MetFree l (⟨"java/util/AbstractList", "<init>", "()V"⟩ : MethodName) (head1 (Jvm.Cond.code (⟨"java/util/AbstractList", "<init>", "()V"⟩ : MethodName) jdk_39_method_1_code 1 none :: ws) own_R2) (fun a U => a = #[(.ref o0)] ∧ Z.Warmed39 U.vm ∧ U.heap = h0) (fun _ _ _ _ _ => True) (fun _ U o U' => ∃ v L, o = .returned v ∧ Q2 Z o0 h0 n0 v U'.heap L ∧ FrameEnd U o U' L own_R2.cells own_R2.slots) := by
  refine MetFree.of_bodySF (plainFor_of_name own_pn2) hisR ?_
  intro p e s m args below meth c s₁ Bd hml0 hP hK
  obtain ⟨ha, hZ, hh⟩ := hP
  have hx := Bd.exec
  have hby := Bd.bytes
  have hml : c.maxLocals = 1 := hml0
  have hown : s.vm.findClass "java/util/AbstractList" = some m.cls := findClass_of_methodNamed Bd.named
  have hnm := (name_of_methodNamed Bd.named Bd.method).1
  have X0 : Stand p l e own_R2 s m args below meth c s₁ [] 0 0 := Stand.of_body Bd
  have e0 : s₁.heap = h0 := by rw [← hh, Bd.state]; rfl
  have N0 := Fr.nil n0
  refine own_enter (Q := (Q2 Z o0 h0 n0)) (g := mkF m 0 #[.val (.ref o0)] []) (by rw [ha]; exact own_ef2 m o0) ?_
  refine own_run (g' := (mkF m 1 #[.val (.ref o0)] [(.ref o0)])) (fun _ kt => XS.aloadN X0.here hx rfl (hb hby d2_0) rfl rfl (kt)) ?_
  refine own_callI (b := o0) X0 hx hZ hown rfl (hw _ (List.mem_of_getElem? (i := 13) rfl)) (hw _ (List.mem_of_getElem? (i := 14) rfl)) (hw _ (List.mem_of_getElem? (i := 17) rfl)) (hw _ (List.mem_of_getElem? (i := 18) rfl)) (by decide) (rm3 l Z a0 hw [] o0 h0 n0) e0 (by decide) (by decide) (by decide) (by decide) (by rw [hml]; rfl) (argsL := []) (rest := []) (lenOf own_pd0 rfl) rfl (W := 0) (Nat.le_of_eq rfl) (hb hby d2_1) ?_
  intro T1 r1 L1 X1 hQ1
  obtain ⟨rfl, Nq1, e1⟩ := hQ1
  have N1 := Fr.app N0 Nq1
  refine own_run (g' := (mkF m 6 #[.val (.ref o0)] [(.int (0 : Int32)), (.ref o0)])) (fun _ kt => XS.aloadN X1.here hx rfl (hb hby d2_4) rfl rfl (XS.iconst X1.here hx rfl (hb hby d2_5) (kt))) ?_
  refine own_putF X1 hx hZ hown (host := "") (Or.inl (hw _ (List.mem_of_getElem? (i := 22) rfl))) Via.refl e1 F0_0 K0 (Or.inl (hw _ (List.mem_of_getElem? (i := 23) rfl))) (hw _ (List.mem_of_getElem? (i := 2) rfl)) (ty := .int) (by decide) rfl rfl N1 g_o0 (hb hby d2_6) ?_
  intro T2 h2 L2 X2 N2 e2 W2 F2
  replace K0 := K0.wr W2
  replace F0_1 := F0_1.other W2 (Or.inr (slot_ne (Or.inl (hw _ (List.mem_of_getElem? (i := 26) rfl))) (Or.inl (hw _ (List.mem_of_getElem? (i := 23) rfl))) (by decide) (t := (.array (.object "java/lang/Object"))) (t' := .int) (by decide) (by decide)))
  have KpW2 : Keep h0 h2 [o0] := Keep.wr (Keep.refl h0 [o0]) W2 (Or.inl (List.mem_of_getElem? (i := 0) rfl))
  have ZW2 : n0 ≤ h2.size := Nat.le_trans Z0 (Keep.of_wr W2).1
  exact own_retV X2 hx Bd.notSynchronized Bd.returns (hb hby d2_9) (by decide) (by decide) (by rw [e2]; exact ⟨rfl, N2, KpW2, F2, F0_1⟩)
theorem own_pn1 : plainName "java/util/ArrayList" = true := by first | (simp [plainName, overriddenIn]; done) | decide +kernel
theorem own_ef1 (m : MethodId) (o0 : Addr) : entryFrame m #[(.ref o0)] 1 = mkF m 0 #[.val (.ref o0)] [] := by first | (simp [entryFrame, mkF, argsToLocals, Value.category]; done) | rfl
def own_R1 : Room := ({ frames := 3, cells := 0, slots := 0, locals := 36 } : Room)
def Q1 (Z : State) (o0 : Addr) (u : Addr) (h0 : Heap) (n0 : Nat) (v : Option Value) (h : Heap) (L : List Loc) : Prop := v = none ∧ Fr n0 L ∧ Keep h0 h [o0] ∧ Fld Z h o0 "java/util/AbstractList" "modCount" "I" (.int (0 : Int32)) ∧ Fld Z h o0 "java/util/ArrayList" "elementData" "[Ljava/lang/Object;" (.ref u)
theorem d1_0 : decode jdk_38_method_2_code 0 = .ok (.aload_n 0, 1) := by decide +kernel
theorem d1_1 : decode jdk_38_method_2_code 1 = .ok (.invokespecial 1, 3) := by decide +kernel
theorem d1_4 : decode jdk_38_method_2_code 4 = .ok (.aload_n 0, 1) := by decide +kernel
theorem d1_5 : decode jdk_38_method_2_code 5 = .ok (.getstatic 39, 3) := by decide +kernel
theorem d1_8 : decode jdk_38_method_2_code 8 = .ok (.putfield 9, 3) := by decide +kernel
theorem d1_11 : decode jdk_38_method_2_code 11 = .ok (.return_, 1) := by decide +kernel
set_option maxRecDepth 65536 in
set_option maxHeartbeats 40000000 in
theorem rm1 (l : Launch) (Z : State) (a0 : Array Value) (hw : ∀ d ∈ tables_1, d.before a0 Z = true) (ws : List Jvm.Cond) (o0 : Addr) (u : Addr) (h0 : Heap) (n0 : Nat) (Z0 : n0 ≤ h0.size) (K0 : Exa Z h0 o0 "java/util/ArrayList") (F0_0 : Fld Z h0 o0 "java/util/AbstractList" "modCount" "I" (.int (0 : Int32))) (F0_1 : Fld Z h0 o0 "java/util/ArrayList" "elementData" "[Ljava/lang/Object;" .null) (g_o0 : n0 ≤ o0) (S0 : Sta Z h0 "java/util/ArrayList" "DEFAULTCAPACITY_EMPTY_ELEMENTDATA" "[Ljava/lang/Object;" (.ref u)) :
    MetFree l (⟨"java/util/ArrayList", "<init>", "()V"⟩ : MethodName) (head1 (Jvm.Cond.code (⟨"java/util/ArrayList", "<init>", "()V"⟩ : MethodName) jdk_38_method_2_code 1 none :: ws) own_R1) (fun a U => a = #[(.ref o0)] ∧ Z.Warmed39 U.vm ∧ U.heap = h0) (fun _ _ _ _ _ => True) (fun _ U o U' => ∃ v L, o = .returned v ∧ Q1 Z o0 u h0 n0 v U'.heap L ∧ FrameEnd U o U' L own_R1.cells own_R1.slots) := by
  refine MetFree.of_bodySF (plainFor_of_name own_pn1) hisR ?_
  intro p e s m args below meth c s₁ Bd hml0 hP hK
  obtain ⟨ha, hZ, hh⟩ := hP
  have hx := Bd.exec
  have hby := Bd.bytes
  have hml : c.maxLocals = 1 := hml0
  have hown : s.vm.findClass "java/util/ArrayList" = some m.cls := findClass_of_methodNamed Bd.named
  have hnm := (name_of_methodNamed Bd.named Bd.method).1
  have X0 : Stand p l e own_R1 s m args below meth c s₁ [] 0 0 := Stand.of_body Bd
  have e0 : s₁.heap = h0 := by rw [← hh, Bd.state]; rfl
  have N0 := Fr.nil n0
  refine own_enter (Q := (Q1 Z o0 u h0 n0)) (g := mkF m 0 #[.val (.ref o0)] []) (by rw [ha]; exact own_ef1 m o0) ?_
  refine own_run (g' := (mkF m 1 #[.val (.ref o0)] [(.ref o0)])) (fun _ kt => XS.aloadN X0.here hx rfl (hb hby d1_0) rfl rfl (kt)) ?_
  refine own_callI (b := o0) X0 hx hZ hown rfl (hw _ (List.mem_of_getElem? (i := 7) rfl)) (hw _ (List.mem_of_getElem? (i := 8) rfl)) (hw _ (List.mem_of_getElem? (i := 11) rfl)) (hw _ (List.mem_of_getElem? (i := 12) rfl)) (by decide) (rm2 l Z a0 hw [] o0 h0 n0 Z0 K0 F0_0 F0_1 g_o0) e0 (by decide) (by decide) (by decide) (by decide) (by rw [hml]; rfl) (argsL := []) (rest := []) (lenOf own_pd0 rfl) rfl (W := 0) (Nat.le_of_eq rfl) (hb hby d1_1) ?_
  intro T1 r1 L1 X1 hQ1
  obtain ⟨rfl, Nq1, Kc1, F1_0, F1_1⟩ := hQ1
  have N1 := Fr.app N0 Nq1
  replace S0 := own_StaKeep S0 Kc1 K0
  replace K0 := K0.keep Kc1
  have Z1 : n0 ≤ T1.heap.size := Nat.le_trans Z0 Kc1.1
  have Kp1 : Keep h0 T1.heap [o0] := Keep.trans (Keep.refl h0 [o0]) Kc1 (allS (Or.inl (List.mem_of_getElem? (i := 0) rfl)) all0)
  refine own_run (g' := (mkF m 5 #[.val (.ref o0)] [(.ref o0)])) (fun _ kt => XS.aloadN X1.here hx rfl (hb hby d1_4) rfl rfl (kt)) ?_
  refine own_getS X1 hx hZ hown (hw _ (List.mem_of_getElem? (i := 24) rfl)) Via.refl rfl S0 (hb hby d1_5) ?_
  intro T2 X2 e2
  refine own_putF X2 hx hZ hown (host := "") (Or.inl (hw _ (List.mem_of_getElem? (i := 25) rfl))) Via.refl e2 F1_1 K0 (Or.inl (hw _ (List.mem_of_getElem? (i := 26) rfl))) (hw _ (List.mem_of_getElem? (i := 2) rfl)) (ty := (.array (.object "java/lang/Object"))) (by decide) rfl rfl N1 g_o0 (hb hby d1_8) ?_
  intro T3 h3 L3 X3 N3 e3 W3 F3
  replace K0 := K0.wr W3
  replace S0 := S0.wr W3
  replace F1_0 := F1_0.other W3 (Or.inr (slot_ne (Or.inl (hw _ (List.mem_of_getElem? (i := 23) rfl))) (Or.inl (hw _ (List.mem_of_getElem? (i := 26) rfl))) (by decide) (t := .int) (t' := (.array (.object "java/lang/Object"))) (by decide) (by decide)))
  have KpW3 : Keep h0 h3 [o0] := Keep.wr Kp1 W3 (Or.inl (List.mem_of_getElem? (i := 0) rfl))
  have ZW3 : n0 ≤ h3.size := Nat.le_trans Z1 (Keep.of_wr W3).1
  exact own_retV X3 hx Bd.notSynchronized Bd.returns (hb hby d1_11) (by decide) (by decide) (by rw [e3]; exact ⟨rfl, N3, KpW3, F1_0, F3⟩)
theorem own_pn5 : plainName "com/example/lugha/lugha/concepts/PageGroups" = true := by first | (simp [plainName, overriddenIn]; done) | decide +kernel
theorem own_ef5 (m : MethodId) (o0 : Addr) (o1 : Addr) (o2 : Addr) (o4 : Addr) (o5 : Addr) (o6 : Addr) (p7 : Int32) : entryFrame m #[(.ref o0), (.ref o1), (.ref o2), .null, (.ref o4), (.ref o5), (.ref o6), (.int p7)] 8 = mkF m 0 #[.val (.ref o0), .val (.ref o1), .val (.ref o2), .val .null, .val (.ref o4), .val (.ref o5), .val (.ref o6), .val (.int p7)] [] := by first | (simp [entryFrame, mkF, argsToLocals, Value.category]; done) | rfl
def own_R5 : Room := ({ frames := 1, cells := 0, slots := 0, locals := 13 } : Room)
def Q5 (Z : State) (o0 : Addr) (o1 : Addr) (o2 : Addr) (o4 : Addr) (o5 : Addr) (o6 : Addr) (p7 : Int32) (h0 : Heap) (n0 : Nat) (v : Option Value) (h : Heap) (L : List Loc) : Prop := v = none ∧ Fr n0 L ∧ Keep h0 h [o0] ∧ Fld Z h o0 "com/example/lugha/lugha/concepts/PageGroups" "tables" "Ljava/util/List;" (.ref o1) ∧ Fld Z h o0 "com/example/lugha/lugha/concepts/PageGroups" "offsets" "[I" (.ref o2) ∧ Fld Z h o0 "com/example/lugha/lugha/concepts/PageGroups" "ids" "Ljava/util/List;" .null ∧ Fld Z h o0 "com/example/lugha/lugha/concepts/PageGroups" "ranges" "[I" (.ref o4) ∧ Fld Z h o0 "com/example/lugha/lugha/concepts/PageGroups" "members" "[I" (.ref o5) ∧ Fld Z h o0 "com/example/lugha/lugha/concepts/PageGroups" "groupOfPage" "[I" (.ref o6) ∧ Fld Z h o0 "com/example/lugha/lugha/concepts/PageGroups" "fewLanguages" "I" (.int p7)
theorem d5_0 : decode prog_4_method_1_code 0 = .ok (.aload_n 0, 1) := by decide +kernel
theorem d5_1 : decode prog_4_method_1_code 1 = .ok (.invokespecial 1, 3) := by decide +kernel
theorem d5_4 : decode prog_4_method_1_code 4 = .ok (.aload_n 0, 1) := by decide +kernel
theorem d5_5 : decode prog_4_method_1_code 5 = .ok (.aload_n 1, 1) := by decide +kernel
theorem d5_6 : decode prog_4_method_1_code 6 = .ok (.putfield 7, 3) := by decide +kernel
theorem d5_9 : decode prog_4_method_1_code 9 = .ok (.aload_n 0, 1) := by decide +kernel
theorem d5_10 : decode prog_4_method_1_code 10 = .ok (.aload_n 2, 1) := by decide +kernel
theorem d5_11 : decode prog_4_method_1_code 11 = .ok (.putfield 13, 3) := by decide +kernel
theorem d5_14 : decode prog_4_method_1_code 14 = .ok (.aload_n 0, 1) := by decide +kernel
theorem d5_15 : decode prog_4_method_1_code 15 = .ok (.aload_n 3, 1) := by decide +kernel
theorem d5_16 : decode prog_4_method_1_code 16 = .ok (.putfield 17, 3) := by decide +kernel
theorem d5_19 : decode prog_4_method_1_code 19 = .ok (.aload_n 0, 1) := by decide +kernel
theorem d5_20 : decode prog_4_method_1_code 20 = .ok (.aload 4, 2) := by decide +kernel
theorem d5_22 : decode prog_4_method_1_code 22 = .ok (.putfield 20, 3) := by decide +kernel
theorem d5_25 : decode prog_4_method_1_code 25 = .ok (.aload_n 0, 1) := by decide +kernel
theorem d5_26 : decode prog_4_method_1_code 26 = .ok (.aload 5, 2) := by decide +kernel
theorem d5_28 : decode prog_4_method_1_code 28 = .ok (.putfield 23, 3) := by decide +kernel
theorem d5_31 : decode prog_4_method_1_code 31 = .ok (.aload_n 0, 1) := by decide +kernel
theorem d5_32 : decode prog_4_method_1_code 32 = .ok (.aload 6, 2) := by decide +kernel
theorem d5_34 : decode prog_4_method_1_code 34 = .ok (.putfield 26, 3) := by decide +kernel
theorem d5_37 : decode prog_4_method_1_code 37 = .ok (.aload_n 0, 1) := by decide +kernel
theorem d5_38 : decode prog_4_method_1_code 38 = .ok (.iload 7, 2) := by decide +kernel
theorem d5_40 : decode prog_4_method_1_code 40 = .ok (.putfield 29, 3) := by decide +kernel
theorem d5_43 : decode prog_4_method_1_code 43 = .ok (.return_, 1) := by decide +kernel
set_option maxRecDepth 65536 in
set_option maxHeartbeats 40000000 in
theorem rm5 (l : Launch) (Z : State) (a0 : Array Value) (hw : ∀ d ∈ tables_1, d.before a0 Z = true) (ws : List Jvm.Cond) (o0 : Addr) (o1 : Addr) (o2 : Addr) (o4 : Addr) (o5 : Addr) (o6 : Addr) (p7 : Int32) (h0 : Heap) (n0 : Nat) (Z0 : n0 ≤ h0.size) (K0 : Exa Z h0 o0 "com/example/lugha/lugha/concepts/PageGroups") (F0_0 : Fld Z h0 o0 "com/example/lugha/lugha/concepts/PageGroups" "tables" "Ljava/util/List;" .null) (F0_1 : Fld Z h0 o0 "com/example/lugha/lugha/concepts/PageGroups" "offsets" "[I" .null) (F0_2 : Fld Z h0 o0 "com/example/lugha/lugha/concepts/PageGroups" "ids" "Ljava/util/List;" .null) (F0_3 : Fld Z h0 o0 "com/example/lugha/lugha/concepts/PageGroups" "ranges" "[I" .null) (F0_4 : Fld Z h0 o0 "com/example/lugha/lugha/concepts/PageGroups" "members" "[I" .null) (F0_5 : Fld Z h0 o0 "com/example/lugha/lugha/concepts/PageGroups" "groupOfPage" "[I" .null) (F0_6 : Fld Z h0 o0 "com/example/lugha/lugha/concepts/PageGroups" "fewLanguages" "I" (.int (0 : Int32))) (g_o0 : n0 ≤ o0) :
    MetFree l (⟨"com/example/lugha/lugha/concepts/PageGroups", "<init>", "(Ljava/util/List;[ILjava/util/List;[I[I[II)V"⟩ : MethodName) (head1 (Jvm.Cond.code (⟨"com/example/lugha/lugha/concepts/PageGroups", "<init>", "(Ljava/util/List;[ILjava/util/List;[I[I[II)V"⟩ : MethodName) prog_4_method_1_code 8 none :: ws) own_R5) (fun a U => a = #[(.ref o0), (.ref o1), (.ref o2), .null, (.ref o4), (.ref o5), (.ref o6), (.int p7)] ∧ Z.Warmed39 U.vm ∧ U.heap = h0) (fun _ _ _ _ _ => True) (fun _ U o U' => ∃ v L, o = .returned v ∧ Q5 Z o0 o1 o2 o4 o5 o6 p7 h0 n0 v U'.heap L ∧ FrameEnd U o U' L own_R5.cells own_R5.slots) := by
  refine MetFree.of_bodySF (plainFor_of_name own_pn5) hisR ?_
  intro p e s m args below meth c s₁ Bd hml0 hP hK
  obtain ⟨ha, hZ, hh⟩ := hP
  have hx := Bd.exec
  have hby := Bd.bytes
  have hml : c.maxLocals = 8 := hml0
  have hown : s.vm.findClass "com/example/lugha/lugha/concepts/PageGroups" = some m.cls := findClass_of_methodNamed Bd.named
  have hnm := (name_of_methodNamed Bd.named Bd.method).1
  have X0 : Stand p l e own_R5 s m args below meth c s₁ [] 0 0 := Stand.of_body Bd
  have e0 : s₁.heap = h0 := by rw [← hh, Bd.state]; rfl
  have N0 := Fr.nil n0
  refine own_enter (Q := (Q5 Z o0 o1 o2 o4 o5 o6 p7 h0 n0)) (g := mkF m 0 #[.val (.ref o0), .val (.ref o1), .val (.ref o2), .val .null, .val (.ref o4), .val (.ref o5), .val (.ref o6), .val (.int p7)] []) (by rw [ha]; exact own_ef5 m o0 o1 o2 o4 o5 o6 p7) ?_
  refine own_run (g' := (mkF m 1 #[.val (.ref o0), .val (.ref o1), .val (.ref o2), .val .null, .val (.ref o4), .val (.ref o5), .val (.ref o6), .val (.int p7)] [(.ref o0)])) (fun _ kt => XS.aloadN X0.here hx rfl (hb hby d5_0) rfl rfl (kt)) ?_
  refine own_initO X0 hx hZ hown (hw _ (List.mem_of_getElem? (i := 33) rfl)) (hw _ (List.mem_of_getElem? (i := 20) rfl)) (hw _ (List.mem_of_getElem? (i := 21) rfl)) e0 (by rw [hml]; rfl) (hb hby d5_1) (by decide) (W := 0) (Nat.le_of_eq rfl) (by decide) ?_
  intro T1 X1 e1
  refine own_run (g' := (mkF m 6 #[.val (.ref o0), .val (.ref o1), .val (.ref o2), .val .null, .val (.ref o4), .val (.ref o5), .val (.ref o6), .val (.int p7)] [(.ref o1), (.ref o0)])) (fun _ kt => XS.aloadN X1.here hx rfl (hb hby d5_4) rfl rfl (XS.aloadN X1.here hx rfl (hb hby d5_5) rfl rfl (kt))) ?_
  refine own_putF X1 hx hZ hown (host := "") (Or.inl (hw _ (List.mem_of_getElem? (i := 34) rfl))) Via.refl e1 F0_0 K0 (Or.inr ⟨(hw _ (List.mem_of_getElem? (i := 35) rfl)), rfl, hnm⟩) (hw _ (List.mem_of_getElem? (i := 28) rfl)) (ty := (.object "java/util/List")) (by decide) rfl rfl N0 g_o0 (hb hby d5_6) ?_
  intro T2 h2 L2 X2 N2 e2 W2 F2
  replace K0 := K0.wr W2
  replace F0_1 := F0_1.other W2 (Or.inr (slot_ne (Or.inr (hw _ (List.mem_of_getElem? (i := 37) rfl))) (Or.inr (hw _ (List.mem_of_getElem? (i := 35) rfl))) (by decide) (t := (.array .int)) (t' := (.object "java/util/List")) (by decide) (by decide)))
  replace F0_2 := F0_2.other W2 (Or.inr (slot_ne (Or.inr (hw _ (List.mem_of_getElem? (i := 39) rfl))) (Or.inr (hw _ (List.mem_of_getElem? (i := 35) rfl))) (by decide) (t := (.object "java/util/List")) (t' := (.object "java/util/List")) (by decide) (by decide)))
  replace F0_3 := F0_3.other W2 (Or.inr (slot_ne (Or.inr (hw _ (List.mem_of_getElem? (i := 41) rfl))) (Or.inr (hw _ (List.mem_of_getElem? (i := 35) rfl))) (by decide) (t := (.array .int)) (t' := (.object "java/util/List")) (by decide) (by decide)))
  replace F0_4 := F0_4.other W2 (Or.inr (slot_ne (Or.inr (hw _ (List.mem_of_getElem? (i := 43) rfl))) (Or.inr (hw _ (List.mem_of_getElem? (i := 35) rfl))) (by decide) (t := (.array .int)) (t' := (.object "java/util/List")) (by decide) (by decide)))
  replace F0_5 := F0_5.other W2 (Or.inr (slot_ne (Or.inr (hw _ (List.mem_of_getElem? (i := 45) rfl))) (Or.inr (hw _ (List.mem_of_getElem? (i := 35) rfl))) (by decide) (t := (.array .int)) (t' := (.object "java/util/List")) (by decide) (by decide)))
  replace F0_6 := F0_6.other W2 (Or.inr (slot_ne (Or.inr (hw _ (List.mem_of_getElem? (i := 47) rfl))) (Or.inr (hw _ (List.mem_of_getElem? (i := 35) rfl))) (by decide) (t := .int) (t' := (.object "java/util/List")) (by decide) (by decide)))
  have KpW2 : Keep h0 h2 [o0] := Keep.wr (Keep.refl h0 [o0]) W2 (Or.inl (List.mem_of_getElem? (i := 0) rfl))
  have ZW2 : n0 ≤ h2.size := Nat.le_trans Z0 (Keep.of_wr W2).1
  refine own_run (g' := (mkF m 11 #[.val (.ref o0), .val (.ref o1), .val (.ref o2), .val .null, .val (.ref o4), .val (.ref o5), .val (.ref o6), .val (.int p7)] [(.ref o2), (.ref o0)])) (fun _ kt => XS.aloadN X2.here hx rfl (hb hby d5_9) rfl rfl (XS.aloadN X2.here hx rfl (hb hby d5_10) rfl rfl (kt))) ?_
  refine own_putF X2 hx hZ hown (host := "") (Or.inl (hw _ (List.mem_of_getElem? (i := 36) rfl))) Via.refl e2 F0_1 K0 (Or.inr ⟨(hw _ (List.mem_of_getElem? (i := 37) rfl)), rfl, hnm⟩) (hw _ (List.mem_of_getElem? (i := 28) rfl)) (ty := (.array .int)) (by decide) rfl rfl N2 g_o0 (hb hby d5_11) ?_
  intro T3 h3 L3 X3 N3 e3 W3 F3
  replace K0 := K0.wr W3
  replace F2 := F2.other W3 (Or.inr (slot_ne (Or.inr (hw _ (List.mem_of_getElem? (i := 35) rfl))) (Or.inr (hw _ (List.mem_of_getElem? (i := 37) rfl))) (by decide) (t := (.object "java/util/List")) (t' := (.array .int)) (by decide) (by decide)))
  replace F0_2 := F0_2.other W3 (Or.inr (slot_ne (Or.inr (hw _ (List.mem_of_getElem? (i := 39) rfl))) (Or.inr (hw _ (List.mem_of_getElem? (i := 37) rfl))) (by decide) (t := (.object "java/util/List")) (t' := (.array .int)) (by decide) (by decide)))
  replace F0_3 := F0_3.other W3 (Or.inr (slot_ne (Or.inr (hw _ (List.mem_of_getElem? (i := 41) rfl))) (Or.inr (hw _ (List.mem_of_getElem? (i := 37) rfl))) (by decide) (t := (.array .int)) (t' := (.array .int)) (by decide) (by decide)))
  replace F0_4 := F0_4.other W3 (Or.inr (slot_ne (Or.inr (hw _ (List.mem_of_getElem? (i := 43) rfl))) (Or.inr (hw _ (List.mem_of_getElem? (i := 37) rfl))) (by decide) (t := (.array .int)) (t' := (.array .int)) (by decide) (by decide)))
  replace F0_5 := F0_5.other W3 (Or.inr (slot_ne (Or.inr (hw _ (List.mem_of_getElem? (i := 45) rfl))) (Or.inr (hw _ (List.mem_of_getElem? (i := 37) rfl))) (by decide) (t := (.array .int)) (t' := (.array .int)) (by decide) (by decide)))
  replace F0_6 := F0_6.other W3 (Or.inr (slot_ne (Or.inr (hw _ (List.mem_of_getElem? (i := 47) rfl))) (Or.inr (hw _ (List.mem_of_getElem? (i := 37) rfl))) (by decide) (t := .int) (t' := (.array .int)) (by decide) (by decide)))
  have KpW3 : Keep h0 h3 [o0] := Keep.wr KpW2 W3 (Or.inl (List.mem_of_getElem? (i := 0) rfl))
  have ZW3 : n0 ≤ h3.size := Nat.le_trans ZW2 (Keep.of_wr W3).1
  refine own_run (g' := (mkF m 16 #[.val (.ref o0), .val (.ref o1), .val (.ref o2), .val .null, .val (.ref o4), .val (.ref o5), .val (.ref o6), .val (.int p7)] [.null, (.ref o0)])) (fun _ kt => XS.aloadN X3.here hx rfl (hb hby d5_14) rfl rfl (XS.aloadN X3.here hx rfl (hb hby d5_15) rfl rfl (kt))) ?_
  refine own_putF X3 hx hZ hown (host := "") (Or.inl (hw _ (List.mem_of_getElem? (i := 38) rfl))) Via.refl e3 F0_2 K0 (Or.inr ⟨(hw _ (List.mem_of_getElem? (i := 39) rfl)), rfl, hnm⟩) (hw _ (List.mem_of_getElem? (i := 28) rfl)) (ty := (.object "java/util/List")) (by decide) rfl rfl N3 g_o0 (hb hby d5_16) ?_
  intro T4 h4 L4 X4 N4 e4 W4 F4
  replace K0 := K0.wr W4
  replace F2 := F2.other W4 (Or.inr (slot_ne (Or.inr (hw _ (List.mem_of_getElem? (i := 35) rfl))) (Or.inr (hw _ (List.mem_of_getElem? (i := 39) rfl))) (by decide) (t := (.object "java/util/List")) (t' := (.object "java/util/List")) (by decide) (by decide)))
  replace F3 := F3.other W4 (Or.inr (slot_ne (Or.inr (hw _ (List.mem_of_getElem? (i := 37) rfl))) (Or.inr (hw _ (List.mem_of_getElem? (i := 39) rfl))) (by decide) (t := (.array .int)) (t' := (.object "java/util/List")) (by decide) (by decide)))
  replace F0_3 := F0_3.other W4 (Or.inr (slot_ne (Or.inr (hw _ (List.mem_of_getElem? (i := 41) rfl))) (Or.inr (hw _ (List.mem_of_getElem? (i := 39) rfl))) (by decide) (t := (.array .int)) (t' := (.object "java/util/List")) (by decide) (by decide)))
  replace F0_4 := F0_4.other W4 (Or.inr (slot_ne (Or.inr (hw _ (List.mem_of_getElem? (i := 43) rfl))) (Or.inr (hw _ (List.mem_of_getElem? (i := 39) rfl))) (by decide) (t := (.array .int)) (t' := (.object "java/util/List")) (by decide) (by decide)))
  replace F0_5 := F0_5.other W4 (Or.inr (slot_ne (Or.inr (hw _ (List.mem_of_getElem? (i := 45) rfl))) (Or.inr (hw _ (List.mem_of_getElem? (i := 39) rfl))) (by decide) (t := (.array .int)) (t' := (.object "java/util/List")) (by decide) (by decide)))
  replace F0_6 := F0_6.other W4 (Or.inr (slot_ne (Or.inr (hw _ (List.mem_of_getElem? (i := 47) rfl))) (Or.inr (hw _ (List.mem_of_getElem? (i := 39) rfl))) (by decide) (t := .int) (t' := (.object "java/util/List")) (by decide) (by decide)))
  have KpW4 : Keep h0 h4 [o0] := Keep.wr KpW3 W4 (Or.inl (List.mem_of_getElem? (i := 0) rfl))
  have ZW4 : n0 ≤ h4.size := Nat.le_trans ZW3 (Keep.of_wr W4).1
  refine own_run (g' := (mkF m 22 #[.val (.ref o0), .val (.ref o1), .val (.ref o2), .val .null, .val (.ref o4), .val (.ref o5), .val (.ref o6), .val (.int p7)] [(.ref o4), (.ref o0)])) (fun _ kt => XS.aloadN X4.here hx rfl (hb hby d5_19) rfl rfl (XS.aload X4.here hx rfl (hb hby d5_20) rfl rfl (kt))) ?_
  refine own_putF X4 hx hZ hown (host := "") (Or.inl (hw _ (List.mem_of_getElem? (i := 40) rfl))) Via.refl e4 F0_3 K0 (Or.inr ⟨(hw _ (List.mem_of_getElem? (i := 41) rfl)), rfl, hnm⟩) (hw _ (List.mem_of_getElem? (i := 28) rfl)) (ty := (.array .int)) (by decide) rfl rfl N4 g_o0 (hb hby d5_22) ?_
  intro T5 h5 L5 X5 N5 e5 W5 F5
  replace K0 := K0.wr W5
  replace F2 := F2.other W5 (Or.inr (slot_ne (Or.inr (hw _ (List.mem_of_getElem? (i := 35) rfl))) (Or.inr (hw _ (List.mem_of_getElem? (i := 41) rfl))) (by decide) (t := (.object "java/util/List")) (t' := (.array .int)) (by decide) (by decide)))
  replace F3 := F3.other W5 (Or.inr (slot_ne (Or.inr (hw _ (List.mem_of_getElem? (i := 37) rfl))) (Or.inr (hw _ (List.mem_of_getElem? (i := 41) rfl))) (by decide) (t := (.array .int)) (t' := (.array .int)) (by decide) (by decide)))
  replace F4 := F4.other W5 (Or.inr (slot_ne (Or.inr (hw _ (List.mem_of_getElem? (i := 39) rfl))) (Or.inr (hw _ (List.mem_of_getElem? (i := 41) rfl))) (by decide) (t := (.object "java/util/List")) (t' := (.array .int)) (by decide) (by decide)))
  replace F0_4 := F0_4.other W5 (Or.inr (slot_ne (Or.inr (hw _ (List.mem_of_getElem? (i := 43) rfl))) (Or.inr (hw _ (List.mem_of_getElem? (i := 41) rfl))) (by decide) (t := (.array .int)) (t' := (.array .int)) (by decide) (by decide)))
  replace F0_5 := F0_5.other W5 (Or.inr (slot_ne (Or.inr (hw _ (List.mem_of_getElem? (i := 45) rfl))) (Or.inr (hw _ (List.mem_of_getElem? (i := 41) rfl))) (by decide) (t := (.array .int)) (t' := (.array .int)) (by decide) (by decide)))
  replace F0_6 := F0_6.other W5 (Or.inr (slot_ne (Or.inr (hw _ (List.mem_of_getElem? (i := 47) rfl))) (Or.inr (hw _ (List.mem_of_getElem? (i := 41) rfl))) (by decide) (t := .int) (t' := (.array .int)) (by decide) (by decide)))
  have KpW5 : Keep h0 h5 [o0] := Keep.wr KpW4 W5 (Or.inl (List.mem_of_getElem? (i := 0) rfl))
  have ZW5 : n0 ≤ h5.size := Nat.le_trans ZW4 (Keep.of_wr W5).1
  refine own_run (g' := (mkF m 28 #[.val (.ref o0), .val (.ref o1), .val (.ref o2), .val .null, .val (.ref o4), .val (.ref o5), .val (.ref o6), .val (.int p7)] [(.ref o5), (.ref o0)])) (fun _ kt => XS.aloadN X5.here hx rfl (hb hby d5_25) rfl rfl (XS.aload X5.here hx rfl (hb hby d5_26) rfl rfl (kt))) ?_
  refine own_putF X5 hx hZ hown (host := "") (Or.inl (hw _ (List.mem_of_getElem? (i := 42) rfl))) Via.refl e5 F0_4 K0 (Or.inr ⟨(hw _ (List.mem_of_getElem? (i := 43) rfl)), rfl, hnm⟩) (hw _ (List.mem_of_getElem? (i := 28) rfl)) (ty := (.array .int)) (by decide) rfl rfl N5 g_o0 (hb hby d5_28) ?_
  intro T6 h6 L6 X6 N6 e6 W6 F6
  replace K0 := K0.wr W6
  replace F2 := F2.other W6 (Or.inr (slot_ne (Or.inr (hw _ (List.mem_of_getElem? (i := 35) rfl))) (Or.inr (hw _ (List.mem_of_getElem? (i := 43) rfl))) (by decide) (t := (.object "java/util/List")) (t' := (.array .int)) (by decide) (by decide)))
  replace F3 := F3.other W6 (Or.inr (slot_ne (Or.inr (hw _ (List.mem_of_getElem? (i := 37) rfl))) (Or.inr (hw _ (List.mem_of_getElem? (i := 43) rfl))) (by decide) (t := (.array .int)) (t' := (.array .int)) (by decide) (by decide)))
  replace F4 := F4.other W6 (Or.inr (slot_ne (Or.inr (hw _ (List.mem_of_getElem? (i := 39) rfl))) (Or.inr (hw _ (List.mem_of_getElem? (i := 43) rfl))) (by decide) (t := (.object "java/util/List")) (t' := (.array .int)) (by decide) (by decide)))
  replace F5 := F5.other W6 (Or.inr (slot_ne (Or.inr (hw _ (List.mem_of_getElem? (i := 41) rfl))) (Or.inr (hw _ (List.mem_of_getElem? (i := 43) rfl))) (by decide) (t := (.array .int)) (t' := (.array .int)) (by decide) (by decide)))
  replace F0_5 := F0_5.other W6 (Or.inr (slot_ne (Or.inr (hw _ (List.mem_of_getElem? (i := 45) rfl))) (Or.inr (hw _ (List.mem_of_getElem? (i := 43) rfl))) (by decide) (t := (.array .int)) (t' := (.array .int)) (by decide) (by decide)))
  replace F0_6 := F0_6.other W6 (Or.inr (slot_ne (Or.inr (hw _ (List.mem_of_getElem? (i := 47) rfl))) (Or.inr (hw _ (List.mem_of_getElem? (i := 43) rfl))) (by decide) (t := .int) (t' := (.array .int)) (by decide) (by decide)))
  have KpW6 : Keep h0 h6 [o0] := Keep.wr KpW5 W6 (Or.inl (List.mem_of_getElem? (i := 0) rfl))
  have ZW6 : n0 ≤ h6.size := Nat.le_trans ZW5 (Keep.of_wr W6).1
  refine own_run (g' := (mkF m 34 #[.val (.ref o0), .val (.ref o1), .val (.ref o2), .val .null, .val (.ref o4), .val (.ref o5), .val (.ref o6), .val (.int p7)] [(.ref o6), (.ref o0)])) (fun _ kt => XS.aloadN X6.here hx rfl (hb hby d5_31) rfl rfl (XS.aload X6.here hx rfl (hb hby d5_32) rfl rfl (kt))) ?_
  refine own_putF X6 hx hZ hown (host := "") (Or.inl (hw _ (List.mem_of_getElem? (i := 44) rfl))) Via.refl e6 F0_5 K0 (Or.inr ⟨(hw _ (List.mem_of_getElem? (i := 45) rfl)), rfl, hnm⟩) (hw _ (List.mem_of_getElem? (i := 28) rfl)) (ty := (.array .int)) (by decide) rfl rfl N6 g_o0 (hb hby d5_34) ?_
  intro T7 h7 L7 X7 N7 e7 W7 F7
  replace K0 := K0.wr W7
  replace F2 := F2.other W7 (Or.inr (slot_ne (Or.inr (hw _ (List.mem_of_getElem? (i := 35) rfl))) (Or.inr (hw _ (List.mem_of_getElem? (i := 45) rfl))) (by decide) (t := (.object "java/util/List")) (t' := (.array .int)) (by decide) (by decide)))
  replace F3 := F3.other W7 (Or.inr (slot_ne (Or.inr (hw _ (List.mem_of_getElem? (i := 37) rfl))) (Or.inr (hw _ (List.mem_of_getElem? (i := 45) rfl))) (by decide) (t := (.array .int)) (t' := (.array .int)) (by decide) (by decide)))
  replace F4 := F4.other W7 (Or.inr (slot_ne (Or.inr (hw _ (List.mem_of_getElem? (i := 39) rfl))) (Or.inr (hw _ (List.mem_of_getElem? (i := 45) rfl))) (by decide) (t := (.object "java/util/List")) (t' := (.array .int)) (by decide) (by decide)))
  replace F5 := F5.other W7 (Or.inr (slot_ne (Or.inr (hw _ (List.mem_of_getElem? (i := 41) rfl))) (Or.inr (hw _ (List.mem_of_getElem? (i := 45) rfl))) (by decide) (t := (.array .int)) (t' := (.array .int)) (by decide) (by decide)))
  replace F6 := F6.other W7 (Or.inr (slot_ne (Or.inr (hw _ (List.mem_of_getElem? (i := 43) rfl))) (Or.inr (hw _ (List.mem_of_getElem? (i := 45) rfl))) (by decide) (t := (.array .int)) (t' := (.array .int)) (by decide) (by decide)))
  replace F0_6 := F0_6.other W7 (Or.inr (slot_ne (Or.inr (hw _ (List.mem_of_getElem? (i := 47) rfl))) (Or.inr (hw _ (List.mem_of_getElem? (i := 45) rfl))) (by decide) (t := .int) (t' := (.array .int)) (by decide) (by decide)))
  have KpW7 : Keep h0 h7 [o0] := Keep.wr KpW6 W7 (Or.inl (List.mem_of_getElem? (i := 0) rfl))
  have ZW7 : n0 ≤ h7.size := Nat.le_trans ZW6 (Keep.of_wr W7).1
  refine own_run (g' := (mkF m 40 #[.val (.ref o0), .val (.ref o1), .val (.ref o2), .val .null, .val (.ref o4), .val (.ref o5), .val (.ref o6), .val (.int p7)] [(.int p7), (.ref o0)])) (fun _ kt => XS.aloadN X7.here hx rfl (hb hby d5_37) rfl rfl (XS.iload X7.here hx rfl (hb hby d5_38) rfl (kt))) ?_
  refine own_putF X7 hx hZ hown (host := "") (Or.inl (hw _ (List.mem_of_getElem? (i := 46) rfl))) Via.refl e7 F0_6 K0 (Or.inr ⟨(hw _ (List.mem_of_getElem? (i := 47) rfl)), rfl, hnm⟩) (hw _ (List.mem_of_getElem? (i := 28) rfl)) (ty := .int) (by decide) rfl rfl N7 g_o0 (hb hby d5_40) ?_
  intro T8 h8 L8 X8 N8 e8 W8 F8
  replace K0 := K0.wr W8
  replace F2 := F2.other W8 (Or.inr (slot_ne (Or.inr (hw _ (List.mem_of_getElem? (i := 35) rfl))) (Or.inr (hw _ (List.mem_of_getElem? (i := 47) rfl))) (by decide) (t := (.object "java/util/List")) (t' := .int) (by decide) (by decide)))
  replace F3 := F3.other W8 (Or.inr (slot_ne (Or.inr (hw _ (List.mem_of_getElem? (i := 37) rfl))) (Or.inr (hw _ (List.mem_of_getElem? (i := 47) rfl))) (by decide) (t := (.array .int)) (t' := .int) (by decide) (by decide)))
  replace F4 := F4.other W8 (Or.inr (slot_ne (Or.inr (hw _ (List.mem_of_getElem? (i := 39) rfl))) (Or.inr (hw _ (List.mem_of_getElem? (i := 47) rfl))) (by decide) (t := (.object "java/util/List")) (t' := .int) (by decide) (by decide)))
  replace F5 := F5.other W8 (Or.inr (slot_ne (Or.inr (hw _ (List.mem_of_getElem? (i := 41) rfl))) (Or.inr (hw _ (List.mem_of_getElem? (i := 47) rfl))) (by decide) (t := (.array .int)) (t' := .int) (by decide) (by decide)))
  replace F6 := F6.other W8 (Or.inr (slot_ne (Or.inr (hw _ (List.mem_of_getElem? (i := 43) rfl))) (Or.inr (hw _ (List.mem_of_getElem? (i := 47) rfl))) (by decide) (t := (.array .int)) (t' := .int) (by decide) (by decide)))
  replace F7 := F7.other W8 (Or.inr (slot_ne (Or.inr (hw _ (List.mem_of_getElem? (i := 45) rfl))) (Or.inr (hw _ (List.mem_of_getElem? (i := 47) rfl))) (by decide) (t := (.array .int)) (t' := .int) (by decide) (by decide)))
  have KpW8 : Keep h0 h8 [o0] := Keep.wr KpW7 W8 (Or.inl (List.mem_of_getElem? (i := 0) rfl))
  have ZW8 : n0 ≤ h8.size := Nat.le_trans ZW7 (Keep.of_wr W8).1
  exact own_retV X8 hx Bd.notSynchronized Bd.returns (hb hby d5_43) (by decide) (by decide) (by rw [e8]; exact ⟨rfl, N8, KpW8, F2, F3, F4, F5, F6, F7, F8⟩)
theorem own_pn6 : plainName "com/example/lugha/lugha/concepts/PageGroups" = true := by first | (simp [plainName, overriddenIn]; done) | decide +kernel
theorem own_ef6 (m : MethodId) (o0 : Addr) (p1 : Int32) (p2 : Int32) : entryFrame m #[(.ref o0), (.int p1), (.int p2)] 3 = mkF m 0 #[.val (.ref o0), .val (.int p1), .val (.int p2)] [] := by first | (simp [entryFrame, mkF, argsToLocals, Value.category]; done) | rfl
def own_R6 : Room := ({ frames := 0, cells := 0, slots := 0, locals := 0 } : Room)
def Q6 (z : Int32) (h0 : Heap) (n0 : Nat) (v : Option Value) (h : Heap) (L : List Loc) : Prop := v = some (.int z) ∧ Fr n0 L ∧ h = h0
theorem d6_0 : decode prog_4_method_5_code 0 = .ok (.aload_n 0, 1) := by decide +kernel
theorem d6_1 : decode prog_4_method_5_code 1 = .ok (.getfield 26, 3) := by decide +kernel
theorem d6_4 : decode prog_4_method_5_code 4 = .ok (.aload_n 0, 1) := by decide +kernel
theorem d6_5 : decode prog_4_method_5_code 5 = .ok (.getfield 13, 3) := by decide +kernel
theorem d6_8 : decode prog_4_method_5_code 8 = .ok (.iload_n 1, 1) := by decide +kernel
theorem d6_9 : decode prog_4_method_5_code 9 = .ok (.iaload, 1) := by decide +kernel
theorem d6_10 : decode prog_4_method_5_code 10 = .ok (.iload_n 2, 1) := by decide +kernel
theorem d6_11 : decode prog_4_method_5_code 11 = .ok (.iadd, 1) := by decide +kernel
theorem d6_12 : decode prog_4_method_5_code 12 = .ok (.iaload, 1) := by decide +kernel
theorem d6_13 : decode prog_4_method_5_code 13 = .ok (.ireturn, 1) := by decide +kernel
set_option maxRecDepth 65536 in
set_option maxHeartbeats 40000000 in
theorem rm6 (l : Launch) (Z : State) (a0 : Array Value) (hw : ∀ d ∈ tables_1, d.before a0 Z = true) (ws : List Jvm.Cond) (o0 : Addr) (p1 : Int32) (p2 : Int32) (u w : Addr) (n k : Int32) (xs ys : List Int32) (t y : Int32) (h0 : Heap) (n0 : Nat) (F1 : Fld Z h0 o0 "com/example/lugha/lugha/concepts/PageGroups" "groupOfPage" "[I" (.ref u)) (F2 : Fld Z h0 o0 "com/example/lugha/lugha/concepts/PageGroups" "offsets" "[I" (.ref w)) (A1 : own_A Z h0 u .int n xs) (A2 : own_A Z h0 w .int k ys) (hi : ¬ p1 < 0 ∧ p1 < k) (ht : ys.getD p1.toNatClampNeg 0 = t) (hj : ¬ t + p2 < 0 ∧ t + p2 < n) (hy : xs.getD (t + p2).toNatClampNeg 0 = y) :
    MetFree l (⟨"com/example/lugha/lugha/concepts/PageGroups", "groupOf", "(II)I"⟩ : MethodName) (head1 (Jvm.Cond.code (⟨"com/example/lugha/lugha/concepts/PageGroups", "groupOf", "(II)I"⟩ : MethodName) prog_4_method_5_code 3 (some .int) :: ws) own_R6) (fun a U => a = #[(.ref o0), (.int p1), (.int p2)] ∧ Z.Warmed39 U.vm ∧ U.heap = h0) (fun _ _ _ _ _ => True) (fun _ U o U' => ∃ v L, o = .returned v ∧ Q6 y h0 n0 v U'.heap L ∧ FrameEnd U o U' L own_R6.cells own_R6.slots) := by
  refine MetFree.of_bodySF (plainFor_of_name own_pn6) hisR ?_
  intro p e s m args below meth c s₁ Bd hml0 hP hK
  obtain ⟨ha, hZ, hh⟩ := hP
  have hx := Bd.exec
  have hby := Bd.bytes
  have hml : c.maxLocals = 3 := hml0
  have hown : s.vm.findClass "com/example/lugha/lugha/concepts/PageGroups" = some m.cls := findClass_of_methodNamed Bd.named
  have hnm := (name_of_methodNamed Bd.named Bd.method).1
  have X0 : Stand p l e own_R6 s m args below meth c s₁ [] 0 0 := Stand.of_body Bd
  have e0 : s₁.heap = h0 := by rw [← hh, Bd.state]; rfl
  have N0 := Fr.nil n0
  refine own_enter (Q := (Q6 y h0 n0)) (g := mkF m 0 #[.val (.ref o0), .val (.int p1), .val (.int p2)] []) (by rw [ha]; exact own_ef6 m o0 p1 p2) ?_
  refine own_run (g' := (mkF m 1 #[.val (.ref o0), .val (.int p1), .val (.int p2)] [(.ref o0)])) (fun _ kt => XS.aloadN X0.here hx rfl (hb hby d6_0) rfl rfl (kt)) ?_
  refine own_getF X0 hx hZ hown (host := "") (Or.inl (hw _ (List.mem_of_getElem? (i := 44) rfl))) Via.refl e0 F1 (hb hby d6_1) ?_
  intro T1 X1 e1
  refine own_run (g' := (mkF m 5 #[.val (.ref o0), .val (.int p1), .val (.int p2)] [(.ref o0), (.ref u)])) (fun _ kt => XS.aloadN X1.here hx rfl (hb hby d6_4) rfl rfl (kt)) ?_
  refine own_getF X1 hx hZ hown (host := "") (Or.inl (hw _ (List.mem_of_getElem? (i := 36) rfl))) Via.refl e1 F2 (hb hby d6_5) ?_
  intro T2 X2 e2
  refine own_run (g' := (mkF m 9 #[.val (.ref o0), .val (.int p1), .val (.int p2)] [(.int p1), (.ref w), (.ref u)])) (fun _ kt => XS.iloadN X2.here hx rfl (hb hby d6_8) rfl (kt)) ?_
  refine own_ldI X2 hx hZ e2 A2 (j := p1) hi (hb hby d6_9) (x := t) ht ?_
  refine own_run (g' := (mkF m 12 #[.val (.ref o0), .val (.int p1), .val (.int p2)] [(.int (t + p2)), (.ref u)])) (fun _ kt => XS.iloadN X2.here hx rfl (hb hby d6_10) rfl (XS.iadd X2.here hx rfl (hb hby d6_11) rfl (kt))) ?_
  refine own_ldI X2 hx hZ e2 A1 (j := (t + p2)) hj (hb hby d6_12) (x := y) hy ?_
  exact own_retI X2 hx Bd.notSynchronized Bd.returns (hb hby d6_13) (by decide) (by decide) ⟨rfl, N0, e2⟩
theorem own_pn0 : plainName "com/example/lugha/lugha/concepts/PageGroupsGroupOfPinLaw" = true := by first | (simp [plainName, overriddenIn]; done) | decide +kernel
theorem own_ef0 (m : MethodId) (q0 : Int64) (q1 : Int64) (q2 : Int64) (p3 : Int32) : entryFrame m #[(.long q0), (.long q1), (.long q2), (.int p3)] maxLocals = mkF m 0 #[.val (.long q0), .second, .val (.long q1), .second, .val (.long q2), .second, .val (.int p3), .unset, .unset, .unset, .unset, .unset, .unset, .unset, .unset, .unset, .unset, .unset, .unset] [] := by first | (simp [entryFrame, mkF, argsToLocals, Value.category, maxLocals]; done) | rfl
def Q0 (h0 : Heap) (n0 : Nat) (v : Option Value) (h : Heap) (L : List Loc) : Prop := v = some (.int 1) ∧ Fr n0 L
theorem own_pd1 : parseMethodDescriptor "(Ljava/util/List;[ILjava/util/List;[I[I[II)V" = some ⟨[(.object "java/util/List"), (.array .int), (.object "java/util/List"), (.array .int), (.array .int), (.array .int), .int], none⟩ := by decide +kernel
theorem own_pd2 : parseMethodDescriptor "(II)I" = some ⟨[.int, .int], some .int⟩ := by decide +kernel
set_option maxRecDepth 65536 in
set_option maxHeartbeats 40000000 in
theorem rm0 (l : Launch) (Z : State) (a0 : Array Value) (hw : ∀ d ∈ tables_1, d.before a0 Z = true) (ws : List Jvm.Cond) (q0 : Int64) (q1 : Int64) (q2 : Int64) (p3 : Int32) (u : Addr) (h0 : Heap) (n0 : Nat) (Z0 : n0 ≤ h0.size) (S0 : Sta Z h0 "java/util/ArrayList" "DEFAULTCAPACITY_EMPTY_ELEMENTDATA" "[Ljava/lang/Object;" (.ref u)) :
    MetFree l x (head1 (Jvm.Cond.code x code maxLocals ret :: ws) room_1) (fun a U => a = #[(.long q0), (.long q1), (.long q2), (.int p3)] ∧ Z.Warmed39 U.vm ∧ U.heap = h0) (fun _ _ _ _ _ => True) (fun _ U o U' => ∃ v L, o = .returned v ∧ Q0 h0 n0 v U'.heap L ∧ FrameEnd U o U' L room_1.cells room_1.slots) := by
  refine MetFree.of_bodySF (plainFor_of_name own_pn0) hisR ?_
  intro p e s m args below meth c s₁ Bd hml0 hP hK
  obtain ⟨ha, hZ, hh⟩ := hP
  have hx := Bd.exec
  have hby := Bd.bytes
  have hml : c.maxLocals = 19 := hml0
  have hown : s.vm.findClass "com/example/lugha/lugha/concepts/PageGroupsGroupOfPinLaw" = some m.cls := findClass_of_methodNamed Bd.named
  have hnm := (name_of_methodNamed Bd.named Bd.method).1
  have X0 : Stand p l e room_1 s m args below meth c s₁ [] 0 0 := Stand.of_body Bd
  have e0 : s₁.heap = h0 := by rw [← hh, Bd.state]; rfl
  have N0 := Fr.nil n0
  refine own_enter (Q := (Q0 h0 n0)) (g := mkF m 0 #[.val (.long q0), .second, .val (.long q1), .second, .val (.long q2), .second, .val (.int p3), .unset, .unset, .unset, .unset, .unset, .unset, .unset, .unset, .unset, .unset, .unset, .unset] []) (by rw [ha]; exact own_ef0 m q0 q1 q2 p3) ?_
  refine own_run (g' := (mkF m 4 #[.val (.long q0), .second, .val (.long q1), .second, .val (.long q2), .second, .val (.int p3), .val (.int q0.toInt32), .unset, .unset, .unset, .unset, .unset, .unset, .unset, .unset, .unset, .unset, .unset] [])) (fun _ kt => XS.lloadN X0.here hx rfl (hb hby at_0) rfl (XS.l2i X0.here hx rfl (hb hby at_1) rfl (XS.istore X0.here hx rfl (hb hby at_2) rfl (l' := #[.val (.long q0), .second, .val (.long q1), .second, .val (.long q2), .second, .val (.int p3), .val (.int q0.toInt32), .unset, .unset, .unset, .unset, .unset, .unset, .unset, .unset, .unset, .unset, .unset]) rfl (kt)))) ?_
  obtain ⟨v2, hv2⟩ : ∃ z : Int32, z = q0.toInt32 := ⟨_, rfl⟩
  rw [← hv2]
  refine own_run (g' := (mkF m 11 #[.val (.long q0), .second, .val (.long q1), .second, .val (.long q2), .second, .val (.int p3), .val (.int v2), .val (.int (XT.ushrL q0 (32 : Int32)).toInt32), .unset, .unset, .unset, .unset, .unset, .unset, .unset, .unset, .unset, .unset] [])) (fun _ kt => XS.lloadN X0.here hx rfl (hb hby at_4) rfl (XS.bipush X0.here hx rfl (hb hby at_5) (XS.lushr X0.here hx rfl (hb hby at_7) rfl (XS.l2i X0.here hx rfl (hb hby at_8) rfl (XS.istore X0.here hx rfl (hb hby at_9) rfl (l' := #[.val (.long q0), .second, .val (.long q1), .second, .val (.long q2), .second, .val (.int p3), .val (.int v2), .val (.int (XT.ushrL q0 (32 : Int32)).toInt32), .unset, .unset, .unset, .unset, .unset, .unset, .unset, .unset, .unset, .unset]) rfl (kt)))))) ?_
  obtain ⟨v9, hv9⟩ : ∃ z : Int32, z = (XT.ushrL q0 (32 : Int32)).toInt32 := ⟨_, rfl⟩
  rw [← hv9]
  refine own_run (g' := (mkF m 15 #[.val (.long q0), .second, .val (.long q1), .second, .val (.long q2), .second, .val (.int p3), .val (.int v2), .val (.int v9), .val (.int q1.toInt32), .unset, .unset, .unset, .unset, .unset, .unset, .unset, .unset, .unset] [])) (fun _ kt => XS.lloadN X0.here hx rfl (hb hby at_11) rfl (XS.l2i X0.here hx rfl (hb hby at_12) rfl (XS.istore X0.here hx rfl (hb hby at_13) rfl (l' := #[.val (.long q0), .second, .val (.long q1), .second, .val (.long q2), .second, .val (.int p3), .val (.int v2), .val (.int v9), .val (.int q1.toInt32), .unset, .unset, .unset, .unset, .unset, .unset, .unset, .unset, .unset]) rfl (kt)))) ?_
  obtain ⟨v13, hv13⟩ : ∃ z : Int32, z = q1.toInt32 := ⟨_, rfl⟩
  rw [← hv13]
  refine own_run (g' := (mkF m 22 #[.val (.long q0), .second, .val (.long q1), .second, .val (.long q2), .second, .val (.int p3), .val (.int v2), .val (.int v9), .val (.int v13), .val (.int (XT.ushrL q1 (32 : Int32)).toInt32), .unset, .unset, .unset, .unset, .unset, .unset, .unset, .unset] [])) (fun _ kt => XS.lloadN X0.here hx rfl (hb hby at_15) rfl (XS.bipush X0.here hx rfl (hb hby at_16) (XS.lushr X0.here hx rfl (hb hby at_18) rfl (XS.l2i X0.here hx rfl (hb hby at_19) rfl (XS.istore X0.here hx rfl (hb hby at_20) rfl (l' := #[.val (.long q0), .second, .val (.long q1), .second, .val (.long q2), .second, .val (.int p3), .val (.int v2), .val (.int v9), .val (.int v13), .val (.int (XT.ushrL q1 (32 : Int32)).toInt32), .unset, .unset, .unset, .unset, .unset, .unset, .unset, .unset]) rfl (kt)))))) ?_
  obtain ⟨v20, hv20⟩ : ∃ z : Int32, z = (XT.ushrL q1 (32 : Int32)).toInt32 := ⟨_, rfl⟩
  rw [← hv20]
  refine own_run (g' := (mkF m 27 #[.val (.long q0), .second, .val (.long q1), .second, .val (.long q2), .second, .val (.int p3), .val (.int v2), .val (.int v9), .val (.int v13), .val (.int v20), .val (.int q2.toInt32), .unset, .unset, .unset, .unset, .unset, .unset, .unset] [])) (fun _ kt => XS.lload X0.here hx rfl (hb hby at_22) rfl (XS.l2i X0.here hx rfl (hb hby at_24) rfl (XS.istore X0.here hx rfl (hb hby at_25) rfl (l' := #[.val (.long q0), .second, .val (.long q1), .second, .val (.long q2), .second, .val (.int p3), .val (.int v2), .val (.int v9), .val (.int v13), .val (.int v20), .val (.int q2.toInt32), .unset, .unset, .unset, .unset, .unset, .unset, .unset]) rfl (kt)))) ?_
  obtain ⟨v25, hv25⟩ : ∃ z : Int32, z = q2.toInt32 := ⟨_, rfl⟩
  rw [← hv25]
  refine own_run (g' := (mkF m 35 #[.val (.long q0), .second, .val (.long q1), .second, .val (.long q2), .second, .val (.int p3), .val (.int v2), .val (.int v9), .val (.int v13), .val (.int v20), .val (.int v25), .val (.int (XT.ushrL q2 (32 : Int32)).toInt32), .unset, .unset, .unset, .unset, .unset, .unset] [])) (fun _ kt => XS.lload X0.here hx rfl (hb hby at_27) rfl (XS.bipush X0.here hx rfl (hb hby at_29) (XS.lushr X0.here hx rfl (hb hby at_31) rfl (XS.l2i X0.here hx rfl (hb hby at_32) rfl (XS.istore X0.here hx rfl (hb hby at_33) rfl (l' := #[.val (.long q0), .second, .val (.long q1), .second, .val (.long q2), .second, .val (.int p3), .val (.int v2), .val (.int v9), .val (.int v13), .val (.int v20), .val (.int v25), .val (.int (XT.ushrL q2 (32 : Int32)).toInt32), .unset, .unset, .unset, .unset, .unset, .unset]) rfl (kt)))))) ?_
  obtain ⟨v33, hv33⟩ : ∃ z : Int32, z = (XT.ushrL q2 (32 : Int32)).toInt32 := ⟨_, rfl⟩
  rw [← hv33]
  refine own_run (g' := (mkF m 41 #[.val (.long q0), .second, .val (.long q1), .second, .val (.long q2), .second, .val (.int p3), .val (.int v2), .val (.int v9), .val (.int v13), .val (.int v20), .val (.int v25), .val (.int v33), .val (.int p3), .unset, .unset, .unset, .unset, .unset] [(.int (7 : Int32))])) (fun _ kt => XS.iload X0.here hx rfl (hb hby at_35) rfl (XS.istore X0.here hx rfl (hb hby at_37) rfl (l' := #[.val (.long q0), .second, .val (.long q1), .second, .val (.long q2), .second, .val (.int p3), .val (.int v2), .val (.int v9), .val (.int v13), .val (.int v20), .val (.int v25), .val (.int v33), .val (.int p3), .unset, .unset, .unset, .unset, .unset]) rfl (XS.bipush X0.here hx rfl (hb hby at_39) (kt)))) ?_
  refine own_newA X0 hx hZ (aty := .int) (hw _ (List.mem_of_getElem? (i := 0) rfl)) (ty := .int) rfl rfl e0 (hb hby at_41) (by decide) (cap := 7) (by decide) (by decide) (by decide) (by decide) ?_
  intro T1 h1 b1 qq1 X1 e1 E1 A1
  replace S0 := S0.ext E1
  have g_b1 : n0 ≤ b1 := by rw [qq1]; exact Z0
  have Z1 : n0 ≤ h1.size := Nat.le_trans Z0 E1.1
  replace A1 : own_A Z h1 b1 .int (7 : Int32) [(0 : Int32), (0 : Int32), (0 : Int32), (0 : Int32), (0 : Int32), (0 : Int32), (0 : Int32)] := A1
  refine own_run (g' := (mkF m 47 #[.val (.long q0), .second, .val (.long q1), .second, .val (.long q2), .second, .val (.int p3), .val (.int v2), .val (.int v9), .val (.int v13), .val (.int v20), .val (.int v25), .val (.int v33), .val (.int p3), .unset, .unset, .unset, .unset, .unset] [(.int v2), (.int (0 : Int32)), (.ref b1), (.ref b1)])) (fun _ kt => XS.dup X1.here hx rfl (hb hby at_43) rfl rfl (XS.iconst X1.here hx rfl (hb hby at_44) (XS.iload X1.here hx rfl (hb hby at_45) rfl (kt)))) ?_
  refine own_stI X1 hx hZ e1 A1 (j := (0 : Int32)) (by decide) N0 g_b1 (hb hby at_47) (ys := [v2, (0 : Int32), (0 : Int32), (0 : Int32), (0 : Int32), (0 : Int32), (0 : Int32)]) rfl ?_
  intro T2 h2 L2 X2 N2 e2 W2 A2
  replace S0 := S0.wr W2
  have ZW2 : n0 ≤ h2.size := Nat.le_trans Z1 (Keep.of_wr W2).1
  refine own_run (g' := (mkF m 52 #[.val (.long q0), .second, .val (.long q1), .second, .val (.long q2), .second, .val (.int p3), .val (.int v2), .val (.int v9), .val (.int v13), .val (.int v20), .val (.int v25), .val (.int v33), .val (.int p3), .unset, .unset, .unset, .unset, .unset] [(.int v9), (.int (1 : Int32)), (.ref b1), (.ref b1)])) (fun _ kt => XS.dup X2.here hx rfl (hb hby at_48) rfl rfl (XS.iconst X2.here hx rfl (hb hby at_49) (XS.iload X2.here hx rfl (hb hby at_50) rfl (kt)))) ?_
  refine own_stI X2 hx hZ e2 A2 (j := (1 : Int32)) (by decide) N2 g_b1 (hb hby at_52) (ys := [v2, v9, (0 : Int32), (0 : Int32), (0 : Int32), (0 : Int32), (0 : Int32)]) rfl ?_
  intro T3 h3 L3 X3 N3 e3 W3 A3
  replace S0 := S0.wr W3
  have ZW3 : n0 ≤ h3.size := Nat.le_trans ZW2 (Keep.of_wr W3).1
  refine own_run (g' := (mkF m 57 #[.val (.long q0), .second, .val (.long q1), .second, .val (.long q2), .second, .val (.int p3), .val (.int v2), .val (.int v9), .val (.int v13), .val (.int v20), .val (.int v25), .val (.int v33), .val (.int p3), .unset, .unset, .unset, .unset, .unset] [(.int v13), (.int (2 : Int32)), (.ref b1), (.ref b1)])) (fun _ kt => XS.dup X3.here hx rfl (hb hby at_53) rfl rfl (XS.iconst X3.here hx rfl (hb hby at_54) (XS.iload X3.here hx rfl (hb hby at_55) rfl (kt)))) ?_
  refine own_stI X3 hx hZ e3 A3 (j := (2 : Int32)) (by decide) N3 g_b1 (hb hby at_57) (ys := [v2, v9, v13, (0 : Int32), (0 : Int32), (0 : Int32), (0 : Int32)]) rfl ?_
  intro T4 h4 L4 X4 N4 e4 W4 A4
  replace S0 := S0.wr W4
  have ZW4 : n0 ≤ h4.size := Nat.le_trans ZW3 (Keep.of_wr W4).1
  refine own_run (g' := (mkF m 62 #[.val (.long q0), .second, .val (.long q1), .second, .val (.long q2), .second, .val (.int p3), .val (.int v2), .val (.int v9), .val (.int v13), .val (.int v20), .val (.int v25), .val (.int v33), .val (.int p3), .unset, .unset, .unset, .unset, .unset] [(.int v20), (.int (3 : Int32)), (.ref b1), (.ref b1)])) (fun _ kt => XS.dup X4.here hx rfl (hb hby at_58) rfl rfl (XS.iconst X4.here hx rfl (hb hby at_59) (XS.iload X4.here hx rfl (hb hby at_60) rfl (kt)))) ?_
  refine own_stI X4 hx hZ e4 A4 (j := (3 : Int32)) (by decide) N4 g_b1 (hb hby at_62) (ys := [v2, v9, v13, v20, (0 : Int32), (0 : Int32), (0 : Int32)]) rfl ?_
  intro T5 h5 L5 X5 N5 e5 W5 A5
  replace S0 := S0.wr W5
  have ZW5 : n0 ≤ h5.size := Nat.le_trans ZW4 (Keep.of_wr W5).1
  refine own_run (g' := (mkF m 67 #[.val (.long q0), .second, .val (.long q1), .second, .val (.long q2), .second, .val (.int p3), .val (.int v2), .val (.int v9), .val (.int v13), .val (.int v20), .val (.int v25), .val (.int v33), .val (.int p3), .unset, .unset, .unset, .unset, .unset] [(.int v25), (.int (4 : Int32)), (.ref b1), (.ref b1)])) (fun _ kt => XS.dup X5.here hx rfl (hb hby at_63) rfl rfl (XS.iconst X5.here hx rfl (hb hby at_64) (XS.iload X5.here hx rfl (hb hby at_65) rfl (kt)))) ?_
  refine own_stI X5 hx hZ e5 A5 (j := (4 : Int32)) (by decide) N5 g_b1 (hb hby at_67) (ys := [v2, v9, v13, v20, v25, (0 : Int32), (0 : Int32)]) rfl ?_
  intro T6 h6 L6 X6 N6 e6 W6 A6
  replace S0 := S0.wr W6
  have ZW6 : n0 ≤ h6.size := Nat.le_trans ZW5 (Keep.of_wr W6).1
  refine own_run (g' := (mkF m 72 #[.val (.long q0), .second, .val (.long q1), .second, .val (.long q2), .second, .val (.int p3), .val (.int v2), .val (.int v9), .val (.int v13), .val (.int v20), .val (.int v25), .val (.int v33), .val (.int p3), .unset, .unset, .unset, .unset, .unset] [(.int v33), (.int (5 : Int32)), (.ref b1), (.ref b1)])) (fun _ kt => XS.dup X6.here hx rfl (hb hby at_68) rfl rfl (XS.iconst X6.here hx rfl (hb hby at_69) (XS.iload X6.here hx rfl (hb hby at_70) rfl (kt)))) ?_
  refine own_stI X6 hx hZ e6 A6 (j := (5 : Int32)) (by decide) N6 g_b1 (hb hby at_72) (ys := [v2, v9, v13, v20, v25, v33, (0 : Int32)]) rfl ?_
  intro T7 h7 L7 X7 N7 e7 W7 A7
  replace S0 := S0.wr W7
  have ZW7 : n0 ≤ h7.size := Nat.le_trans ZW6 (Keep.of_wr W7).1
  refine own_run (g' := (mkF m 78 #[.val (.long q0), .second, .val (.long q1), .second, .val (.long q2), .second, .val (.int p3), .val (.int v2), .val (.int v9), .val (.int v13), .val (.int v20), .val (.int v25), .val (.int v33), .val (.int p3), .unset, .unset, .unset, .unset, .unset] [(.int p3), (.int (6 : Int32)), (.ref b1), (.ref b1)])) (fun _ kt => XS.dup X7.here hx rfl (hb hby at_73) rfl rfl (XS.bipush X7.here hx rfl (hb hby at_74) (XS.iload X7.here hx rfl (hb hby at_76) rfl (kt)))) ?_
  refine own_stI X7 hx hZ e7 A7 (j := (6 : Int32)) (by decide) N7 g_b1 (hb hby at_78) (ys := [v2, v9, v13, v20, v25, v33, p3]) rfl ?_
  intro T8 h8 L8 X8 N8 e8 W8 A8
  replace S0 := S0.wr W8
  have ZW8 : n0 ≤ h8.size := Nat.le_trans ZW7 (Keep.of_wr W8).1
  refine own_run (g' := (mkF m 82 #[.val (.long q0), .second, .val (.long q1), .second, .val (.long q2), .second, .val (.int p3), .val (.int v2), .val (.int v9), .val (.int v13), .val (.int v20), .val (.int v25), .val (.int v33), .val (.int p3), .val (.ref b1), .unset, .unset, .unset, .unset] [(.int (4 : Int32))])) (fun _ kt => XS.astore X8.here hx rfl (hb hby at_79) rfl rfl (l' := #[.val (.long q0), .second, .val (.long q1), .second, .val (.long q2), .second, .val (.int p3), .val (.int v2), .val (.int v9), .val (.int v13), .val (.int v20), .val (.int v25), .val (.int v33), .val (.int p3), .val (.ref b1), .unset, .unset, .unset, .unset]) rfl (XS.iconst X8.here hx rfl (hb hby at_81) (kt))) ?_
  refine own_newA X8 hx hZ (aty := .int) (hw _ (List.mem_of_getElem? (i := 0) rfl)) (ty := .int) rfl rfl e8 (hb hby at_82) (by decide) (cap := 4) (by decide) (by decide) (by decide) (by decide) ?_
  intro T9 h9 b9 qq9 X9 e9 E9 A9
  have ne_b1_b9 : b1 ≠ b9 := Nat.ne_of_lt (by rw [qq9]; exact A8.lt)
  replace S0 := S0.ext E9
  replace A8 := A8.ext E9
  have g_b9 : n0 ≤ b9 := by rw [qq9]; exact ZW8
  have Z9 : n0 ≤ h9.size := Nat.le_trans ZW8 E9.1
  replace A9 : own_A Z h9 b9 .int (4 : Int32) [(0 : Int32), (0 : Int32), (0 : Int32), (0 : Int32)] := A9
  refine own_run (g' := (mkF m 87 #[.val (.long q0), .second, .val (.long q1), .second, .val (.long q2), .second, .val (.int p3), .val (.int v2), .val (.int v9), .val (.int v13), .val (.int v20), .val (.int v25), .val (.int v33), .val (.int p3), .val (.ref b1), .unset, .unset, .unset, .unset] [(.int (0 : Int32)), (.int (0 : Int32)), (.ref b9), (.ref b9)])) (fun _ kt => XS.dup X9.here hx rfl (hb hby at_84) rfl rfl (XS.iconst X9.here hx rfl (hb hby at_85) (XS.iconst X9.here hx rfl (hb hby at_86) (kt)))) ?_
  refine own_stI X9 hx hZ e9 A9 (j := (0 : Int32)) (by decide) N8 g_b9 (hb hby at_87) (ys := [(0 : Int32), (0 : Int32), (0 : Int32), (0 : Int32)]) rfl ?_
  intro T10 h10 L10 X10 N10 e10 W10 A10
  replace S0 := S0.wr W10
  replace A8 := A8.other W10 ne_b1_b9
  have ZW10 : n0 ≤ h10.size := Nat.le_trans Z9 (Keep.of_wr W10).1
  refine own_run (g' := (mkF m 91 #[.val (.long q0), .second, .val (.long q1), .second, .val (.long q2), .second, .val (.int p3), .val (.int v2), .val (.int v9), .val (.int v13), .val (.int v20), .val (.int v25), .val (.int v33), .val (.int p3), .val (.ref b1), .unset, .unset, .unset, .unset] [(.int (2 : Int32)), (.int (1 : Int32)), (.ref b9), (.ref b9)])) (fun _ kt => XS.dup X10.here hx rfl (hb hby at_88) rfl rfl (XS.iconst X10.here hx rfl (hb hby at_89) (XS.iconst X10.here hx rfl (hb hby at_90) (kt)))) ?_
  refine own_stI X10 hx hZ e10 A10 (j := (1 : Int32)) (by decide) N10 g_b9 (hb hby at_91) (ys := [(0 : Int32), (2 : Int32), (0 : Int32), (0 : Int32)]) rfl ?_
  intro T11 h11 L11 X11 N11 e11 W11 A11
  replace S0 := S0.wr W11
  replace A8 := A8.other W11 ne_b1_b9
  have ZW11 : n0 ≤ h11.size := Nat.le_trans ZW10 (Keep.of_wr W11).1
  refine own_run (g' := (mkF m 95 #[.val (.long q0), .second, .val (.long q1), .second, .val (.long q2), .second, .val (.int p3), .val (.int v2), .val (.int v9), .val (.int v13), .val (.int v20), .val (.int v25), .val (.int v33), .val (.int p3), .val (.ref b1), .unset, .unset, .unset, .unset] [(.int (5 : Int32)), (.int (2 : Int32)), (.ref b9), (.ref b9)])) (fun _ kt => XS.dup X11.here hx rfl (hb hby at_92) rfl rfl (XS.iconst X11.here hx rfl (hb hby at_93) (XS.iconst X11.here hx rfl (hb hby at_94) (kt)))) ?_
  refine own_stI X11 hx hZ e11 A11 (j := (2 : Int32)) (by decide) N11 g_b9 (hb hby at_95) (ys := [(0 : Int32), (2 : Int32), (5 : Int32), (0 : Int32)]) rfl ?_
  intro T12 h12 L12 X12 N12 e12 W12 A12
  replace S0 := S0.wr W12
  replace A8 := A8.other W12 ne_b1_b9
  have ZW12 : n0 ≤ h12.size := Nat.le_trans ZW11 (Keep.of_wr W12).1
  refine own_run (g' := (mkF m 100 #[.val (.long q0), .second, .val (.long q1), .second, .val (.long q2), .second, .val (.int p3), .val (.int v2), .val (.int v9), .val (.int v13), .val (.int v20), .val (.int v25), .val (.int v33), .val (.int p3), .val (.ref b1), .unset, .unset, .unset, .unset] [(.int (7 : Int32)), (.int (3 : Int32)), (.ref b9), (.ref b9)])) (fun _ kt => XS.dup X12.here hx rfl (hb hby at_96) rfl rfl (XS.iconst X12.here hx rfl (hb hby at_97) (XS.bipush X12.here hx rfl (hb hby at_98) (kt)))) ?_
  refine own_stI X12 hx hZ e12 A12 (j := (3 : Int32)) (by decide) N12 g_b9 (hb hby at_100) (ys := [(0 : Int32), (2 : Int32), (5 : Int32), (7 : Int32)]) rfl ?_
  intro T13 h13 L13 X13 N13 e13 W13 A13
  replace S0 := S0.wr W13
  replace A8 := A8.other W13 ne_b1_b9
  have ZW13 : n0 ≤ h13.size := Nat.le_trans ZW12 (Keep.of_wr W13).1
  refine own_run (g' := (mkF m 103 #[.val (.long q0), .second, .val (.long q1), .second, .val (.long q2), .second, .val (.int p3), .val (.int v2), .val (.int v9), .val (.int v13), .val (.int v20), .val (.int v25), .val (.int v33), .val (.int p3), .val (.ref b1), .val (.ref b9), .unset, .unset, .unset] [])) (fun _ kt => XS.astore X13.here hx rfl (hb hby at_101) rfl rfl (l' := #[.val (.long q0), .second, .val (.long q1), .second, .val (.long q2), .second, .val (.int p3), .val (.int v2), .val (.int v9), .val (.int v13), .val (.int v20), .val (.int v25), .val (.int v33), .val (.int p3), .val (.ref b1), .val (.ref b9), .unset, .unset, .unset]) rfl (kt)) ?_
  refine own_new X13 hx hZ hown (hw _ (List.mem_of_getElem? (i := 1) rfl)) (hw _ (List.mem_of_getElem? (i := 2) rfl)) (hw _ (List.mem_of_getElem? (i := 3) rfl)) e13 (hb hby at_103) (by decide) (by decide) ?_
  intro T14 h14 b14 qq14 X14 e14 E14 K14 D14
  have ne_b1_b14 : b1 ≠ b14 := Nat.ne_of_lt (by rw [qq14]; exact A8.lt)
  have ne_b9_b14 : b9 ≠ b14 := Nat.ne_of_lt (by rw [qq14]; exact A13.lt)
  replace S0 := S0.ext E14
  replace A8 := A8.ext E14
  replace A13 := A13.ext E14
  have g_b14 : n0 ≤ b14 := by rw [qq14]; exact ZW13
  have Z14 : n0 ≤ h14.size := Nat.le_trans ZW13 E14.1
  have F14_modCount : Fld Z h14 b14 "java/util/AbstractList" "modCount" "I" (.int (0 : Int32)) := D14 (Or.inl (hw _ (List.mem_of_getElem? (i := 23) rfl))) (ty := .int) (by decide)
  have F14_elementData : Fld Z h14 b14 "java/util/ArrayList" "elementData" "[Ljava/lang/Object;" .null := D14 (Or.inl (hw _ (List.mem_of_getElem? (i := 26) rfl))) (ty := (.array (.object "java/lang/Object"))) (by decide)
  refine own_run (g' := (mkF m 107 #[.val (.long q0), .second, .val (.long q1), .second, .val (.long q2), .second, .val (.int p3), .val (.int v2), .val (.int v9), .val (.int v13), .val (.int v20), .val (.int v25), .val (.int v33), .val (.int p3), .val (.ref b1), .val (.ref b9), .unset, .unset, .unset] [(.ref b14), (.ref b14)])) (fun _ kt => XS.dup X14.here hx rfl (hb hby at_106) rfl rfl (kt)) ?_
  refine own_callI (b := b14) X14 hx hZ hown rfl (hw _ (List.mem_of_getElem? (i := 4) rfl)) (hw _ (List.mem_of_getElem? (i := 5) rfl)) (hw _ (List.mem_of_getElem? (i := 3) rfl)) (hw _ (List.mem_of_getElem? (i := 6) rfl)) (by decide) (rm1 l Z a0 hw [] b14 u h14 n0 Z14 K14 F14_modCount F14_elementData g_b14 S0) e14 (by decide) (by decide) (by decide) (by decide) (by rw [hml]; rfl) (argsL := []) (rest := [(.ref b14)]) (lenOf own_pd0 rfl) rfl (W := 1) (Nat.le_of_eq rfl) (hb hby at_107) ?_
  intro T15 r15 L15 X15 hQ15
  obtain ⟨rfl, Nq15, Kc15, F15_0, F15_1⟩ := hQ15
  have N15 := Fr.app N13 Nq15
  replace S0 := own_StaKeep S0 Kc15 K14
  replace A8 := A8.keep Kc15 (ninS ne_b1_b14 nin0)
  replace A13 := A13.keep Kc15 (ninS ne_b9_b14 nin0)
  replace K14 := K14.keep Kc15
  have Z15 : n0 ≤ T15.heap.size := Nat.le_trans Z14 Kc15.1
  refine own_run (g' := (mkF m 112 #[.val (.long q0), .second, .val (.long q1), .second, .val (.long q2), .second, .val (.int p3), .val (.int v2), .val (.int v9), .val (.int v13), .val (.int v20), .val (.int v25), .val (.int v33), .val (.int p3), .val (.ref b1), .val (.ref b9), .val (.ref b14), .unset, .unset] [])) (fun _ kt => XS.astore X15.here hx rfl (hb hby at_110) rfl rfl (l' := #[.val (.long q0), .second, .val (.long q1), .second, .val (.long q2), .second, .val (.int p3), .val (.int v2), .val (.int v9), .val (.int v13), .val (.int v20), .val (.int v25), .val (.int v33), .val (.int p3), .val (.ref b1), .val (.ref b9), .val (.ref b14), .unset, .unset]) rfl (kt)) ?_
  refine own_new X15 hx hZ hown (hw _ (List.mem_of_getElem? (i := 27) rfl)) (hw _ (List.mem_of_getElem? (i := 28) rfl)) (hw _ (List.mem_of_getElem? (i := 29) rfl)) rfl (hb hby at_112) (by decide) (by decide) ?_
  intro T16 h16 b16 qq16 X16 e16 E16 K16 D16
  have ne_b1_b16 : b1 ≠ b16 := Nat.ne_of_lt (by rw [qq16]; exact A8.lt)
  have ne_b9_b16 : b9 ≠ b16 := Nat.ne_of_lt (by rw [qq16]; exact A13.lt)
  have ne_b14_b16 : b14 ≠ b16 := Nat.ne_of_lt (by rw [qq16]; exact K14.lt)
  replace S0 := S0.ext E16
  replace A8 := A8.ext E16
  replace A13 := A13.ext E16
  replace K14 := K14.ext E16
  replace F15_0 := F15_0.ext E16
  replace F15_1 := F15_1.ext E16
  have g_b16 : n0 ≤ b16 := by rw [qq16]; exact Z15
  have Z16 : n0 ≤ h16.size := Nat.le_trans Z15 E16.1
  have F16_tables : Fld Z h16 b16 "com/example/lugha/lugha/concepts/PageGroups" "tables" "Ljava/util/List;" .null := D16 (Or.inr (hw _ (List.mem_of_getElem? (i := 35) rfl))) (ty := (.object "java/util/List")) (by decide)
  have F16_offsets : Fld Z h16 b16 "com/example/lugha/lugha/concepts/PageGroups" "offsets" "[I" .null := D16 (Or.inr (hw _ (List.mem_of_getElem? (i := 37) rfl))) (ty := (.array .int)) (by decide)
  have F16_ids : Fld Z h16 b16 "com/example/lugha/lugha/concepts/PageGroups" "ids" "Ljava/util/List;" .null := D16 (Or.inr (hw _ (List.mem_of_getElem? (i := 39) rfl))) (ty := (.object "java/util/List")) (by decide)
  have F16_ranges : Fld Z h16 b16 "com/example/lugha/lugha/concepts/PageGroups" "ranges" "[I" .null := D16 (Or.inr (hw _ (List.mem_of_getElem? (i := 41) rfl))) (ty := (.array .int)) (by decide)
  have F16_members : Fld Z h16 b16 "com/example/lugha/lugha/concepts/PageGroups" "members" "[I" .null := D16 (Or.inr (hw _ (List.mem_of_getElem? (i := 43) rfl))) (ty := (.array .int)) (by decide)
  have F16_groupOfPage : Fld Z h16 b16 "com/example/lugha/lugha/concepts/PageGroups" "groupOfPage" "[I" .null := D16 (Or.inr (hw _ (List.mem_of_getElem? (i := 45) rfl))) (ty := (.array .int)) (by decide)
  have F16_fewLanguages : Fld Z h16 b16 "com/example/lugha/lugha/concepts/PageGroups" "fewLanguages" "I" (.int (0 : Int32)) := D16 (Or.inr (hw _ (List.mem_of_getElem? (i := 47) rfl))) (ty := .int) (by decide)
  refine own_run (g' := (mkF m 122 #[.val (.long q0), .second, .val (.long q1), .second, .val (.long q2), .second, .val (.int p3), .val (.int v2), .val (.int v9), .val (.int v13), .val (.int v20), .val (.int v25), .val (.int v33), .val (.int p3), .val (.ref b1), .val (.ref b9), .val (.ref b14), .unset, .unset] [(.int (0 : Int32)), .null, (.ref b9), (.ref b14), (.ref b16), (.ref b16)])) (fun _ kt => XS.dup X16.here hx rfl (hb hby at_115) rfl rfl (XS.aload X16.here hx rfl (hb hby at_116) rfl rfl (XS.aload X16.here hx rfl (hb hby at_118) rfl rfl (XS.aconstNull X16.here hx rfl (hb hby at_120) (XS.iconst X16.here hx rfl (hb hby at_121) (kt)))))) ?_
  refine own_newA X16 hx hZ (aty := .int) (hw _ (List.mem_of_getElem? (i := 0) rfl)) (ty := .int) rfl rfl e16 (hb hby at_122) (by decide) (cap := 0) (by decide) (by decide) (by decide) (by decide) ?_
  intro T17 h17 b17 qq17 X17 e17 E17 A17
  have ne_b1_b17 : b1 ≠ b17 := Nat.ne_of_lt (by rw [qq17]; exact A8.lt)
  have ne_b9_b17 : b9 ≠ b17 := Nat.ne_of_lt (by rw [qq17]; exact A13.lt)
  have ne_b14_b17 : b14 ≠ b17 := Nat.ne_of_lt (by rw [qq17]; exact K14.lt)
  have ne_b16_b17 : b16 ≠ b17 := Nat.ne_of_lt (by rw [qq17]; exact K16.lt)
  replace S0 := S0.ext E17
  replace A8 := A8.ext E17
  replace A13 := A13.ext E17
  replace K14 := K14.ext E17
  replace F15_0 := F15_0.ext E17
  replace F15_1 := F15_1.ext E17
  replace K16 := K16.ext E17
  replace F16_tables := F16_tables.ext E17
  replace F16_offsets := F16_offsets.ext E17
  replace F16_ids := F16_ids.ext E17
  replace F16_ranges := F16_ranges.ext E17
  replace F16_members := F16_members.ext E17
  replace F16_groupOfPage := F16_groupOfPage.ext E17
  replace F16_fewLanguages := F16_fewLanguages.ext E17
  have g_b17 : n0 ≤ b17 := by rw [qq17]; exact Z16
  have Z17 : n0 ≤ h17.size := Nat.le_trans Z16 E17.1
  replace A17 : own_A Z h17 b17 .int (0 : Int32) [] := A17
  refine own_run (g' := (mkF m 125 #[.val (.long q0), .second, .val (.long q1), .second, .val (.long q2), .second, .val (.int p3), .val (.int v2), .val (.int v9), .val (.int v13), .val (.int v20), .val (.int v25), .val (.int v33), .val (.int p3), .val (.ref b1), .val (.ref b9), .val (.ref b14), .unset, .unset] [(.int (0 : Int32)), (.ref b17), .null, (.ref b9), (.ref b14), (.ref b16), (.ref b16)])) (fun _ kt => XS.iconst X17.here hx rfl (hb hby at_124) (kt)) ?_
  refine own_newA X17 hx hZ (aty := .int) (hw _ (List.mem_of_getElem? (i := 0) rfl)) (ty := .int) rfl rfl e17 (hb hby at_125) (by decide) (cap := 0) (by decide) (by decide) (by decide) (by decide) ?_
  intro T18 h18 b18 qq18 X18 e18 E18 A18
  have ne_b1_b18 : b1 ≠ b18 := Nat.ne_of_lt (by rw [qq18]; exact A8.lt)
  have ne_b9_b18 : b9 ≠ b18 := Nat.ne_of_lt (by rw [qq18]; exact A13.lt)
  have ne_b14_b18 : b14 ≠ b18 := Nat.ne_of_lt (by rw [qq18]; exact K14.lt)
  have ne_b16_b18 : b16 ≠ b18 := Nat.ne_of_lt (by rw [qq18]; exact K16.lt)
  have ne_b17_b18 : b17 ≠ b18 := Nat.ne_of_lt (by rw [qq18]; exact A17.lt)
  replace S0 := S0.ext E18
  replace A8 := A8.ext E18
  replace A13 := A13.ext E18
  replace K14 := K14.ext E18
  replace F15_0 := F15_0.ext E18
  replace F15_1 := F15_1.ext E18
  replace K16 := K16.ext E18
  replace F16_tables := F16_tables.ext E18
  replace F16_offsets := F16_offsets.ext E18
  replace F16_ids := F16_ids.ext E18
  replace F16_ranges := F16_ranges.ext E18
  replace F16_members := F16_members.ext E18
  replace F16_groupOfPage := F16_groupOfPage.ext E18
  replace F16_fewLanguages := F16_fewLanguages.ext E18
  replace A17 := A17.ext E18
  have g_b18 : n0 ≤ b18 := by rw [qq18]; exact Z17
  have Z18 : n0 ≤ h18.size := Nat.le_trans Z17 E18.1
  replace A18 : own_A Z h18 b18 .int (0 : Int32) [] := A18
  refine own_run (g' := (mkF m 130 #[.val (.long q0), .second, .val (.long q1), .second, .val (.long q2), .second, .val (.int p3), .val (.int v2), .val (.int v9), .val (.int v13), .val (.int v20), .val (.int v25), .val (.int v33), .val (.int p3), .val (.ref b1), .val (.ref b9), .val (.ref b14), .unset, .unset] [(.int (0 : Int32)), (.ref b1), (.ref b18), (.ref b17), .null, (.ref b9), (.ref b14), (.ref b16), (.ref b16)])) (fun _ kt => XS.aload X18.here hx rfl (hb hby at_127) rfl rfl (XS.iconst X18.here hx rfl (hb hby at_129) (kt))) ?_
  refine own_callI (b := b16) X18 hx hZ hown rfl (hw _ (List.mem_of_getElem? (i := 30) rfl)) (hw _ (List.mem_of_getElem? (i := 31) rfl)) (hw _ (List.mem_of_getElem? (i := 29) rfl)) (hw _ (List.mem_of_getElem? (i := 32) rfl)) (by decide) (rm5 l Z a0 hw [] b16 b14 b9 b17 b18 b1 (0 : Int32) h18 n0 Z18 K16 F16_tables F16_offsets F16_ids F16_ranges F16_members F16_groupOfPage F16_fewLanguages g_b16) e18 (by decide) (by decide) (by decide) (by decide) (by rw [hml]; rfl) (argsL := [(.ref b14), (.ref b9), .null, (.ref b17), (.ref b18), (.ref b1), (.int (0 : Int32))]) (rest := [(.ref b16)]) (lenOf own_pd1 rfl) rfl (W := 1) (Nat.le_of_eq rfl) (hb hby at_130) ?_
  intro T19 r19 L19 X19 hQ19
  obtain ⟨rfl, Nq19, Kc19, F19_0, F19_1, F19_2, F19_3, F19_4, F19_5, F19_6⟩ := hQ19
  have N19 := Fr.app N15 Nq19
  replace S0 := own_StaKeep S0 Kc19 K16
  replace A8 := A8.keep Kc19 (ninS ne_b1_b16 nin0)
  replace A13 := A13.keep Kc19 (ninS ne_b9_b16 nin0)
  replace K14 := K14.keep Kc19
  replace F15_0 := F15_0.keep Kc19 (ninS ne_b14_b16 nin0)
  replace F15_1 := F15_1.keep Kc19 (ninS ne_b14_b16 nin0)
  replace K16 := K16.keep Kc19
  replace A17 := A17.keep Kc19 (ninS (Ne.symm ne_b16_b17) nin0)
  replace A18 := A18.keep Kc19 (ninS (Ne.symm ne_b16_b18) nin0)
  have Z19 : n0 ≤ T19.heap.size := Nat.le_trans Z18 Kc19.1
  refine own_run (g' := (mkF m 139 #[.val (.long q0), .second, .val (.long q1), .second, .val (.long q2), .second, .val (.int p3), .val (.int v2), .val (.int v9), .val (.int v13), .val (.int v20), .val (.int v25), .val (.int v33), .val (.int p3), .val (.ref b1), .val (.ref b9), .val (.ref b14), .val (.ref b16), .unset] [(.int (0 : Int32)), (.int (0 : Int32)), (.ref b16)])) (fun _ kt => XS.astore X19.here hx rfl (hb hby at_133) rfl rfl (l' := #[.val (.long q0), .second, .val (.long q1), .second, .val (.long q2), .second, .val (.int p3), .val (.int v2), .val (.int v9), .val (.int v13), .val (.int v20), .val (.int v25), .val (.int v33), .val (.int p3), .val (.ref b1), .val (.ref b9), .val (.ref b14), .val (.ref b16), .unset]) rfl (XS.aload X19.here hx rfl (hb hby at_135) rfl rfl (XS.iconst X19.here hx rfl (hb hby at_137) (XS.iconst X19.here hx rfl (hb hby at_138) (kt))))) ?_
  refine own_callV (b := b16) X19 hx hZ hown (hw _ (List.mem_of_getElem? (i := 48) rfl)) (hw _ (List.mem_of_getElem? (i := 49) rfl)) (hw _ (List.mem_of_getElem? (i := 51) rfl)) (hw _ (List.mem_of_getElem? (i := 50) rfl)) (hw _ (List.mem_of_getElem? (i := 29) rfl)) (hw _ (List.mem_of_getElem? (i := 52) rfl)) (by decide) K16 (rm6 l Z a0 hw [] b16 (0 : Int32) (0 : Int32) b1 b9 (7 : Int32) (4 : Int32) [v2, v9, v13, v20, v25, v33, p3] [(0 : Int32), (2 : Int32), (5 : Int32), (7 : Int32)] (0 : Int32) v2 T19.heap n0 F19_5 F19_1 A8 A13 (by decide) rfl (by decide) rfl) rfl (by decide) (by decide) (by decide) (by decide) (by rw [hml]; rfl) (argsL := [(.int (0 : Int32)), (.int (0 : Int32))]) (rest := []) (lenOf own_pd2 rfl) rfl (W := 0) (Nat.le_of_eq rfl) (hb hby at_139) ?_
  intro T20 r20 L20 X20 hQ20
  obtain ⟨rfl, Nq20, e20⟩ := hQ20
  have N20 := Fr.app N19 Nq20
  have hd144 : v2 = v2 := rfl
  have hd156 : ¬ ((1 : Int32) = (0 : Int32)) := by decide
  refine own_run (g' := (mkF m 161 #[.val (.long q0), .second, .val (.long q1), .second, .val (.long q2), .second, .val (.int p3), .val (.int v2), .val (.int v9), .val (.int v13), .val (.int v20), .val (.int v25), .val (.int v33), .val (.int p3), .val (.ref b1), .val (.ref b9), .val (.ref b14), .val (.ref b16), .val (.int (1 : Int32))] [(.ref b16)])) (fun _ kt => XS.iload X20.here hx rfl (hb hby at_142) rfl (XS.icmpNo X20.here hx rfl (hb hby at_144) rfl ((teq hd144).2) (XS.iconst X20.here hx rfl (hb hby at_147) (XS.goto X20.here hx rfl (pc0 := 148) (pc' := 152) rfl (hb hby at_148) (by decide) (by decide) (XS.istore X20.here hx rfl (hb hby at_152) rfl (l' := #[.val (.long q0), .second, .val (.long q1), .second, .val (.long q2), .second, .val (.int p3), .val (.int v2), .val (.int v9), .val (.int v13), .val (.int v20), .val (.int v25), .val (.int v33), .val (.int p3), .val (.ref b1), .val (.ref b9), .val (.ref b14), .val (.ref b16), .val (.int (1 : Int32))]) rfl (XS.iload X20.here hx rfl (hb hby at_154) rfl (XS.ifNo X20.here hx rfl (hb hby at_156) rfl ((if0 _ _).trans (feq hd156).1) (XS.aload X20.here hx rfl (hb hby at_159) rfl rfl (kt))))))))) ?_
  refine own_run (g' := (mkF m 163 #[.val (.long q0), .second, .val (.long q1), .second, .val (.long q2), .second, .val (.int p3), .val (.int v2), .val (.int v9), .val (.int v13), .val (.int v20), .val (.int v25), .val (.int v33), .val (.int p3), .val (.ref b1), .val (.ref b9), .val (.ref b14), .val (.ref b16), .val (.int (1 : Int32))] [(.int (1 : Int32)), (.int (0 : Int32)), (.ref b16)])) (fun _ kt => XS.iconst X20.here hx rfl (hb hby at_161) (XS.iconst X20.here hx rfl (hb hby at_162) (kt))) ?_
  refine own_callV (b := b16) X20 hx hZ hown (hw _ (List.mem_of_getElem? (i := 48) rfl)) (hw _ (List.mem_of_getElem? (i := 49) rfl)) (hw _ (List.mem_of_getElem? (i := 51) rfl)) (hw _ (List.mem_of_getElem? (i := 50) rfl)) (hw _ (List.mem_of_getElem? (i := 29) rfl)) (hw _ (List.mem_of_getElem? (i := 52) rfl)) (by decide) K16 (rm6 l Z a0 hw [] b16 (0 : Int32) (1 : Int32) b1 b9 (7 : Int32) (4 : Int32) [v2, v9, v13, v20, v25, v33, p3] [(0 : Int32), (2 : Int32), (5 : Int32), (7 : Int32)] (0 : Int32) v9 T19.heap n0 F19_5 F19_1 A8 A13 (by decide) rfl (by decide) rfl) e20 (by decide) (by decide) (by decide) (by decide) (by rw [hml]; rfl) (argsL := [(.int (0 : Int32)), (.int (1 : Int32))]) (rest := []) (lenOf own_pd2 rfl) rfl (W := 0) (Nat.le_of_eq rfl) (hb hby at_163) ?_
  intro T21 r21 L21 X21 hQ21
  obtain ⟨rfl, Nq21, e21⟩ := hQ21
  have N21 := Fr.app N20 Nq21
  have hd168 : v9 = v9 := rfl
  have hd180 : ¬ ((1 : Int32) = (0 : Int32)) := by decide
  refine own_run (g' := (mkF m 185 #[.val (.long q0), .second, .val (.long q1), .second, .val (.long q2), .second, .val (.int p3), .val (.int v2), .val (.int v9), .val (.int v13), .val (.int v20), .val (.int v25), .val (.int v33), .val (.int p3), .val (.ref b1), .val (.ref b9), .val (.ref b14), .val (.ref b16), .val (.int (1 : Int32))] [(.ref b16)])) (fun _ kt => XS.iload X21.here hx rfl (hb hby at_166) rfl (XS.icmpNo X21.here hx rfl (hb hby at_168) rfl ((teq hd168).2) (XS.iconst X21.here hx rfl (hb hby at_171) (XS.goto X21.here hx rfl (pc0 := 172) (pc' := 176) rfl (hb hby at_172) (by decide) (by decide) (XS.istore X21.here hx rfl (hb hby at_176) rfl (l' := #[.val (.long q0), .second, .val (.long q1), .second, .val (.long q2), .second, .val (.int p3), .val (.int v2), .val (.int v9), .val (.int v13), .val (.int v20), .val (.int v25), .val (.int v33), .val (.int p3), .val (.ref b1), .val (.ref b9), .val (.ref b14), .val (.ref b16), .val (.int (1 : Int32))]) rfl (XS.iload X21.here hx rfl (hb hby at_178) rfl (XS.ifNo X21.here hx rfl (hb hby at_180) rfl ((if0 _ _).trans (feq hd180).1) (XS.aload X21.here hx rfl (hb hby at_183) rfl rfl (kt))))))))) ?_
  refine own_run (g' := (mkF m 187 #[.val (.long q0), .second, .val (.long q1), .second, .val (.long q2), .second, .val (.int p3), .val (.int v2), .val (.int v9), .val (.int v13), .val (.int v20), .val (.int v25), .val (.int v33), .val (.int p3), .val (.ref b1), .val (.ref b9), .val (.ref b14), .val (.ref b16), .val (.int (1 : Int32))] [(.int (0 : Int32)), (.int (1 : Int32)), (.ref b16)])) (fun _ kt => XS.iconst X21.here hx rfl (hb hby at_185) (XS.iconst X21.here hx rfl (hb hby at_186) (kt))) ?_
  refine own_callV (b := b16) X21 hx hZ hown (hw _ (List.mem_of_getElem? (i := 48) rfl)) (hw _ (List.mem_of_getElem? (i := 49) rfl)) (hw _ (List.mem_of_getElem? (i := 51) rfl)) (hw _ (List.mem_of_getElem? (i := 50) rfl)) (hw _ (List.mem_of_getElem? (i := 29) rfl)) (hw _ (List.mem_of_getElem? (i := 52) rfl)) (by decide) K16 (rm6 l Z a0 hw [] b16 (1 : Int32) (0 : Int32) b1 b9 (7 : Int32) (4 : Int32) [v2, v9, v13, v20, v25, v33, p3] [(0 : Int32), (2 : Int32), (5 : Int32), (7 : Int32)] (2 : Int32) v13 T19.heap n0 F19_5 F19_1 A8 A13 (by decide) rfl (by decide) rfl) e21 (by decide) (by decide) (by decide) (by decide) (by rw [hml]; rfl) (argsL := [(.int (1 : Int32)), (.int (0 : Int32))]) (rest := []) (lenOf own_pd2 rfl) rfl (W := 0) (Nat.le_of_eq rfl) (hb hby at_187) ?_
  intro T22 r22 L22 X22 hQ22
  obtain ⟨rfl, Nq22, e22⟩ := hQ22
  have N22 := Fr.app N21 Nq22
  have hd192 : v13 = v13 := rfl
  have hd204 : ¬ ((1 : Int32) = (0 : Int32)) := by decide
  refine own_run (g' := (mkF m 209 #[.val (.long q0), .second, .val (.long q1), .second, .val (.long q2), .second, .val (.int p3), .val (.int v2), .val (.int v9), .val (.int v13), .val (.int v20), .val (.int v25), .val (.int v33), .val (.int p3), .val (.ref b1), .val (.ref b9), .val (.ref b14), .val (.ref b16), .val (.int (1 : Int32))] [(.ref b16)])) (fun _ kt => XS.iload X22.here hx rfl (hb hby at_190) rfl (XS.icmpNo X22.here hx rfl (hb hby at_192) rfl ((teq hd192).2) (XS.iconst X22.here hx rfl (hb hby at_195) (XS.goto X22.here hx rfl (pc0 := 196) (pc' := 200) rfl (hb hby at_196) (by decide) (by decide) (XS.istore X22.here hx rfl (hb hby at_200) rfl (l' := #[.val (.long q0), .second, .val (.long q1), .second, .val (.long q2), .second, .val (.int p3), .val (.int v2), .val (.int v9), .val (.int v13), .val (.int v20), .val (.int v25), .val (.int v33), .val (.int p3), .val (.ref b1), .val (.ref b9), .val (.ref b14), .val (.ref b16), .val (.int (1 : Int32))]) rfl (XS.iload X22.here hx rfl (hb hby at_202) rfl (XS.ifNo X22.here hx rfl (hb hby at_204) rfl ((if0 _ _).trans (feq hd204).1) (XS.aload X22.here hx rfl (hb hby at_207) rfl rfl (kt))))))))) ?_
  refine own_run (g' := (mkF m 211 #[.val (.long q0), .second, .val (.long q1), .second, .val (.long q2), .second, .val (.int p3), .val (.int v2), .val (.int v9), .val (.int v13), .val (.int v20), .val (.int v25), .val (.int v33), .val (.int p3), .val (.ref b1), .val (.ref b9), .val (.ref b14), .val (.ref b16), .val (.int (1 : Int32))] [(.int (1 : Int32)), (.int (1 : Int32)), (.ref b16)])) (fun _ kt => XS.iconst X22.here hx rfl (hb hby at_209) (XS.iconst X22.here hx rfl (hb hby at_210) (kt))) ?_
  refine own_callV (b := b16) X22 hx hZ hown (hw _ (List.mem_of_getElem? (i := 48) rfl)) (hw _ (List.mem_of_getElem? (i := 49) rfl)) (hw _ (List.mem_of_getElem? (i := 51) rfl)) (hw _ (List.mem_of_getElem? (i := 50) rfl)) (hw _ (List.mem_of_getElem? (i := 29) rfl)) (hw _ (List.mem_of_getElem? (i := 52) rfl)) (by decide) K16 (rm6 l Z a0 hw [] b16 (1 : Int32) (1 : Int32) b1 b9 (7 : Int32) (4 : Int32) [v2, v9, v13, v20, v25, v33, p3] [(0 : Int32), (2 : Int32), (5 : Int32), (7 : Int32)] (2 : Int32) v20 T19.heap n0 F19_5 F19_1 A8 A13 (by decide) rfl (by decide) rfl) e22 (by decide) (by decide) (by decide) (by decide) (by rw [hml]; rfl) (argsL := [(.int (1 : Int32)), (.int (1 : Int32))]) (rest := []) (lenOf own_pd2 rfl) rfl (W := 0) (Nat.le_of_eq rfl) (hb hby at_211) ?_
  intro T23 r23 L23 X23 hQ23
  obtain ⟨rfl, Nq23, e23⟩ := hQ23
  have N23 := Fr.app N22 Nq23
  have hd216 : v20 = v20 := rfl
  have hd228 : ¬ ((1 : Int32) = (0 : Int32)) := by decide
  refine own_run (g' := (mkF m 233 #[.val (.long q0), .second, .val (.long q1), .second, .val (.long q2), .second, .val (.int p3), .val (.int v2), .val (.int v9), .val (.int v13), .val (.int v20), .val (.int v25), .val (.int v33), .val (.int p3), .val (.ref b1), .val (.ref b9), .val (.ref b14), .val (.ref b16), .val (.int (1 : Int32))] [(.ref b16)])) (fun _ kt => XS.iload X23.here hx rfl (hb hby at_214) rfl (XS.icmpNo X23.here hx rfl (hb hby at_216) rfl ((teq hd216).2) (XS.iconst X23.here hx rfl (hb hby at_219) (XS.goto X23.here hx rfl (pc0 := 220) (pc' := 224) rfl (hb hby at_220) (by decide) (by decide) (XS.istore X23.here hx rfl (hb hby at_224) rfl (l' := #[.val (.long q0), .second, .val (.long q1), .second, .val (.long q2), .second, .val (.int p3), .val (.int v2), .val (.int v9), .val (.int v13), .val (.int v20), .val (.int v25), .val (.int v33), .val (.int p3), .val (.ref b1), .val (.ref b9), .val (.ref b14), .val (.ref b16), .val (.int (1 : Int32))]) rfl (XS.iload X23.here hx rfl (hb hby at_226) rfl (XS.ifNo X23.here hx rfl (hb hby at_228) rfl ((if0 _ _).trans (feq hd228).1) (XS.aload X23.here hx rfl (hb hby at_231) rfl rfl (kt))))))))) ?_
  refine own_run (g' := (mkF m 235 #[.val (.long q0), .second, .val (.long q1), .second, .val (.long q2), .second, .val (.int p3), .val (.int v2), .val (.int v9), .val (.int v13), .val (.int v20), .val (.int v25), .val (.int v33), .val (.int p3), .val (.ref b1), .val (.ref b9), .val (.ref b14), .val (.ref b16), .val (.int (1 : Int32))] [(.int (2 : Int32)), (.int (1 : Int32)), (.ref b16)])) (fun _ kt => XS.iconst X23.here hx rfl (hb hby at_233) (XS.iconst X23.here hx rfl (hb hby at_234) (kt))) ?_
  refine own_callV (b := b16) X23 hx hZ hown (hw _ (List.mem_of_getElem? (i := 48) rfl)) (hw _ (List.mem_of_getElem? (i := 49) rfl)) (hw _ (List.mem_of_getElem? (i := 51) rfl)) (hw _ (List.mem_of_getElem? (i := 50) rfl)) (hw _ (List.mem_of_getElem? (i := 29) rfl)) (hw _ (List.mem_of_getElem? (i := 52) rfl)) (by decide) K16 (rm6 l Z a0 hw [] b16 (1 : Int32) (2 : Int32) b1 b9 (7 : Int32) (4 : Int32) [v2, v9, v13, v20, v25, v33, p3] [(0 : Int32), (2 : Int32), (5 : Int32), (7 : Int32)] (2 : Int32) v25 T19.heap n0 F19_5 F19_1 A8 A13 (by decide) rfl (by decide) rfl) e23 (by decide) (by decide) (by decide) (by decide) (by rw [hml]; rfl) (argsL := [(.int (1 : Int32)), (.int (2 : Int32))]) (rest := []) (lenOf own_pd2 rfl) rfl (W := 0) (Nat.le_of_eq rfl) (hb hby at_235) ?_
  intro T24 r24 L24 X24 hQ24
  obtain ⟨rfl, Nq24, e24⟩ := hQ24
  have N24 := Fr.app N23 Nq24
  have hd240 : v25 = v25 := rfl
  have hd252 : ¬ ((1 : Int32) = (0 : Int32)) := by decide
  refine own_run (g' := (mkF m 257 #[.val (.long q0), .second, .val (.long q1), .second, .val (.long q2), .second, .val (.int p3), .val (.int v2), .val (.int v9), .val (.int v13), .val (.int v20), .val (.int v25), .val (.int v33), .val (.int p3), .val (.ref b1), .val (.ref b9), .val (.ref b14), .val (.ref b16), .val (.int (1 : Int32))] [(.ref b16)])) (fun _ kt => XS.iload X24.here hx rfl (hb hby at_238) rfl (XS.icmpNo X24.here hx rfl (hb hby at_240) rfl ((teq hd240).2) (XS.iconst X24.here hx rfl (hb hby at_243) (XS.goto X24.here hx rfl (pc0 := 244) (pc' := 248) rfl (hb hby at_244) (by decide) (by decide) (XS.istore X24.here hx rfl (hb hby at_248) rfl (l' := #[.val (.long q0), .second, .val (.long q1), .second, .val (.long q2), .second, .val (.int p3), .val (.int v2), .val (.int v9), .val (.int v13), .val (.int v20), .val (.int v25), .val (.int v33), .val (.int p3), .val (.ref b1), .val (.ref b9), .val (.ref b14), .val (.ref b16), .val (.int (1 : Int32))]) rfl (XS.iload X24.here hx rfl (hb hby at_250) rfl (XS.ifNo X24.here hx rfl (hb hby at_252) rfl ((if0 _ _).trans (feq hd252).1) (XS.aload X24.here hx rfl (hb hby at_255) rfl rfl (kt))))))))) ?_
  refine own_run (g' := (mkF m 259 #[.val (.long q0), .second, .val (.long q1), .second, .val (.long q2), .second, .val (.int p3), .val (.int v2), .val (.int v9), .val (.int v13), .val (.int v20), .val (.int v25), .val (.int v33), .val (.int p3), .val (.ref b1), .val (.ref b9), .val (.ref b14), .val (.ref b16), .val (.int (1 : Int32))] [(.int (0 : Int32)), (.int (2 : Int32)), (.ref b16)])) (fun _ kt => XS.iconst X24.here hx rfl (hb hby at_257) (XS.iconst X24.here hx rfl (hb hby at_258) (kt))) ?_
  refine own_callV (b := b16) X24 hx hZ hown (hw _ (List.mem_of_getElem? (i := 48) rfl)) (hw _ (List.mem_of_getElem? (i := 49) rfl)) (hw _ (List.mem_of_getElem? (i := 51) rfl)) (hw _ (List.mem_of_getElem? (i := 50) rfl)) (hw _ (List.mem_of_getElem? (i := 29) rfl)) (hw _ (List.mem_of_getElem? (i := 52) rfl)) (by decide) K16 (rm6 l Z a0 hw [] b16 (2 : Int32) (0 : Int32) b1 b9 (7 : Int32) (4 : Int32) [v2, v9, v13, v20, v25, v33, p3] [(0 : Int32), (2 : Int32), (5 : Int32), (7 : Int32)] (5 : Int32) v33 T19.heap n0 F19_5 F19_1 A8 A13 (by decide) rfl (by decide) rfl) e24 (by decide) (by decide) (by decide) (by decide) (by rw [hml]; rfl) (argsL := [(.int (2 : Int32)), (.int (0 : Int32))]) (rest := []) (lenOf own_pd2 rfl) rfl (W := 0) (Nat.le_of_eq rfl) (hb hby at_259) ?_
  intro T25 r25 L25 X25 hQ25
  obtain ⟨rfl, Nq25, e25⟩ := hQ25
  have N25 := Fr.app N24 Nq25
  have hd264 : v33 = v33 := rfl
  have hd276 : ¬ ((1 : Int32) = (0 : Int32)) := by decide
  refine own_run (g' := (mkF m 281 #[.val (.long q0), .second, .val (.long q1), .second, .val (.long q2), .second, .val (.int p3), .val (.int v2), .val (.int v9), .val (.int v13), .val (.int v20), .val (.int v25), .val (.int v33), .val (.int p3), .val (.ref b1), .val (.ref b9), .val (.ref b14), .val (.ref b16), .val (.int (1 : Int32))] [(.ref b16)])) (fun _ kt => XS.iload X25.here hx rfl (hb hby at_262) rfl (XS.icmpNo X25.here hx rfl (hb hby at_264) rfl ((teq hd264).2) (XS.iconst X25.here hx rfl (hb hby at_267) (XS.goto X25.here hx rfl (pc0 := 268) (pc' := 272) rfl (hb hby at_268) (by decide) (by decide) (XS.istore X25.here hx rfl (hb hby at_272) rfl (l' := #[.val (.long q0), .second, .val (.long q1), .second, .val (.long q2), .second, .val (.int p3), .val (.int v2), .val (.int v9), .val (.int v13), .val (.int v20), .val (.int v25), .val (.int v33), .val (.int p3), .val (.ref b1), .val (.ref b9), .val (.ref b14), .val (.ref b16), .val (.int (1 : Int32))]) rfl (XS.iload X25.here hx rfl (hb hby at_274) rfl (XS.ifNo X25.here hx rfl (hb hby at_276) rfl ((if0 _ _).trans (feq hd276).1) (XS.aload X25.here hx rfl (hb hby at_279) rfl rfl (kt))))))))) ?_
  refine own_run (g' := (mkF m 283 #[.val (.long q0), .second, .val (.long q1), .second, .val (.long q2), .second, .val (.int p3), .val (.int v2), .val (.int v9), .val (.int v13), .val (.int v20), .val (.int v25), .val (.int v33), .val (.int p3), .val (.ref b1), .val (.ref b9), .val (.ref b14), .val (.ref b16), .val (.int (1 : Int32))] [(.int (1 : Int32)), (.int (2 : Int32)), (.ref b16)])) (fun _ kt => XS.iconst X25.here hx rfl (hb hby at_281) (XS.iconst X25.here hx rfl (hb hby at_282) (kt))) ?_
  refine own_callV (b := b16) X25 hx hZ hown (hw _ (List.mem_of_getElem? (i := 48) rfl)) (hw _ (List.mem_of_getElem? (i := 49) rfl)) (hw _ (List.mem_of_getElem? (i := 51) rfl)) (hw _ (List.mem_of_getElem? (i := 50) rfl)) (hw _ (List.mem_of_getElem? (i := 29) rfl)) (hw _ (List.mem_of_getElem? (i := 52) rfl)) (by decide) K16 (rm6 l Z a0 hw [] b16 (2 : Int32) (1 : Int32) b1 b9 (7 : Int32) (4 : Int32) [v2, v9, v13, v20, v25, v33, p3] [(0 : Int32), (2 : Int32), (5 : Int32), (7 : Int32)] (5 : Int32) p3 T19.heap n0 F19_5 F19_1 A8 A13 (by decide) rfl (by decide) rfl) e25 (by decide) (by decide) (by decide) (by decide) (by rw [hml]; rfl) (argsL := [(.int (2 : Int32)), (.int (1 : Int32))]) (rest := []) (lenOf own_pd2 rfl) rfl (W := 0) (Nat.le_of_eq rfl) (hb hby at_283) ?_
  intro T26 r26 L26 X26 hQ26
  obtain ⟨rfl, Nq26, e26⟩ := hQ26
  have N26 := Fr.app N25 Nq26
  have hd288 : p3 = p3 := rfl
  refine own_run (g' := (mkF m 300 #[.val (.long q0), .second, .val (.long q1), .second, .val (.long q2), .second, .val (.int p3), .val (.int v2), .val (.int v9), .val (.int v13), .val (.int v20), .val (.int v25), .val (.int v33), .val (.int p3), .val (.ref b1), .val (.ref b9), .val (.ref b14), .val (.ref b16), .val (.int (1 : Int32))] [(.int (1 : Int32))])) (fun _ kt => XS.iload X26.here hx rfl (hb hby at_286) rfl (XS.icmpNo X26.here hx rfl (hb hby at_288) rfl ((teq hd288).2) (XS.iconst X26.here hx rfl (hb hby at_291) (XS.goto X26.here hx rfl (pc0 := 292) (pc' := 296) rfl (hb hby at_292) (by decide) (by decide) (XS.istore X26.here hx rfl (hb hby at_296) rfl (l' := #[.val (.long q0), .second, .val (.long q1), .second, .val (.long q2), .second, .val (.int p3), .val (.int v2), .val (.int v9), .val (.int v13), .val (.int v20), .val (.int v25), .val (.int v33), .val (.int p3), .val (.ref b1), .val (.ref b9), .val (.ref b14), .val (.ref b16), .val (.int (1 : Int32))]) rfl (XS.iload X26.here hx rfl (hb hby at_298) rfl (kt))))))) ?_
  exact own_retN (t := .boolean) X26 hx Bd.notSynchronized Bd.returns (by simp) (hb hby at_300) (by decide) (by decide) ⟨rfl, N26⟩
set_option maxRecDepth 65536 in
set_option maxHeartbeats 40000000 in
theorem comes_1 {Post : Tables → Env → Array Value → State → Outcome → State → Prop} (hpost : ∀ tb e args s v u, (limb_1_1.after args s (.returned v) u = true ∧ limb_1_2.after args s (.returned v) u = true ∧ True) → FrameEnd s (.returned v) u (Jvm.fieldLocs frame_1_writes args s ++ Jvm.arrayLocs frame_1_arrays args s ++ Jvm.staticLocs frame_1_statics s) 24 128 → Post tb e args s (.returned v) u) :
    ArmFor flags0 classFile x code maxLocals ret World_1 tables_1 room_1 Calls_1 rest_1 Pre_1 Post := by
  intro l hfl _ _ p e ha hc hk s m args below hf hA hF happ hP
  obtain ⟨hcalls, hrest, hpre⟩ := hP
  obtain ⟨-, -, -, hnamed, -, -, -, hat⟩ := (Spec.applies_iff hf).mp happ
  obtain ⟨hg, hn⟩ := and_e (Cond.before_iff.mp (show (Jvm.Cond.and given_1 narrow_1).before args s = true from hpre))
  obtain ⟨hcnt, g0⟩ := and_e hg
  obtain ⟨k0, g1⟩ := and_e g0
  obtain ⟨k1, g2⟩ := and_e g1
  obtain ⟨k2, g3⟩ := and_e g2
  obtain ⟨w0, w1, w2, w3, rfl⟩ : ∃ w0 w1 w2 w3 : Value, args = #[w0, w1, w2, w3] := by
    have hs : args.size = 4 := by simpa [Cond.value, given_1] using hcnt
    obtain ⟨L⟩ := args
    match L, hs with
    | [w0, w1, w2, w3], _ => exact ⟨w0, w1, w2, w3, rfl⟩
  have hw := fun d (hd : d ∈ tables_1) => atoms_spec (ws := Jvm.Cond.code x code maxLocals ret :: tables_1) hat d (List.mem_cons_of_mem _ hd)
  obtain ⟨hsets, hown0⟩ := atoms_of _ (rest_1_c_eq ▸ (show rest_1_c.before _ s = true from hrest))
  obtain ⟨u0, eu0⟩ := exa_v (Cond.before_iff.mp (hsets _ (List.mem_of_getElem? (i := 7) rfl)))
  have S0 : Sta s s.heap "java/util/ArrayList" "DEFAULTCAPACITY_EMPTY_ELEMENTDATA" "[Ljava/lang/Object;" (.ref u0) := Sta.start eu0 (Or.inr ⟨hw _ (List.mem_of_getElem? (i := 3) rfl), hsets _ (List.mem_of_getElem? (i := 2) rfl)⟩)
  obtain ⟨i0, ei0⟩ := isL_v k0
  obtain rfl : w0 = (.long i0) := Option.some.inj ei0
  obtain ⟨i1, ei1⟩ := isL_v k1
  obtain rfl : w1 = (.long i1) := Option.some.inj ei1
  obtain ⟨i2, ei2⟩ := isL_v k2
  obtain rfl : w2 = (.long i2) := Option.some.inj ei2
  obtain ⟨i3, ei3⟩ := is_v g3
  obtain rfl : w3 = (.int i3) := Option.some.inj ei3
  obtain ⟨n, o, h1, h2, h3, _, L, rfl, ⟨rfl, N⟩, hq⟩ := rm0 l s _ hw tables_1 i0 i1 i2 i3 u0 s.heap s.heap.size (Nat.le_refl _) S0 p e ha hc hk s m _ below hf ((Spec.applies_iff_loose hf).mp happ).1 ⟨rfl, State.Warmed39.refl s, rfl⟩ trivial
  refine ⟨n, _, h1, h2, h3, hpost _ _ _ _ _ _ ⟨Cond.after_iff.mpr rfl, Cond.after_iff.mpr (eq_i res_at (Term.int_eval (1)) rfl), trivial⟩ ⟨hq.1, hq.2.1, (hq.2.2.sift fun y hy => Or.inr (N y hy)).mono (by decide) (by decide)⟩⟩
theorem main_1_1 : Claimed_1_1 := comes_1 fun _ _ _ _ _ _ h hF => ⟨h.1, hF⟩
theorem main_1_2 : Claimed_1_2 := comes_1 fun _ _ _ _ _ _ h hF => ⟨h.2.1, hF⟩
end Jvm.Pilot.@@N@@
namespace Jvm.Pilot.@@N@@
open Jvm Jvm.ClassFile Sem Op Lib Jvm.Free Jvm.Stand Jvm.Pilot.@@N@@.Jvm.D
/-! MADE BY PROGRAM (witnessworld.py) out of the Statement's table words and the real class files: 18 classes; the members and pool entries that the words name. The judged class is class 1, her method 1. -/
namespace start1
open Jvm.ClassFile
def u (s : String) : CpInfo := .utf8 (stringToUtf16 s)
/-- a pool by its gaps: so many unusable entries, then the entry; so many at the end -/
def gap : Nat → List CpInfo → List CpInfo
  | 0, r => r
  | n + 1, r => .unusable :: gap n r
def poolList (es : List (Nat × CpInfo)) (last : Nat) : List CpInfo := es.foldr (fun e r => gap e.1 (e.2 :: r)) (gap last [])
def pool (es : List (Nat × CpInfo)) (last : Nat) : Array CpInfo := ⟨poolList es last⟩
def fileOf (pool : Array CpInfo) (this : Nat) (attrs : Array Attribute := #[]) (ms : Array MethodInfo := #[]) (fl : Nat := 33) (sup : Nat := 0) (ifs : Array Nat := #[]) (fds : Array FieldInfo := #[]) : ClassFile where
  minorVersion := 0
  majorVersion := 65
  constantPool := pool
  accessFlags := fl
  thisClass := this
  superClass := sup
  interfaces := ifs
  fields := fds
  methods := ms
  attributes := attrs
def plain (name : String) (sup : Option ClassId) : Class where
  name := name
  kind := .ordinary
  loader := none
  accessFlags := 33
  super := sup
  interfaces := #[]
  cf := none
  fields := #[]
  methods := #[]
  instanceTypes := #[]
  staticTypes := #[]
  resolved := #[]
  callSites := []
  init := .initialized
  statics := none
  mirror := none

def pool0 : Array CpInfo := pool [(5, u "<init>"), (0, u "()V"), (1, .class_ 10), (1, u "java/lang/Object")] 113

def k0c0 : Code := { maxStack := 0, maxLocals := 1, code := object_method_1_code, exceptionTable := #[], attributes := #[] }
def k0m0 : Method := { name := "<init>", desc := "()V", sig := { parameters := [], returnType := none }, accessFlags := 1, code := some k0c0 }
/-- java/lang/Object -/
def k0 : Class := { plain "java/lang/Object" none with
  accessFlags := 33
  interfaces := #[]
  cf := some (fileOf pool0 8 #[] #[{ accessFlags := 1, nameIndex := 5, descriptorIndex := 6, attributes := #[] }] 33 0 #[] #[])
  fields := #[]
  methods := #[k0m0]
  instanceTypes := #[]
  staticTypes := #[]
  resolved := Array.replicate 124 none
  statics := none }

def pool1 : Array CpInfo := pool [(2, .class_ 4), (0, .nameAndType 5 6), (0, u "java/lang/Object"), (0, u "<init>"), (0, u "()V"), (0, .class_ 8), (0, u "java/util/ArrayList"), (0, .methodref 7 3), (0, .class_ 11), (0, u "com/example/lugha/lugha/concepts/PageGroups"), (0, .methodref 10 13), (0, .nameAndType 5 14), (0, u "(Ljava/util/List;[ILjava/util/List;[I[I[II)V"), (0, .methodref 10 16), (0, .nameAndType 17 18), (0, u "groupOf"), (0, u "(II)I"), (0, .class_ 20), (0, u "com/example/lugha/lugha/concepts/PageGroupsGroupOfPinLaw"), (2, u "law"), (0, u "(JJJI)Z")] 7

def k1m0 : Method := { name := "<init>", desc := "()V", sig := { parameters := [], returnType := none }, accessFlags := 1, code := none }
def k1c1 : Code := { maxStack := 9, maxLocals := 19, code := code, exceptionTable := #[], attributes := #[] }
def k1m1 : Method := { name := "law", desc := "(JJJI)Z", sig := { parameters := [.long, .long, .long, .int], returnType := some .boolean }, accessFlags := 9, code := some k1c1 }
/-- com/example/lugha/lugha/concepts/PageGroupsGroupOfPinLaw -/
def k1 : Class := { plain "com/example/lugha/lugha/concepts/PageGroupsGroupOfPinLaw" (some 0) with
  accessFlags := 49
  interfaces := #[]
  cf := some (fileOf pool1 19 #[] #[{ accessFlags := 1, nameIndex := 5, descriptorIndex := 6, attributes := #[] }, { accessFlags := 9, nameIndex := 23, descriptorIndex := 24, attributes := #[] }] 49 2 #[] #[])
  fields := #[]
  methods := #[k1m0, k1m1]
  instanceTypes := #[]
  staticTypes := #[]
  resolved := Array.replicate 32 none
  statics := none }

def pool2 : Array CpInfo := pool [(8, .class_ 10), (1, u "java/lang/Iterable"), (24, .class_ 36), (0, u "java/lang/Object")] 25

/-- java/lang/Iterable -/
def k2 : Class := { plain "java/lang/Iterable" (some 0) with
  accessFlags := 1537
  interfaces := #[]
  cf := some (fileOf pool2 8 #[] #[] 1537 35 #[] #[])
  fields := #[]
  methods := #[]
  instanceTypes := #[]
  staticTypes := #[]
  resolved := Array.replicate 62 none
  statics := none }

def pool3 : Array CpInfo := pool [(10, .class_ 12), (1, u "java/util/Collection"), (47, .class_ 61), (0, u "java/lang/Object"), (0, .class_ 63), (0, u "java/lang/Iterable")] 51

/-- java/util/Collection -/
def k3 : Class := { plain "java/util/Collection" (some 0) with
  accessFlags := 1537
  interfaces := #[2]
  cf := some (fileOf pool3 10 #[] #[] 1537 60 #[62] #[])
  fields := #[]
  methods := #[]
  instanceTypes := #[]
  staticTypes := #[]
  resolved := Array.replicate 115 none
  statics := none }

def pool4 : Array CpInfo := pool [(1, .methodref 2 3), (0, .class_ 4), (0, .nameAndType 5 6), (0, u "java/lang/Object"), (0, u "<init>"), (0, u "()V"), (1, .class_ 10), (1, u "java/util/AbstractCollection"), (66, .class_ 78), (0, u "java/util/Collection")] 81

def k4c0 : Code := { maxStack := 1, maxLocals := 1, code := jdk_22_method_1_code, exceptionTable := #[], attributes := #[] }
def k4m0 : Method := { name := "<init>", desc := "()V", sig := { parameters := [], returnType := none }, accessFlags := 4, code := some k4c0 }
/-- java/util/AbstractCollection -/
def k4 : Class := { plain "java/util/AbstractCollection" (some 0) with
  accessFlags := 1057
  interfaces := #[3]
  cf := some (fileOf pool4 8 #[] #[{ accessFlags := 4, nameIndex := 5, descriptorIndex := 6, attributes := #[] }] 1057 2 #[77] #[])
  fields := #[]
  methods := #[k4m0]
  instanceTypes := #[]
  staticTypes := #[]
  resolved := Array.replicate 160 none
  statics := none }

def pool5 : Array CpInfo := pool [(8, .class_ 10), (1, u "java/util/SequencedCollection"), (15, .class_ 27), (0, u "java/lang/Object"), (0, .class_ 29), (0, u "java/util/Collection")] 27

/-- java/util/SequencedCollection -/
def k5 : Class := { plain "java/util/SequencedCollection" (some 0) with
  accessFlags := 1537
  interfaces := #[3]
  cf := some (fileOf pool5 8 #[] #[] 1537 26 #[28] #[])
  fields := #[]
  methods := #[]
  instanceTypes := #[]
  staticTypes := #[]
  resolved := Array.replicate 57 none
  statics := none }

def pool6 : Array CpInfo := pool [(8, .class_ 10), (1, u "java/util/List"), (92, .class_ 104), (0, u "java/lang/Object"), (15, .class_ 121), (0, u "java/util/SequencedCollection")] 129

/-- java/util/List -/
def k6 : Class := { plain "java/util/List" (some 0) with
  accessFlags := 1537
  interfaces := #[5]
  cf := some (fileOf pool6 8 #[] #[] 1537 103 #[120] #[])
  fields := #[]
  methods := #[]
  instanceTypes := #[]
  staticTypes := #[]
  resolved := Array.replicate 251 none
  statics := none }

def pool7 : Array CpInfo := pool [(1, .methodref 2 3), (0, .class_ 4), (0, .nameAndType 5 6), (0, u "java/util/AbstractCollection"), (0, u "<init>"), (0, u "()V"), (0, .fieldref 8 9), (0, .class_ 10), (0, .nameAndType 11 12), (0, u "java/util/AbstractList"), (0, u "modCount"), (0, u "I"), (64, .class_ 78), (0, u "java/util/AbstractList$Itr"), (3, .class_ 83), (0, u "java/util/AbstractList$ListItr"), (9, .class_ 94), (0, u "java/util/AbstractList$RandomAccessSubList"), (3, .class_ 99), (0, u "java/util/AbstractList$SubList"), (33, .class_ 134), (0, u "java/util/List"), (73, .class_ 209), (0, u "java/util/AbstractList$SubList$1"), (0, .class_ 211), (0, u "java/util/AbstractList$RandomAccessSpliterator")] 6

def k7c0 : Code := { maxStack := 2, maxLocals := 1, code := jdk_39_method_1_code, exceptionTable := #[], attributes := #[] }
def k7m0 : Method := { name := "<init>", desc := "()V", sig := { parameters := [], returnType := none }, accessFlags := 4, code := some k7c0 }
/-- java/util/AbstractList -/
def k7 : Class := { plain "java/util/AbstractList" (some 4) with
  accessFlags := 1057
  interfaces := #[6]
  cf := some (fileOf pool7 8 #[.nestMembers #[93, 98, 208, 210, 82, 77]] #[{ accessFlags := 4, nameIndex := 5, descriptorIndex := 6, attributes := #[] }] 1057 2 #[133] #[{ accessFlags := 132, nameIndex := 11, descriptorIndex := 12, attributes := #[] }])
  fields := #[{ name := "modCount", type := .int, accessFlags := 132, slot := 0, constantValue := 0 }]
  methods := #[k7m0]
  instanceTypes := #[.int]
  staticTypes := #[]
  resolved := Array.replicate 218 none
  statics := none }

def pool8 : Array CpInfo := pool [(1, .class_ 2), (0, u "java/util/RandomAccess"), (0, .class_ 4), (0, u "java/lang/Object")] 2

/-- java/util/RandomAccess -/
def k8 : Class := { plain "java/util/RandomAccess" (some 0) with
  accessFlags := 1537
  interfaces := #[]
  cf := some (fileOf pool8 1 #[] #[] 1537 3 #[] #[])
  fields := #[]
  methods := #[]
  instanceTypes := #[]
  staticTypes := #[]
  resolved := Array.replicate 7 none
  statics := none }

def pool9 : Array CpInfo := pool [(1, .class_ 2), (0, u "java/lang/Cloneable"), (0, .class_ 4), (0, u "java/lang/Object")] 2

/-- java/lang/Cloneable -/
def k9 : Class := { plain "java/lang/Cloneable" (some 0) with
  accessFlags := 1537
  interfaces := #[]
  cf := some (fileOf pool9 1 #[] #[] 1537 3 #[] #[])
  fields := #[]
  methods := #[]
  instanceTypes := #[]
  staticTypes := #[]
  resolved := Array.replicate 7 none
  statics := none }

def pool10 : Array CpInfo := pool [(1, .class_ 2), (0, u "java/io/Serializable"), (0, .class_ 4), (0, u "java/lang/Object")] 2

/-- java/io/Serializable -/
def k10 : Class := { plain "java/io/Serializable" (some 0) with
  accessFlags := 1537
  interfaces := #[]
  cf := some (fileOf pool10 1 #[] #[] 1537 3 #[] #[])
  fields := #[]
  methods := #[]
  instanceTypes := #[]
  staticTypes := #[]
  resolved := Array.replicate 7 none
  statics := none }

def pool11 : Array CpInfo := pool [(1, .methodref 2 3), (0, .class_ 4), (0, .nameAndType 5 6), (0, u "java/util/AbstractList"), (0, u "<init>"), (0, u "()V"), (2, .fieldref 10 11), (0, .class_ 12), (0, .nameAndType 13 14), (0, u "java/util/ArrayList"), (0, u "elementData"), (0, u "[Ljava/lang/Object;"), (2, u "EMPTY_ELEMENTDATA"), (21, .fieldref 10 40), (0, .nameAndType 41 14), (0, u "DEFAULTCAPACITY_EMPTY_ELEMENTDATA"), (8, u "size"), (0, u "I"), (96, .class_ 149), (0, u "java/util/List"), (112, .class_ 263), (0, u "java/util/ArrayList$ListItr"), (3, .class_ 268), (0, u "java/util/ArrayList$Itr"), (7, .class_ 277), (0, u "java/util/ArrayList$SubList"), (12, .class_ 291), (0, u "java/util/ArrayList$ArrayListSpliterator"), (37, .class_ 330), (0, u "java/util/RandomAccess"), (0, .class_ 332), (0, u "java/lang/Cloneable"), (0, .class_ 334), (0, u "java/io/Serializable"), (0, u "serialVersionUID"), (0, u "J"), (3, u "DEFAULT_CAPACITY"), (159, .class_ 501), (0, u "java/util/ArrayList$SubList$2"), (0, .class_ 503), (0, u "java/util/ArrayList$SubList$1")] 5

def k11c0 : Code := { maxStack := 2, maxLocals := 1, code := jdk_38_method_2_code, exceptionTable := #[], attributes := #[] }
def k11m0 : Method := { name := "<init>", desc := "()V", sig := { parameters := [], returnType := none }, accessFlags := 1, code := some k11c0 }
/-- java/util/ArrayList -/
def k11 : Class := { plain "java/util/ArrayList" (some 7) with
  accessFlags := 33
  interfaces := #[6, 8, 9, 10]
  cf := some (fileOf pool11 10 #[.nestMembers #[290, 276, 500, 502, 262, 267]] #[{ accessFlags := 1, nameIndex := 5, descriptorIndex := 6, attributes := #[] }] 33 2 #[148, 329, 331, 333] #[{ accessFlags := 26, nameIndex := 335, descriptorIndex := 336, attributes := #[] }, { accessFlags := 26, nameIndex := 340, descriptorIndex := 51, attributes := #[] }, { accessFlags := 26, nameIndex := 17, descriptorIndex := 14, attributes := #[] }, { accessFlags := 26, nameIndex := 41, descriptorIndex := 14, attributes := #[] }, { accessFlags := 128, nameIndex := 13, descriptorIndex := 14, attributes := #[] }, { accessFlags := 2, nameIndex := 50, descriptorIndex := 51, attributes := #[] }])
  fields := #[{ name := "serialVersionUID", type := .long, accessFlags := 26, slot := 0, constantValue := 0 }, { name := "DEFAULT_CAPACITY", type := .int, accessFlags := 26, slot := 1, constantValue := 0 }, { name := "EMPTY_ELEMENTDATA", type := (.array (.object "java/lang/Object")), accessFlags := 26, slot := 2, constantValue := 0 }, { name := "DEFAULTCAPACITY_EMPTY_ELEMENTDATA", type := (.array (.object "java/lang/Object")), accessFlags := 26, slot := 3, constantValue := 0 }, { name := "elementData", type := (.array (.object "java/lang/Object")), accessFlags := 128, slot := 1, constantValue := 0 }, { name := "size", type := .int, accessFlags := 2, slot := 2, constantValue := 0 }]
  methods := #[k11m0]
  instanceTypes := #[.int, (.array (.object "java/lang/Object")), .int]
  staticTypes := #[.long, .int, (.array (.object "java/lang/Object")), (.array (.object "java/lang/Object"))]
  resolved := Array.replicate 509 none
  statics := some 0 }

def pool12 : Array CpInfo := pool [(1, .methodref 2 3), (0, .class_ 4), (0, .nameAndType 5 6), (0, u "java/lang/Object"), (0, u "<init>"), (0, u "()V"), (0, .fieldref 8 9), (0, .class_ 10), (0, .nameAndType 11 12), (0, u "com/example/lugha/lugha/concepts/PageGroups"), (0, u "tables"), (0, u "Ljava/util/List;"), (0, .fieldref 8 14), (0, .nameAndType 15 16), (0, u "offsets"), (0, u "[I"), (0, .fieldref 8 18), (0, .nameAndType 19 12), (0, u "ids"), (0, .fieldref 8 21), (0, .nameAndType 22 16), (0, u "ranges"), (0, .fieldref 8 24), (0, .nameAndType 25 16), (0, u "members"), (0, .fieldref 8 27), (0, .nameAndType 28 16), (0, u "groupOfPage"), (0, .fieldref 8 30), (0, .nameAndType 31 32), (0, u "fewLanguages"), (0, u "I"), (32, u "(II)I"), (26, u "(Ljava/util/List;[ILjava/util/List;[I[I[II)V"), (8, u "groupOf")] 9

def k12c0 : Code := { maxStack := 2, maxLocals := 8, code := prog_4_method_1_code, exceptionTable := #[], attributes := #[] }
def k12m0 : Method := { name := "<init>", desc := "(Ljava/util/List;[ILjava/util/List;[I[I[II)V", sig := { parameters := [(.object "java/util/List"), (.array .int), (.object "java/util/List"), (.array .int), (.array .int), (.array .int), .int], returnType := none }, accessFlags := 0, code := some k12c0 }
def k12c1 : Code := { maxStack := 3, maxLocals := 3, code := prog_4_method_5_code, exceptionTable := #[], attributes := #[] }
def k12m1 : Method := { name := "groupOf", desc := "(II)I", sig := { parameters := [.int, .int], returnType := some .int }, accessFlags := 0, code := some k12c1 }
/-- com/example/lugha/lugha/concepts/PageGroups -/
def k12 : Class := { plain "com/example/lugha/lugha/concepts/PageGroups" (some 0) with
  accessFlags := 48
  interfaces := #[]
  cf := some (fileOf pool12 8 #[] #[{ accessFlags := 0, nameIndex := 5, descriptorIndex := 92, attributes := #[] }, { accessFlags := 0, nameIndex := 101, descriptorIndex := 65, attributes := #[] }] 48 2 #[] #[{ accessFlags := 18, nameIndex := 11, descriptorIndex := 12, attributes := #[] }, { accessFlags := 18, nameIndex := 15, descriptorIndex := 16, attributes := #[] }, { accessFlags := 18, nameIndex := 19, descriptorIndex := 12, attributes := #[] }, { accessFlags := 18, nameIndex := 22, descriptorIndex := 16, attributes := #[] }, { accessFlags := 18, nameIndex := 25, descriptorIndex := 16, attributes := #[] }, { accessFlags := 18, nameIndex := 28, descriptorIndex := 16, attributes := #[] }, { accessFlags := 18, nameIndex := 31, descriptorIndex := 32, attributes := #[] }])
  fields := #[{ name := "tables", type := (.object "java/util/List"), accessFlags := 18, slot := 0, constantValue := 0 }, { name := "offsets", type := (.array .int), accessFlags := 18, slot := 1, constantValue := 0 }, { name := "ids", type := (.object "java/util/List"), accessFlags := 18, slot := 2, constantValue := 0 }, { name := "ranges", type := (.array .int), accessFlags := 18, slot := 3, constantValue := 0 }, { name := "members", type := (.array .int), accessFlags := 18, slot := 4, constantValue := 0 }, { name := "groupOfPage", type := (.array .int), accessFlags := 18, slot := 5, constantValue := 0 }, { name := "fewLanguages", type := .int, accessFlags := 18, slot := 6, constantValue := 0 }]
  methods := #[k12m0, k12m1]
  instanceTypes := #[(.object "java/util/List"), (.array .int), (.object "java/util/List"), (.array .int), (.array .int), (.array .int), .int]
  staticTypes := #[]
  resolved := Array.replicate 111 none
  statics := none }

/-- the primitive byte -/
def k13 : Class := { plain "byte" none with kind := .primitive 'B', accessFlags := 0x411 }
/-- [B -/
def k14 : Class := { plain "[B" (some 0) with kind := .array 13 .byte, interfaces := #[9, 10], accessFlags := 1041 }

/-- the primitive int -/
def k15 : Class := { plain "int" none with kind := .primitive 'I', accessFlags := 0x411 }
/-- [I -/
def k16 : Class := { plain "[I" (some 0) with kind := .array 15 .int, interfaces := #[9, 10], accessFlags := 1041 }

/-- [Ljava/lang/Object; -/
def k17 : Class := { plain "[Ljava/lang/Object;" (some 0) with kind := .array 0 (.object "java/lang/Object"), interfaces := #[9, 10], accessFlags := 1041 }

def heap : Heap := #[{ cls := 11, slots := #[.long 0, .int 0, .ref 1, .ref 2], vm := .statics 11 },
  { cls := 17, slots := #[], vm := .none },
  { cls := 17, slots := #[], vm := .none }]
def classes : Array Class := #[k0, k1, k2, k3, k4, k5, k6, k7, k8, k9, k10, k11, k12, k13, k14, k15, k16, k17]
def interned : List (Array UInt16 × Addr) := []
def slotsUsed : Nat := 4
def theMethod : MethodId := ⟨1, 1⟩
def args0 : Array Value := #[.long 7, .long 1, .long 2, .int 3]
def aboutOver (below : List Frame) : State where
  vm := { classes := classes, interned := interned.toArray }
  heap := heap
  slotsUsed := slotsUsed
  threads := #[{ frames := .invoking theMethod args0 :: below }]
def below0 : List Frame := [.native { method := ⟨0, 0⟩, args := #[] }]
def about1 : State := aboutOver below0
def p0 : Program := .bare "" "" ""
def e0 : Env := launch0.env 0 0 0
theorem w_frames : about1.frames = Frame.invoking theMethod args0 :: below0 := rfl
set_option maxRecDepth 65536 in
theorem w_args : argsFit about1.vm theMethod args0 = true := by decide +kernel
set_option maxRecDepth 65536 in
theorem w_heap : heapFits about1 = true := by decide +kernel
set_option maxRecDepth 65536 in
theorem w_runnable : about1.curStatus? = some .runnable := by decide +kernel
set_option maxRecDepth 65536 in
theorem w_alone : about1.alone = true := by decide +kernel
set_option maxRecDepth 65536 in
theorem w_named : about1.methodNamed? x = some theMethod := by decide +kernel
set_option maxRecDepth 65536 in
theorem w_hears : about1.hears theMethod below0 = true := by decide +kernel
set_option maxRecDepth 65536 in
theorem w_ripe : about1.ripe theMethod args0 below0 = true := by decide +kernel
theorem w_running : about1.status = .running := rfl
set_option maxRecDepth 65536 in
theorem w_room : about1.hasRoom e0.platform room_1 = true :=
  launch0.hasRoom_least _ room_1 (by decide +kernel) (by decide +kernel) (by decide +kernel) (by decide +kernel) (by decide +kernel) (by decide +kernel)
theorem allAtoms_all (ts : List Jvm.Cond) (a : Array Jvm.Value) (st : Jvm.State) : (allAtoms ts).before a st = ts.all (fun c => c.before a st) := by
  induction ts with
  | nil => rfl
  | cons c t ih =>
    show (Jvm.Cond.and c (allAtoms t)).before a st = _
    rw [Jvm.Cond.before_and, ih, List.all_cons]
def words1 : List Jvm.Cond := Jvm.Cond.code x code maxLocals ret :: tables_1
/-- a 'code' word, met by the world's own term for the bytes: nothing is compared byte by byte -/
theorem code_word {y : MethodName} {bytes : ByteArray} {mx : Nat} {rt : Option FieldType} {a : Array Value} {s : State} {m : MethodId} {meth : Method} {c : Code} (h1 : s.methodNamed? y = some m) (h2 : s.vm.method? m = some meth) (h3 : meth.code = some c) (h4 : c.code = bytes)
    (h5 : (c.maxLocals == mx && c.exceptionTable.isEmpty && decide (c.maxStack ≤ mostOperands) && decide (meth.sig.returnType = rt) && !meth.locks && decide (parseMethodDescriptor y.desc = some meth.sig)) = true) : (Jvm.Cond.code y bytes mx rt).before a s = true := by
  simp only [Bool.and_eq_true, beq_iff_eq, Bool.not_eq_true', decide_eq_true_eq] at h5
  obtain ⟨⟨⟨⟨⟨g1, g2⟩, g3⟩, g4⟩, g5⟩, g6⟩ := h5
  simp [Cond.before, Cond.holds, Cond.value, h1, h2, h3, h4, g1, g2, g3, g4, g5, g6]
def isCode : Jvm.Cond → Bool
  | .code _ _ _ _ => true
  | _ => false
theorem all_split {L : List Jvm.Cond} {P : Jvm.Cond → Bool} (h1 : L.all (fun c => isCode c || P c) = true) (h2 : ∀ c ∈ L.filter isCode, P c = true) : L.all P = true := by
  refine List.all_eq_true.mpr fun c hc => ?_
  have h := List.all_eq_true.mp h1 c hc
  rcases Bool.eq_false_or_eq_true (isCode c) with hi | hi
  · exact h2 c (List.mem_filter.mpr ⟨hc, hi⟩)
  · simpa [hi] using h
set_option maxRecDepth 65536 in
theorem w_c0 : (Jvm.Cond.code x code maxLocals ret).before args0 about1 = true := code_word (m := ⟨1, 1⟩) (meth := k1m1) (c := k1c1) (by decide +kernel) rfl rfl rfl (by decide +kernel)
set_option maxRecDepth 65536 in
theorem w_c1 : (Jvm.Cond.code ({ cls := "java/util/ArrayList", name := "<init>", desc := "()V" } : Jvm.MethodName) jdk_38_method_2_code (1 : Nat) (Option.none : Option Jvm.ClassFile.FieldType)).before args0 about1 = true := code_word (m := ⟨11, 0⟩) (meth := k11m0) (c := k11c0) (by decide +kernel) rfl rfl rfl (by decide +kernel)
set_option maxRecDepth 65536 in
theorem w_c2 : (Jvm.Cond.code ({ cls := "java/util/AbstractList", name := "<init>", desc := "()V" } : Jvm.MethodName) jdk_39_method_1_code (1 : Nat) (Option.none : Option Jvm.ClassFile.FieldType)).before args0 about1 = true := code_word (m := ⟨7, 0⟩) (meth := k7m0) (c := k7c0) (by decide +kernel) rfl rfl rfl (by decide +kernel)
set_option maxRecDepth 65536 in
theorem w_c3 : (Jvm.Cond.code ({ cls := "java/util/AbstractCollection", name := "<init>", desc := "()V" } : Jvm.MethodName) jdk_22_method_1_code (1 : Nat) (Option.none : Option Jvm.ClassFile.FieldType)).before args0 about1 = true := code_word (m := ⟨4, 0⟩) (meth := k4m0) (c := k4c0) (by decide +kernel) rfl rfl rfl (by decide +kernel)
set_option maxRecDepth 65536 in
theorem w_c4 : (Jvm.Cond.code ({ cls := "java/lang/Object", name := "<init>", desc := "()V" } : Jvm.MethodName) object_method_1_code (1 : Nat) (Option.none : Option Jvm.ClassFile.FieldType)).before args0 about1 = true := code_word (m := ⟨0, 0⟩) (meth := k0m0) (c := k0c0) (by decide +kernel) rfl rfl rfl (by decide +kernel)
set_option maxRecDepth 65536 in
theorem w_c5 : (Jvm.Cond.code ({ cls := "com/example/lugha/lugha/concepts/PageGroups", name := "<init>", desc := "(Ljava/util/List;[ILjava/util/List;[I[I[II)V" } : Jvm.MethodName) prog_4_method_1_code (8 : Nat) (Option.none : Option Jvm.ClassFile.FieldType)).before args0 about1 = true := code_word (m := ⟨12, 0⟩) (meth := k12m0) (c := k12c0) (by decide +kernel) rfl rfl rfl (by decide +kernel)
set_option maxRecDepth 65536 in
theorem w_c6 : (Jvm.Cond.code ({ cls := "com/example/lugha/lugha/concepts/PageGroups", name := "groupOf", desc := "(II)I" } : Jvm.MethodName) prog_4_method_5_code (3 : Nat) (Option.some Jvm.ClassFile.FieldType.int)).before args0 about1 = true := code_word (m := ⟨12, 1⟩) (meth := k12m1) (c := k12c1) (by decide +kernel) rfl rfl rfl (by decide +kernel)
def codes1 : List Jvm.Cond := [Jvm.Cond.code x code maxLocals ret, Jvm.Cond.code ({ cls := "java/util/ArrayList", name := "<init>", desc := "()V" } : Jvm.MethodName) jdk_38_method_2_code (1 : Nat) (Option.none : Option Jvm.ClassFile.FieldType), Jvm.Cond.code ({ cls := "java/util/AbstractList", name := "<init>", desc := "()V" } : Jvm.MethodName) jdk_39_method_1_code (1 : Nat) (Option.none : Option Jvm.ClassFile.FieldType), Jvm.Cond.code ({ cls := "java/util/AbstractCollection", name := "<init>", desc := "()V" } : Jvm.MethodName) jdk_22_method_1_code (1 : Nat) (Option.none : Option Jvm.ClassFile.FieldType), Jvm.Cond.code ({ cls := "java/lang/Object", name := "<init>", desc := "()V" } : Jvm.MethodName) object_method_1_code (1 : Nat) (Option.none : Option Jvm.ClassFile.FieldType), Jvm.Cond.code ({ cls := "com/example/lugha/lugha/concepts/PageGroups", name := "<init>", desc := "(Ljava/util/List;[ILjava/util/List;[I[I[II)V" } : Jvm.MethodName) prog_4_method_1_code (8 : Nat) (Option.none : Option Jvm.ClassFile.FieldType), Jvm.Cond.code ({ cls := "com/example/lugha/lugha/concepts/PageGroups", name := "groupOf", desc := "(II)I" } : Jvm.MethodName) prog_4_method_5_code (3 : Nat) (Option.some Jvm.ClassFile.FieldType.int)]
set_option maxRecDepth 65536 in
theorem codes_eq : words1.filter isCode = codes1 := rfl
theorem w_codes : ∀ c ∈ words1.filter isCode, c.before args0 about1 = true := by
  rw [codes_eq]
  intro c hc
  simp only [codes1, List.mem_cons, List.not_mem_nil, or_false] at hc
  rcases hc with rfl | rfl | rfl | rfl | rfl | rfl | rfl
  · exact w_c0
  · exact w_c1
  · exact w_c2
  · exact w_c3
  · exact w_c4
  · exact w_c5
  · exact w_c6
set_option maxRecDepth 65536 in
theorem w_t1 : (words1.take 24).all (fun c => isCode c || c.before args0 about1) = true := by decide +kernel
set_option maxRecDepth 65536 in
theorem w_t2 : ((words1.drop 24).take 24).all (fun c => isCode c || c.before args0 about1) = true := by decide +kernel
set_option maxRecDepth 65536 in
theorem w_t3 : ((words1.drop 24).drop 24).all (fun c => isCode c || c.before args0 about1) = true := by decide +kernel
theorem w_tables : (allAtoms (Jvm.Cond.code x code maxLocals ret :: tables_1)).before args0 about1 = true := by
  rw [allAtoms_all]
  show words1.all (fun c => c.before args0 about1) = true
  refine all_split ?_ w_codes
  rw [← List.take_append_drop 24 words1, List.all_append, w_t1, ← List.take_append_drop 24 (words1.drop 24), List.all_append, w_t2, w_t3]
  rfl
set_option maxRecDepth 65536 in
theorem w_rest : rest_1_c.before args0 about1 = true := by decide +kernel
set_option maxRecDepth 65536 in
theorem w_case : (Jvm.Cond.and given_1 narrow_1).before args0 about1 = true := by decide +kernel
theorem w_applies : (headSpec (Jvm.Cond.code x code maxLocals ret :: tables_1) room_1).applies x e0.platform about1 = true :=
  (Spec.applies_iff w_frames).mpr ⟨w_running, w_runnable, w_alone, w_named, w_hears, w_ripe, w_room, w_tables⟩
theorem atStart : AtStart classFile x code maxLocals ret World_1 tables_1 room_1 Calls_1 rest_1 Pre_1 launch0 p0 e0 about1 theMethod args0 below0 :=
  ⟨lists_1, trivial, launch0.admits_env _ _ _, launch0.least_env, fairChoices_fair.cas, fairChoices_fair.clock, w_frames, w_args, w_heap, w_applies, trivial, w_rest, w_case⟩
end start1
theorem witness_1 : WitnessClaimed_1 := ⟨start1.p0, start1.e0, start1.about1, start1.theMethod, start1.args0, start1.below0, start1.atStart⟩
end Jvm.Pilot.@@N@@
