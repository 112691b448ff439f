import JvmDerived
import JvmDerived.Pilot.@@N@@Statement
import JvmDerived.Pilot.@@N@@Code
set_option linter.unusedVariables false
set_option linter.unusedSimpArgs false
@@BLOCK:NumsL.lean.txt@@
@@BLOCK:Masks.lean.txt@@
@@BLOCK:Nums.lean.txt@@
namespace Jvm.Pilot.@@N@@
open Jvm Jvm.ClassFile Sem Op Lib Jvm.Free Jvm.Stand Jvm.LawKit Jvm.RoadKit Bundle Jvm.Pilot.@@N@@.Jvm.D
section Own
variable {p : Program} {l : Launch} {e : Env} {R : Room} {s : State} {m : MethodId} {args : Array Value} {below : List Frame} {meth : Method} {c : Code} {T T' : State} {locs : List Loc} {cells slots : Nat} {Z : State} {h h' : Heap} {n0 : Nat} {a0 : Array Value} {CC SS : Nat} {Q : Option Value → Heap → List Loc → Prop} {g g' : JFrame} {pc : Nat} {Ls : Array Slot} {rest st : List Value}
/-- from here the run comes to its end, and Q holds there -/
def own_Run (p : Program) (e : Env) (below : List Frame) (s : State) (CC SS : Nat) (Q : Option Value → Heap → List Loc → Prop) (T : State) (g : JFrame) : Prop :=
  ∃ s₂ o, Steps p.tables e below (T.setTop g) s₂ ∧ s₂.status = .running ∧ Ended s₂ below o ∧ ∃ v L, o = .returned v ∧ Q v s₂.heap L ∧ FrameEnd s o s₂ L CC SS
theorem own_run (sp : ∀ t, Steps p.tables e below (T'.setTop g') t → Steps p.tables e below (T.setTop g) t) (r : own_Run p e below s CC SS Q T' g') : own_Run p e below s CC SS Q T g := by
  obtain ⟨s₂, o, h1, r⟩ := r; exact ⟨s₂, o, sp _ h1, r⟩
theorem own_enter {ml : Nat} (q : entryFrame m args ml = g) (r : own_Run p e below s CC SS Q T g) : ∃ s₂ o, Steps p.tables e below (T.setTop (entryFrame m args ml)) s₂ ∧ s₂.status = .running ∧ Ended s₂ below o ∧ ∃ v L, o = .returned v ∧ Q v s₂.heap L ∧ FrameEnd s o s₂ L CC SS := by rw [q]; exact r
theorem own_retN {t : FieldType} {z : Int32} (X : Stand p l e R s m args below meth c T locs cells slots) (hx : p.tables.exec = Jvm.exec) (hlk : meth.locks = false) (hret : meth.sig.returnType = some t) (ht : t = .boolean ∨ t = .byte ∨ t = .char ∨ t = .short) (hd : decode c.code pc = .ok (.ireturn, 1)) (hc : cells ≤ CC) (hs : slots ≤ SS) (q : Q (some (.int (nar t z))) T.heap locs) : own_Run p e below s CC SS Q T (mkF m pc Ls (.int z :: rest)) := by
  obtain ⟨fs, hr, hrun, hended, hW, hsame⟩ := X.leave (v := some (.int (nar t z))) (fun h => by rw [hret] at h; cases h) hlk
  exact ⟨_, _, retN X hx hret ht hd hr, hrun, hended, _, _, rfl, q, ⟨_, rfl⟩, hW, hsame.mono hc hs⟩
theorem own_retI {z : Int32} (X : Stand p l e R s m args below meth c T locs cells slots) (hx : p.tables.exec = Jvm.exec) (hlk : meth.locks = false) (hret : meth.sig.returnType = some .int) (hd : decode c.code pc = .ok (.ireturn, 1)) (hc : cells ≤ CC) (hs : slots ≤ SS) (q : Q (some (.int z)) T.heap locs) : own_Run p e below s CC SS Q T (mkF m pc Ls (.int z :: rest)) := by
  obtain ⟨fs, hr, hrun, hended, hW, hsame⟩ := X.leave (v := some (.int z)) (fun h => by rw [hret] at h; cases h) hlk
  refine ⟨_, _, ?_, hrun, hended, _, _, rfl, q, ⟨_, rfl⟩, hW, hsame.mono hc hs⟩
  have hm' : T.vm.method? m = some meth := X.method'
  have hn : narrow .int (.int z) = .int z := rfl
  show Steps p.tables e below (T.setTop { method := m, pc := pc, locals := Ls, stack := _ :: rest, locked := none }) _
  jvm_step X.here [X.here.top, hx, hd, hm', hret, hn]
  first | (intro acts; rw [hr _ acts rfl rfl rfl]) | rw [hr _ _ rfl rfl rfl]
  exact Steps.refl _
theorem own_retL {z : Int64} (X : Stand p l e R s m args below meth c T locs cells slots) (hx : p.tables.exec = Jvm.exec) (hlk : meth.locks = false) (hret : meth.sig.returnType = some .long) (hd : decode c.code pc = .ok (.lreturn, 1)) (hc : cells ≤ CC) (hs : slots ≤ SS) (q : Q (some (.long z)) T.heap locs) : own_Run p e below s CC SS Q T (mkF m pc Ls [.long z]) := by
  obtain ⟨fs, hr, hrun, hended, hW, hsame⟩ := X.leave (v := some (.long z)) (fun h => by rw [hret] at h; cases h) hlk
  exact ⟨_, _, X.lreturnOut hx hret hd hr, hrun, hended, _, _, rfl, q, ⟨_, rfl⟩, hW, hsame.mono hc hs⟩
theorem own_retV (X : Stand p l e R s m args below meth c T locs cells slots) (hx : p.tables.exec = Jvm.exec) (hlk : meth.locks = false) (hret : meth.sig.returnType = none) (hd : decode c.code pc = .ok (.return_, 1)) (hc : cells ≤ CC) (hs : slots ≤ SS) (q : Q none T.heap locs) : own_Run p e below s CC SS Q T (mkF m pc Ls []) := by
  obtain ⟨fs, hr, hrun, hended, hW, hsame⟩ := X.leave (v := none) (fun _ => rfl) hlk
  exact ⟨_, _, X.returnOut hx hret hd hr, hrun, hended, _, _, rfl, q, ⟨_, rfl⟩, hW, hsame.mono hc hs⟩
theorem own_retR {v : Value} {t : FieldType} (X : Stand p l e R s m args below meth c T locs cells slots) (hx : p.tables.exec = Jvm.exec) (hlk : meth.locks = false) (hret : meth.sig.returnType = some t) (ht : t.isReference = true) (hv : v.isRef = true) (hd : decode c.code pc = .ok (.areturn, 1)) (hc : cells ≤ CC) (hs : slots ≤ SS) (q : Q (some v) T.heap locs) : own_Run p e below s CC SS Q T (mkF m pc Ls (v :: rest)) := by
  obtain ⟨fs, hr, hrun, hended, hW, hsame⟩ := X.leave (v := some v) (fun h => by rw [hret] at h; cases h) hlk
  refine ⟨_, _, ?_, hrun, hended, _, _, rfl, q, ⟨_, rfl⟩, hW, hsame.mono hc hs⟩
  have hm' : T.vm.method? m = some meth := X.method'
  show Steps p.tables e below (T.setTop { method := m, pc := pc, locals := Ls, stack := _ :: rest, locked := none }) _
  jvm_step X.here [X.here.top, hx, hd, hm', hret, ht, hv]
  first | (intro acts; rw [hr _ acts rfl rfl rfl]) | rw [hr _ _ rfl rfl rfl]
  exact Steps.refl _
theorem own_clt {x y : Int64} (q : x < y) : ifCond.holds .lt (XT.cmpL x y) = true ∧ ifCond.holds .ge (XT.cmpL x y) = false := by
  have q' : XT.cmpL x y < 0 := (lw_lt x y).mpr q
  exact ⟨(if0 _ _).trans (tlt q').1, (if0 _ _).trans (tlt q').2.1⟩
theorem own_cnlt {x y : Int64} (q : ¬ x < y) : ifCond.holds .lt (XT.cmpL x y) = false ∧ ifCond.holds .ge (XT.cmpL x y) = true := by
  have q' : ¬ XT.cmpL x y < 0 := fun z => q ((lw_lt x y).mp z)
  exact ⟨(if0 _ _).trans (flt q').1, (if0 _ _).trans (flt q').2.1⟩
theorem own_cgt {x y : Int64} (q : y < x) : ifCond.holds .gt (XT.cmpL x y) = true ∧ ifCond.holds .le (XT.cmpL x y) = false := by
  have q' : 0 < XT.cmpL x y := (lw_gt x y).mpr q
  exact ⟨(if0 _ _).trans (tlt q').2.2.1, (if0 _ _).trans (tlt q').2.2.2⟩
theorem own_cngt {x y : Int64} (q : ¬ y < x) : ifCond.holds .gt (XT.cmpL x y) = false ∧ ifCond.holds .le (XT.cmpL x y) = true := by
  have q' : ¬ 0 < XT.cmpL x y := fun z => q ((lw_gt x y).mp z)
  exact ⟨(if0 _ _).trans (flt q').2.2.1, (if0 _ _).trans (flt q').2.2.2⟩
theorem own_ceq {x y : Int64} (q : x = y) : ifCond.holds .eq (XT.cmpL x y) = true ∧ ifCond.holds .ne (XT.cmpL x y) = false := by
  have q' : XT.cmpL x y = 0 := (lw_eq x y).mpr q
  exact ⟨(if0 _ _).trans (teq q').1, (if0 _ _).trans (teq q').2⟩
theorem own_cneq {x y : Int64} (q : ¬ x = y) : ifCond.holds .eq (XT.cmpL x y) = false ∧ ifCond.holds .ne (XT.cmpL x y) = true := by
  have q' : ¬ XT.cmpL x y = 0 := fun z => q ((lw_eq x y).mp z)
  exact ⟨(if0 _ _).trans (feq q').1, (if0 _ _).trans (feq q').2⟩
theorem own_rem (x y : Int32) : x - (x / y) * y = x % y := by
  have a := (x % y).toInt_lt; have b := (x % y).le_toInt
  rw [Int32.toInt_mod] at a b
  apply Int32.toInt_inj.mp
  rw [Int32.toInt_mod, Int32.toInt_sub, Int32.toInt_mul, Int32.toInt_div, Int.bmod_mul_bmod, Int.sub_bmod_bmod, Int.mul_comm, ← Int.tmod_def]
  exact Jvm.Kit.bmod32 b a
theorem own_irem {tb : Tables} [Ours tb] {e : Env} {below : List Frame} {T target : State} {m : MethodId} {c : Code} {g : JFrame} (h : At T m c below) (hx : tb.exec = Jvm.exec) (hg : g.method = m) {x y : Int32} {rest : List Value} (hd : decode c.code g.pc = .ok (.irem, 1)) (hs : g.stack = .int y :: .int x :: rest) (hy : y ≠ 0)
    (hr : Steps tb e below (T.setTop { g with pc := g.pc + 1, stack := .int (x % y) :: rest }) target) : Steps tb e below (T.setTop g) target := XS.irem h hx hg hd hs hy (by rw [own_rem]; exact hr)
theorem own_ldcI {own : String} {index : Nat} {x : Int32} (X : Stand p l e R s m args below meth c T locs cells slots) (hx : p.tables.exec = Jvm.exec) (hZ : Z.Warmed39 s.vm) (hown : s.vm.findClass own = some m.cls) (w : (Cond.constant own index x).before a0 Z = true) (hd : decode c.code pc = .ok (.ldc index, 2)) (k : own_Run p e below s CC SS Q T (mkF m (pc + 2) Ls (.int x :: rest))) : own_Run p e below s CC SS Q T (mkF m pc Ls rest) :=
  own_run (X.ldcInt hx hown (mvT hZ w) (g := mkF m pc Ls rest) rfl hd) k
theorem own_ldcwI {own : String} {index : Nat} {x : Int32} (X : Stand p l e R s m args below meth c T locs cells slots) (hx : p.tables.exec = Jvm.exec) (hZ : Z.Warmed39 s.vm) (hown : s.vm.findClass own = some m.cls) (w : (Cond.constant own index x).before a0 Z = true) (hd : decode c.code pc = .ok (.ldc_w index, 3)) (k : own_Run p e below s CC SS Q T (mkF m (pc + 3) Ls (.int x :: rest))) : own_Run p e below s CC SS Q T (mkF m pc Ls rest) :=
  own_run (X.ldcwInt hx hown (mvT hZ w) (g := mkF m pc Ls rest) rfl hd) k
theorem own_ldcL {own : String} {index : Nat} {x : Int64} (X : Stand p l e R s m args below meth c T locs cells slots) (hx : p.tables.exec = Jvm.exec) (hZ : Z.Warmed39 s.vm) (hown : s.vm.findClass own = some m.cls) (w : (Cond.constantLong own index x).before a0 Z = true) (hd : decode c.code pc = .ok (.ldc2_w index, 3)) (k : own_Run p e below s CC SS Q T (mkF m (pc + 3) Ls (.long x :: rest))) : own_Run p e below s CC SS Q T (mkF m pc Ls rest) :=
  own_run (X.ldc2Long hx hown (mvT hZ w) (g := mkF m pc Ls rest) rfl hd) k
/-- an array of ints or bytes: its length and what it holds -/
def own_A (Z : State) (h : Heap) (a : Addr) (ty : FieldType) (n : Int32) (xs : List Int32) : Prop :=
  xs.length = n.toNatClampNeg ∧ ∃ k, Arv Z h a k ty n (xs.map Value.int) (.int (0 : Int32))
variable {a b : Addr} {ty : FieldType} {n j x : Int32} {xs ys : List Int32} {sl : Nat} {v : Value} {ws : List Addr}
theorem own_A.lt (A : own_A Z h a ty n xs) : a < h.size := by obtain ⟨-, k, V⟩ := A; exact V.lt
theorem own_A.ext (A : own_A Z h a ty n xs) (E : Ext h h') : own_A Z h' a ty n xs := ⟨A.1, A.2.imp fun _ V => V.ext E⟩
theorem own_A.other (A : own_A Z h b ty n xs) (W : Wr h h' a sl v) (q : b ≠ a) : own_A Z h' b ty n xs := ⟨A.1, A.2.imp fun _ V => V.other W q⟩
theorem own_A.keep (A : own_A Z h a ty n xs) (K : Keep h h' ws) (q : a ∉ ws) : own_A Z h' a ty n xs := ⟨A.1, A.2.imp fun _ V => V.keep K q⟩
theorem own_A.nn (A : own_A Z h a ty n xs) : ¬ n < 0 := by obtain ⟨-, k, cl, -, -, -, q, -⟩ := A; exact q
theorem own_A.to (A : own_A Z h a ty n xs) (q : xs = ys) : own_A Z h a ty n ys := q ▸ A
theorem own_lt_clamp {j n : Int32} (hj : ¬ j < 0 ∧ j < n) : j.toNatClampNeg < n.toNatClampNeg := by
  obtain ⟨q1, q2⟩ := hj
  rw [Int32.lt_iff_toInt_lt] at q1 q2
  have e0 : (0 : Int32).toInt = 0 := rfl
  simp only [Int32.toNatClampNeg] at *; omega
theorem own_newA {aty : ArrayType} {cap : Nat} (X : Stand p l e R s m args below meth c T locs cells slots) (hx : p.tables.exec = Jvm.exec) (hZ : Z.Warmed39 s.vm) (w : (Cond.arrayClass (newarray.typeOf aty)).before a0 Z = true) (hty : newarray.typeOf aty = ty) (hdv : defaultValue ty = .int 0) (eT : T.heap = h) (hd : decode c.code pc = .ok (.newarray aty, 2)) (hn : ¬ n < 0) (hcap : n.toNatClampNeg ≤ cap) (hb : cap * 8 ≤ 536870912) (hc : cells + 1 ≤ R.cells) (hl : slots + cap ≤ R.slots)
    (k : ∀ T' h' b, b = h.size → Stand p l e R s m args below meth c T' locs (cells + 1) (slots + cap) → T'.heap = h' → Ext h h' → own_A Z h' b ty n (List.replicate n.toNatClampNeg 0) → own_Run p e below s CC SS Q T' (mkF m (pc + 2) Ls (.ref b :: rest))) :
    own_Run p e below s CC SS Q T (mkF m pc Ls (.int n :: rest)) := by
  obtain ⟨T', h', cA, X', e', E', A', sp⟩ := newP X hx hZ w eT (g := mkF m pc Ls (.int n :: rest)) rfl hd rfl hn hcap hb hc hl
  subst hty
  refine own_run sp (k T' h' _ rfl X' e' E' ⟨by simp, cA, ?_⟩)
  have V := Arv.new A' hn
  rw [hdv] at V
  have q := V.pad (pad_rep [] (.int 0) n.toNatClampNeg)
  simpa using q
theorem own_len (X : Stand p l e R s m args below meth c T locs cells slots) (hx : p.tables.exec = Jvm.exec) (hZ : Z.Warmed39 s.vm) (eT : T.heap = h) (A : own_A Z h a ty n xs) (hd : decode c.code pc = .ok (.arraylength, 1)) (k : own_Run p e below s CC SS Q T (mkF m (pc + 1) Ls (.int n :: rest))) : own_Run p e below s CC SS Q T (mkF m pc Ls (.ref a :: rest)) := by
  obtain ⟨hl, kk, cl, Ar, q1, Sz, Nn, H, G⟩ := A
  refine own_run (fun t kt => X.arraylength hx (by rw [eT]; exact Ar.1) (State.isArrayOf_alike hZ.alike Ar.2.1) (g := mkF m pc Ls (.ref a :: rest)) rfl rfl hd t (by rw [len_of Sz Nn]; exact kt)) k
theorem own_getD (xs : List Int32) (i : Nat) : (xs.map Value.int).getD i (.int 0) = .int (xs.getD i 0) := by
  simp only [List.getD_eq_getElem?_getD, List.getElem?_map]; cases xs[i]? <;> rfl
theorem own_ldI (X : Stand p l e R s m args below meth c T locs cells slots) (hx : p.tables.exec = Jvm.exec) (hZ : Z.Warmed39 s.vm) (eT : T.heap = h) (A : own_A Z h a .int n xs) (hj : ¬ j < 0 ∧ j < n) (hd : decode c.code pc = .ok (.iaload, 1)) (hv : xs.getD j.toNatClampNeg 0 = x) (k : own_Run p e below s CC SS Q T (mkF m (pc + 1) Ls (.int x :: rest))) : own_Run p e below s CC SS Q T (mkF m pc Ls (.int j :: .ref a :: rest)) := by
  obtain ⟨hl, kk, cl, Ar, q1, Sz, Nn, H, G⟩ := A
  have hin := inb_of Sz hj
  refine own_run (fun t kt => X.iaload hx (j := j) (v := .int x) (by rw [eT]; exact Ar.1) (State.isArrayOf_alike hZ.alike Ar.2.1) Ar.2.2 hin (H.at hin (by rw [own_getD, hv])) (g := mkF m pc Ls (.int j :: .ref a :: rest)) rfl rfl hd t kt) k
theorem own_ldB (X : Stand p l e R s m args below meth c T locs cells slots) (hx : p.tables.exec = Jvm.exec) (hZ : Z.Warmed39 s.vm) (eT : T.heap = h) (A : own_A Z h a .byte n xs) (hj : ¬ j < 0 ∧ j < n) (hd : decode c.code pc = .ok (.baload, 1)) (hv : xs.getD j.toNatClampNeg 0 = x) (k : own_Run p e below s CC SS Q T (mkF m (pc + 1) Ls (.int x :: rest))) : own_Run p e below s CC SS Q T (mkF m pc Ls (.int j :: .ref a :: rest)) := by
  obtain ⟨hl, kk, cl, Ar, q1, Sz, Nn, H, G⟩ := A
  have hin := inb_of Sz hj
  refine own_run (fun t kt => X.baloadBytes hx (j := j) (v := .int x) (by rw [eT]; exact Ar.1) (State.isArrayOf_alike hZ.alike Ar.2.1) Ar.2.2 hin (H.at hin (by rw [own_getD, hv])) (g := mkF m pc Ls (.int j :: .ref a :: rest)) rfl rfl hd t kt) k
theorem own_map_set (xs : List Int32) (i : Nat) (x : Int32) : (xs.map Value.int).set i (.int x) = (xs.set i x).map Value.int := by rw [List.map_set]
theorem own_stI (X : Stand p l e R s m args below meth c T locs cells slots) (hx : p.tables.exec = Jvm.exec) (hZ : Z.Warmed39 s.vm) (eT : T.heap = h) (A : own_A Z h a .int n xs) (hj : ¬ j < 0 ∧ j < n) (N : Fr n0 locs) (ga : n0 ≤ a) (hd : decode c.code pc = .ok (.iastore, 1)) (hys : xs.set j.toNatClampNeg x = ys)
    (k : ∀ T' h' locs', Stand p l e R s m args below meth c T' locs' cells slots → Fr n0 locs' → T'.heap = h' → Wr h h' a j.toNatClampNeg (.int x) → own_A Z h' a .int n ys → own_Run p e below s CC SS Q T' (mkF m (pc + 1) Ls rest)) : own_Run p e below s CC SS Q T (mkF m pc Ls (.int x :: .int j :: .ref a :: rest)) := by
  obtain ⟨hl, kk, cl, Ar, q1, Sz, Nn, H, G⟩ := A
  have hin := inb_of Sz hj
  obtain ⟨T', h', X', e', W, sp⟩ := stI X hx hZ eT Ar (j := j) (x := x) hin (g := mkF m pc Ls (.int x :: .int j :: .ref a :: rest)) rfl rfl hd
  have V := Arv.set Ar q1 Sz Nn H G (show fits .int (.int x) = true from rfl) W _ rfl (by rw [List.length_map, hl]; exact own_lt_clamp hj)
  refine own_run sp (k T' h' _ X' (Fr.snoc X' N ga) e' W ⟨by rw [← hys, List.length_set]; exact hl, kk, ?_⟩)
  rw [← hys, ← own_map_set]; exact V
theorem own_stB (X : Stand p l e R s m args below meth c T locs cells slots) (hx : p.tables.exec = Jvm.exec) (hZ : Z.Warmed39 s.vm) (eT : T.heap = h) (A : own_A Z h a .byte n xs) (hj : ¬ j < 0 ∧ j < n) (N : Fr n0 locs) (ga : n0 ≤ a) (hd : decode c.code pc = .ok (.bastore, 1)) (hys : xs.set j.toNatClampNeg (nar .byte x) = ys)
    (k : ∀ T' h' locs', Stand p l e R s m args below meth c T' locs' cells slots → Fr n0 locs' → T'.heap = h' → Wr h h' a j.toNatClampNeg (.int (nar .byte x)) → own_A Z h' a .byte n ys → own_Run p e below s CC SS Q T' (mkF m (pc + 1) Ls rest)) : own_Run p e below s CC SS Q T (mkF m pc Ls (.int x :: .int j :: .ref a :: rest)) := by
  obtain ⟨hl, kk, cl, Ar, q1, Sz, Nn, H, G⟩ := A
  have hin := inb_of Sz hj
  obtain ⟨T', h', X', e', W, sp⟩ := stB X hx hZ eT Ar (j := j) (x := x) hin (g := mkF m pc Ls (.int x :: .int j :: .ref a :: rest)) rfl rfl hd
  have V := Arv.set Ar q1 Sz Nn H G (fits_nar_byte x) W _ rfl (by rw [List.length_map, hl]; exact own_lt_clamp hj)
  refine own_run sp (k T' h' _ X' (Fr.snoc X' N ga) e' W ⟨by rw [← hys, List.length_set]; exact hl, kk, ?_⟩)
  rw [← hys, ← own_map_set]; exact V
/-- an array of which only the length is said -/
def own_L (Z : State) (h : Heap) (a : Addr) (n : Int32) : Prop := ∃ (ty : FieldType) (k : ClassId) (vs : List Value) (d : Value), Arv Z h a k ty n vs d
theorem own_L.lt (A : own_L Z h a n) : a < h.size := by obtain ⟨_, _, _, _, V⟩ := A; exact V.lt
theorem own_L.ext (A : own_L Z h a n) (E : Ext h h') : own_L Z h' a n := by obtain ⟨_, _, _, _, V⟩ := A; exact ⟨_, _, _, _, V.ext E⟩
theorem own_L.other (A : own_L Z h b n) (W : Wr h h' a sl v) (q : b ≠ a) : own_L Z h' b n := by obtain ⟨_, _, _, _, V⟩ := A; exact ⟨_, _, _, _, V.other W q⟩
theorem own_L.keep (A : own_L Z h a n) (K : Keep h h' ws) (q : a ∉ ws) : own_L Z h' a n := by obtain ⟨_, _, _, _, V⟩ := A; exact ⟨_, _, _, _, V.keep K q⟩
theorem own_A.toL (A : own_A Z h a ty n xs) : own_L Z h a n := by obtain ⟨-, k, V⟩ := A; exact ⟨_, _, _, _, V⟩
theorem own_newL {aty : ArrayType} {cap : Nat} (X : Stand p l e R s m args below meth c T locs cells slots) (hx : p.tables.exec = Jvm.exec) (hZ : Z.Warmed39 s.vm) (w : (Cond.arrayClass (newarray.typeOf aty)).before a0 Z = true) (eT : T.heap = h) (hd : decode c.code pc = .ok (.newarray aty, 2)) (hn : ¬ n < 0) (hcap : n.toNatClampNeg ≤ cap) (hb : cap * 8 ≤ 536870912) (hc : cells + 1 ≤ R.cells) (hl : slots + cap ≤ R.slots)
    (k : ∀ T' h' b, b = h.size → Stand p l e R s m args below meth c T' locs (cells + 1) (slots + cap) → T'.heap = h' → Ext h h' → own_L Z h' b n → own_Run p e below s CC SS Q T' (mkF m (pc + 2) Ls (.ref b :: rest))) :
    own_Run p e below s CC SS Q T (mkF m pc Ls (.int n :: rest)) := by
  obtain ⟨T', h', cA, X', e', E', A', sp⟩ := newP X hx hZ w eT (g := mkF m pc Ls (.int n :: rest)) rfl hd rfl hn hcap hb hc hl
  exact own_run sp (k T' h' _ rfl X' e' E' ⟨_, _, _, _, Arv.new A' hn⟩)
theorem own_lenL (X : Stand p l e R s m args below meth c T locs cells slots) (hx : p.tables.exec = Jvm.exec) (hZ : Z.Warmed39 s.vm) (eT : T.heap = h) (A : own_L Z h a n) (hd : decode c.code pc = .ok (.arraylength, 1)) (k : own_Run p e below s CC SS Q T (mkF m (pc + 1) Ls (.int n :: rest))) : own_Run p e below s CC SS Q T (mkF m pc Ls (.ref a :: rest)) := by
  obtain ⟨ty, kk, vs, d, cl, Ar, q1, Sz, Nn, H, G⟩ := A
  refine own_run (fun t kt => X.arraylength hx (by rw [eT]; exact Ar.1) (State.isArrayOf_alike hZ.alike Ar.2.1) (g := mkF m pc Ls (.ref a :: rest)) rfl rfl hd t (by rw [len_of Sz Nn]; exact kt)) k
/-- an array of references that holds nothing but null -/
def own_U (Z : State) (h : Heap) (a : Addr) (n : Int32) : Prop := ∃ (C : String) (k : ClassId), Arv Z h a k (.object C) n [] .null
theorem own_U.lt (A : own_U Z h a n) : a < h.size := by obtain ⟨_, _, V⟩ := A; exact V.lt
theorem own_U.ext (A : own_U Z h a n) (E : Ext h h') : own_U Z h' a n := by obtain ⟨_, _, V⟩ := A; exact ⟨_, _, V.ext E⟩
theorem own_U.toL (A : own_U Z h a n) : own_L Z h a n := by obtain ⟨_, _, V⟩ := A; exact ⟨_, _, _, _, V⟩
theorem own_newU {own K : String} {index cap : Nat} (X : Stand p l e R s m args below meth c T locs cells slots) (hx : p.tables.exec = Jvm.exec) (hZ : Z.Warmed39 s.vm) (hown : s.vm.findClass own = some m.cls) (w1 : (Cond.classLink own index K).before a0 Z = true) (w2 : (Cond.arrayOver (.object K)).before a0 Z = true) (eT : T.heap = h) (hd : decode c.code pc = .ok (.anewarray index, 3)) (hn : ¬ n < 0) (hcap : n.toNatClampNeg ≤ cap) (hb : cap * 8 ≤ 536870912) (hc : cells + 1 ≤ R.cells) (hl : slots + cap ≤ R.slots)
    (k : ∀ T' h' b, b = h.size → Stand p l e R s m args below meth c T' locs (cells + 1) (slots + cap) → T'.heap = h' → Ext h h' → own_U Z h' b n → own_Run p e below s CC SS Q T' (mkF m (pc + 3) Ls (.ref b :: rest))) :
    own_Run p e below s CC SS Q T (mkF m pc Ls (.int n :: rest)) := by
  obtain ⟨T', h', cA, X', e', E', A', -, sp⟩ := newR X hx hZ hown w1 w2 eT (g := mkF m pc Ls (.int n :: rest)) rfl hd rfl hn hcap hb hc hl
  exact own_run sp (k T' h' _ rfl X' e' E' ⟨_, _, Arv.new A' hn⟩)
theorem own_ldU (X : Stand p l e R s m args below meth c T locs cells slots) (hx : p.tables.exec = Jvm.exec) (hZ : Z.Warmed39 s.vm) (eT : T.heap = h) (A : own_U Z h a n) (hj : ¬ j < 0 ∧ j < n) (hd : decode c.code pc = .ok (.aaload, 1)) (k : own_Run p e below s CC SS Q T (mkF m (pc + 1) Ls (.null :: rest))) : own_Run p e below s CC SS Q T (mkF m pc Ls (.int j :: .ref a :: rest)) := by
  obtain ⟨C, kk, cl, Ar, q1, Sz, Nn, H, G⟩ := A
  have hin := inb_of Sz hj
  refine own_run (fun t kt => X.aaload hx (j := j) (v := .null) (by rw [eT]; exact Ar.1) (State.isArrayOf_alike hZ.alike Ar.2.1) rfl Ar.2.2 hin (H.at hin (by simp)) (g := mkF m pc Ls (.int j :: .ref a :: rest)) rfl rfl hd t kt) k
/-- new -/
theorem own_new {own K : String} {index sz : Nat} (X : Stand p l e R s m args below meth c T locs cells slots) (hx : p.tables.exec = Jvm.exec) (hZ : Z.Warmed39 s.vm) (hown : s.vm.findClass own = some m.cls) (w : (Cond.classLink own index K).before a0 Z = true) (wi : (Cond.instantiable K sz).before a0 Z = true) (wz : (Cond.initialized K).before a0 Z = true) (eT : T.heap = h) (hd : decode c.code pc = .ok (.new index, 3)) (hc : cells + 1 ≤ R.cells) (hl : slots + sz ≤ R.slots)
    (k : ∀ T' h' b, b = h.size → Stand p l e R s m args below meth c T' locs (cells + 1) (slots + sz) → T'.heap = h' → Ext h h' → Exa Z h' b K → (∀ {O nm d : String} {ty : FieldType}, Laid Z a0 K O nm d → parseFieldDescriptor d = some ty → Fld Z h' b O nm d (defaultValue ty)) → own_Run p e below s CC SS Q T' (mkF m (pc + 3) Ls (.ref b :: rest))) :
    own_Run p e below s CC SS Q T (mkF m pc Ls rest) := by
  obtain ⟨T', h', X', e', E', A', D', -, sp⟩ := newO X hx hZ hown w wi wz eT (g := mkF m pc Ls rest) rfl hd hc hl
  exact own_run sp (k T' h' _ rfl X' e' E' A' D')
theorem own_getF {own R0 O nm d host : String} {index : Nat} (X : Stand p l e R s m args below meth c T locs cells slots) (hx : p.tables.exec = Jvm.exec) (hZ : Z.Warmed39 s.vm) (hown : s.vm.findClass own = some m.cls) (w : (Cond.fieldLink own index R0 nm d).before a0 Z = true ∨ (Cond.fieldLinkNest own index R0 nm d host).before a0 Z = true) (via : Via Z R0 O nm d) (eT : T.heap = h) (F : Fld Z h a O nm d v) (hd : decode c.code pc = .ok (.getfield index, 3))
    (k : ∀ T', Stand p l e R s m args below meth c T' locs cells slots → T'.heap = h → own_Run p e below s CC SS Q T' (mkF m (pc + 3) Ls (v :: rest))) : own_Run p e below s CC SS Q T (mkF m pc Ls (.ref a :: rest)) := by
  obtain ⟨T', X', e', sp⟩ := getF X hx hZ hown w via eT F (g := mkF m pc Ls (.ref a :: rest)) rfl rfl hd
  exact own_run sp (k T' X' e')
theorem own_getS {own R0 O nm d : String} {index : Nat} (X : Stand p l e R s m args below meth c T locs cells slots) (hx : p.tables.exec = Jvm.exec) (hZ : Z.Warmed39 s.vm) (hown : s.vm.findClass own = some m.cls) (w : (Cond.fieldLink own index R0 nm d).before a0 Z = true) (via : Via Z R0 O nm d) (eT : T.heap = h) (F : Sta Z h O nm d v) (hd : decode c.code pc = .ok (.getstatic index, 3))
    (k : ∀ T', Stand p l e R s m args below meth c T' locs cells slots → T'.heap = h → own_Run p e below s CC SS Q T' (mkF m (pc + 3) Ls (v :: rest))) : own_Run p e below s CC SS Q T (mkF m pc Ls rest) := by
  obtain ⟨T', X', e', sp⟩ := getS (host := "") X hx hZ hown w via eT F (g := mkF m pc Ls rest) rfl hd
  exact own_run sp (k T' X' e')
theorem own_StaKeep {O nm d K : String} (F : Sta Z h O nm d v) (Kp : Keep h h' [a]) (E : Exa Z h a K) : Sta Z h' O nm d v := by
  obtain ⟨cf, i, k, f, st, cell, h1, h2, h3, h4, h5, h6, h7⟩ := F
  obtain ⟨cell', k', q1, -, -, q4, -⟩ := E
  have ne : st ≠ a := fun e => by subst e; cases h5.symm.trans q1; rw [h6] at q4; cases q4
  exact ⟨cf, i, k, f, st, cell, h1, h2, h3, h4, Kp.2.1 _ _ h5 (ninS ne nin0), h6, h7⟩
theorem own_StaKeepA {O nm d : String} (F : Sta Z h O nm d v) (Kp : Keep h h' [a]) (A : own_A Z h a ty n xs) : Sta Z h' O nm d v := by
  obtain ⟨cf, i, k, f, st, cell, h1, h2, h3, h4, h5, h6, h7⟩ := F
  obtain ⟨-, kk, cl, Ar, -⟩ := A
  have q4 := Ar.plain
  have ne : st ≠ a := fun e => by subst e; cases h5.symm.trans Ar.1; rw [h6] at q4; cases q4
  exact ⟨cf, i, k, f, st, cell, h1, h2, h3, h4, Kp.2.1 _ _ h5 (ninS ne nin0), h6, h7⟩
theorem own_putF {own R0 O nm d host K : String} {index kk : Nat} {old : Value} (X : Stand p l e R s m args below meth c T locs cells slots) (hx : p.tables.exec = Jvm.exec) (hZ : Z.Warmed39 s.vm) (hown : s.vm.findClass own = some m.cls) (w : (Cond.fieldLink own index R0 nm d).before a0 Z = true ∨ (Cond.fieldLinkNest own index R0 nm d host).before a0 Z = true) (via : Via Z R0 O nm d) (eT : T.heap = h) (F : Fld Z h a O nm d old) (E : Exa Z h a K) (L : (Cond.lays K O nm d).before a0 Z = true ∨ ((Cond.laysFinal K O nm d).before a0 Z = true ∧ own = O ∧ meth.name = "<init>")) (wi : (Cond.instantiable K kk).before a0 Z = true) (hty : parseFieldDescriptor d = some ty) (hn : narrow ty v = v) (hf : fits ty v = true) (N : Fr n0 locs) (ga : n0 ≤ a) (hd : decode c.code pc = .ok (.putfield index, 3))
    (k : ∀ T' h' locs', Stand p l e R s m args below meth c T' locs' cells slots → Fr n0 locs' → T'.heap = h' → Wr h h' a (Jvm.RoadKit.slotOf Z O nm d) v → Fld Z h' a O nm d v → own_Run p e below s CC SS Q T' (mkF m (pc + 3) Ls rest)) : own_Run p e below s CC SS Q T (mkF m pc Ls (v :: .ref a :: rest)) := by
  obtain ⟨T', h', X', e', W, sp⟩ := putF X hx hZ hown w via eT F E L wi hty hn hf (g := mkF m pc Ls (v :: .ref a :: rest)) rfl rfl hd
  exact own_run sp (k T' h' _ X' (Fr.snoc X' N ga) e' W (F.same W))
theorem own_initO {own : String} {index W : Nat} (X : Stand p l e R s m args below meth c T locs cells slots) (hx : p.tables.exec = Jvm.exec) (hZ : Z.Warmed39 s.vm) (hown : s.vm.findClass own = some m.cls) (w1 : (Cond.methodLink own index Lib.objectInit).before a0 Z = true) (w2 : (Cond.instanceMethod Lib.objectInit).before a0 Z = true) (w3 : (Cond.code Lib.objectInit ⟨#[0xb1]⟩ 1 none).before a0 Z = true) (eT : T.heap = h) (hsize : Ls.size = c.maxLocals) (hd : decode c.code pc = .ok (.invokespecial index, 3)) (hf : 1 ≤ R.frames) (hW : (rest.map fun v => v.category).sum ≤ W) (hl : W + 12 ≤ R.locals)
    (k : ∀ T', Stand p l e R s m args below meth c T' locs cells slots → T'.heap = h → own_Run p e below s CC SS Q T' (mkF m (pc + 3) Ls rest)) : own_Run p e below s CC SS Q T (mkF m pc Ls (.ref a :: rest)) := by
  obtain ⟨T', X', e', sp⟩ := initO X hx hZ hown w1 w2 w3 eT (g := mkF m pc Ls (.ref a :: rest)) rfl hsize rfl hd hf (W := W) (by show 2 * 0 + _ ≤ _; omega) hl
  exact own_run sp (k T' X' e')
variable {own : String} {index maxL W : Nat} {y z : MethodName} {bytes : ByteArray} {ret : Option FieldType} {rm : Room} {argsL : List Value} {Q' : Option Value → Heap → List Loc → Prop}
/-- a static method by its contract -/
theorem own_callS (X : Stand p l e R s m args below meth c T locs cells slots) (hx : p.tables.exec = Jvm.exec) (hZ : Z.Warmed39 s.vm) (hown : s.vm.findClass own = some m.cls) (w1 : (Cond.methodLink own index y).before a0 Z = true) (w2 : (Cond.static y).before a0 Z = true) (w3 : (Cond.initialized y.cls).before a0 Z = true) (w4 : (Cond.code y bytes maxL ret).before a0 Z = true) (hy : y.cls ≠ "java/lang/invoke/MethodHandle" ∧ y.cls ≠ "java/lang/invoke/VarHandle")
    (hM : MetFree l y (head1 [Cond.code y bytes maxL ret] rm) (fun a U => a = argsL.toArray ∧ Z.Warmed39 U.vm ∧ U.heap = h) (fun _ _ _ _ _ => True) (fun _ U o U' => ∃ v L, o = .returned v ∧ Q' v U'.heap L ∧ FrameEnd U o U' L rm.cells rm.slots)) (eT : T.heap = h) (hf : rm.frames + 1 ≤ R.frames) (hl : W + (maxL + 11) + rm.locals ≤ R.locals) (hcl : cells + rm.cells ≤ R.cells) (hsl : slots + rm.slots ≤ R.slots) (hsize : Ls.size = c.maxLocals)
    (hlen : ∀ sig, parseMethodDescriptor y.desc = some sig → argsL.length = sig.parameters.length) (hs : st = argsL.reverse ++ rest) (hW : (rest.map fun v => v.category).sum ≤ W) (hd : decode c.code pc = .ok (.invokestatic index, 3))
    (k : ∀ T' v L, Stand p l e R s m args below meth c T' (locs ++ L) (cells + rm.cells) (slots + rm.slots) → Q' v T'.heap L → own_Run p e below s CC SS Q T' (mkF m (pc + 3) Ls (v.toList ++ rest))) : own_Run p e below s CC SS Q T (mkF m pc Ls st) := by
  obtain ⟨v, _, ⟨T1, L1, k1, n1⟩, -, X1, ⟨Lc, hQ, l1, y1, z1⟩, sp⟩ := Jvm.LawKit.callS X hx hown (mvT hZ w1) (mvT hZ w2) (mvT hZ w3) (mvT hZ w4) hy (backOf (W := W) hM hZ w4 w3 hf hl) (g := mkF m pc Ls st) rfl hsize (argsL := argsL) (rest := rest) hlen hs (by show 2 * 0 + _ ≤ _; omega) hd (fun _ _ => ⟨rfl, eT, hcl, hsl⟩)
  dsimp only [Pt.U, Pt.locs, Pt.cells, Pt.slots] at X1 l1 y1 z1 sp hQ
  subst l1 y1 z1
  exact own_run sp (k T1 v Lc X1 hQ)
/-- a constructor by its contract -/
theorem own_callI (X : Stand p l e R s m args below meth c T locs cells slots) (hx : p.tables.exec = Jvm.exec) (hZ : Z.Warmed39 s.vm) (hown : s.vm.findClass own = some m.cls) (hy1 : y.name = "<init>") (w1 : (Cond.methodLink own index y).before a0 Z = true) (w2 : (Cond.instanceMethod y).before a0 Z = true) (w3 : (Cond.initialized y.cls).before a0 Z = true) (w4 : (Cond.code y bytes maxL none).before a0 Z = true) (hy : y.cls ≠ "java/lang/invoke/MethodHandle" ∧ y.cls ≠ "java/lang/invoke/VarHandle")
    (hM : MetFree l y (head1 [Cond.code y bytes maxL none] rm) (fun a U => a = (.ref b :: argsL).toArray ∧ Z.Warmed39 U.vm ∧ U.heap = h) (fun _ _ _ _ _ => True) (fun _ U o U' => ∃ v L, o = .returned v ∧ Q' v U'.heap L ∧ FrameEnd U o U' L rm.cells rm.slots)) (eT : T.heap = h) (hf : rm.frames + 1 ≤ R.frames) (hl : W + (maxL + 11) + rm.locals ≤ R.locals) (hcl : cells + rm.cells ≤ R.cells) (hsl : slots + rm.slots ≤ R.slots) (hsize : Ls.size = c.maxLocals)
    (hlen : ∀ sig, parseMethodDescriptor y.desc = some sig → argsL.length = sig.parameters.length) (hs : st = argsL.reverse ++ .ref b :: rest) (hW : (rest.map fun v => v.category).sum ≤ W) (hd : decode c.code pc = .ok (.invokespecial index, 3))
    (k : ∀ T' v L, Stand p l e R s m args below meth c T' (locs ++ L) (cells + rm.cells) (slots + rm.slots) → Q' v T'.heap L → own_Run p e below s CC SS Q T' (mkF m (pc + 3) Ls (v.toList ++ rest))) : own_Run p e below s CC SS Q T (mkF m pc Ls st) := by
  obtain ⟨v, _, ⟨T1, L1, k1, n1⟩, -, X1, ⟨Lc, hQ, l1, y1, z1⟩, sp⟩ := X.specialBack hx (y := y) hy1 hown (mvT hZ w1) (mvT hZ w2) (mvT hZ w4) hy (backOf (W := W) hM hZ w4 w3 hf hl) (g := mkF m pc Ls st) rfl hsize (Steps.refl _) (a := b) (argsL := argsL) (rest := rest) hlen hs (by show 2 * 0 + _ ≤ _; omega) hd (fun _ _ => ⟨rfl, eT, hcl, hsl⟩)
  dsimp only [Pt.U, Pt.locs, Pt.cells, Pt.slots] at X1 l1 y1 z1 sp hQ
  subst l1 y1 z1
  exact own_run (fun t kt => sp.trans kt) (k T1 v Lc X1 hQ)
/-- an instance method by its contract -/
theorem own_callV {K : String} (X : Stand p l e R s m args below meth c T locs cells slots) (hx : p.tables.exec = Jvm.exec) (hZ : Z.Warmed39 s.vm) (hown : s.vm.findClass own = some m.cls) (w1 : (Cond.methodLink own index y).before a0 Z = true) (w2 : (Cond.declares y).before a0 Z = true) (w5 : (Cond.selects K y y).before a0 Z = true) (w6 : (Cond.instanceMethod y).before a0 Z = true) (w3 : (Cond.initialized y.cls).before a0 Z = true) (w4 : (Cond.code y bytes maxL ret).before a0 Z = true) (hy : y.cls ≠ "java/lang/invoke/MethodHandle" ∧ y.cls ≠ "java/lang/invoke/VarHandle") (E : Exa Z h b K)
    (hM : MetFree l y (head1 [Cond.code y bytes maxL ret] rm) (fun a U => a = (.ref b :: argsL).toArray ∧ Z.Warmed39 U.vm ∧ U.heap = h) (fun _ _ _ _ _ => True) (fun _ U o U' => ∃ v L, o = .returned v ∧ Q' v U'.heap L ∧ FrameEnd U o U' L rm.cells rm.slots)) (eT : T.heap = h) (hf : rm.frames + 1 ≤ R.frames) (hl : W + (maxL + 11) + rm.locals ≤ R.locals) (hcl : cells + rm.cells ≤ R.cells) (hsl : slots + rm.slots ≤ R.slots) (hsize : Ls.size = c.maxLocals)
    (hlen : ∀ sig, parseMethodDescriptor y.desc = some sig → argsL.length = sig.parameters.length) (hs : st = argsL.reverse ++ .ref b :: rest) (hW : (rest.map fun v => v.category).sum ≤ W) (hd : decode c.code pc = .ok (.invokevirtual index, 3))
    (k : ∀ T' v L, Stand p l e R s m args below meth c T' (locs ++ L) (cells + rm.cells) (slots + rm.slots) → Q' v T'.heap L → own_Run p e below s CC SS Q T' (mkF m (pc + 3) Ls (v.toList ++ rest))) : own_Run p e below s CC SS Q T (mkF m pc Ls st) := by
  obtain ⟨cq, kq, qa, qb, qc⟩ := isOf hZ eT E
  obtain ⟨v, _, ⟨T1, L1, k1, n1⟩, -, X1, ⟨Lc, hQ, l1, y1, z1⟩, sp⟩ := X.virtualBack hx (y := y) (z := y) hown (mvT hZ w1) (mvT hZ w2) (notFace_of_selects (args := #[]) (mvT hZ w5)) (mvT hZ w5) (mvT hZ w6) hy (backOf (W := W) hM hZ w4 w3 hf hl) qa qc (g := mkF m pc Ls st) rfl hsize (Steps.refl _) (argsL := argsL) (rest := rest) hlen hs (by show 2 * 0 + _ ≤ _; omega) hd (fun _ _ => ⟨rfl, eT, hcl, hsl⟩)
  dsimp only [Pt.U, Pt.locs, Pt.cells, Pt.slots] at X1 l1 y1 z1 sp hQ
  subst l1 y1 z1
  exact own_run (fun t kt => sp.trans kt) (k T1 v Lc X1 hQ)
/-- a private instance method by its contract -/
theorem own_callP {kk : Nat} {K : String} (X : Stand p l e R s m args below meth c T locs cells slots) (hx : p.tables.exec = Jvm.exec) (hZ : Z.Warmed39 s.vm) (hown : s.vm.findClass own = some m.cls) (w1 : (Cond.methodLink own index y).before a0 Z = true) (w2 : (Cond.instanceMethod y).before a0 Z = true) (wi : (Cond.instantiable y.cls kk).before a0 Z = true) (wp : (Cond.privateMethod y).before a0 Z = true) (w3 : (Cond.initialized y.cls).before a0 Z = true) (w4 : (Cond.code y bytes maxL ret).before a0 Z = true) (hy : y.cls ≠ "java/lang/invoke/MethodHandle" ∧ y.cls ≠ "java/lang/invoke/VarHandle") (E : Exa Z h b K)
    (hM : MetFree l y (head1 [Cond.code y bytes maxL ret] rm) (fun a U => a = (.ref b :: argsL).toArray ∧ Z.Warmed39 U.vm ∧ U.heap = h) (fun _ _ _ _ _ => True) (fun _ U o U' => ∃ v L, o = .returned v ∧ Q' v U'.heap L ∧ FrameEnd U o U' L rm.cells rm.slots)) (eT : T.heap = h) (hf : rm.frames + 1 ≤ R.frames) (hl : W + (maxL + 11) + rm.locals ≤ R.locals) (hcl : cells + rm.cells ≤ R.cells) (hsl : slots + rm.slots ≤ R.slots) (hsize : Ls.size = c.maxLocals)
    (hlen : ∀ sig, parseMethodDescriptor y.desc = some sig → argsL.length = sig.parameters.length) (hs : st = argsL.reverse ++ .ref b :: rest) (hW : (rest.map fun v => v.category).sum ≤ W) (hd : decode c.code pc = .ok (.invokevirtual index, 3))
    (k : ∀ T' v L, Stand p l e R s m args below meth c T' (locs ++ L) (cells + rm.cells) (slots + rm.slots) → Q' v T'.heap L → own_Run p e below s CC SS Q T' (mkF m (pc + 3) Ls (v.toList ++ rest))) : own_Run p e below s CC SS Q T (mkF m pc Ls st) := by
  obtain ⟨cq, q1, q2⟩ := E.cell
  obtain ⟨cI, kI, hc, hk, -, hniab, -, -⟩ := Cond.instantiable_spec (mvT (args := args) hZ wi)
  have hni : kI.isInterface = false := (Bool.or_eq_false_iff.mp hniab).1
  have hpriv : s.PrivateAt y := Cond.privateMethod_at (mvP hZ wp (args := #[]))
  have hsel : (Cond.selects y.cls y y).before args s = true := selects_self_of_private hc hk hni hpriv (mvT hZ w2) hy
  obtain ⟨v, _, ⟨T1, L1, k1, n1⟩, -, X1, ⟨Lc, hQ, l1, y1, z1⟩, sp⟩ := X.privateBack hx (y := y) hown (mvT hZ w1) (mvT hZ w2) hsel hpriv (mvT hZ w4) hy (backOf (W := W) hM hZ w4 w3 hf hl) (g := mkF m pc Ls st) rfl hsize (Steps.refl _) (a := b) (by rw [eT]; exact q1) q2 (argsL := argsL) (rest := rest) hlen hs (by show 2 * 0 + _ ≤ _; omega) hd (fun _ _ => ⟨rfl, eT, hcl, hsl⟩)
  dsimp only [Pt.U, Pt.locs, Pt.cells, Pt.slots] at X1 l1 y1 z1 sp hQ
  subst l1 y1 z1
  exact own_run (fun t kt => sp.trans kt) (k T1 v Lc X1 hQ)
end Own
theorem own_pn1 : plainName "com/example/ambient_for_callees/ambientforcallees/Index" = true := by first | (simp [plainName, overriddenIn]; done) | decide +kernel
theorem own_ef1 (m : MethodId) (p0 : Int32) : entryFrame m #[(.int p0)] 2 = mkF m 0 #[.val (.int p0), .unset] [] := by first | (simp [entryFrame, mkF, argsToLocals, Value.category]; done) | rfl
def own_R1 : Room := ({ frames := 0, cells := 1, slots := 131072, locals := 0 } : Room)
def own_pl (p0 : Int32) : Int32 := (if (32 : Int32) < ((2 : Int32) * p0) then (if (64 : Int32) < ((2 : Int32) * p0) then (if (128 : Int32) < ((2 : Int32) * p0) then (if (256 : Int32) < ((2 : Int32) * p0) then (if (512 : Int32) < ((2 : Int32) * p0) then (if (1024 : Int32) < ((2 : Int32) * p0) then (if (2048 : Int32) < ((2 : Int32) * p0) then (if (4096 : Int32) < ((2 : Int32) * p0) then (if (8192 : Int32) < ((2 : Int32) * p0) then (if (16384 : Int32) < ((2 : Int32) * p0) then (if (32768 : Int32) < ((2 : Int32) * p0) then (if (65536 : Int32) < ((2 : Int32) * p0) then (131072 : Int32) else (65536 : Int32)) else (32768 : Int32)) else (16384 : Int32)) else (8192 : Int32)) else (4096 : Int32)) else (2048 : Int32)) else (1024 : Int32)) else (512 : Int32)) else (256 : Int32)) else (128 : Int32)) else (64 : Int32)) else (32 : Int32))
def Q1 (Z : State) (p0 : Int32) (h0 : Heap) (n0 : Nat) (v : Option Value) (h : Heap) (L : List Loc) : Prop := ∃ b, v = some (.ref b) ∧ Fr n0 L ∧ own_U Z h b (own_pl p0)
theorem d1_0 : decode prog_7_method_2_code 0 = .ok (.bipush 32, 2) := by decide +kernel
theorem d1_2 : decode prog_7_method_2_code 2 = .ok (.istore_n 1, 1) := by decide +kernel
theorem d1_3 : decode prog_7_method_2_code 3 = .ok (.iload_n 1, 1) := by decide +kernel
theorem d1_4 : decode prog_7_method_2_code 4 = .ok (.iconst 2, 1) := by decide +kernel
theorem d1_5 : decode prog_7_method_2_code 5 = .ok (.iload_n 0, 1) := by decide +kernel
theorem d1_6 : decode prog_7_method_2_code 6 = .ok (.imul, 1) := by decide +kernel
theorem d1_7 : decode prog_7_method_2_code 7 = .ok (.if_icmp .ge 10, 3) := by decide +kernel
theorem d1_10 : decode prog_7_method_2_code 10 = .ok (.iload_n 1, 1) := by decide +kernel
theorem d1_11 : decode prog_7_method_2_code 11 = .ok (.iconst 2, 1) := by decide +kernel
theorem d1_12 : decode prog_7_method_2_code 12 = .ok (.imul, 1) := by decide +kernel
theorem d1_13 : decode prog_7_method_2_code 13 = .ok (.istore_n 1, 1) := by decide +kernel
theorem d1_14 : decode prog_7_method_2_code 14 = .ok (.goto (-11), 3) := by decide +kernel
theorem d1_17 : decode prog_7_method_2_code 17 = .ok (.iload_n 1, 1) := by decide +kernel
theorem d1_18 : decode prog_7_method_2_code 18 = .ok (.anewarray 9, 3) := by decide +kernel
theorem d1_21 : decode prog_7_method_2_code 21 = .ok (.areturn, 1) := by decide +kernel
set_option maxRecDepth 65536 in
set_option maxHeartbeats 40000000 in
theorem rm1 (l : Launch) (Z : State) (a0 : Array Value) (hw : ∀ d ∈ tables_1, d.before a0 Z = true) (ws : List Jvm.Cond) (p0 : Int32) (h0 : Heap) (n0 : Nat) (Z0 : n0 ≤ h0.size) (hmax : ¬ (131072 : Int32) < ((2 : Int32) * p0)) :
    MetFree l (⟨"com/example/ambient_for_callees/ambientforcallees/Index", "withRoomFor", "(I)[Lcom/example/ambient_for_callees/ambientforcallees/Bindings;"⟩ : MethodName) (head1 (Jvm.Cond.code (⟨"com/example/ambient_for_callees/ambientforcallees/Index", "withRoomFor", "(I)[Lcom/example/ambient_for_callees/ambientforcallees/Bindings;"⟩ : MethodName) prog_7_method_2_code 2 (some (.array (.object "com/example/ambient_for_callees/ambientforcallees/Bindings"))) :: ws) own_R1) (fun a U => a = #[(.int p0)] ∧ Z.Warmed39 U.vm ∧ U.heap = h0) (fun _ _ _ _ _ => True) (fun _ U o U' => ∃ v L, o = .returned v ∧ Q1 Z p0 h0 n0 v U'.heap L ∧ FrameEnd U o U' L own_R1.cells own_R1.slots) := by
  refine MetFree.of_bodySF (plainFor_of_name own_pn1) hisR ?_
  intro p e s m args below meth c s₁ Bd hml0 hP hK
  obtain ⟨ha, hZ, hh⟩ := hP
  have hx := Bd.exec
  have hby := Bd.bytes
  have hml : c.maxLocals = 2 := hml0
  have hown : s.vm.findClass "com/example/ambient_for_callees/ambientforcallees/Index" = some m.cls := findClass_of_methodNamed Bd.named
  have hnm := (name_of_methodNamed Bd.named Bd.method).1
  have X0 : Stand p l e own_R1 s m args below meth c s₁ [] 0 0 := Stand.of_body Bd
  have e0 : s₁.heap = h0 := by rw [← hh, Bd.state]; rfl
  have N0 := Fr.nil n0
  refine own_enter (Q := (Q1 Z p0 h0 n0)) (g := mkF m 0 #[.val (.int p0), .unset] []) (by rw [ha]; exact own_ef1 m p0) ?_
  refine own_run (g' := (mkF m 7 #[.val (.int p0), .val (.int (32 : Int32))] [(.int ((2 : Int32) * p0)), (.int (32 : Int32))])) (fun _ kt => XS.bipush X0.here hx rfl (hb hby d1_0) (XS.istoreN X0.here hx rfl (hb hby d1_2) rfl (l' := #[.val (.int p0), .val (.int (32 : Int32))]) rfl (XS.iloadN X0.here hx rfl (hb hby d1_3) rfl (XS.iconst X0.here hx rfl (hb hby d1_4) (XS.iloadN X0.here hx rfl (hb hby d1_5) rfl (XS.imul X0.here hx rfl (hb hby d1_6) rfl (kt))))))) ?_
  by_cases hc7 : (32 : Int32) < ((2 : Int32) * p0)
  · refine own_run (g' := (mkF m 14 #[.val (.int p0), .val (.int ((32 : Int32) * (2 : Int32)))] [])) (fun _ kt => XS.icmpNo X0.here hx rfl (hb hby d1_7) rfl ((tlt hc7).2.1) (XS.iloadN X0.here hx rfl (hb hby d1_10) rfl (XS.iconst X0.here hx rfl (hb hby d1_11) (XS.imul X0.here hx rfl (hb hby d1_12) rfl (XS.istoreN X0.here hx rfl (hb hby d1_13) rfl (l' := #[.val (.int p0), .val (.int ((32 : Int32) * (2 : Int32)))]) rfl (kt)))))) ?_
    rw [show ((32 : Int32) * (2 : Int32)) = (64 : Int32) from rfl]
    refine own_run (g' := (mkF m 7 #[.val (.int p0), .val (.int (64 : Int32))] [(.int ((2 : Int32) * p0)), (.int (64 : Int32))])) (fun _ kt => XS.goto X0.here hx rfl (pc0 := 14) (pc' := 3) rfl (hb hby d1_14) (by decide) (by decide) (XS.iloadN X0.here hx rfl (hb hby d1_3) rfl (XS.iconst X0.here hx rfl (hb hby d1_4) (XS.iloadN X0.here hx rfl (hb hby d1_5) rfl (XS.imul X0.here hx rfl (hb hby d1_6) rfl (kt)))))) ?_
    by_cases hc7_1 : (64 : Int32) < ((2 : Int32) * p0)
    · refine own_run (g' := (mkF m 14 #[.val (.int p0), .val (.int ((64 : Int32) * (2 : Int32)))] [])) (fun _ kt => XS.icmpNo X0.here hx rfl (hb hby d1_7) rfl ((tlt hc7_1).2.1) (XS.iloadN X0.here hx rfl (hb hby d1_10) rfl (XS.iconst X0.here hx rfl (hb hby d1_11) (XS.imul X0.here hx rfl (hb hby d1_12) rfl (XS.istoreN X0.here hx rfl (hb hby d1_13) rfl (l' := #[.val (.int p0), .val (.int ((64 : Int32) * (2 : Int32)))]) rfl (kt)))))) ?_
      rw [show ((64 : Int32) * (2 : Int32)) = (128 : Int32) from rfl]
      refine own_run (g' := (mkF m 7 #[.val (.int p0), .val (.int (128 : Int32))] [(.int ((2 : Int32) * p0)), (.int (128 : Int32))])) (fun _ kt => XS.goto X0.here hx rfl (pc0 := 14) (pc' := 3) rfl (hb hby d1_14) (by decide) (by decide) (XS.iloadN X0.here hx rfl (hb hby d1_3) rfl (XS.iconst X0.here hx rfl (hb hby d1_4) (XS.iloadN X0.here hx rfl (hb hby d1_5) rfl (XS.imul X0.here hx rfl (hb hby d1_6) rfl (kt)))))) ?_
      by_cases hc7_2 : (128 : Int32) < ((2 : Int32) * p0)
      · refine own_run (g' := (mkF m 14 #[.val (.int p0), .val (.int ((128 : Int32) * (2 : Int32)))] [])) (fun _ kt => XS.icmpNo X0.here hx rfl (hb hby d1_7) rfl ((tlt hc7_2).2.1) (XS.iloadN X0.here hx rfl (hb hby d1_10) rfl (XS.iconst X0.here hx rfl (hb hby d1_11) (XS.imul X0.here hx rfl (hb hby d1_12) rfl (XS.istoreN X0.here hx rfl (hb hby d1_13) rfl (l' := #[.val (.int p0), .val (.int ((128 : Int32) * (2 : Int32)))]) rfl (kt)))))) ?_
        rw [show ((128 : Int32) * (2 : Int32)) = (256 : Int32) from rfl]
        refine own_run (g' := (mkF m 7 #[.val (.int p0), .val (.int (256 : Int32))] [(.int ((2 : Int32) * p0)), (.int (256 : Int32))])) (fun _ kt => XS.goto X0.here hx rfl (pc0 := 14) (pc' := 3) rfl (hb hby d1_14) (by decide) (by decide) (XS.iloadN X0.here hx rfl (hb hby d1_3) rfl (XS.iconst X0.here hx rfl (hb hby d1_4) (XS.iloadN X0.here hx rfl (hb hby d1_5) rfl (XS.imul X0.here hx rfl (hb hby d1_6) rfl (kt)))))) ?_
        by_cases hc7_3 : (256 : Int32) < ((2 : Int32) * p0)
        · refine own_run (g' := (mkF m 14 #[.val (.int p0), .val (.int ((256 : Int32) * (2 : Int32)))] [])) (fun _ kt => XS.icmpNo X0.here hx rfl (hb hby d1_7) rfl ((tlt hc7_3).2.1) (XS.iloadN X0.here hx rfl (hb hby d1_10) rfl (XS.iconst X0.here hx rfl (hb hby d1_11) (XS.imul X0.here hx rfl (hb hby d1_12) rfl (XS.istoreN X0.here hx rfl (hb hby d1_13) rfl (l' := #[.val (.int p0), .val (.int ((256 : Int32) * (2 : Int32)))]) rfl (kt)))))) ?_
          rw [show ((256 : Int32) * (2 : Int32)) = (512 : Int32) from rfl]
          refine own_run (g' := (mkF m 7 #[.val (.int p0), .val (.int (512 : Int32))] [(.int ((2 : Int32) * p0)), (.int (512 : Int32))])) (fun _ kt => XS.goto X0.here hx rfl (pc0 := 14) (pc' := 3) rfl (hb hby d1_14) (by decide) (by decide) (XS.iloadN X0.here hx rfl (hb hby d1_3) rfl (XS.iconst X0.here hx rfl (hb hby d1_4) (XS.iloadN X0.here hx rfl (hb hby d1_5) rfl (XS.imul X0.here hx rfl (hb hby d1_6) rfl (kt)))))) ?_
          by_cases hc7_4 : (512 : Int32) < ((2 : Int32) * p0)
          · refine own_run (g' := (mkF m 14 #[.val (.int p0), .val (.int ((512 : Int32) * (2 : Int32)))] [])) (fun _ kt => XS.icmpNo X0.here hx rfl (hb hby d1_7) rfl ((tlt hc7_4).2.1) (XS.iloadN X0.here hx rfl (hb hby d1_10) rfl (XS.iconst X0.here hx rfl (hb hby d1_11) (XS.imul X0.here hx rfl (hb hby d1_12) rfl (XS.istoreN X0.here hx rfl (hb hby d1_13) rfl (l' := #[.val (.int p0), .val (.int ((512 : Int32) * (2 : Int32)))]) rfl (kt)))))) ?_
            rw [show ((512 : Int32) * (2 : Int32)) = (1024 : Int32) from rfl]
            refine own_run (g' := (mkF m 7 #[.val (.int p0), .val (.int (1024 : Int32))] [(.int ((2 : Int32) * p0)), (.int (1024 : Int32))])) (fun _ kt => XS.goto X0.here hx rfl (pc0 := 14) (pc' := 3) rfl (hb hby d1_14) (by decide) (by decide) (XS.iloadN X0.here hx rfl (hb hby d1_3) rfl (XS.iconst X0.here hx rfl (hb hby d1_4) (XS.iloadN X0.here hx rfl (hb hby d1_5) rfl (XS.imul X0.here hx rfl (hb hby d1_6) rfl (kt)))))) ?_
            by_cases hc7_5 : (1024 : Int32) < ((2 : Int32) * p0)
            · refine own_run (g' := (mkF m 14 #[.val (.int p0), .val (.int ((1024 : Int32) * (2 : Int32)))] [])) (fun _ kt => XS.icmpNo X0.here hx rfl (hb hby d1_7) rfl ((tlt hc7_5).2.1) (XS.iloadN X0.here hx rfl (hb hby d1_10) rfl (XS.iconst X0.here hx rfl (hb hby d1_11) (XS.imul X0.here hx rfl (hb hby d1_12) rfl (XS.istoreN X0.here hx rfl (hb hby d1_13) rfl (l' := #[.val (.int p0), .val (.int ((1024 : Int32) * (2 : Int32)))]) rfl (kt)))))) ?_
              rw [show ((1024 : Int32) * (2 : Int32)) = (2048 : Int32) from rfl]
              refine own_run (g' := (mkF m 7 #[.val (.int p0), .val (.int (2048 : Int32))] [(.int ((2 : Int32) * p0)), (.int (2048 : Int32))])) (fun _ kt => XS.goto X0.here hx rfl (pc0 := 14) (pc' := 3) rfl (hb hby d1_14) (by decide) (by decide) (XS.iloadN X0.here hx rfl (hb hby d1_3) rfl (XS.iconst X0.here hx rfl (hb hby d1_4) (XS.iloadN X0.here hx rfl (hb hby d1_5) rfl (XS.imul X0.here hx rfl (hb hby d1_6) rfl (kt)))))) ?_
              by_cases hc7_6 : (2048 : Int32) < ((2 : Int32) * p0)
              · refine own_run (g' := (mkF m 14 #[.val (.int p0), .val (.int ((2048 : Int32) * (2 : Int32)))] [])) (fun _ kt => XS.icmpNo X0.here hx rfl (hb hby d1_7) rfl ((tlt hc7_6).2.1) (XS.iloadN X0.here hx rfl (hb hby d1_10) rfl (XS.iconst X0.here hx rfl (hb hby d1_11) (XS.imul X0.here hx rfl (hb hby d1_12) rfl (XS.istoreN X0.here hx rfl (hb hby d1_13) rfl (l' := #[.val (.int p0), .val (.int ((2048 : Int32) * (2 : Int32)))]) rfl (kt)))))) ?_
                rw [show ((2048 : Int32) * (2 : Int32)) = (4096 : Int32) from rfl]
                refine own_run (g' := (mkF m 7 #[.val (.int p0), .val (.int (4096 : Int32))] [(.int ((2 : Int32) * p0)), (.int (4096 : Int32))])) (fun _ kt => XS.goto X0.here hx rfl (pc0 := 14) (pc' := 3) rfl (hb hby d1_14) (by decide) (by decide) (XS.iloadN X0.here hx rfl (hb hby d1_3) rfl (XS.iconst X0.here hx rfl (hb hby d1_4) (XS.iloadN X0.here hx rfl (hb hby d1_5) rfl (XS.imul X0.here hx rfl (hb hby d1_6) rfl (kt)))))) ?_
                by_cases hc7_7 : (4096 : Int32) < ((2 : Int32) * p0)
                · refine own_run (g' := (mkF m 14 #[.val (.int p0), .val (.int ((4096 : Int32) * (2 : Int32)))] [])) (fun _ kt => XS.icmpNo X0.here hx rfl (hb hby d1_7) rfl ((tlt hc7_7).2.1) (XS.iloadN X0.here hx rfl (hb hby d1_10) rfl (XS.iconst X0.here hx rfl (hb hby d1_11) (XS.imul X0.here hx rfl (hb hby d1_12) rfl (XS.istoreN X0.here hx rfl (hb hby d1_13) rfl (l' := #[.val (.int p0), .val (.int ((4096 : Int32) * (2 : Int32)))]) rfl (kt)))))) ?_
                  rw [show ((4096 : Int32) * (2 : Int32)) = (8192 : Int32) from rfl]
                  refine own_run (g' := (mkF m 7 #[.val (.int p0), .val (.int (8192 : Int32))] [(.int ((2 : Int32) * p0)), (.int (8192 : Int32))])) (fun _ kt => XS.goto X0.here hx rfl (pc0 := 14) (pc' := 3) rfl (hb hby d1_14) (by decide) (by decide) (XS.iloadN X0.here hx rfl (hb hby d1_3) rfl (XS.iconst X0.here hx rfl (hb hby d1_4) (XS.iloadN X0.here hx rfl (hb hby d1_5) rfl (XS.imul X0.here hx rfl (hb hby d1_6) rfl (kt)))))) ?_
                  by_cases hc7_8 : (8192 : Int32) < ((2 : Int32) * p0)
                  · refine own_run (g' := (mkF m 14 #[.val (.int p0), .val (.int ((8192 : Int32) * (2 : Int32)))] [])) (fun _ kt => XS.icmpNo X0.here hx rfl (hb hby d1_7) rfl ((tlt hc7_8).2.1) (XS.iloadN X0.here hx rfl (hb hby d1_10) rfl (XS.iconst X0.here hx rfl (hb hby d1_11) (XS.imul X0.here hx rfl (hb hby d1_12) rfl (XS.istoreN X0.here hx rfl (hb hby d1_13) rfl (l' := #[.val (.int p0), .val (.int ((8192 : Int32) * (2 : Int32)))]) rfl (kt)))))) ?_
                    rw [show ((8192 : Int32) * (2 : Int32)) = (16384 : Int32) from rfl]
                    refine own_run (g' := (mkF m 7 #[.val (.int p0), .val (.int (16384 : Int32))] [(.int ((2 : Int32) * p0)), (.int (16384 : Int32))])) (fun _ kt => XS.goto X0.here hx rfl (pc0 := 14) (pc' := 3) rfl (hb hby d1_14) (by decide) (by decide) (XS.iloadN X0.here hx rfl (hb hby d1_3) rfl (XS.iconst X0.here hx rfl (hb hby d1_4) (XS.iloadN X0.here hx rfl (hb hby d1_5) rfl (XS.imul X0.here hx rfl (hb hby d1_6) rfl (kt)))))) ?_
                    by_cases hc7_9 : (16384 : Int32) < ((2 : Int32) * p0)
                    · refine own_run (g' := (mkF m 14 #[.val (.int p0), .val (.int ((16384 : Int32) * (2 : Int32)))] [])) (fun _ kt => XS.icmpNo X0.here hx rfl (hb hby d1_7) rfl ((tlt hc7_9).2.1) (XS.iloadN X0.here hx rfl (hb hby d1_10) rfl (XS.iconst X0.here hx rfl (hb hby d1_11) (XS.imul X0.here hx rfl (hb hby d1_12) rfl (XS.istoreN X0.here hx rfl (hb hby d1_13) rfl (l' := #[.val (.int p0), .val (.int ((16384 : Int32) * (2 : Int32)))]) rfl (kt)))))) ?_
                      rw [show ((16384 : Int32) * (2 : Int32)) = (32768 : Int32) from rfl]
                      refine own_run (g' := (mkF m 7 #[.val (.int p0), .val (.int (32768 : Int32))] [(.int ((2 : Int32) * p0)), (.int (32768 : Int32))])) (fun _ kt => XS.goto X0.here hx rfl (pc0 := 14) (pc' := 3) rfl (hb hby d1_14) (by decide) (by decide) (XS.iloadN X0.here hx rfl (hb hby d1_3) rfl (XS.iconst X0.here hx rfl (hb hby d1_4) (XS.iloadN X0.here hx rfl (hb hby d1_5) rfl (XS.imul X0.here hx rfl (hb hby d1_6) rfl (kt)))))) ?_
                      by_cases hc7_10 : (32768 : Int32) < ((2 : Int32) * p0)
                      · refine own_run (g' := (mkF m 14 #[.val (.int p0), .val (.int ((32768 : Int32) * (2 : Int32)))] [])) (fun _ kt => XS.icmpNo X0.here hx rfl (hb hby d1_7) rfl ((tlt hc7_10).2.1) (XS.iloadN X0.here hx rfl (hb hby d1_10) rfl (XS.iconst X0.here hx rfl (hb hby d1_11) (XS.imul X0.here hx rfl (hb hby d1_12) rfl (XS.istoreN X0.here hx rfl (hb hby d1_13) rfl (l' := #[.val (.int p0), .val (.int ((32768 : Int32) * (2 : Int32)))]) rfl (kt)))))) ?_
                        rw [show ((32768 : Int32) * (2 : Int32)) = (65536 : Int32) from rfl]
                        refine own_run (g' := (mkF m 7 #[.val (.int p0), .val (.int (65536 : Int32))] [(.int ((2 : Int32) * p0)), (.int (65536 : Int32))])) (fun _ kt => XS.goto X0.here hx rfl (pc0 := 14) (pc' := 3) rfl (hb hby d1_14) (by decide) (by decide) (XS.iloadN X0.here hx rfl (hb hby d1_3) rfl (XS.iconst X0.here hx rfl (hb hby d1_4) (XS.iloadN X0.here hx rfl (hb hby d1_5) rfl (XS.imul X0.here hx rfl (hb hby d1_6) rfl (kt)))))) ?_
                        by_cases hc7_11 : (65536 : Int32) < ((2 : Int32) * p0)
                        · refine own_run (g' := (mkF m 14 #[.val (.int p0), .val (.int ((65536 : Int32) * (2 : Int32)))] [])) (fun _ kt => XS.icmpNo X0.here hx rfl (hb hby d1_7) rfl ((tlt hc7_11).2.1) (XS.iloadN X0.here hx rfl (hb hby d1_10) rfl (XS.iconst X0.here hx rfl (hb hby d1_11) (XS.imul X0.here hx rfl (hb hby d1_12) rfl (XS.istoreN X0.here hx rfl (hb hby d1_13) rfl (l' := #[.val (.int p0), .val (.int ((65536 : Int32) * (2 : Int32)))]) rfl (kt)))))) ?_
                          rw [show ((65536 : Int32) * (2 : Int32)) = (131072 : Int32) from rfl]
                          have hd7 : ¬ ((131072 : Int32) < ((2 : Int32) * p0)) := hmax
                          refine own_run (g' := (mkF m 18 #[.val (.int p0), .val (.int (131072 : Int32))] [(.int (131072 : Int32))])) (fun _ kt => XS.goto X0.here hx rfl (pc0 := 14) (pc' := 3) rfl (hb hby d1_14) (by decide) (by decide) (XS.iloadN X0.here hx rfl (hb hby d1_3) rfl (XS.iconst X0.here hx rfl (hb hby d1_4) (XS.iloadN X0.here hx rfl (hb hby d1_5) rfl (XS.imul X0.here hx rfl (hb hby d1_6) rfl (XS.icmpYes X0.here hx rfl (pc0 := 7) (pc' := 17) rfl (hb hby d1_7) rfl ((flt hd7).2.1) (by decide) (by decide) (XS.iloadN X0.here hx rfl (hb hby d1_17) rfl (kt)))))))) ?_
                          refine own_newU X0 hx hZ hown (hw _ (List.mem_of_getElem? (i := 5) rfl)) (hw _ (List.mem_of_getElem? (i := 6) rfl)) e0 (hb hby d1_18) (by decide) (cap := 131072) (by decide) (by decide) (by decide) (by decide) ?_
                          intro T1 h1 b1 qq1 X1 e1 E1 A1
                          have g_b1 : n0 ≤ b1 := by rw [qq1]; exact Z0
                          have Z1 : n0 ≤ h1.size := Nat.le_trans Z0 E1.1
                          have hf : own_pl p0 = (131072 : Int32) := by unfold own_pl; rw [if_pos hc7, if_pos hc7_1, if_pos hc7_2, if_pos hc7_3, if_pos hc7_4, if_pos hc7_5, if_pos hc7_6, if_pos hc7_7, if_pos hc7_8, if_pos hc7_9, if_pos hc7_10, if_pos hc7_11]
                          exact own_retR X1 hx Bd.notSynchronized Bd.returns rfl rfl (hb hby d1_21) (by decide) (by decide) ⟨_, rfl, N0, by rw [e1, hf]; exact A1⟩
                        · refine own_run (g' := (mkF m 18 #[.val (.int p0), .val (.int (65536 : Int32))] [(.int (65536 : Int32))])) (fun _ kt => XS.icmpYes X0.here hx rfl (pc0 := 7) (pc' := 17) rfl (hb hby d1_7) rfl ((flt hc7_11).2.1) (by decide) (by decide) (XS.iloadN X0.here hx rfl (hb hby d1_17) rfl (kt))) ?_
                          refine own_newU X0 hx hZ hown (hw _ (List.mem_of_getElem? (i := 5) rfl)) (hw _ (List.mem_of_getElem? (i := 6) rfl)) e0 (hb hby d1_18) (by decide) (cap := 131072) (by decide) (by decide) (by decide) (by decide) ?_
                          intro T2 h2 b2 qq2 X2 e2 E2 A2
                          have g_b2 : n0 ≤ b2 := by rw [qq2]; exact Z0
                          have Z2 : n0 ≤ h2.size := Nat.le_trans Z0 E2.1
                          have hf : own_pl p0 = (65536 : Int32) := by unfold own_pl; rw [if_pos hc7, if_pos hc7_1, if_pos hc7_2, if_pos hc7_3, if_pos hc7_4, if_pos hc7_5, if_pos hc7_6, if_pos hc7_7, if_pos hc7_8, if_pos hc7_9, if_pos hc7_10, if_neg hc7_11]
                          exact own_retR X2 hx Bd.notSynchronized Bd.returns rfl rfl (hb hby d1_21) (by decide) (by decide) ⟨_, rfl, N0, by rw [e2, hf]; exact A2⟩
                      · refine own_run (g' := (mkF m 18 #[.val (.int p0), .val (.int (32768 : Int32))] [(.int (32768 : Int32))])) (fun _ kt => XS.icmpYes X0.here hx rfl (pc0 := 7) (pc' := 17) rfl (hb hby d1_7) rfl ((flt hc7_10).2.1) (by decide) (by decide) (XS.iloadN X0.here hx rfl (hb hby d1_17) rfl (kt))) ?_
                        refine own_newU X0 hx hZ hown (hw _ (List.mem_of_getElem? (i := 5) rfl)) (hw _ (List.mem_of_getElem? (i := 6) rfl)) e0 (hb hby d1_18) (by decide) (cap := 131072) (by decide) (by decide) (by decide) (by decide) ?_
                        intro T3 h3 b3 qq3 X3 e3 E3 A3
                        have g_b3 : n0 ≤ b3 := by rw [qq3]; exact Z0
                        have Z3 : n0 ≤ h3.size := Nat.le_trans Z0 E3.1
                        have hf : own_pl p0 = (32768 : Int32) := by unfold own_pl; rw [if_pos hc7, if_pos hc7_1, if_pos hc7_2, if_pos hc7_3, if_pos hc7_4, if_pos hc7_5, if_pos hc7_6, if_pos hc7_7, if_pos hc7_8, if_pos hc7_9, if_neg hc7_10]
                        exact own_retR X3 hx Bd.notSynchronized Bd.returns rfl rfl (hb hby d1_21) (by decide) (by decide) ⟨_, rfl, N0, by rw [e3, hf]; exact A3⟩
                    · refine own_run (g' := (mkF m 18 #[.val (.int p0), .val (.int (16384 : Int32))] [(.int (16384 : Int32))])) (fun _ kt => XS.icmpYes X0.here hx rfl (pc0 := 7) (pc' := 17) rfl (hb hby d1_7) rfl ((flt hc7_9).2.1) (by decide) (by decide) (XS.iloadN X0.here hx rfl (hb hby d1_17) rfl (kt))) ?_
                      refine own_newU X0 hx hZ hown (hw _ (List.mem_of_getElem? (i := 5) rfl)) (hw _ (List.mem_of_getElem? (i := 6) rfl)) e0 (hb hby d1_18) (by decide) (cap := 131072) (by decide) (by decide) (by decide) (by decide) ?_
                      intro T4 h4 b4 qq4 X4 e4 E4 A4
                      have g_b4 : n0 ≤ b4 := by rw [qq4]; exact Z0
                      have Z4 : n0 ≤ h4.size := Nat.le_trans Z0 E4.1
                      have hf : own_pl p0 = (16384 : Int32) := by unfold own_pl; rw [if_pos hc7, if_pos hc7_1, if_pos hc7_2, if_pos hc7_3, if_pos hc7_4, if_pos hc7_5, if_pos hc7_6, if_pos hc7_7, if_pos hc7_8, if_neg hc7_9]
                      exact own_retR X4 hx Bd.notSynchronized Bd.returns rfl rfl (hb hby d1_21) (by decide) (by decide) ⟨_, rfl, N0, by rw [e4, hf]; exact A4⟩
                  · refine own_run (g' := (mkF m 18 #[.val (.int p0), .val (.int (8192 : Int32))] [(.int (8192 : Int32))])) (fun _ kt => XS.icmpYes X0.here hx rfl (pc0 := 7) (pc' := 17) rfl (hb hby d1_7) rfl ((flt hc7_8).2.1) (by decide) (by decide) (XS.iloadN X0.here hx rfl (hb hby d1_17) rfl (kt))) ?_
                    refine own_newU X0 hx hZ hown (hw _ (List.mem_of_getElem? (i := 5) rfl)) (hw _ (List.mem_of_getElem? (i := 6) rfl)) e0 (hb hby d1_18) (by decide) (cap := 131072) (by decide) (by decide) (by decide) (by decide) ?_
                    intro T5 h5 b5 qq5 X5 e5 E5 A5
                    have g_b5 : n0 ≤ b5 := by rw [qq5]; exact Z0
                    have Z5 : n0 ≤ h5.size := Nat.le_trans Z0 E5.1
                    have hf : own_pl p0 = (8192 : Int32) := by unfold own_pl; rw [if_pos hc7, if_pos hc7_1, if_pos hc7_2, if_pos hc7_3, if_pos hc7_4, if_pos hc7_5, if_pos hc7_6, if_pos hc7_7, if_neg hc7_8]
                    exact own_retR X5 hx Bd.notSynchronized Bd.returns rfl rfl (hb hby d1_21) (by decide) (by decide) ⟨_, rfl, N0, by rw [e5, hf]; exact A5⟩
                · refine own_run (g' := (mkF m 18 #[.val (.int p0), .val (.int (4096 : Int32))] [(.int (4096 : Int32))])) (fun _ kt => XS.icmpYes X0.here hx rfl (pc0 := 7) (pc' := 17) rfl (hb hby d1_7) rfl ((flt hc7_7).2.1) (by decide) (by decide) (XS.iloadN X0.here hx rfl (hb hby d1_17) rfl (kt))) ?_
                  refine own_newU X0 hx hZ hown (hw _ (List.mem_of_getElem? (i := 5) rfl)) (hw _ (List.mem_of_getElem? (i := 6) rfl)) e0 (hb hby d1_18) (by decide) (cap := 131072) (by decide) (by decide) (by decide) (by decide) ?_
                  intro T6 h6 b6 qq6 X6 e6 E6 A6
                  have g_b6 : n0 ≤ b6 := by rw [qq6]; exact Z0
                  have Z6 : n0 ≤ h6.size := Nat.le_trans Z0 E6.1
                  have hf : own_pl p0 = (4096 : Int32) := by unfold own_pl; rw [if_pos hc7, if_pos hc7_1, if_pos hc7_2, if_pos hc7_3, if_pos hc7_4, if_pos hc7_5, if_pos hc7_6, if_neg hc7_7]
                  exact own_retR X6 hx Bd.notSynchronized Bd.returns rfl rfl (hb hby d1_21) (by decide) (by decide) ⟨_, rfl, N0, by rw [e6, hf]; exact A6⟩
              · refine own_run (g' := (mkF m 18 #[.val (.int p0), .val (.int (2048 : Int32))] [(.int (2048 : Int32))])) (fun _ kt => XS.icmpYes X0.here hx rfl (pc0 := 7) (pc' := 17) rfl (hb hby d1_7) rfl ((flt hc7_6).2.1) (by decide) (by decide) (XS.iloadN X0.here hx rfl (hb hby d1_17) rfl (kt))) ?_
                refine own_newU X0 hx hZ hown (hw _ (List.mem_of_getElem? (i := 5) rfl)) (hw _ (List.mem_of_getElem? (i := 6) rfl)) e0 (hb hby d1_18) (by decide) (cap := 131072) (by decide) (by decide) (by decide) (by decide) ?_
                intro T7 h7 b7 qq7 X7 e7 E7 A7
                have g_b7 : n0 ≤ b7 := by rw [qq7]; exact Z0
                have Z7 : n0 ≤ h7.size := Nat.le_trans Z0 E7.1
                have hf : own_pl p0 = (2048 : Int32) := by unfold own_pl; rw [if_pos hc7, if_pos hc7_1, if_pos hc7_2, if_pos hc7_3, if_pos hc7_4, if_pos hc7_5, if_neg hc7_6]
                exact own_retR X7 hx Bd.notSynchronized Bd.returns rfl rfl (hb hby d1_21) (by decide) (by decide) ⟨_, rfl, N0, by rw [e7, hf]; exact A7⟩
            · refine own_run (g' := (mkF m 18 #[.val (.int p0), .val (.int (1024 : Int32))] [(.int (1024 : Int32))])) (fun _ kt => XS.icmpYes X0.here hx rfl (pc0 := 7) (pc' := 17) rfl (hb hby d1_7) rfl ((flt hc7_5).2.1) (by decide) (by decide) (XS.iloadN X0.here hx rfl (hb hby d1_17) rfl (kt))) ?_
              refine own_newU X0 hx hZ hown (hw _ (List.mem_of_getElem? (i := 5) rfl)) (hw _ (List.mem_of_getElem? (i := 6) rfl)) e0 (hb hby d1_18) (by decide) (cap := 131072) (by decide) (by decide) (by decide) (by decide) ?_
              intro T8 h8 b8 qq8 X8 e8 E8 A8
              have g_b8 : n0 ≤ b8 := by rw [qq8]; exact Z0
              have Z8 : n0 ≤ h8.size := Nat.le_trans Z0 E8.1
              have hf : own_pl p0 = (1024 : Int32) := by unfold own_pl; rw [if_pos hc7, if_pos hc7_1, if_pos hc7_2, if_pos hc7_3, if_pos hc7_4, if_neg hc7_5]
              exact own_retR X8 hx Bd.notSynchronized Bd.returns rfl rfl (hb hby d1_21) (by decide) (by decide) ⟨_, rfl, N0, by rw [e8, hf]; exact A8⟩
          · refine own_run (g' := (mkF m 18 #[.val (.int p0), .val (.int (512 : Int32))] [(.int (512 : Int32))])) (fun _ kt => XS.icmpYes X0.here hx rfl (pc0 := 7) (pc' := 17) rfl (hb hby d1_7) rfl ((flt hc7_4).2.1) (by decide) (by decide) (XS.iloadN X0.here hx rfl (hb hby d1_17) rfl (kt))) ?_
            refine own_newU X0 hx hZ hown (hw _ (List.mem_of_getElem? (i := 5) rfl)) (hw _ (List.mem_of_getElem? (i := 6) rfl)) e0 (hb hby d1_18) (by decide) (cap := 131072) (by decide) (by decide) (by decide) (by decide) ?_
            intro T9 h9 b9 qq9 X9 e9 E9 A9
            have g_b9 : n0 ≤ b9 := by rw [qq9]; exact Z0
            have Z9 : n0 ≤ h9.size := Nat.le_trans Z0 E9.1
            have hf : own_pl p0 = (512 : Int32) := by unfold own_pl; rw [if_pos hc7, if_pos hc7_1, if_pos hc7_2, if_pos hc7_3, if_neg hc7_4]
            exact own_retR X9 hx Bd.notSynchronized Bd.returns rfl rfl (hb hby d1_21) (by decide) (by decide) ⟨_, rfl, N0, by rw [e9, hf]; exact A9⟩
        · refine own_run (g' := (mkF m 18 #[.val (.int p0), .val (.int (256 : Int32))] [(.int (256 : Int32))])) (fun _ kt => XS.icmpYes X0.here hx rfl (pc0 := 7) (pc' := 17) rfl (hb hby d1_7) rfl ((flt hc7_3).2.1) (by decide) (by decide) (XS.iloadN X0.here hx rfl (hb hby d1_17) rfl (kt))) ?_
          refine own_newU X0 hx hZ hown (hw _ (List.mem_of_getElem? (i := 5) rfl)) (hw _ (List.mem_of_getElem? (i := 6) rfl)) e0 (hb hby d1_18) (by decide) (cap := 131072) (by decide) (by decide) (by decide) (by decide) ?_
          intro T10 h10 b10 qq10 X10 e10 E10 A10
          have g_b10 : n0 ≤ b10 := by rw [qq10]; exact Z0
          have Z10 : n0 ≤ h10.size := Nat.le_trans Z0 E10.1
          have hf : own_pl p0 = (256 : Int32) := by unfold own_pl; rw [if_pos hc7, if_pos hc7_1, if_pos hc7_2, if_neg hc7_3]
          exact own_retR X10 hx Bd.notSynchronized Bd.returns rfl rfl (hb hby d1_21) (by decide) (by decide) ⟨_, rfl, N0, by rw [e10, hf]; exact A10⟩
      · refine own_run (g' := (mkF m 18 #[.val (.int p0), .val (.int (128 : Int32))] [(.int (128 : Int32))])) (fun _ kt => XS.icmpYes X0.here hx rfl (pc0 := 7) (pc' := 17) rfl (hb hby d1_7) rfl ((flt hc7_2).2.1) (by decide) (by decide) (XS.iloadN X0.here hx rfl (hb hby d1_17) rfl (kt))) ?_
        refine own_newU X0 hx hZ hown (hw _ (List.mem_of_getElem? (i := 5) rfl)) (hw _ (List.mem_of_getElem? (i := 6) rfl)) e0 (hb hby d1_18) (by decide) (cap := 131072) (by decide) (by decide) (by decide) (by decide) ?_
        intro T11 h11 b11 qq11 X11 e11 E11 A11
        have g_b11 : n0 ≤ b11 := by rw [qq11]; exact Z0
        have Z11 : n0 ≤ h11.size := Nat.le_trans Z0 E11.1
        have hf : own_pl p0 = (128 : Int32) := by unfold own_pl; rw [if_pos hc7, if_pos hc7_1, if_neg hc7_2]
        exact own_retR X11 hx Bd.notSynchronized Bd.returns rfl rfl (hb hby d1_21) (by decide) (by decide) ⟨_, rfl, N0, by rw [e11, hf]; exact A11⟩
    · refine own_run (g' := (mkF m 18 #[.val (.int p0), .val (.int (64 : Int32))] [(.int (64 : Int32))])) (fun _ kt => XS.icmpYes X0.here hx rfl (pc0 := 7) (pc' := 17) rfl (hb hby d1_7) rfl ((flt hc7_1).2.1) (by decide) (by decide) (XS.iloadN X0.here hx rfl (hb hby d1_17) rfl (kt))) ?_
      refine own_newU X0 hx hZ hown (hw _ (List.mem_of_getElem? (i := 5) rfl)) (hw _ (List.mem_of_getElem? (i := 6) rfl)) e0 (hb hby d1_18) (by decide) (cap := 131072) (by decide) (by decide) (by decide) (by decide) ?_
      intro T12 h12 b12 qq12 X12 e12 E12 A12
      have g_b12 : n0 ≤ b12 := by rw [qq12]; exact Z0
      have Z12 : n0 ≤ h12.size := Nat.le_trans Z0 E12.1
      have hf : own_pl p0 = (64 : Int32) := by unfold own_pl; rw [if_pos hc7, if_neg hc7_1]
      exact own_retR X12 hx Bd.notSynchronized Bd.returns rfl rfl (hb hby d1_21) (by decide) (by decide) ⟨_, rfl, N0, by rw [e12, hf]; exact A12⟩
  · refine own_run (g' := (mkF m 18 #[.val (.int p0), .val (.int (32 : Int32))] [(.int (32 : Int32))])) (fun _ kt => XS.icmpYes X0.here hx rfl (pc0 := 7) (pc' := 17) rfl (hb hby d1_7) rfl ((flt hc7).2.1) (by decide) (by decide) (XS.iloadN X0.here hx rfl (hb hby d1_17) rfl (kt))) ?_
    refine own_newU X0 hx hZ hown (hw _ (List.mem_of_getElem? (i := 5) rfl)) (hw _ (List.mem_of_getElem? (i := 6) rfl)) e0 (hb hby d1_18) (by decide) (cap := 131072) (by decide) (by decide) (by decide) (by decide) ?_
    intro T13 h13 b13 qq13 X13 e13 E13 A13
    have g_b13 : n0 ≤ b13 := by rw [qq13]; exact Z0
    have Z13 : n0 ≤ h13.size := Nat.le_trans Z0 E13.1
    have hf : own_pl p0 = (32 : Int32) := by unfold own_pl; rw [if_neg hc7]
    exact own_retR X13 hx Bd.notSynchronized Bd.returns rfl rfl (hb hby d1_21) (by decide) (by decide) ⟨_, rfl, N0, by rw [e13, hf]; exact A13⟩
theorem own_pn2 : plainName "com/example/ambient_for_callees/ambientforcallees/IndexWithRoomForPinLaw" = true := by first | (simp [plainName, overriddenIn]; done) | decide +kernel
theorem own_ef2 (m : MethodId) (p0 : Int32) : entryFrame m #[(.int p0)] 2 = mkF m 0 #[.val (.int p0), .unset] [] := by first | (simp [entryFrame, mkF, argsToLocals, Value.category]; done) | rfl
def own_R2 : Room := ({ frames := 0, cells := 0, slots := 0, locals := 0 } : Room)
def own_f2 (p0 : Int32) : Int32 := (if (32 : Int32) < ((2 : Int32) * p0) then (if (64 : Int32) < ((2 : Int32) * p0) then (if (128 : Int32) < ((2 : Int32) * p0) then (if (256 : Int32) < ((2 : Int32) * p0) then (if (512 : Int32) < ((2 : Int32) * p0) then (if (1024 : Int32) < ((2 : Int32) * p0) then (if (2048 : Int32) < ((2 : Int32) * p0) then (if (4096 : Int32) < ((2 : Int32) * p0) then (if (8192 : Int32) < ((2 : Int32) * p0) then (if (16384 : Int32) < ((2 : Int32) * p0) then (if (32768 : Int32) < ((2 : Int32) * p0) then (if (65536 : Int32) < ((2 : Int32) * p0) then (131072 : Int32) else (65536 : Int32)) else (32768 : Int32)) else (16384 : Int32)) else (8192 : Int32)) else (4096 : Int32)) else (2048 : Int32)) else (1024 : Int32)) else (512 : Int32)) else (256 : Int32)) else (128 : Int32)) else (64 : Int32)) else (32 : Int32))
def Q2 (z : Int32) (h0 : Heap) (n0 : Nat) (v : Option Value) (h : Heap) (L : List Loc) : Prop := v = some (Value.int z) ∧ Fr n0 L ∧ h = h0
theorem d2_0 : decode method_2_code 0 = .ok (.iconst 2, 1) := by decide +kernel
theorem d2_1 : decode method_2_code 1 = .ok (.iload_n 0, 1) := by decide +kernel
theorem d2_2 : decode method_2_code 2 = .ok (.imul, 1) := by decide +kernel
theorem d2_3 : decode method_2_code 3 = .ok (.istore_n 1, 1) := by decide +kernel
theorem d2_4 : decode method_2_code 4 = .ok (.iload_n 1, 1) := by decide +kernel
theorem d2_5 : decode method_2_code 5 = .ok (.bipush 32, 2) := by decide +kernel
theorem d2_7 : decode method_2_code 7 = .ok (.if_icmp .gt 6, 3) := by decide +kernel
theorem d2_10 : decode method_2_code 10 = .ok (.bipush 32, 2) := by decide +kernel
theorem d2_12 : decode method_2_code 12 = .ok (.ireturn, 1) := by decide +kernel
theorem d2_13 : decode method_2_code 13 = .ok (.iload_n 1, 1) := by decide +kernel
theorem d2_14 : decode method_2_code 14 = .ok (.bipush 64, 2) := by decide +kernel
theorem d2_16 : decode method_2_code 16 = .ok (.if_icmp .gt 6, 3) := by decide +kernel
theorem d2_19 : decode method_2_code 19 = .ok (.bipush 64, 2) := by decide +kernel
theorem d2_21 : decode method_2_code 21 = .ok (.ireturn, 1) := by decide +kernel
theorem d2_22 : decode method_2_code 22 = .ok (.iload_n 1, 1) := by decide +kernel
theorem d2_23 : decode method_2_code 23 = .ok (.sipush 128, 3) := by decide +kernel
theorem d2_26 : decode method_2_code 26 = .ok (.if_icmp .gt 7, 3) := by decide +kernel
theorem d2_29 : decode method_2_code 29 = .ok (.sipush 128, 3) := by decide +kernel
theorem d2_32 : decode method_2_code 32 = .ok (.ireturn, 1) := by decide +kernel
theorem d2_33 : decode method_2_code 33 = .ok (.iload_n 1, 1) := by decide +kernel
theorem d2_34 : decode method_2_code 34 = .ok (.sipush 256, 3) := by decide +kernel
theorem d2_37 : decode method_2_code 37 = .ok (.if_icmp .gt 7, 3) := by decide +kernel
theorem d2_40 : decode method_2_code 40 = .ok (.sipush 256, 3) := by decide +kernel
theorem d2_43 : decode method_2_code 43 = .ok (.ireturn, 1) := by decide +kernel
theorem d2_44 : decode method_2_code 44 = .ok (.iload_n 1, 1) := by decide +kernel
theorem d2_45 : decode method_2_code 45 = .ok (.sipush 512, 3) := by decide +kernel
theorem d2_48 : decode method_2_code 48 = .ok (.if_icmp .gt 7, 3) := by decide +kernel
theorem d2_51 : decode method_2_code 51 = .ok (.sipush 512, 3) := by decide +kernel
theorem d2_54 : decode method_2_code 54 = .ok (.ireturn, 1) := by decide +kernel
theorem d2_55 : decode method_2_code 55 = .ok (.iload_n 1, 1) := by decide +kernel
theorem d2_56 : decode method_2_code 56 = .ok (.sipush 1024, 3) := by decide +kernel
theorem d2_59 : decode method_2_code 59 = .ok (.if_icmp .gt 7, 3) := by decide +kernel
theorem d2_62 : decode method_2_code 62 = .ok (.sipush 1024, 3) := by decide +kernel
theorem d2_65 : decode method_2_code 65 = .ok (.ireturn, 1) := by decide +kernel
theorem d2_66 : decode method_2_code 66 = .ok (.iload_n 1, 1) := by decide +kernel
theorem d2_67 : decode method_2_code 67 = .ok (.sipush 2048, 3) := by decide +kernel
theorem d2_70 : decode method_2_code 70 = .ok (.if_icmp .gt 7, 3) := by decide +kernel
theorem d2_73 : decode method_2_code 73 = .ok (.sipush 2048, 3) := by decide +kernel
theorem d2_76 : decode method_2_code 76 = .ok (.ireturn, 1) := by decide +kernel
theorem d2_77 : decode method_2_code 77 = .ok (.iload_n 1, 1) := by decide +kernel
theorem d2_78 : decode method_2_code 78 = .ok (.sipush 4096, 3) := by decide +kernel
theorem d2_81 : decode method_2_code 81 = .ok (.if_icmp .gt 7, 3) := by decide +kernel
theorem d2_84 : decode method_2_code 84 = .ok (.sipush 4096, 3) := by decide +kernel
theorem d2_87 : decode method_2_code 87 = .ok (.ireturn, 1) := by decide +kernel
theorem d2_88 : decode method_2_code 88 = .ok (.iload_n 1, 1) := by decide +kernel
theorem d2_89 : decode method_2_code 89 = .ok (.sipush 8192, 3) := by decide +kernel
theorem d2_92 : decode method_2_code 92 = .ok (.if_icmp .gt 7, 3) := by decide +kernel
theorem d2_95 : decode method_2_code 95 = .ok (.sipush 8192, 3) := by decide +kernel
theorem d2_98 : decode method_2_code 98 = .ok (.ireturn, 1) := by decide +kernel
theorem d2_99 : decode method_2_code 99 = .ok (.iload_n 1, 1) := by decide +kernel
theorem d2_100 : decode method_2_code 100 = .ok (.sipush 16384, 3) := by decide +kernel
theorem d2_103 : decode method_2_code 103 = .ok (.if_icmp .gt 7, 3) := by decide +kernel
theorem d2_106 : decode method_2_code 106 = .ok (.sipush 16384, 3) := by decide +kernel
theorem d2_109 : decode method_2_code 109 = .ok (.ireturn, 1) := by decide +kernel
theorem d2_110 : decode method_2_code 110 = .ok (.iload_n 1, 1) := by decide +kernel
theorem d2_111 : decode method_2_code 111 = .ok (.ldc 7, 2) := by decide +kernel
theorem d2_113 : decode method_2_code 113 = .ok (.if_icmp .gt 6, 3) := by decide +kernel
theorem d2_116 : decode method_2_code 116 = .ok (.ldc 7, 2) := by decide +kernel
theorem d2_118 : decode method_2_code 118 = .ok (.ireturn, 1) := by decide +kernel
theorem d2_119 : decode method_2_code 119 = .ok (.iload_n 1, 1) := by decide +kernel
theorem d2_120 : decode method_2_code 120 = .ok (.ldc 8, 2) := by decide +kernel
theorem d2_122 : decode method_2_code 122 = .ok (.if_icmp .gt 6, 3) := by decide +kernel
theorem d2_125 : decode method_2_code 125 = .ok (.ldc 8, 2) := by decide +kernel
theorem d2_127 : decode method_2_code 127 = .ok (.ireturn, 1) := by decide +kernel
theorem d2_128 : decode method_2_code 128 = .ok (.ldc 9, 2) := by decide +kernel
theorem d2_130 : decode method_2_code 130 = .ok (.ireturn, 1) := by decide +kernel
set_option maxRecDepth 65536 in
set_option maxHeartbeats 40000000 in
theorem rm2 (l : Launch) (Z : State) (a0 : Array Value) (hw : ∀ d ∈ tables_1, d.before a0 Z = true) (ws : List Jvm.Cond) (p0 : Int32) (h0 : Heap) (n0 : Nat) :
    MetFree l (⟨"com/example/ambient_for_callees/ambientforcallees/IndexWithRoomForPinLaw", "expectedPlaces", "(I)I"⟩ : MethodName) (head1 (Jvm.Cond.code (⟨"com/example/ambient_for_callees/ambientforcallees/IndexWithRoomForPinLaw", "expectedPlaces", "(I)I"⟩ : MethodName) method_2_code 2 (some .int) :: ws) own_R2) (fun a U => a = #[(.int p0)] ∧ Z.Warmed39 U.vm ∧ U.heap = h0) (fun _ _ _ _ _ => True) (fun _ U o U' => ∃ v L, o = .returned v ∧ Q2 (own_f2 p0) h0 n0 v U'.heap L ∧ FrameEnd U o U' L own_R2.cells own_R2.slots) := by
  refine MetFree.of_bodySF (plainFor_of_name own_pn2) hisR ?_
  intro p e s m args below meth c s₁ Bd hml0 hP hK
  obtain ⟨ha, hZ, hh⟩ := hP
  have hx := Bd.exec
  have hby := Bd.bytes
  have hml : c.maxLocals = 2 := hml0
  have hown : s.vm.findClass "com/example/ambient_for_callees/ambientforcallees/IndexWithRoomForPinLaw" = some m.cls := findClass_of_methodNamed Bd.named
  have hnm := (name_of_methodNamed Bd.named Bd.method).1
  have X0 : Stand p l e own_R2 s m args below meth c s₁ [] 0 0 := Stand.of_body Bd
  have e0 : s₁.heap = h0 := by rw [← hh, Bd.state]; rfl
  have N0 := Fr.nil n0
  refine own_enter (Q := (Q2 (own_f2 p0) h0 n0)) (g := mkF m 0 #[.val (.int p0), .unset] []) (by rw [ha]; exact own_ef2 m p0) ?_
  refine own_run (g' := (mkF m 7 #[.val (.int p0), .val (.int ((2 : Int32) * p0))] [(.int (32 : Int32)), (.int ((2 : Int32) * p0))])) (fun _ kt => XS.iconst X0.here hx rfl (hb hby d2_0) (XS.iloadN X0.here hx rfl (hb hby d2_1) rfl (XS.imul X0.here hx rfl (hb hby d2_2) rfl (XS.istoreN X0.here hx rfl (hb hby d2_3) rfl (l' := #[.val (.int p0), .val (.int ((2 : Int32) * p0))]) rfl (XS.iloadN X0.here hx rfl (hb hby d2_4) rfl (XS.bipush X0.here hx rfl (hb hby d2_5) (kt))))))) ?_
  by_cases hc7 : (32 : Int32) < ((2 : Int32) * p0)
  · refine own_run (g' := (mkF m 16 #[.val (.int p0), .val (.int ((2 : Int32) * p0))] [(.int (64 : Int32)), (.int ((2 : Int32) * p0))])) (fun _ kt => XS.icmpYes X0.here hx rfl (pc0 := 7) (pc' := 13) rfl (hb hby d2_7) rfl ((tlt hc7).2.2.1) (by decide) (by decide) (XS.iloadN X0.here hx rfl (hb hby d2_13) rfl (XS.bipush X0.here hx rfl (hb hby d2_14) (kt)))) ?_
    by_cases hc16 : (64 : Int32) < ((2 : Int32) * p0)
    · refine own_run (g' := (mkF m 26 #[.val (.int p0), .val (.int ((2 : Int32) * p0))] [(.int (128 : Int32)), (.int ((2 : Int32) * p0))])) (fun _ kt => XS.icmpYes X0.here hx rfl (pc0 := 16) (pc' := 22) rfl (hb hby d2_16) rfl ((tlt hc16).2.2.1) (by decide) (by decide) (XS.iloadN X0.here hx rfl (hb hby d2_22) rfl (XS.sipush X0.here hx rfl (hb hby d2_23) (kt)))) ?_
      by_cases hc26 : (128 : Int32) < ((2 : Int32) * p0)
      · refine own_run (g' := (mkF m 37 #[.val (.int p0), .val (.int ((2 : Int32) * p0))] [(.int (256 : Int32)), (.int ((2 : Int32) * p0))])) (fun _ kt => XS.icmpYes X0.here hx rfl (pc0 := 26) (pc' := 33) rfl (hb hby d2_26) rfl ((tlt hc26).2.2.1) (by decide) (by decide) (XS.iloadN X0.here hx rfl (hb hby d2_33) rfl (XS.sipush X0.here hx rfl (hb hby d2_34) (kt)))) ?_
        by_cases hc37 : (256 : Int32) < ((2 : Int32) * p0)
        · refine own_run (g' := (mkF m 48 #[.val (.int p0), .val (.int ((2 : Int32) * p0))] [(.int (512 : Int32)), (.int ((2 : Int32) * p0))])) (fun _ kt => XS.icmpYes X0.here hx rfl (pc0 := 37) (pc' := 44) rfl (hb hby d2_37) rfl ((tlt hc37).2.2.1) (by decide) (by decide) (XS.iloadN X0.here hx rfl (hb hby d2_44) rfl (XS.sipush X0.here hx rfl (hb hby d2_45) (kt)))) ?_
          by_cases hc48 : (512 : Int32) < ((2 : Int32) * p0)
          · refine own_run (g' := (mkF m 59 #[.val (.int p0), .val (.int ((2 : Int32) * p0))] [(.int (1024 : Int32)), (.int ((2 : Int32) * p0))])) (fun _ kt => XS.icmpYes X0.here hx rfl (pc0 := 48) (pc' := 55) rfl (hb hby d2_48) rfl ((tlt hc48).2.2.1) (by decide) (by decide) (XS.iloadN X0.here hx rfl (hb hby d2_55) rfl (XS.sipush X0.here hx rfl (hb hby d2_56) (kt)))) ?_
            by_cases hc59 : (1024 : Int32) < ((2 : Int32) * p0)
            · refine own_run (g' := (mkF m 70 #[.val (.int p0), .val (.int ((2 : Int32) * p0))] [(.int (2048 : Int32)), (.int ((2 : Int32) * p0))])) (fun _ kt => XS.icmpYes X0.here hx rfl (pc0 := 59) (pc' := 66) rfl (hb hby d2_59) rfl ((tlt hc59).2.2.1) (by decide) (by decide) (XS.iloadN X0.here hx rfl (hb hby d2_66) rfl (XS.sipush X0.here hx rfl (hb hby d2_67) (kt)))) ?_
              by_cases hc70 : (2048 : Int32) < ((2 : Int32) * p0)
              · refine own_run (g' := (mkF m 81 #[.val (.int p0), .val (.int ((2 : Int32) * p0))] [(.int (4096 : Int32)), (.int ((2 : Int32) * p0))])) (fun _ kt => XS.icmpYes X0.here hx rfl (pc0 := 70) (pc' := 77) rfl (hb hby d2_70) rfl ((tlt hc70).2.2.1) (by decide) (by decide) (XS.iloadN X0.here hx rfl (hb hby d2_77) rfl (XS.sipush X0.here hx rfl (hb hby d2_78) (kt)))) ?_
                by_cases hc81 : (4096 : Int32) < ((2 : Int32) * p0)
                · refine own_run (g' := (mkF m 92 #[.val (.int p0), .val (.int ((2 : Int32) * p0))] [(.int (8192 : Int32)), (.int ((2 : Int32) * p0))])) (fun _ kt => XS.icmpYes X0.here hx rfl (pc0 := 81) (pc' := 88) rfl (hb hby d2_81) rfl ((tlt hc81).2.2.1) (by decide) (by decide) (XS.iloadN X0.here hx rfl (hb hby d2_88) rfl (XS.sipush X0.here hx rfl (hb hby d2_89) (kt)))) ?_
                  by_cases hc92 : (8192 : Int32) < ((2 : Int32) * p0)
                  · refine own_run (g' := (mkF m 103 #[.val (.int p0), .val (.int ((2 : Int32) * p0))] [(.int (16384 : Int32)), (.int ((2 : Int32) * p0))])) (fun _ kt => XS.icmpYes X0.here hx rfl (pc0 := 92) (pc' := 99) rfl (hb hby d2_92) rfl ((tlt hc92).2.2.1) (by decide) (by decide) (XS.iloadN X0.here hx rfl (hb hby d2_99) rfl (XS.sipush X0.here hx rfl (hb hby d2_100) (kt)))) ?_
                    by_cases hc103 : (16384 : Int32) < ((2 : Int32) * p0)
                    · refine own_run (g' := (mkF m 111 #[.val (.int p0), .val (.int ((2 : Int32) * p0))] [(.int ((2 : Int32) * p0))])) (fun _ kt => XS.icmpYes X0.here hx rfl (pc0 := 103) (pc' := 110) rfl (hb hby d2_103) rfl ((tlt hc103).2.2.1) (by decide) (by decide) (XS.iloadN X0.here hx rfl (hb hby d2_110) rfl (kt))) ?_
                      refine own_ldcI X0 hx hZ hown (hw _ (List.mem_of_getElem? (i := 12) rfl)) (hb hby d2_111) ?_
                      by_cases hc113 : (32768 : Int32) < ((2 : Int32) * p0)
                      · refine own_run (g' := (mkF m 120 #[.val (.int p0), .val (.int ((2 : Int32) * p0))] [(.int ((2 : Int32) * p0))])) (fun _ kt => XS.icmpYes X0.here hx rfl (pc0 := 113) (pc' := 119) rfl (hb hby d2_113) rfl ((tlt hc113).2.2.1) (by decide) (by decide) (XS.iloadN X0.here hx rfl (hb hby d2_119) rfl (kt))) ?_
                        refine own_ldcI X0 hx hZ hown (hw _ (List.mem_of_getElem? (i := 13) rfl)) (hb hby d2_120) ?_
                        by_cases hc122 : (65536 : Int32) < ((2 : Int32) * p0)
                        · refine own_run (g' := (mkF m 128 #[.val (.int p0), .val (.int ((2 : Int32) * p0))] [])) (fun _ kt => XS.icmpYes X0.here hx rfl (pc0 := 122) (pc' := 128) rfl (hb hby d2_122) rfl ((tlt hc122).2.2.1) (by decide) (by decide) (kt)) ?_
                          refine own_ldcI X0 hx hZ hown (hw _ (List.mem_of_getElem? (i := 14) rfl)) (hb hby d2_128) ?_
                          have hf : own_f2 p0 = (131072 : Int32) := by unfold own_f2; rw [if_pos hc7, if_pos hc16, if_pos hc26, if_pos hc37, if_pos hc48, if_pos hc59, if_pos hc70, if_pos hc81, if_pos hc92, if_pos hc103, if_pos hc113, if_pos hc122]
                          exact own_retI X0 hx Bd.notSynchronized Bd.returns (hb hby d2_130) (by decide) (by decide) ⟨congrArg (fun z => some (Value.int z)) hf.symm, N0, e0⟩
                        · refine own_run (g' := (mkF m 125 #[.val (.int p0), .val (.int ((2 : Int32) * p0))] [])) (fun _ kt => XS.icmpNo X0.here hx rfl (hb hby d2_122) rfl ((flt hc122).2.2.1) (kt)) ?_
                          refine own_ldcI X0 hx hZ hown (hw _ (List.mem_of_getElem? (i := 13) rfl)) (hb hby d2_125) ?_
                          have hf : own_f2 p0 = (65536 : Int32) := by unfold own_f2; rw [if_pos hc7, if_pos hc16, if_pos hc26, if_pos hc37, if_pos hc48, if_pos hc59, if_pos hc70, if_pos hc81, if_pos hc92, if_pos hc103, if_pos hc113, if_neg hc122]
                          exact own_retI X0 hx Bd.notSynchronized Bd.returns (hb hby d2_127) (by decide) (by decide) ⟨congrArg (fun z => some (Value.int z)) hf.symm, N0, e0⟩
                      · refine own_run (g' := (mkF m 116 #[.val (.int p0), .val (.int ((2 : Int32) * p0))] [])) (fun _ kt => XS.icmpNo X0.here hx rfl (hb hby d2_113) rfl ((flt hc113).2.2.1) (kt)) ?_
                        refine own_ldcI X0 hx hZ hown (hw _ (List.mem_of_getElem? (i := 12) rfl)) (hb hby d2_116) ?_
                        have hf : own_f2 p0 = (32768 : Int32) := by unfold own_f2; rw [if_pos hc7, if_pos hc16, if_pos hc26, if_pos hc37, if_pos hc48, if_pos hc59, if_pos hc70, if_pos hc81, if_pos hc92, if_pos hc103, if_neg hc113]
                        exact own_retI X0 hx Bd.notSynchronized Bd.returns (hb hby d2_118) (by decide) (by decide) ⟨congrArg (fun z => some (Value.int z)) hf.symm, N0, e0⟩
                    · refine own_run (g' := (mkF m 109 #[.val (.int p0), .val (.int ((2 : Int32) * p0))] [(.int (16384 : Int32))])) (fun _ kt => XS.icmpNo X0.here hx rfl (hb hby d2_103) rfl ((flt hc103).2.2.1) (XS.sipush X0.here hx rfl (hb hby d2_106) (kt))) ?_
                      have hf : own_f2 p0 = (16384 : Int32) := by unfold own_f2; rw [if_pos hc7, if_pos hc16, if_pos hc26, if_pos hc37, if_pos hc48, if_pos hc59, if_pos hc70, if_pos hc81, if_pos hc92, if_neg hc103]
                      exact own_retI X0 hx Bd.notSynchronized Bd.returns (hb hby d2_109) (by decide) (by decide) ⟨congrArg (fun z => some (Value.int z)) hf.symm, N0, e0⟩
                  · refine own_run (g' := (mkF m 98 #[.val (.int p0), .val (.int ((2 : Int32) * p0))] [(.int (8192 : Int32))])) (fun _ kt => XS.icmpNo X0.here hx rfl (hb hby d2_92) rfl ((flt hc92).2.2.1) (XS.sipush X0.here hx rfl (hb hby d2_95) (kt))) ?_
                    have hf : own_f2 p0 = (8192 : Int32) := by unfold own_f2; rw [if_pos hc7, if_pos hc16, if_pos hc26, if_pos hc37, if_pos hc48, if_pos hc59, if_pos hc70, if_pos hc81, if_neg hc92]
                    exact own_retI X0 hx Bd.notSynchronized Bd.returns (hb hby d2_98) (by decide) (by decide) ⟨congrArg (fun z => some (Value.int z)) hf.symm, N0, e0⟩
                · refine own_run (g' := (mkF m 87 #[.val (.int p0), .val (.int ((2 : Int32) * p0))] [(.int (4096 : Int32))])) (fun _ kt => XS.icmpNo X0.here hx rfl (hb hby d2_81) rfl ((flt hc81).2.2.1) (XS.sipush X0.here hx rfl (hb hby d2_84) (kt))) ?_
                  have hf : own_f2 p0 = (4096 : Int32) := by unfold own_f2; rw [if_pos hc7, if_pos hc16, if_pos hc26, if_pos hc37, if_pos hc48, if_pos hc59, if_pos hc70, if_neg hc81]
                  exact own_retI X0 hx Bd.notSynchronized Bd.returns (hb hby d2_87) (by decide) (by decide) ⟨congrArg (fun z => some (Value.int z)) hf.symm, N0, e0⟩
              · refine own_run (g' := (mkF m 76 #[.val (.int p0), .val (.int ((2 : Int32) * p0))] [(.int (2048 : Int32))])) (fun _ kt => XS.icmpNo X0.here hx rfl (hb hby d2_70) rfl ((flt hc70).2.2.1) (XS.sipush X0.here hx rfl (hb hby d2_73) (kt))) ?_
                have hf : own_f2 p0 = (2048 : Int32) := by unfold own_f2; rw [if_pos hc7, if_pos hc16, if_pos hc26, if_pos hc37, if_pos hc48, if_pos hc59, if_neg hc70]
                exact own_retI X0 hx Bd.notSynchronized Bd.returns (hb hby d2_76) (by decide) (by decide) ⟨congrArg (fun z => some (Value.int z)) hf.symm, N0, e0⟩
            · refine own_run (g' := (mkF m 65 #[.val (.int p0), .val (.int ((2 : Int32) * p0))] [(.int (1024 : Int32))])) (fun _ kt => XS.icmpNo X0.here hx rfl (hb hby d2_59) rfl ((flt hc59).2.2.1) (XS.sipush X0.here hx rfl (hb hby d2_62) (kt))) ?_
              have hf : own_f2 p0 = (1024 : Int32) := by unfold own_f2; rw [if_pos hc7, if_pos hc16, if_pos hc26, if_pos hc37, if_pos hc48, if_neg hc59]
              exact own_retI X0 hx Bd.notSynchronized Bd.returns (hb hby d2_65) (by decide) (by decide) ⟨congrArg (fun z => some (Value.int z)) hf.symm, N0, e0⟩
          · refine own_run (g' := (mkF m 54 #[.val (.int p0), .val (.int ((2 : Int32) * p0))] [(.int (512 : Int32))])) (fun _ kt => XS.icmpNo X0.here hx rfl (hb hby d2_48) rfl ((flt hc48).2.2.1) (XS.sipush X0.here hx rfl (hb hby d2_51) (kt))) ?_
            have hf : own_f2 p0 = (512 : Int32) := by unfold own_f2; rw [if_pos hc7, if_pos hc16, if_pos hc26, if_pos hc37, if_neg hc48]
            exact own_retI X0 hx Bd.notSynchronized Bd.returns (hb hby d2_54) (by decide) (by decide) ⟨congrArg (fun z => some (Value.int z)) hf.symm, N0, e0⟩
        · refine own_run (g' := (mkF m 43 #[.val (.int p0), .val (.int ((2 : Int32) * p0))] [(.int (256 : Int32))])) (fun _ kt => XS.icmpNo X0.here hx rfl (hb hby d2_37) rfl ((flt hc37).2.2.1) (XS.sipush X0.here hx rfl (hb hby d2_40) (kt))) ?_
          have hf : own_f2 p0 = (256 : Int32) := by unfold own_f2; rw [if_pos hc7, if_pos hc16, if_pos hc26, if_neg hc37]
          exact own_retI X0 hx Bd.notSynchronized Bd.returns (hb hby d2_43) (by decide) (by decide) ⟨congrArg (fun z => some (Value.int z)) hf.symm, N0, e0⟩
      · refine own_run (g' := (mkF m 32 #[.val (.int p0), .val (.int ((2 : Int32) * p0))] [(.int (128 : Int32))])) (fun _ kt => XS.icmpNo X0.here hx rfl (hb hby d2_26) rfl ((flt hc26).2.2.1) (XS.sipush X0.here hx rfl (hb hby d2_29) (kt))) ?_
        have hf : own_f2 p0 = (128 : Int32) := by unfold own_f2; rw [if_pos hc7, if_pos hc16, if_neg hc26]
        exact own_retI X0 hx Bd.notSynchronized Bd.returns (hb hby d2_32) (by decide) (by decide) ⟨congrArg (fun z => some (Value.int z)) hf.symm, N0, e0⟩
    · refine own_run (g' := (mkF m 21 #[.val (.int p0), .val (.int ((2 : Int32) * p0))] [(.int (64 : Int32))])) (fun _ kt => XS.icmpNo X0.here hx rfl (hb hby d2_16) rfl ((flt hc16).2.2.1) (XS.bipush X0.here hx rfl (hb hby d2_19) (kt))) ?_
      have hf : own_f2 p0 = (64 : Int32) := by unfold own_f2; rw [if_pos hc7, if_neg hc16]
      exact own_retI X0 hx Bd.notSynchronized Bd.returns (hb hby d2_21) (by decide) (by decide) ⟨congrArg (fun z => some (Value.int z)) hf.symm, N0, e0⟩
  · refine own_run (g' := (mkF m 12 #[.val (.int p0), .val (.int ((2 : Int32) * p0))] [(.int (32 : Int32))])) (fun _ kt => XS.icmpNo X0.here hx rfl (hb hby d2_7) rfl ((flt hc7).2.2.1) (XS.bipush X0.here hx rfl (hb hby d2_10) (kt))) ?_
    have hf : own_f2 p0 = (32 : Int32) := by unfold own_f2; rw [if_neg hc7]
    exact own_retI X0 hx Bd.notSynchronized Bd.returns (hb hby d2_12) (by decide) (by decide) ⟨congrArg (fun z => some (Value.int z)) hf.symm, N0, e0⟩
theorem own_max (x : Int32) : ¬ (131072 : Int32) < ((2 : Int32) * (x &&& (65535 : Int32))) := by
  have e := Jvm.Kit.i32_mask x 65535 (k := 16) (by decide) (by decide)
  have e0 : (2 : Int32).toInt = 2 := rfl
  have e1 : (131072 : Int32).toInt = 131072 := rfl
  rw [Int32.lt_iff_toInt_lt, Jvm.Kit.i32_mul (by rw [e, e0]; omega) (by rw [e, e0]; omega), e, e0, e1]
  omega
theorem own_plr (x : Int32) : (32 : Int32) ≤ own_pl x ∧ own_pl x ≤ (131072 : Int32) := by
  unfold own_pl
  repeat' split
  all_goals exact ⟨by decide, by decide⟩
theorem own_plI (x : Int32) : 32 ≤ (own_pl x).toInt ∧ (own_pl x).toInt ≤ 131072 := by
  have h := own_plr x
  rw [Int32.le_iff_toInt_le, Int32.le_iff_toInt_le] at h
  exact h
theorem own_pos (x : Int32) : ¬ (0 : Int32) < 0 ∧ (0 : Int32) < own_pl x := by
  have h := own_plI x
  have e0 : (0 : Int32).toInt = 0 := rfl
  refine ⟨by decide, ?_⟩
  rw [Int32.lt_iff_toInt_lt]; omega
theorem own_last (x : Int32) : ¬ (own_pl x - (1 : Int32)) < 0 ∧ (own_pl x - (1 : Int32)) < own_pl x := by
  have h := own_plI x
  have e0 : (0 : Int32).toInt = 0 := rfl
  have e1 : (1 : Int32).toInt = 1 := rfl
  rw [Int32.lt_iff_toInt_lt, Int32.lt_iff_toInt_lt, Jvm.Kit.i32_sub (by omega) (by omega), e0, e1]; omega
theorem own_mid (x y : Int32) : ¬ ((y &&& (2147483647 : Int32)) % own_pl x) < 0 ∧ ((y &&& (2147483647 : Int32)) % own_pl x) < own_pl x := by
  have h := own_plI x
  have e := Jvm.Kit.i32_mask y 2147483647 (k := 31) (by decide) (by decide)
  have e0 : (0 : Int32).toInt = 0 := rfl
  rw [Int32.lt_iff_toInt_lt, Int32.lt_iff_toInt_lt, Jvm.Kit.i32_rem_nonneg (by rw [e]; omega), e0]
  have h1 := Int.emod_nonneg (y &&& (2147483647 : Int32)).toInt (b := (own_pl x).toInt) (by omega)
  have h2 := Int.emod_lt_of_pos (y &&& (2147483647 : Int32)).toInt (b := (own_pl x).toInt) (by omega)
  omega
theorem own_eq2 (x : Int32) : own_pl x = own_f2 x := rfl
theorem own_pn0 : plainName "com/example/ambient_for_callees/ambientforcallees/IndexWithRoomForPinLaw" = true := by first | (simp [plainName, overriddenIn]; done) | decide +kernel
theorem own_ef0 (m : MethodId) (p0 : Int32) (p1 : Int32) : entryFrame m #[(.int p0), (.int p1)] maxLocals = mkF m 0 #[.val (.int p0), .val (.int p1), .unset, .unset, .unset, .unset] [] := by first | (simp [entryFrame, mkF, argsToLocals, Value.category, maxLocals]; done) | rfl
def Q0 (h0 : Heap) (n0 : Nat) (v : Option Value) (h : Heap) (L : List Loc) : Prop := v = some (.int 1) ∧ Fr n0 L
theorem own_pd0 : parseMethodDescriptor "(I)[Lcom/example/ambient_for_callees/ambientforcallees/Bindings;" = some ⟨[.int], some (.array (.object "com/example/ambient_for_callees/ambientforcallees/Bindings"))⟩ := by decide +kernel
theorem own_pd1 : parseMethodDescriptor "(I)I" = some ⟨[.int], some .int⟩ := by decide +kernel
set_option maxRecDepth 65536 in
set_option maxHeartbeats 40000000 in
theorem rm0 (l : Launch) (Z : State) (a0 : Array Value) (hw : ∀ d ∈ tables_1, d.before a0 Z = true) (ws : List Jvm.Cond) (p0 : Int32) (p1 : Int32) (h0 : Heap) (n0 : Nat) (Z0 : n0 ≤ h0.size) :
    MetFree l x (head1 (Jvm.Cond.code x code maxLocals ret :: ws) room_1) (fun a U => a = #[(.int p0), (.int p1)] ∧ Z.Warmed39 U.vm ∧ U.heap = h0) (fun _ _ _ _ _ => True) (fun _ U o U' => ∃ v L, o = .returned v ∧ Q0 h0 n0 v U'.heap L ∧ FrameEnd U o U' L room_1.cells room_1.slots) := by
  refine MetFree.of_bodySF (plainFor_of_name own_pn0) hisR ?_
  intro p e s m args below meth c s₁ Bd hml0 hP hK
  obtain ⟨ha, hZ, hh⟩ := hP
  have hx := Bd.exec
  have hby := Bd.bytes
  have hml : c.maxLocals = 6 := hml0
  have hown : s.vm.findClass "com/example/ambient_for_callees/ambientforcallees/IndexWithRoomForPinLaw" = some m.cls := findClass_of_methodNamed Bd.named
  have hnm := (name_of_methodNamed Bd.named Bd.method).1
  have X0 : Stand p l e room_1 s m args below meth c s₁ [] 0 0 := Stand.of_body Bd
  have e0 : s₁.heap = h0 := by rw [← hh, Bd.state]; rfl
  have N0 := Fr.nil n0
  refine own_enter (Q := (Q0 h0 n0)) (g := mkF m 0 #[.val (.int p0), .val (.int p1), .unset, .unset, .unset, .unset] []) (by rw [ha]; exact own_ef0 m p0 p1) ?_
  refine own_run (g' := (mkF m 1 #[.val (.int p0), .val (.int p1), .unset, .unset, .unset, .unset] [(.int p0)])) (fun _ kt => XS.iloadN X0.here hx rfl (hb hby at_0) rfl (kt)) ?_
  refine own_ldcI X0 hx hZ hown (hw _ (List.mem_of_getElem? (i := 0) rfl)) (hb hby at_1) ?_
  refine own_run (g' := (mkF m 5 #[.val (.int p0), .val (.int p1), .val (.int (p0 &&& (65535 : Int32))), .unset, .unset, .unset] [])) (fun _ kt => XS.iand X0.here hx rfl (hb hby at_3) rfl (XS.istoreN X0.here hx rfl (hb hby at_4) rfl (l' := #[.val (.int p0), .val (.int p1), .val (.int (p0 &&& (65535 : Int32))), .unset, .unset, .unset]) rfl (kt))) ?_
  obtain ⟨v4, hv4⟩ : ∃ z : Int32, z = (p0 &&& (65535 : Int32)) := ⟨_, rfl⟩
  rw [← hv4]
  have hmax : ¬ (131072 : Int32) < ((2 : Int32) * v4) := by rw [hv4]; exact own_max _
  refine own_run (g' := (mkF m 6 #[.val (.int p0), .val (.int p1), .val (.int v4), .unset, .unset, .unset] [(.int v4)])) (fun _ kt => XS.iloadN X0.here hx rfl (hb hby at_5) rfl (kt)) ?_
  refine own_callS X0 hx hZ hown (hw _ (List.mem_of_getElem? (i := 1) rfl)) (hw _ (List.mem_of_getElem? (i := 2) rfl)) (hw _ (List.mem_of_getElem? (i := 3) rfl)) (hw _ (List.mem_of_getElem? (i := 4) rfl)) (by decide) (rm1 l Z a0 hw [] v4 h0 n0 Z0 hmax) e0 (by decide) (by decide) (by decide) (by decide) (by rw [hml]; rfl) (argsL := [(.int v4)]) (rest := []) (lenOf own_pd0 rfl) rfl (W := 0) (Nat.le_of_eq rfl) (hb hby at_6) ?_
  intro T1 r1 L1 X1 hQ1
  obtain ⟨b1, rfl, Nq1, A1⟩ := hQ1
  have N1 := Fr.app N0 Nq1
  refine own_run (g' := (mkF m 17 #[.val (.int p0), .val (.int p1), .val (.int v4), .val (.ref b1), .unset, .unset] [(.ref b1)])) (fun _ kt => XS.astoreN X1.here hx rfl (hb hby at_9) rfl rfl (l' := #[.val (.int p0), .val (.int p1), .val (.int v4), .val (.ref b1), .unset, .unset]) rfl (XS.aloadN X1.here hx rfl (hb hby at_10) rfl rfl (XS.ifnonnullYes X1.here hx rfl (pc0 := 11) (pc' := 16) rfl (hb hby at_11) rfl (by decide) (by decide) (XS.aloadN X1.here hx rfl (hb hby at_16) rfl rfl (kt))))) ?_
  refine own_lenL X1 hx hZ rfl A1.toL (hb hby at_17) ?_
  refine own_run (g' := (mkF m 20 #[.val (.int p0), .val (.int p1), .val (.int v4), .val (.ref b1), .val (.int (own_pl v4)), .unset] [])) (fun _ kt => XS.istore X1.here hx rfl (hb hby at_18) rfl (l' := #[.val (.int p0), .val (.int p1), .val (.int v4), .val (.ref b1), .val (.int (own_pl v4)), .unset]) rfl (kt)) ?_
  obtain ⟨v18, hv18⟩ : ∃ z : Int32, z = (own_pl v4) := ⟨_, rfl⟩
  rw [← hv18]
  refine own_run (g' := (mkF m 23 #[.val (.int p0), .val (.int p1), .val (.int v4), .val (.ref b1), .val (.int v18), .unset] [(.int v4), (.int v18)])) (fun _ kt => XS.iload X1.here hx rfl (hb hby at_20) rfl (XS.iloadN X1.here hx rfl (hb hby at_22) rfl (kt))) ?_
  refine own_callS X1 hx hZ hown (hw _ (List.mem_of_getElem? (i := 7) rfl)) (hw _ (List.mem_of_getElem? (i := 8) rfl)) (hw _ (List.mem_of_getElem? (i := 9) rfl)) (hw _ (List.mem_of_getElem? (i := 10) rfl)) (by decide) (rm2 l Z a0 hw [] v4 T1.heap n0) rfl (by decide) (by decide) (by decide) (by decide) (by rw [hml]; rfl) (argsL := [(.int v4)]) (rest := [(.int v18)]) (lenOf own_pd1 rfl) rfl (W := 1) (Nat.le_of_eq rfl) (hb hby at_23) ?_
  intro T2 r2 L2 X2 hQ2
  obtain ⟨rfl, Nq2, e2⟩ := hQ2
  have N2 := Fr.app N1 Nq2
  have hd26 : v18 = (own_f2 v4) := by rw [hv18]; exact own_eq2 _
  refine own_run (g' := (mkF m 32 #[.val (.int p0), .val (.int p1), .val (.int v4), .val (.ref b1), .val (.int v18), .unset] [(.int p1)])) (fun _ kt => XS.icmpYes X2.here hx rfl (pc0 := 26) (pc' := 31) rfl (hb hby at_26) rfl ((teq hd26).1) (by decide) (by decide) (XS.iloadN X2.here hx rfl (hb hby at_31) rfl (kt))) ?_
  refine own_ldcI X2 hx hZ hown (hw _ (List.mem_of_getElem? (i := 11) rfl)) (hb hby at_32) ?_
  refine own_run (g' := (mkF m 40 #[.val (.int p0), .val (.int p1), .val (.int v4), .val (.ref b1), .val (.int v18), .val (.int ((p1 &&& (2147483647 : Int32)) % v18))] [])) (fun _ kt => XS.iand X2.here hx rfl (hb hby at_34) rfl (XS.iload X2.here hx rfl (hb hby at_35) rfl (own_irem X2.here hx rfl (hb hby at_37) rfl (by rw [hv18]; exact fun q => (Int32.lt_irrefl (q ▸ (own_pos v4).2))) (XS.istore X2.here hx rfl (hb hby at_38) rfl (l' := #[.val (.int p0), .val (.int p1), .val (.int v4), .val (.ref b1), .val (.int v18), .val (.int ((p1 &&& (2147483647 : Int32)) % v18))]) rfl (kt))))) ?_
  obtain ⟨v38, hv38⟩ : ∃ z : Int32, z = ((p1 &&& (2147483647 : Int32)) % v18) := ⟨_, rfl⟩
  rw [← hv38]
  refine own_run (g' := (mkF m 42 #[.val (.int p0), .val (.int p1), .val (.int v4), .val (.ref b1), .val (.int v18), .val (.int v38)] [(.int (0 : Int32)), (.ref b1)])) (fun _ kt => XS.aloadN X2.here hx rfl (hb hby at_40) rfl rfl (XS.iconst X2.here hx rfl (hb hby at_41) (kt))) ?_
  refine own_ldU X2 hx hZ e2 A1 (j := (0 : Int32)) (own_pos _) (hb hby at_42) ?_
  refine own_run (g' := (mkF m 51 #[.val (.int p0), .val (.int p1), .val (.int v4), .val (.ref b1), .val (.int v18), .val (.int v38)] [(.int (v18 - (1 : Int32))), (.ref b1)])) (fun _ kt => XS.ifnonnullNo X2.here hx rfl (hb hby at_43) rfl (XS.aloadN X2.here hx rfl (hb hby at_46) rfl rfl (XS.iload X2.here hx rfl (hb hby at_47) rfl (XS.iconst X2.here hx rfl (hb hby at_49) (XS.isub X2.here hx rfl (hb hby at_50) rfl (kt)))))) ?_
  refine own_ldU X2 hx hZ e2 A1 (j := (v18 - (1 : Int32))) (by rw [hv18]; exact own_last _) (hb hby at_51) ?_
  refine own_run (g' := (mkF m 58 #[.val (.int p0), .val (.int p1), .val (.int v4), .val (.ref b1), .val (.int v18), .val (.int v38)] [(.int v38), (.ref b1)])) (fun _ kt => XS.ifnonnullNo X2.here hx rfl (hb hby at_52) rfl (XS.aloadN X2.here hx rfl (hb hby at_55) rfl rfl (XS.iload X2.here hx rfl (hb hby at_56) rfl (kt)))) ?_
  refine own_ldU X2 hx hZ e2 A1 (j := v38) (by rw [hv38, hv18]; exact own_mid _ _) (hb hby at_58) ?_
  refine own_run (g' := (mkF m 67 #[.val (.int p0), .val (.int p1), .val (.int v4), .val (.ref b1), .val (.int v18), .val (.int v38)] [(.int (1 : Int32))])) (fun _ kt => XS.ifnonnullNo X2.here hx rfl (hb hby at_59) rfl (XS.iconst X2.here hx rfl (hb hby at_62) (XS.goto X2.here hx rfl (pc0 := 63) (pc' := 67) rfl (hb hby at_63) (by decide) (by decide) (kt)))) ?_
  exact own_retN (t := .boolean) X2 hx Bd.notSynchronized Bd.returns (by simp) (hb hby at_67) (by decide) (by decide) ⟨rfl, N2⟩
set_option maxRecDepth 65536 in
set_option maxHeartbeats 40000000 in
theorem comes_1 {Post : Tables → Env → Array Value → State → Outcome → State → Prop} (hpost : ∀ tb e args s v u, (limb_1_1.after args s (.returned v) u = true ∧ limb_1_2.after args s (.returned v) u = true ∧ True) → FrameEnd s (.returned v) u (Jvm.fieldLocs frame_1_writes args s ++ Jvm.arrayLocs frame_1_arrays args s ++ Jvm.staticLocs frame_1_statics s) 16 157312 → Post tb e args s (.returned v) u) :
    ArmFor flags0 classFile x code maxLocals ret World_1 tables_1 room_1 Calls_1 rest_1 Pre_1 Post := by
  intro l hfl _ _ p e ha hc hk s m args below hf hA hF happ hP
  obtain ⟨hcalls, hrest, hpre⟩ := hP
  obtain ⟨-, -, -, hnamed, -, -, -, hat⟩ := (Spec.applies_iff hf).mp happ
  obtain ⟨hg, hn⟩ := and_e (Cond.before_iff.mp (show (Jvm.Cond.and given_1 narrow_1).before args s = true from hpre))
  obtain ⟨hcnt, g0⟩ := and_e hg
  obtain ⟨k0, g1⟩ := and_e g0
  obtain ⟨w0, w1, rfl⟩ : ∃ w0 w1 : Value, args = #[w0, w1] := by
    have hs : args.size = 2 := by simpa [Cond.value, given_1] using hcnt
    obtain ⟨L⟩ := args
    match L, hs with
    | [w0, w1], _ => exact ⟨w0, w1, rfl⟩
  have hw := fun d (hd : d ∈ tables_1) => atoms_spec (ws := Jvm.Cond.code x code maxLocals ret :: tables_1) hat d (List.mem_cons_of_mem _ hd)
  obtain ⟨i0, ei0⟩ := is_v k0
  obtain rfl : w0 = (.int i0) := Option.some.inj ei0
  obtain ⟨i1, ei1⟩ := is_v g1
  obtain rfl : w1 = (.int i1) := Option.some.inj ei1
  obtain ⟨n, o, h1, h2, h3, _, L, rfl, ⟨rfl, N⟩, hq⟩ := rm0 l s _ hw tables_1 i0 i1 s.heap s.heap.size (Nat.le_refl _) p e ha hc hk s m _ below hf ((Spec.applies_iff_loose hf).mp happ).1 ⟨rfl, State.Warmed39.refl s, rfl⟩ trivial
  refine ⟨n, _, h1, h2, h3, hpost _ _ _ _ _ _ ⟨Cond.after_iff.mpr rfl, Cond.after_iff.mpr (eq_i res_at (Term.int_eval (1)) rfl), trivial⟩ ⟨hq.1, hq.2.1, (hq.2.2.sift fun y hy => Or.inr (N y hy)).mono (by decide) (by decide)⟩⟩
theorem main_1_1 : Claimed_1_1 := comes_1 fun _ _ _ _ _ _ h hF => ⟨h.1, hF⟩
theorem main_1_2 : Claimed_1_2 := comes_1 fun _ _ _ _ _ _ h hF => ⟨h.2.1, hF⟩
end Jvm.Pilot.@@N@@
namespace Jvm.Pilot.@@N@@
open Jvm Jvm.ClassFile Sem Op Lib Jvm.Free Jvm.Stand Jvm.Pilot.@@N@@.Jvm.D
/-! MADE BY PROGRAM (witnessworld.py) out of the Statement's table words and the real class files: 11 classes; the members and pool entries that the words name. The judged class is class 1, her method 2. -/
namespace start1
open Jvm.ClassFile
def u (s : String) : CpInfo := .utf8 (stringToUtf16 s)
/-- a pool by its gaps: so many unusable entries, then the entry; so many at the end -/
def gap : Nat → List CpInfo → List CpInfo
  | 0, r => r
  | n + 1, r => .unusable :: gap n r
def poolList (es : List (Nat × CpInfo)) (last : Nat) : List CpInfo := es.foldr (fun e r => gap e.1 (e.2 :: r)) (gap last [])
def pool (es : List (Nat × CpInfo)) (last : Nat) : Array CpInfo := ⟨poolList es last⟩
def fileOf (pool : Array CpInfo) (this : Nat) (attrs : Array Attribute := #[]) (ms : Array MethodInfo := #[]) (fl : Nat := 33) (sup : Nat := 0) (ifs : Array Nat := #[]) (fds : Array FieldInfo := #[]) : ClassFile where
  minorVersion := 0
  majorVersion := 65
  constantPool := pool
  accessFlags := fl
  thisClass := this
  superClass := sup
  interfaces := ifs
  fields := fds
  methods := ms
  attributes := attrs
def plain (name : String) (sup : Option ClassId) : Class where
  name := name
  kind := .ordinary
  loader := none
  accessFlags := 33
  super := sup
  interfaces := #[]
  cf := none
  fields := #[]
  methods := #[]
  instanceTypes := #[]
  staticTypes := #[]
  resolved := #[]
  callSites := []
  init := .initialized
  statics := none
  mirror := none

def pool0 : Array CpInfo := pool [(5, u "<init>"), (0, u "()V"), (1, .class_ 10), (1, u "java/lang/Object")] 113

def k0m0 : Method := { name := "<init>", desc := "()V", sig := { parameters := [], returnType := none }, accessFlags := 1, code := none }
/-- java/lang/Object -/
def k0 : Class := { plain "java/lang/Object" none with
  accessFlags := 33
  interfaces := #[]
  cf := some (fileOf pool0 8 #[] #[{ accessFlags := 1, nameIndex := 5, descriptorIndex := 6, attributes := #[] }] 33 0 #[] #[])
  fields := #[]
  methods := #[k0m0]
  instanceTypes := #[]
  staticTypes := #[]
  resolved := Array.replicate 124 none
  statics := none }

def pool1 : Array CpInfo := pool [(2, .class_ 4), (1, u "java/lang/Object"), (0, u "<init>"), (0, u "()V"), (0, .integer 32768), (0, .integer 65536), (0, .integer 131072), (0, .integer 65535), (0, .methodref 12 13), (0, .class_ 14), (0, .nameAndType 15 16), (0, u "com/example/ambient_for_callees/ambientforcallees/Index"), (0, u "withRoomFor"), (0, u "(I)[Lcom/example/ambient_for_callees/ambientforcallees/Bindings;"), (0, .methodref 18 19), (0, .class_ 20), (0, .nameAndType 21 22), (0, u "com/example/ambient_for_callees/ambientforcallees/IndexWithRoomForPinLaw"), (0, u "expectedPlaces"), (0, u "(I)I"), (0, .integer 2147483647), (3, u "law"), (0, u "(II)Z")] 4

def k1m0 : Method := { name := "<init>", desc := "()V", sig := { parameters := [], returnType := none }, accessFlags := 1, code := none }
def k1c1 : Code := { maxStack := 2, maxLocals := 2, code := method_2_code, exceptionTable := #[], attributes := #[] }
def k1m1 : Method := { name := "expectedPlaces", desc := "(I)I", sig := { parameters := [.int], returnType := some .int }, accessFlags := 10, code := some k1c1 }
def k1c2 : Code := { maxStack := 3, maxLocals := 6, code := code, exceptionTable := #[], attributes := #[] }
def k1m2 : Method := { name := "law", desc := "(II)Z", sig := { parameters := [.int, .int], returnType := some .boolean }, accessFlags := 9, code := some k1c2 }
/-- com/example/ambient_for_callees/ambientforcallees/IndexWithRoomForPinLaw -/
def k1 : Class := { plain "com/example/ambient_for_callees/ambientforcallees/IndexWithRoomForPinLaw" (some 0) with
  accessFlags := 49
  interfaces := #[]
  cf := some (fileOf pool1 18 #[] #[{ accessFlags := 1, nameIndex := 5, descriptorIndex := 6, attributes := #[] }, { accessFlags := 10, nameIndex := 21, descriptorIndex := 22, attributes := #[] }, { accessFlags := 9, nameIndex := 27, descriptorIndex := 28, attributes := #[] }] 49 2 #[] #[])
  fields := #[]
  methods := #[k1m0, k1m1, k1m2]
  instanceTypes := #[]
  staticTypes := #[]
  resolved := Array.replicate 33 none
  statics := none }

def pool2 : Array CpInfo := pool [(2, .class_ 4), (1, u "java/lang/Object"), (0, u "<init>"), (0, u "()V"), (0, .class_ 8), (0, u "com/example/ambient_for_callees/ambientforcallees/Index"), (0, .class_ 10), (0, u "com/example/ambient_for_callees/ambientforcallees/Bindings"), (13, u "NO_KEYS"), (0, u "[Lcom/example/ambient_for_callees/ambientforcallees/Bindings;"), (0, u "FIRST_PLACES"), (0, u "I"), (4, u "withRoomFor"), (0, u "(I)[Lcom/example/ambient_for_callees/ambientforcallees/Bindings;")] 15

def k2m0 : Method := { name := "<init>", desc := "()V", sig := { parameters := [], returnType := none }, accessFlags := 2, code := none }
def k2c1 : Code := { maxStack := 3, maxLocals := 2, code := prog_7_method_2_code, exceptionTable := #[], attributes := #[] }
def k2m1 : Method := { name := "withRoomFor", desc := "(I)[Lcom/example/ambient_for_callees/ambientforcallees/Bindings;", sig := { parameters := [.int], returnType := some (.array (.object "com/example/ambient_for_callees/ambientforcallees/Bindings")) }, accessFlags := 8, code := some k2c1 }
/-- com/example/ambient_for_callees/ambientforcallees/Index -/
def k2 : Class := { plain "com/example/ambient_for_callees/ambientforcallees/Index" (some 0) with
  accessFlags := 32
  interfaces := #[]
  cf := some (fileOf pool2 7 #[] #[{ accessFlags := 2, nameIndex := 5, descriptorIndex := 6, attributes := #[] }, { accessFlags := 8, nameIndex := 32, descriptorIndex := 33, attributes := #[] }] 32 2 #[] #[{ accessFlags := 24, nameIndex := 26, descriptorIndex := 27, attributes := #[] }, { accessFlags := 24, nameIndex := 24, descriptorIndex := 25, attributes := #[] }])
  fields := #[{ name := "FIRST_PLACES", type := .int, accessFlags := 24, slot := 0, constantValue := 0 }, { name := "NO_KEYS", type := (.array (.object "com/example/ambient_for_callees/ambientforcallees/Bindings")), accessFlags := 24, slot := 1, constantValue := 0 }]
  methods := #[k2m0, k2m1]
  instanceTypes := #[]
  staticTypes := #[.int, (.array (.object "com/example/ambient_for_callees/ambientforcallees/Bindings"))]
  resolved := Array.replicate 49 none
  statics := none }

def pool3 : Array CpInfo := pool [(2, .class_ 4), (1, u "java/lang/Object"), (0, u "<init>"), (0, u "()V"), (1, .class_ 10), (1, u "com/example/ambient_for_callees/ambientforcallees/Bindings"), (0, u "key"), (0, u "Ljava/lang/Object;"), (2, u "hash"), (0, u "I"), (2, u "value"), (2, u "older"), (0, u "Lcom/example/ambient_for_callees/ambientforcallees/Bindings;"), (2, u "outer"), (5, u "[Lcom/example/ambient_for_callees/ambientforcallees/Bindings;"), (2, u "index"), (2, u "keyBits"), (9, u "EMPTY"), (2, u "NEXT_HASH"), (0, u "Ljava/util/concurrent/atomic/AtomicInteger;"), (8, .class_ 62), (0, u "com/example/ambient_for_callees/ambientforcallees/Bindings$AttachmentKey"), (25, u "FRAME"), (5, u "INDEX"), (0, u "Ljava/lang/invoke/VarHandle;"), (66, u "HASH_STEP"), (1, u "COPY_RECURSIONS"), (1, u "ATTACHED_BIT")] 36

def k3m0 : Method := { name := "<init>", desc := "()V", sig := { parameters := [], returnType := none }, accessFlags := 2, code := none }
/-- com/example/ambient_for_callees/ambientforcallees/Bindings -/
def k3 : Class := { plain "com/example/ambient_for_callees/ambientforcallees/Bindings" (some 0) with
  accessFlags := 32
  interfaces := #[]
  cf := some (fileOf pool3 8 #[.nestMembers #[61]] #[{ accessFlags := 2, nameIndex := 5, descriptorIndex := 6, attributes := #[] }] 32 2 #[] #[{ accessFlags := 26, nameIndex := 162, descriptorIndex := 16, attributes := #[] }, { accessFlags := 26, nameIndex := 51, descriptorIndex := 52, attributes := #[] }, { accessFlags := 26, nameIndex := 94, descriptorIndex := 95, attributes := #[] }, { accessFlags := 26, nameIndex := 88, descriptorIndex := 12, attributes := #[] }, { accessFlags := 26, nameIndex := 164, descriptorIndex := 16, attributes := #[] }, { accessFlags := 26, nameIndex := 166, descriptorIndex := 16, attributes := #[] }, { accessFlags := 26, nameIndex := 48, descriptorIndex := 23, attributes := #[] }, { accessFlags := 16, nameIndex := 26, descriptorIndex := 23, attributes := #[] }, { accessFlags := 18, nameIndex := 11, descriptorIndex := 12, attributes := #[] }, { accessFlags := 18, nameIndex := 15, descriptorIndex := 16, attributes := #[] }, { accessFlags := 18, nameIndex := 19, descriptorIndex := 12, attributes := #[] }, { accessFlags := 18, nameIndex := 22, descriptorIndex := 23, attributes := #[] }, { accessFlags := 2, nameIndex := 35, descriptorIndex := 32, attributes := #[] }, { accessFlags := 18, nameIndex := 38, descriptorIndex := 16, attributes := #[] }])
  fields := #[{ name := "HASH_STEP", type := .int, accessFlags := 26, slot := 0, constantValue := 0 }, { name := "NEXT_HASH", type := (.object "java/util/concurrent/atomic/AtomicInteger"), accessFlags := 26, slot := 1, constantValue := 0 }, { name := "INDEX", type := (.object "java/lang/invoke/VarHandle"), accessFlags := 26, slot := 2, constantValue := 0 }, { name := "FRAME", type := (.object "java/lang/Object"), accessFlags := 26, slot := 3, constantValue := 0 }, { name := "COPY_RECURSIONS", type := .int, accessFlags := 26, slot := 4, constantValue := 0 }, { name := "ATTACHED_BIT", type := .int, accessFlags := 26, slot := 5, constantValue := 0 }, { name := "EMPTY", type := (.object "com/example/ambient_for_callees/ambientforcallees/Bindings"), accessFlags := 26, slot := 6, constantValue := 0 }, { name := "outer", type := (.object "com/example/ambient_for_callees/ambientforcallees/Bindings"), accessFlags := 16, slot := 0, constantValue := 0 }, { name := "key", type := (.object "java/lang/Object"), accessFlags := 18, slot := 1, constantValue := 0 }, { name := "hash", type := .int, accessFlags := 18, slot := 2, constantValue := 0 }, { name := "value", type := (.object "java/lang/Object"), accessFlags := 18, slot := 3, constantValue := 0 }, { name := "older", type := (.object "com/example/ambient_for_callees/ambientforcallees/Bindings"), accessFlags := 18, slot := 4, constantValue := 0 }, { name := "index", type := (.array (.object "com/example/ambient_for_callees/ambientforcallees/Bindings")), accessFlags := 2, slot := 5, constantValue := 0 }, { name := "keyBits", type := .int, accessFlags := 18, slot := 6, constantValue := 0 }]
  methods := #[k3m0]
  instanceTypes := #[(.object "com/example/ambient_for_callees/ambientforcallees/Bindings"), (.object "java/lang/Object"), .int, (.object "java/lang/Object"), (.object "com/example/ambient_for_callees/ambientforcallees/Bindings"), (.array (.object "com/example/ambient_for_callees/ambientforcallees/Bindings")), .int]
  staticTypes := #[.int, (.object "java/util/concurrent/atomic/AtomicInteger"), (.object "java/lang/invoke/VarHandle"), (.object "java/lang/Object"), .int, .int, (.object "com/example/ambient_for_callees/ambientforcallees/Bindings")]
  resolved := Array.replicate 203 none
  statics := none }

def pool4 : Array CpInfo := pool [(1, u "java/lang/Cloneable"), (0, .class_ 1), (0, u "java/lang/Object"), (0, .class_ 3)] 3

/-- java/lang/Cloneable -/
def k4 : Class := { plain "java/lang/Cloneable" (some 0) with
  accessFlags := 1537
  interfaces := #[]
  cf := some (fileOf pool4 2 #[] #[] 1537 4 #[] #[])
  fields := #[]
  methods := #[]
  instanceTypes := #[]
  staticTypes := #[]
  resolved := Array.replicate 8 none
  statics := none }

def pool5 : Array CpInfo := pool [(1, u "java/io/Serializable"), (0, .class_ 1), (0, u "java/lang/Object"), (0, .class_ 3)] 3

/-- java/io/Serializable -/
def k5 : Class := { plain "java/io/Serializable" (some 0) with
  accessFlags := 1537
  interfaces := #[]
  cf := some (fileOf pool5 2 #[] #[] 1537 4 #[] #[])
  fields := #[]
  methods := #[]
  instanceTypes := #[]
  staticTypes := #[]
  resolved := Array.replicate 8 none
  statics := none }

/-- the primitive byte -/
def k6 : Class := { plain "byte" none with kind := .primitive 'B', accessFlags := 0x411 }
/-- [B -/
def k7 : Class := { plain "[B" (some 0) with kind := .array 6 .byte, interfaces := #[4, 5], accessFlags := 1041 }

/-- the primitive int -/
def k8 : Class := { plain "int" none with kind := .primitive 'I', accessFlags := 0x411 }
/-- [I -/
def k9 : Class := { plain "[I" (some 0) with kind := .array 8 .int, interfaces := #[4, 5], accessFlags := 1041 }

/-- [Lcom/example/ambient_for_callees/ambientforcallees/Bindings; -/
def k10 : Class := { plain "[Lcom/example/ambient_for_callees/ambientforcallees/Bindings;" (some 0) with kind := .array 3 (.object "com/example/ambient_for_callees/ambientforcallees/Bindings"), interfaces := #[4, 5], accessFlags := 1041 }

def heap : Heap := #[]
def classes : Array Class := #[k0, k1, k2, k3, k4, k5, k6, k7, k8, k9, k10]
def interned : List (Array UInt16 × Addr) := []
def slotsUsed : Nat := 0
def theMethod : MethodId := ⟨1, 2⟩
def args0 : Array Value := #[.int 7, .int 1]
def aboutOver (below : List Frame) : State where
  vm := { classes := classes, interned := interned.toArray }
  heap := heap
  slotsUsed := slotsUsed
  threads := #[{ frames := .invoking theMethod args0 :: below }]
def below0 : List Frame := [.native { method := ⟨0, 0⟩, args := #[] }]
def about1 : State := aboutOver below0
def p0 : Program := .bare "" "" ""
def e0 : Env := launch0.env 0 0 0
theorem w_frames : about1.frames = Frame.invoking theMethod args0 :: below0 := rfl
set_option maxRecDepth 65536 in
theorem w_args : argsFit about1.vm theMethod args0 = true := by decide +kernel
set_option maxRecDepth 65536 in
theorem w_heap : heapFits about1 = true := by decide +kernel
set_option maxRecDepth 65536 in
theorem w_runnable : about1.curStatus? = some .runnable := by decide +kernel
set_option maxRecDepth 65536 in
theorem w_alone : about1.alone = true := by decide +kernel
set_option maxRecDepth 65536 in
theorem w_named : about1.methodNamed? x = some theMethod := by decide +kernel
set_option maxRecDepth 65536 in
theorem w_hears : about1.hears theMethod below0 = true := by decide +kernel
set_option maxRecDepth 65536 in
theorem w_ripe : about1.ripe theMethod args0 below0 = true := by decide +kernel
theorem w_running : about1.status = .running := rfl
set_option maxRecDepth 65536 in
theorem w_room : about1.hasRoom e0.platform room_1 = true :=
  launch0.hasRoom_least _ room_1 (by decide +kernel) (by decide +kernel) (by decide +kernel) (by decide +kernel) (by decide +kernel) (by decide +kernel)
theorem allAtoms_all (ts : List Jvm.Cond) (a : Array Jvm.Value) (st : Jvm.State) : (allAtoms ts).before a st = ts.all (fun c => c.before a st) := by
  induction ts with
  | nil => rfl
  | cons c t ih =>
    show (Jvm.Cond.and c (allAtoms t)).before a st = _
    rw [Jvm.Cond.before_and, ih, List.all_cons]
def words1 : List Jvm.Cond := Jvm.Cond.code x code maxLocals ret :: tables_1
/-- a 'code' word, met by the world's own term for the bytes: nothing is compared byte by byte -/
theorem code_word {y : MethodName} {bytes : ByteArray} {mx : Nat} {rt : Option FieldType} {a : Array Value} {s : State} {m : MethodId} {meth : Method} {c : Code} (h1 : s.methodNamed? y = some m) (h2 : s.vm.method? m = some meth) (h3 : meth.code = some c) (h4 : c.code = bytes)
    (h5 : (c.maxLocals == mx && c.exceptionTable.isEmpty && decide (c.maxStack ≤ mostOperands) && decide (meth.sig.returnType = rt) && !meth.locks && decide (parseMethodDescriptor y.desc = some meth.sig)) = true) : (Jvm.Cond.code y bytes mx rt).before a s = true := by
  simp only [Bool.and_eq_true, beq_iff_eq, Bool.not_eq_true', decide_eq_true_eq] at h5
  obtain ⟨⟨⟨⟨⟨g1, g2⟩, g3⟩, g4⟩, g5⟩, g6⟩ := h5
  simp [Cond.before, Cond.holds, Cond.value, h1, h2, h3, h4, g1, g2, g3, g4, g5, g6]
def isCode : Jvm.Cond → Bool
  | .code _ _ _ _ => true
  | _ => false
theorem all_split {L : List Jvm.Cond} {P : Jvm.Cond → Bool} (h1 : L.all (fun c => isCode c || P c) = true) (h2 : ∀ c ∈ L.filter isCode, P c = true) : L.all P = true := by
  refine List.all_eq_true.mpr fun c hc => ?_
  have h := List.all_eq_true.mp h1 c hc
  rcases Bool.eq_false_or_eq_true (isCode c) with hi | hi
  · exact h2 c (List.mem_filter.mpr ⟨hc, hi⟩)
  · simpa [hi] using h
set_option maxRecDepth 65536 in
theorem w_c0 : (Jvm.Cond.code x code maxLocals ret).before args0 about1 = true := code_word (m := ⟨1, 2⟩) (meth := k1m2) (c := k1c2) (by decide +kernel) rfl rfl rfl (by decide +kernel)
set_option maxRecDepth 65536 in
theorem w_c1 : (Jvm.Cond.code ({ cls := "com/example/ambient_for_callees/ambientforcallees/Index", name := "withRoomFor", desc := "(I)[Lcom/example/ambient_for_callees/ambientforcallees/Bindings;" } : Jvm.MethodName) prog_7_method_2_code (2 : Nat) (Option.some (Jvm.ClassFile.FieldType.array (Jvm.ClassFile.FieldType.object "com/example/ambient_for_callees/ambientforcallees/Bindings")))).before args0 about1 = true := code_word (m := ⟨2, 1⟩) (meth := k2m1) (c := k2c1) (by decide +kernel) rfl rfl rfl (by decide +kernel)
set_option maxRecDepth 65536 in
theorem w_c2 : (Jvm.Cond.code ({ cls := "com/example/ambient_for_callees/ambientforcallees/IndexWithRoomForPinLaw", name := "expectedPlaces", desc := "(I)I" } : Jvm.MethodName) method_2_code (2 : Nat) (Option.some Jvm.ClassFile.FieldType.int)).before args0 about1 = true := code_word (m := ⟨1, 1⟩) (meth := k1m1) (c := k1c1) (by decide +kernel) rfl rfl rfl (by decide +kernel)
def codes1 : List Jvm.Cond := [Jvm.Cond.code x code maxLocals ret, Jvm.Cond.code ({ cls := "com/example/ambient_for_callees/ambientforcallees/Index", name := "withRoomFor", desc := "(I)[Lcom/example/ambient_for_callees/ambientforcallees/Bindings;" } : Jvm.MethodName) prog_7_method_2_code (2 : Nat) (Option.some (Jvm.ClassFile.FieldType.array (Jvm.ClassFile.FieldType.object "com/example/ambient_for_callees/ambientforcallees/Bindings"))), Jvm.Cond.code ({ cls := "com/example/ambient_for_callees/ambientforcallees/IndexWithRoomForPinLaw", name := "expectedPlaces", desc := "(I)I" } : Jvm.MethodName) method_2_code (2 : Nat) (Option.some Jvm.ClassFile.FieldType.int)]
set_option maxRecDepth 65536 in
theorem codes_eq : words1.filter isCode = codes1 := rfl
theorem w_codes : ∀ c ∈ words1.filter isCode, c.before args0 about1 = true := by
  rw [codes_eq]
  intro c hc
  simp only [codes1, List.mem_cons, List.not_mem_nil, or_false] at hc
  rcases hc with rfl | rfl | rfl
  · exact w_c0
  · exact w_c1
  · exact w_c2
set_option maxRecDepth 65536 in
theorem w_t1 : words1.all (fun c => isCode c || c.before args0 about1) = true := by decide +kernel
theorem w_tables : (allAtoms (Jvm.Cond.code x code maxLocals ret :: tables_1)).before args0 about1 = true := by
  rw [allAtoms_all]
  show words1.all (fun c => c.before args0 about1) = true
  refine all_split ?_ w_codes
  rw [w_t1]
set_option maxRecDepth 65536 in
theorem w_case : (Jvm.Cond.and given_1 narrow_1).before args0 about1 = true := by decide +kernel
theorem w_applies : (headSpec (Jvm.Cond.code x code maxLocals ret :: tables_1) room_1).applies x e0.platform about1 = true :=
  (Spec.applies_iff w_frames).mpr ⟨w_running, w_runnable, w_alone, w_named, w_hears, w_ripe, w_room, w_tables⟩
theorem atStart : AtStart classFile x code maxLocals ret World_1 tables_1 room_1 Calls_1 rest_1 Pre_1 launch0 p0 e0 about1 theMethod args0 below0 :=
  ⟨lists_1, trivial, launch0.admits_env _ _ _, launch0.least_env, fairChoices_fair.cas, fairChoices_fair.clock, w_frames, w_args, w_heap, w_applies, trivial, trivial, w_case⟩
end start1
theorem witness_1 : WitnessClaimed_1 := ⟨start1.p0, start1.e0, start1.about1, start1.theMethod, start1.args0, start1.below0, start1.atStart⟩
end Jvm.Pilot.@@N@@
